/- The orders of kinds as lists, and what the reference's KindPlace comes to: the place in an order; without Go and memory. -/
import Derived.Test.YtefejcggkkmhaaaDoorHKind
import Derived.Test.YtefejcggkkmhaaaDoorPFnKindOrderx
namespace Go.Proofs.YtefejcggkkmhaaaDoor.HKind
open Go.RowKit Go.Proofs.YtefejcggkkmhaaaDoorW.PrintWords Go.Proofs.YtefejcggkkmhaaaDoor.Plain Go.Proofs.YtefejcggkkmhaaaDoor.PFnKindOrder

def installL : List ByteArray := [⟨#[80, 114, 105, 111, 114, 105, 116, 121, 67, 108, 97, 115, 115]⟩, ⟨#[78, 97, 109, 101, 115, 112, 97, 99, 101]⟩, ⟨#[78, 101, 116, 119, 111, 114, 107, 80, 111, 108, 105, 99, 121]⟩, ⟨#[82, 101, 115, 111, 117, 114, 99, 101, 81, 117, 111, 116, 97]⟩, ⟨#[76, 105, 109, 105, 116, 82, 97, 110, 103, 101]⟩, ⟨#[80, 111, 100, 83, 101, 99, 117, 114, 105, 116, 121, 80, 111, 108, 105, 99, 121]⟩, ⟨#[80, 111, 100, 68, 105, 115, 114, 117, 112, 116, 105, 111, 110, 66, 117, 100, 103, 101, 116]⟩, ⟨#[83, 101, 114, 118, 105, 99, 101, 65, 99, 99, 111, 117, 110, 116]⟩, ⟨#[83, 101, 99, 114, 101, 116]⟩, ⟨#[83, 101, 99, 114, 101, 116, 76, 105, 115, 116]⟩, ⟨#[67, 111, 110, 102, 105, 103, 77, 97, 112]⟩, ⟨#[83, 116, 111, 114, 97, 103, 101, 67, 108, 97, 115, 115]⟩, ⟨#[80, 101, 114, 115, 105, 115, 116, 101, 110, 116, 86, 111, 108, 117, 109, 101]⟩, ⟨#[80, 101, 114, 115, 105, 115, 116, 101, 110, 116, 86, 111, 108, 117, 109, 101, 67, 108, 97, 105, 109]⟩, ⟨#[67, 117, 115, 116, 111, 109, 82, 101, 115, 111, 117, 114, 99, 101, 68, 101, 102, 105, 110, 105, 116, 105, 111, 110]⟩, ⟨#[67, 108, 117, 115, 116, 101, 114, 82, 111, 108, 101]⟩, ⟨#[67, 108, 117, 115, 116, 101, 114, 82, 111, 108, 101, 76, 105, 115, 116]⟩, ⟨#[67, 108, 117, 115, 116, 101, 114, 82, 111, 108, 101, 66, 105, 110, 100, 105, 110, 103]⟩, ⟨#[67, 108, 117, 115, 116, 101, 114, 82, 111, 108, 101, 66, 105, 110, 100, 105, 110, 103, 76, 105, 115, 116]⟩, ⟨#[82, 111, 108, 101]⟩, ⟨#[82, 111, 108, 101, 76, 105, 115, 116]⟩, ⟨#[82, 111, 108, 101, 66, 105, 110, 100, 105, 110, 103]⟩, ⟨#[82, 111, 108, 101, 66, 105, 110, 100, 105, 110, 103, 76, 105, 115, 116]⟩, ⟨#[83, 101, 114, 118, 105, 99, 101]⟩, ⟨#[68, 97, 101, 109, 111, 110, 83, 101, 116]⟩, ⟨#[80, 111, 100]⟩, ⟨#[82, 101, 112, 108, 105, 99, 97, 116, 105, 111, 110, 67, 111, 110, 116, 114, 111, 108, 108, 101, 114]⟩, ⟨#[82, 101, 112, 108, 105, 99, 97, 83, 101, 116]⟩, ⟨#[68, 101, 112, 108, 111, 121, 109, 101, 110, 116]⟩, ⟨#[72, 111, 114, 105, 122, 111, 110, 116, 97, 108, 80, 111, 100, 65, 117, 116, 111, 115, 99, 97, 108, 101, 114]⟩, ⟨#[83, 116, 97, 116, 101, 102, 117, 108, 83, 101, 116]⟩, ⟨#[74, 111, 98]⟩, ⟨#[67, 114, 111, 110, 74, 111, 98]⟩, ⟨#[73, 110, 103, 114, 101, 115, 115, 67, 108, 97, 115, 115]⟩, ⟨#[73, 110, 103, 114, 101, 115, 115]⟩, ⟨#[65, 80, 73, 83, 101, 114, 118, 105, 99, 101]⟩]
def uninstallL : List ByteArray := [⟨#[65, 80, 73, 83, 101, 114, 118, 105, 99, 101]⟩, ⟨#[73, 110, 103, 114, 101, 115, 115]⟩, ⟨#[73, 110, 103, 114, 101, 115, 115, 67, 108, 97, 115, 115]⟩, ⟨#[83, 101, 114, 118, 105, 99, 101]⟩, ⟨#[67, 114, 111, 110, 74, 111, 98]⟩, ⟨#[74, 111, 98]⟩, ⟨#[83, 116, 97, 116, 101, 102, 117, 108, 83, 101, 116]⟩, ⟨#[72, 111, 114, 105, 122, 111, 110, 116, 97, 108, 80, 111, 100, 65, 117, 116, 111, 115, 99, 97, 108, 101, 114]⟩, ⟨#[68, 101, 112, 108, 111, 121, 109, 101, 110, 116]⟩, ⟨#[82, 101, 112, 108, 105, 99, 97, 83, 101, 116]⟩, ⟨#[82, 101, 112, 108, 105, 99, 97, 116, 105, 111, 110, 67, 111, 110, 116, 114, 111, 108, 108, 101, 114]⟩, ⟨#[80, 111, 100]⟩, ⟨#[68, 97, 101, 109, 111, 110, 83, 101, 116]⟩, ⟨#[82, 111, 108, 101, 66, 105, 110, 100, 105, 110, 103, 76, 105, 115, 116]⟩, ⟨#[82, 111, 108, 101, 66, 105, 110, 100, 105, 110, 103]⟩, ⟨#[82, 111, 108, 101, 76, 105, 115, 116]⟩, ⟨#[82, 111, 108, 101]⟩, ⟨#[67, 108, 117, 115, 116, 101, 114, 82, 111, 108, 101, 66, 105, 110, 100, 105, 110, 103, 76, 105, 115, 116]⟩, ⟨#[67, 108, 117, 115, 116, 101, 114, 82, 111, 108, 101, 66, 105, 110, 100, 105, 110, 103]⟩, ⟨#[67, 108, 117, 115, 116, 101, 114, 82, 111, 108, 101, 76, 105, 115, 116]⟩, ⟨#[67, 108, 117, 115, 116, 101, 114, 82, 111, 108, 101]⟩, ⟨#[67, 117, 115, 116, 111, 109, 82, 101, 115, 111, 117, 114, 99, 101, 68, 101, 102, 105, 110, 105, 116, 105, 111, 110]⟩, ⟨#[80, 101, 114, 115, 105, 115, 116, 101, 110, 116, 86, 111, 108, 117, 109, 101, 67, 108, 97, 105, 109]⟩, ⟨#[80, 101, 114, 115, 105, 115, 116, 101, 110, 116, 86, 111, 108, 117, 109, 101]⟩, ⟨#[83, 116, 111, 114, 97, 103, 101, 67, 108, 97, 115, 115]⟩, ⟨#[67, 111, 110, 102, 105, 103, 77, 97, 112]⟩, ⟨#[83, 101, 99, 114, 101, 116, 76, 105, 115, 116]⟩, ⟨#[83, 101, 99, 114, 101, 116]⟩, ⟨#[83, 101, 114, 118, 105, 99, 101, 65, 99, 99, 111, 117, 110, 116]⟩, ⟨#[80, 111, 100, 68, 105, 115, 114, 117, 112, 116, 105, 111, 110, 66, 117, 100, 103, 101, 116]⟩, ⟨#[80, 111, 100, 83, 101, 99, 117, 114, 105, 116, 121, 80, 111, 108, 105, 99, 121]⟩, ⟨#[76, 105, 109, 105, 116, 82, 97, 110, 103, 101]⟩, ⟨#[82, 101, 115, 111, 117, 114, 99, 101, 81, 117, 111, 116, 97]⟩, ⟨#[78, 101, 116, 119, 111, 114, 107, 80, 111, 108, 105, 99, 121]⟩, ⟨#[78, 97, 109, 101, 115, 112, 97, 99, 101]⟩, ⟨#[80, 114, 105, 111, 114, 105, 116, 121, 67, 108, 97, 115, 115]⟩]
def service : ByteArray := ⟨#[83, 101, 114, 118, 105, 99, 101]⟩
def ingress : ByteArray := ⟨#[73, 110, 103, 114, 101, 115, 115, 67, 108, 97, 115, 115]⟩
def orderOf (un : Bool) : List ByteArray := if un then uninstallL else installL
theorem order_length (un : Bool) : (orderOf un).length = 36 := by cases un <;> rfl

def place (x : ByteArray) (l : List ByteArray) : Nat := (lastUpTo x l 36).getD 36
theorem lastUpTo_none {x : ByteArray} {l : List ByteArray} : ∀ {n : Nat}, (∀ i, i < n → l.getD i ByteArray.empty ≠ x) → lastUpTo x l n = none
  | 0, _ => rfl
  | n + 1, h => by rw [lastUpTo, if_neg (h n (by omega)), lastUpTo_none (fun i hi => h i (by omega))]
theorem lastUpTo_some {x : ByteArray} {l : List ByteArray} {j : Nat} (hj : l.getD j ByteArray.empty = x) : ∀ {n : Nat}, j < n → (∀ i, j < i → i < n → l.getD i ByteArray.empty ≠ x) → lastUpTo x l n = some j
  | 0, h, _ => by omega
  | n + 1, h, hn => by
    by_cases e : n = j
    · subst e; rw [lastUpTo, if_pos hj]
    · rw [lastUpTo, if_neg (hn n (by omega) (by omega)), lastUpTo_some hj (by omega) (fun i h1 h2 => hn i h1 (by omega))]
theorem lastUpTo_lt {x : ByteArray} {l : List ByteArray} {j : Nat} : ∀ {n : Nat}, lastUpTo x l n = some j → j < n ∧ l.getD j ByteArray.empty = x
  | n + 1, h => by
    rw [lastUpTo] at h
    split at h
    · cases h; exact ⟨by omega, by assumption⟩
    · have := lastUpTo_lt h; exact ⟨by omega, this.2⟩

/-- No kind stands twice. -/
def apartB (l : List ByteArray) : Bool := (List.range 36).all fun i => (List.range 36).all fun j => decide (i = j) || !decide (l.getD i ByteArray.empty = l.getD j ByteArray.empty)
theorem install_apart : apartB installL = true := by decide +kernel
theorem uninstall_apart : apartB uninstallL = true := by decide +kernel
theorem apart_of {l : List ByteArray} (h : apartB l = true) {i j : Nat} (hi : i < 36) (hj : j < 36) (hne : i ≠ j) : l.getD i ByteArray.empty ≠ l.getD j ByteArray.empty := by
  have h1 := List.all_eq_true.1 h i (by simpa using hi)
  have h2 := List.all_eq_true.1 h1 j (by simpa using hj)
  simpa [hne] using h2
theorem order_apart (un : Bool) : apartB (orderOf un) = true := by cases un <;> first | exact install_apart | exact uninstall_apart

theorem first_tells (x : ByteArray) (l : List ByteArray) (hl : l.length = 36) (ha : apartB l = true) : Ev (fun k => spec_KindPlace.j1 k x l) (place x l : Int) := by
  refine Ev.step (fun k => spec_KindPlace.j1.eq_2 ..) ?_
  have main : ∀ d j, 36 - j = d → j ≤ 36 → (∀ i, i < j → l.getD i ByteArray.empty ≠ x) → Ev (fun k => spec_KindPlace.l1 k x l l (l.length : Int) (j : Int)) (place x l : Int) := by
    intro d
    induction d with
    | zero =>
      intro j hd hj h
      refine evEq (Ev.step (fun k => spec_KindPlace.l1.eq_2 ..) (Ev.neg (by omega) (Ev.now _))) ?_
      rw [place, lastUpTo_none (fun i hi => h i (by omega)), hl]
      rfl
    | succ d ih =>
      intro j hd hj h
      have hlt : j < l.length := by omega
      refine Ev.step (fun k => spec_KindPlace.l1.eq_2 ..) (Ev.pos (by omega) (Ev.pos (by omega) (Ev.pos (by omega) ?_)))
      have hg : rdOf ByteArray.empty l (j : Int) = l.getD j ByteArray.empty := by simp [rdOf]
      rw [hg]
      by_cases e : l.getD j ByteArray.empty = x
      · refine evEq (Ev.pos (toList_inj.2 e) (Ev.now _)) ?_
        rw [place, lastUpTo_some e (n := 36) (by omega) (fun i h1 h2 h3 => apart_of ha (i := j) (j := i) (by omega) h2 (by omega) (e.trans h3.symm))]
        rfl
      · refine Ev.neg (fun h => e (toList_inj.1 h)) ?_
        rw [wrap_nat (by omega)]
        exact ih (j + 1) (by omega) (by omega) (fun i hi => by
          rcases Nat.lt_or_ge i j with h1 | h1
          · exact h i h1
          · obtain rfl : i = j := by omega
            exact e)
  exact main 36 0 (by omega) (by omega) (fun i hi => by omega)

/-- What the order of installing becomes, back to front. -/
def turn (s : ByteArray) : List ByteArray := (if s = service then [] else [s]) ++ (if s = ingress then [service] else [])
def backOf (l : List ByteArray) : List ByteArray := l.reverse.flatMap turn
theorem back_install : backOf installL = uninstallL := by decide +kernel

theorem back_tells (x : ByteArray) (l : List ByteArray) (hl : l.length ≤ 1000) (r : Int) : ∀ (j : Nat) (acc : List ByteArray), j ≤ l.length → acc.length + 2 * j ≤ 3000 → Ev (fun k => spec_KindPlace.j1 k x (acc ++ backOf (l.take j))) r → Ev (fun k => spec_KindPlace.l0 k x l acc ((j : Int) - 1)) r := by
  intro j
  induction j with
  | zero =>
    intro acc hj ha h
    refine Ev.step (fun k => spec_KindPlace.l0.eq_2 ..) (Ev.neg (by omega) ?_)
    simpa [backOf] using h
  | succ j ih =>
    intro acc hj ha h
    have hlt : j < l.length := by omega
    have hb : backOf (l.take (j + 1)) = turn l[j] ++ backOf (l.take j) := by rw [take_next hlt, backOf, List.reverse_append]; simp [backOf]
    rw [hb, ← List.append_assoc] at h
    have e1 : ((j + 1 : Nat) : Int) - 1 = (j : Int) := by omega
    have e2 : wrap64 ((j : Int) - 1) = (j : Int) - 1 := wrap_id (by omega) (by omega)
    rw [e1]
    refine Ev.step (fun k => spec_KindPlace.l0.eq_2 ..) (Ev.pos (by omega) (Ev.pos (by omega) (Ev.pos (by omega) ?_)))
    rw [rdOf_nat _ _ _ hlt, e2]
    have hsv : (l[j].toList = ([83, 101, 114, 118, 105, 99, 101] : List UInt8)) ↔ l[j] = service := by rw [← toList_inj, show service.toList = [83, 101, 114, 118, 105, 99, 101] by rw [ByteArray.toList_eq]; rfl]
    have hin : (l[j].toList = ([73, 110, 103, 114, 101, 115, 115, 67, 108, 97, 115, 115] : List UInt8)) ↔ l[j] = ingress := by rw [← toList_inj, show ingress.toList = [73, 110, 103, 114, 101, 115, 115, 67, 108, 97, 115, 115] by rw [ByteArray.toList_eq]; rfl]
    have hne : service ≠ ingress := by decide
    generalize l[j] = s at *
    by_cases h1 : s = service
    · have h2 : ¬ s = ingress := fun e => hne (h1.symm.trans e)
      have ht : turn s = [] := by simp [turn, h1, hne]
      rw [ht, List.append_nil] at h
      exact Ev.pos (hsv.2 h1) (Ev.neg (fun e => h2 (hin.1 e)) (ih acc (by omega) (by omega) h))
    · refine Ev.neg (fun e => h1 (hsv.1 e)) (Ev.pos (by omega) ?_)
      simp only [Option.bind_some]
      by_cases h2 : s = ingress
      · have ht : turn s = [s, service] := by simp only [turn, if_neg h1, if_pos h2]; rfl
        rw [ht] at h
        refine Ev.pos (hin.2 h2) (Ev.pos (by simp; omega) (ih _ (by omega) (by simp; omega) ?_))
        simpa [service] using h
      · have ht : turn s = [s] := by simp [turn, h1, h2]
        rw [ht] at h
        exact Ev.neg (fun e => h2 (hin.1 e)) (ih _ (by omega) (by simp; omega) h)

theorem place_tells (x : ByteArray) (un : Bool) : Ev (fun k => spec_KindPlace.f k x un) (place x (orderOf un) : Int) := by
  unfold spec_KindPlace.f
  have hi : spec_heInstall.f = some installL := rfl
  rw [hi]
  simp only [Option.bind_some]
  cases un with
  | true =>
    refine Ev.pos rfl ?_
    have := back_tells x installL (by decide) (place x uninstallL : Int) 36 [] (by decide) (by decide) (by
      rw [List.take_of_length_le (by decide), back_install]
      exact first_tells x uninstallL rfl uninstall_apart)
    have e : wrap64 ((installL.length : Int) - 1) = ((36 : Nat) : Int) - 1 := by rw [show installL.length = 36 from rfl]; unfold wrap64; omega
    rw [e]
    exact this
  | false =>
    refine Ev.neg (by simp) ?_
    exact first_tells x installL rfl install_apart

/-- The order by places. -/
theorem less_places (a b : ByteArray) (l : List ByteArray) : lessB a b l = if place a l = place b l ∧ place a l = 36 then Op.bytesLess a.toList b.toList else decide (place a l < place b l) := by
  unfold lessB place
  cases ha : lastUpTo a l 36 with
  | none =>
    cases hb : lastUpTo b l 36 with
    | none => simp
    | some j =>
      have := (lastUpTo_lt hb).1
      have h2 : ¬ 36 = j := by omega
      have h3 : ¬ 36 < j := by omega
      simp [h2, h3]
  | some i =>
    have h1 := (lastUpTo_lt ha).1
    cases hb : lastUpTo b l 36 with
    | none => simp [h1, Nat.ne_of_lt h1]
    | some j => simp [Nat.ne_of_lt h1]

end Go.Proofs.YtefejcggkkmhaaaDoor.HKind
