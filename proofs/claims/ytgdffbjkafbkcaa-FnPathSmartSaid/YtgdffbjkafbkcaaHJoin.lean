/- Contracts, for the printer: strings.Join and utils.PathSplitter. -/
import Derived.Test.YtgdffbjkafbkcaaHSplit
import Derived.Test.YtgdffbjkafbkcaaHShelfstringsJoin
namespace Go.Proofs.Ytgdffbjkafbkcaa.HJoin
open Go.RowKit Go.Proofs.YtgdffbjkafbkcaaW.PrintWords Go.Proofs.YtgdffbjkafbkcaaW.PrintLast Go.Proofs.YtgdffbjkafbkcaaW.PrintMore Go.Proofs.Ytgdffbjkafbkcaa.Plain

def joinB (l : List ByteArray) (s : ByteArray) : ByteArray := ⟨(Lib.join (l.map (·.data.toList)) s.data.toList).toArray⟩
def joinF (l : List ByteArray) (s : ByteArray) : Option ByteArray := if l.length ≤ 1000000 ∧ (joinB l s).size ≤ 1000000 then some (joinB l s) else none
theorem join_calls (A : Option Addr) (c : Nat) (l : List ByteArray) (s r : ByteArray) (w : World) (hr : Kd.C Kd.string w A l.length l) (hc : l.length ≤ c) (h : joinF l s = some r) :
    Calls Try.prog 26 #[.slice A l.length c, .string s] w fun e w' => e = .returned (.string r) ∧ Below w.heap.size w w' := by
  unfold joinF at h
  split at h
  · rename_i hz
    obtain ⟨h1, h2⟩ := hz
    cases h
    cases l with
    | nil =>
      refine (Try.strings_Join_none A c s w).mono ?_
      rintro e w' ⟨rfl, rfl⟩
      exact ⟨rfl, Below.refl _ _⟩
    | cons x xs =>
      have cell : ∀ (j : Nat) (hj : j < (x :: xs).length), ∃ ad, A = some ad ∧ w.cell? (ad.add j) = some (.string (x :: xs)[j]) := by
        intro j hj
        obtain ⟨ad, e0, hx⟩ := Kd.at_string hr (j : Int) (Int.natCast_nonneg j) (Int.ofNat_lt.2 hj)
        rw [rdOf_nat _ _ _ hj, Int.toNat_natCast] at hx
        exact ⟨ad, e0, hx⟩
      obtain ⟨ad, rfl, h0⟩ := cell 0 (by simp)
      obtain ⟨b, o, spot⟩ := ad
      have hb : spot = none ∧ b < w.heap.size := by
        simp only [Addr.add, if_true] at h0
        unfold World.cell? at h0
        split at h0
        · rename_i hq
          have := (Array.getElem?_eq_some_iff.1 hq).1
          cases spot with
          | none => exact ⟨rfl, this⟩
          | some z => simp at h0
        · cases h0
      obtain ⟨rfl, hb⟩ := hb
      have hlen : (Lib.join ((x :: xs).map (·.data.toList)) s.data.toList).length ≤ 140737488355328 := by
        have e : (joinB (x :: xs) s).size = (Lib.join ((x :: xs).map (·.data.toList)) s.data.toList).length := by simp [joinB, ByteArray.size]
        omega
      refine Try.strings_Join b o c (x :: xs) s w (fun j y hy => ?_) hb (by omega) hc hlen
      obtain ⟨hj, rfl⟩ := List.getElem?_eq_some_iff.1 hy
      obtain ⟨ad, e1, h3⟩ := cell j hj
      cases e1
      rw [← h3]
      congr 1
      unfold Addr.add
      split
      · rename_i e; subst e; rfl
      · rfl
  · cases h

def pathF (k : Nat) (s d : ByteArray) : Option (List ByteArray) :=
  (PzzSplit.utils_zzSplit.f k s d).bind fun l => if l ≠ [] ∧ HSplit.sumB d l ≤ 10000000 ∧ l.length ≤ 1000000 then some (HSplit.pathB d l) else none
theorem pathF_mono : ∀ (s d : ByteArray) (k : Nat), LeO (pathF k s d) (pathF (k + 1) s d) := fun s d k => LeO.bind (PzzSplit.utils_zzSplit.mono s d k) (fun _ => LeO.refl _)
theorem path_calls (k : Nat) (s d : ByteArray) (r : List ByteArray) (w : World) (h : pathF k s d = some r) :
    Calls Try.prog 15 #[.string s, .string d] w fun e w' => ∃ v0_ : Value, e = .returned (v0_) ∧ Kd.R Kd.string 9 w' w.heap.size (fun _ => True) v0_ r ∧ Below w.heap.size w w' := by
  unfold pathF at h
  cases hz : PzzSplit.utils_zzSplit.f k s d with
  | none => rw [hz] at h; cases h
  | some l =>
    rw [hz, Option.bind_some] at h
    split at h
    · rename_i h1
      cases h
      exact HSplit.split_calls s d l k w hz h1.1 h1.2.1 h1.2.2
    · cases h
end Go.Proofs.Ytgdffbjkafbkcaa.HJoin
