/- Names of metadata: the package's loop over a name and the reference's labels with points between come to the same answer; for names of at most 2^31 bytes. -/
import Derived.Test.YtefejcggkkmhaaaDoorPvalidNamex
import Derived.Test.YtefejcggkkmhaaaDoorPlain
namespace Go.Proofs.YtefejcggkkmhaaaDoor.QvalidName
open Go.RowKit Go.Proofs.YtefejcggkkmhaaaDoorW.PrintWords Go.Proofs.YtefejcggkkmhaaaDoor.PvalidName Go.Proofs.YtefejcggkkmhaaaDoor.Plain

def alnum (c : UInt8) : Bool := (decide (97 ≤ c.toNat) && decide (c.toNat ≤ 122)) || (decide (48 ≤ c.toNat) && decide (c.toNat ≤ 57))
/-- The loop of the package, from a state on. -/
def good (start : Bool) (prev : UInt8) : List UInt8 → Bool
  | [] => !start && decide (prev.toNat ≠ 45)
  | c :: r => if alnum c then good false c r else if c.toNat = 45 ∧ start = false then good false c r else if c.toNat = 46 ∧ start = false ∧ prev.toNat ≠ 45 then good true c r else false
theorem good_start (p p' : UInt8) : ∀ l, good true p l = good true p' l
  | [] => rfl
  | c :: r => by simp [good]

/-- A label that has begun well. -/
def begun : List UInt8 → Bool
  | [] => true
  | c :: r => alnum c && r.all fun x => alnum x || decide (x.toNat = 45)
def lab (l : List UInt8) : Bool := begun l && !l.isEmpty && decide ((l.getLastD 0).toNat ≠ 45)
/-- The reference's labels, the one that has begun ahead. -/
def mets (acc : List UInt8) : List UInt8 → Bool
  | [] => lab acc
  | c :: r => if c.toNat = 46 then lab acc && mets [] r else mets (acc ++ [c]) r
theorem begun_snoc (acc : List UInt8) (c : UInt8) : begun (acc ++ [c]) = (begun acc && (alnum c || (decide (c.toNat = 45) && !acc.isEmpty))) := by
  cases acc with
  | nil => simp [begun]
  | cons x r =>
    simp only [List.cons_append, begun, List.all_append, List.isEmpty_cons, Bool.not_false, Bool.and_true]
    simp [Bool.and_assoc]
theorem last_snoc (acc : List UInt8) (c : UInt8) : (acc ++ [c]).getLastD 0 = c := by simp
theorem snoc_isEmpty {α : Type} (acc : List α) (c : α) : (acc ++ [c]).isEmpty = false := by cases acc <;> rfl
theorem mets_eq : ∀ (r acc : List UInt8), mets acc r = (begun acc && good acc.isEmpty (acc.getLastD 0) r)
  | [], acc => by
    simp only [mets, lab, good]
    rw [Bool.and_assoc]
  | c :: r, acc => by
    simp only [mets, good]
    by_cases h1 : alnum c = true
    · have h2 : ¬ c.toNat = 46 := by
        intro e
        rw [alnum, e] at h1
        simp at h1
      rw [if_neg h2, if_pos h1, mets_eq r, begun_snoc, last_snoc, h1, snoc_isEmpty]
      simp
    · have h1' : alnum c = false := by simpa using h1
      rw [if_neg h1]
      by_cases h3 : c.toNat = 45
      · have h2 : ¬ c.toNat = 46 := by omega
        rw [if_neg h2, mets_eq r, begun_snoc, last_snoc, h1']
        cases he : acc.isEmpty with
        | true => simp [h3]
        | false => rw [snoc_isEmpty]; simp [h3]
      · by_cases h4 : c.toNat = 46
        · rw [if_pos h4, if_neg (by simp [h3]), mets_eq r []]
          have hb : begun [] = true := rfl
          rw [hb]
          simp only [lab, List.isEmpty_nil, Bool.true_and]
          by_cases h5 : acc.isEmpty = false ∧ (acc.getLastD 0).toNat ≠ 45
          · rw [if_pos ⟨h4, h5⟩, good_start _ c r]
            have h6 : decide ((acc.getLastD 0).toNat ≠ 45) = true := decide_eq_true h5.2
            rw [h6, h5.1]
            simp
          · rw [if_neg (by simpa [h4] using h5)]
            by_cases h6 : acc.isEmpty = false
            · have h7 : (acc.getLastD 0).toNat = 45 := by
                rcases Nat.decEq (acc.getLastD 0).toNat 45 with h8 | h8
                · exact absurd ⟨h6, h8⟩ h5
                · exact h8
              have h8 : decide ((acc.getLastD 0).toNat ≠ 45) = false := decide_eq_false (fun e => e h7)
              rw [h8]; simp
            · have h8 : acc.isEmpty = true := by simpa using h6
              rw [h8]; simp
        · rw [if_neg h4, if_neg (by simp [h3]), if_neg (by simp [h4]), mets_eq r, begun_snoc, h1']
          simp [h3]

/-! ### the printed functions -/
theorem bt_data (s : ByteArray) (j : Nat) (h : j < s.data.toList.length) : bt s (j : Int) = ((s.data.toList[j]).toNat : Int) := by
  have h' : j < s.size := by rw [Array.length_toList] at h; exact h
  unfold bt
  rw [Int.toNat_natCast, dif_pos h']
  rfl

theorem wrap_pred {j : Nat} (h : j < 9223372036854775807) (h0 : 0 < j) : wrap64 ((j : Int) - 1) = ((j - 1 : Nat) : Int) := by unfold wrap64; omega

theorem valid_tells (s : ByteArray) (hs : s.size ≤ 9223372036854775806) (h0 : s.size ≠ 0) : Ev (fun k => chartutil_validName.f k s) (good true 0 s.data.toList) := by
  unfold chartutil_validName.f
  have hL : s.data.toList.length = s.size := data_length s
  have main : ∀ d j st pv, s.size - j = d → ∀ hj : j ≤ s.size, (j = 0 → st = true) → (∀ h : 0 < j, st = false → pv = s.data.toList[j - 1]'(by omega)) →
      Ev (fun k => chartutil_validName.l0 k s st (j : Int)) (good st pv (s.data.toList.drop j)) := by
    intro d
    induction d with
    | zero =>
      intro j st pv hd hj h1 h2
      have e : j = s.size := by omega
      rw [List.drop_of_length_le (by omega)]
      refine Ev.step (fun k => chartutil_validName.l0.eq_2 ..) (Ev.neg (by omega) ?_)
      cases st with
      | true => exact Ev.pos rfl (Ev.now _)
      | false =>
        refine Ev.neg (by simp) ?_
        rw [wrap_pred (j := s.size) (by omega) (by omega)]
        refine Ev.pos (by omega) (Ev.pos (by omega) (evEq (Ev.now _) ?_))
        rw [bt_data s (s.size - 1) (by omega), h2 (by omega) rfl]
        simp only [good, Bool.not_false, Bool.true_and, e]
        have hx : ((s.data.toList[s.size - 1]'(by omega)).toNat : Int) = 45 ↔ (s.data.toList[s.size - 1]'(by omega)).toNat = 45 := by omega
        rw [Bool.eq_iff_iff, bne_iff_ne, decide_eq_true_iff]
        exact not_congr hx
    | succ d ih =>
      intro j st pv hd hj h1 h2
      have hlt : j < s.data.toList.length := by omega
      rw [drop_next hlt]
      refine Ev.step (fun k => chartutil_validName.l0.eq_2 ..) (Ev.pos (by omega) (Ev.pos (by omega) ?_))
      rw [bt_data s j hlt]
      generalize hc : s.data.toList[j] = c at *
      have hnext : ∀ st', Ev (fun k => chartutil_validName.l0 k s st' (wrap64 ((j : Int) + 1))) (good st' c (s.data.toList.drop (j + 1))) := by
        intro st'
        rw [wrap_nat (by omega)]
        exact ih (j + 1) st' c (by omega) (by omega) (by omega) (fun _ _ => by simpa using hc.symm)
      have hj1 : ∀ b, b = alnum c → Ev (fun k => chartutil_validName.j1 k s st (j : Int) (c.toNat : Int) b) (good st pv (c :: s.data.toList.drop (j + 1))) := by
        intro b hb
        refine Ev.step (fun k => chartutil_validName.j1.eq_2 ..) ?_
        rw [good]
        cases b with
        | true =>
          rw [if_pos hb.symm]
          exact Ev.pos rfl (hnext false)
        | false =>
          rw [if_neg (by rw [← hb]; simp)]
          refine Ev.neg (by simp) ?_
          have hj2 : ∀ b2, b2 = (decide (c.toNat = 45) && !st) → Ev (fun k => chartutil_validName.j2 k s st (j : Int) (c.toNat : Int) b2) (if c.toNat = 45 ∧ st = false then good false c (s.data.toList.drop (j + 1)) else if c.toNat = 46 ∧ st = false ∧ pv.toNat ≠ 45 then good true c (s.data.toList.drop (j + 1)) else false) := by
            intro b2 hb2
            refine Ev.step (fun k => chartutil_validName.j2.eq_2 ..) ?_
            cases b2 with
            | true =>
              have h45 : c.toNat = 45 ∧ st = false := by
                have := hb2.symm
                simpa using this
              rw [if_pos h45]
              refine Ev.pos rfl ?_
              rw [h45.2]
              exact hnext false
            | false =>
              have h45 : ¬ (c.toNat = 45 ∧ st = false) := by
                have := hb2.symm
                simpa using this
              rw [if_neg h45]
              refine Ev.neg (by simp) ?_
              by_cases h46 : c.toNat = 46
              · refine Ev.pos (by omega) ?_
                cases st with
                | true =>
                  rw [if_neg (by simp)]
                  exact Ev.pos rfl (Ev.now _)
                | false =>
                  refine Ev.neg (by simp) ?_
                  have hj0 : 0 < j := Nat.pos_of_ne_zero (fun e => by simpa using h1 e)
                  rw [wrap_pred (by omega) hj0]
                  refine Ev.pos (by omega) (Ev.pos (by omega) ?_)
                  rw [bt_data s (j - 1) (by omega), ← h2 hj0 rfl]
                  by_cases hp : pv.toNat = 45
                  · rw [if_neg (by simp [hp])]
                    exact Ev.pos (by omega) (Ev.now _)
                  · rw [if_pos ⟨h46, rfl, hp⟩]
                    exact Ev.neg (by omega) (hnext true)
              · rw [if_neg (by simp [h46])]
                exact Ev.neg (by omega) (Ev.now _)
          by_cases h45 : c.toNat = 45
          · exact Ev.pos (by omega) (hj2 _ (by simp [h45]))
          · exact Ev.neg (by omega) (hj2 _ (by simp [h45]))
      by_cases a1 : 97 ≤ c.toNat
      · refine Ev.pos (by omega) ?_
        by_cases a2 : c.toNat ≤ 122
        · exact Ev.pos (by omega) (hj1 _ (by simp [alnum, a1, a2]))
        · refine Ev.neg (by omega) (Ev.pos (by omega) (hj1 _ ?_))
          have a3 : ¬ c.toNat ≤ 57 := by omega
          have a4 : ¬ (c.toNat : Int) ≤ 57 := by omega
          simp [alnum, a2, a3, a4]
      · refine Ev.neg (by omega) ?_
        by_cases a3 : 48 ≤ c.toNat
        · refine Ev.pos (by omega) (hj1 _ ?_)
          by_cases a4 : c.toNat ≤ 57
          · have a5 : (c.toNat : Int) ≤ 57 := by omega
            simp [alnum, a1, a3, a4, a5]
          · have a5 : ¬ (c.toNat : Int) ≤ 57 := by omega
            simp [alnum, a1, a4, a5]
        · exact Ev.neg (by omega) (hj1 _ (by simp [alnum, a1, a3]))
  have := main s.size 0 true 0 (by omega) (by omega) (fun _ => rfl) (fun h => by omega)
  rw [List.drop_zero] at this
  exact this

/-- What the reference's loop over a label asks of a byte at a place. -/
def okAt (l : List UInt8) (i : Nat) : Bool := alnum (l.getD i 0) || (decide ((l.getD i 0).toNat = 45) && decide (0 < i) && decide (i + 1 < l.length))

theorem begun_iff (l : List UInt8) : begun l = true ↔ ∀ i (h : i < l.length), alnum l[i] = true ∨ ((l[i]).toNat = 45 ∧ 0 < i) := by
  cases l with
  | nil => simp [begun]
  | cons c r =>
    simp only [begun, Bool.and_eq_true, List.all_eq_true, Bool.or_eq_true, decide_eq_true_iff]
    constructor
    · rintro ⟨h1, h2⟩ i hi
      cases i with
      | zero => exact .inl h1
      | succ i =>
        have hi' : i < r.length := by simpa using hi
        rcases h2 r[i] (List.getElem_mem hi') with h | h
        · exact .inl h
        · exact .inr ⟨h, by omega⟩
    · intro h
      refine ⟨?_, fun x hx => ?_⟩
      · rcases h 0 (by simp) with h1 | h1
        · exact h1
        · omega
      · obtain ⟨i, hi, rfl⟩ := List.getElem_of_mem hx
        rcases h (i + 1) (by simp; exact hi) with h1 | h1
        · exact .inl h1
        · exact .inr h1.1

theorem labB_eq (s : ByteArray) : (((List.range s.size).all fun i => okAt s.data.toList i) && decide (s.size ≠ 0)) = lab s.data.toList := by
  have hL : s.data.toList.length = s.size := data_length s
  rw [← hL]
  generalize s.data.toList = l
  unfold lab
  have hget : ∀ i (h : i < l.length), l.getD i 0 = l[i] := fun i h => by rw [List.getD_eq_getElem?_getD, List.getElem?_eq_getElem h]; rfl
  rw [Bool.eq_iff_iff]
  simp only [Bool.and_eq_true, List.all_eq_true, List.mem_range, decide_eq_true_iff, begun_iff, Bool.not_eq_true']
  have hlast : ∀ h : l.length ≠ 0, l.getLastD 0 = l[l.length - 1]'(by omega) := fun h => by
    have hne : l ≠ [] := fun e => h (by rw [e]; rfl)
    rw [List.getLastD_eq_getLast?, List.getLast?_eq_some_getLast hne, List.getLast_eq_getElem]
    rfl
  have hemp : l.isEmpty = false ↔ l.length ≠ 0 := by cases l <;> simp
  rw [hemp]
  constructor
  · rintro ⟨h1, h2⟩
    refine ⟨⟨fun i hi => ?_, h2⟩, ?_⟩
    · have := h1 i hi
      simp only [okAt, hget i hi, Bool.or_eq_true, Bool.and_eq_true, decide_eq_true_iff] at this
      rcases this with h | h
      · exact .inl h
      · exact .inr ⟨h.1.1, h.1.2⟩
    · rw [hlast h2]
      have := h1 (l.length - 1) (by omega)
      simp only [okAt, hget (l.length - 1) (by omega), Bool.or_eq_true, Bool.and_eq_true, decide_eq_true_iff] at this
      rcases this with h | h
      · intro e
        rw [alnum, e] at h
        simp at h
      · omega
  · rintro ⟨⟨h1, h2⟩, h3⟩
    refine ⟨fun i hi => ?_, h2⟩
    simp only [okAt, hget i hi, Bool.or_eq_true, Bool.and_eq_true, decide_eq_true_iff]
    rcases h1 i hi with h | ⟨h, h0⟩
    · exact .inl h
    · refine .inr ⟨⟨h, h0⟩, ?_⟩
      rcases Nat.lt_or_ge (i + 1) l.length with h4 | h4
      · exact h4
      · exfalso
        rw [hlast h2] at h3
        apply h3
        have e : l.length - 1 = i := by omega
        simp only [e]
        exact h

end Go.Proofs.YtefejcggkkmhaaaDoor.QvalidName
