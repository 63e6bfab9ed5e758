/- What kyPlain comes to: at most twelve letters, digits and dashes of a text. -/
import Derived.Test.YtfdgbgjbncakfaaDoorPkyIdx1
import Derived.Test.YtfdgbgjbncakfaaDoorPlain
namespace Go.Proofs.YtfdgbgjbncakfaaDoor.QkyPlain
open Go.RowKit Go.Proofs.YtfdgbgjbncakfaaDoorW.PrintWords Go.Proofs.YtfdgbgjbncakfaaDoor.PkyId Go.Proofs.YtfdgbgjbncakfaaDoor.Plain

def okI (x : Int) : Bool := (decide (97 ≤ x) && decide (x ≤ 122)) || (decide (65 ≤ x) && decide (x ≤ 90)) || (decide (48 ≤ x) && decide (x ≤ 57)) || decide (x = 45)
/-- A text of at most n letters, digits and dashes. -/
def word (n : Nat) (s : ByteArray) : Prop := s.size ≤ n ∧ ∀ c ∈ s.data.toList, okI (c.toNat : Int) = true

theorem j1_eq (k : Nat) (s : ByteArray) (acc : List Int) (j : Nat) (h : j < s.size) (hl : acc.length < 140737488355328) :
    laws_kyPlain.j1 (k + 1) s acc (j : Int) true = if okI (bt s (j : Int)) then laws_kyPlain.l0 k s (acc ++ [bt s (j : Int)]) (wrap64 ((j : Int) + 1)) else laws_kyPlain.l0 k s acc (wrap64 ((j : Int) + 1)) := by
  rw [laws_kyPlain.j1.eq_2, if_pos rfl, if_pos (by omega), if_pos (by omega)]
  generalize bt s (j : Int) = x
  generalize laws_kyPlain.l0 k s (acc ++ [x]) (wrap64 ((j : Int) + 1)) = A
  generalize laws_kyPlain.l0 k s acc (wrap64 ((j : Int) + 1)) = C
  simp only [if_pos hl]
  by_cases h : okI x = true
  · rw [if_pos h]
    have h' : ((97 ≤ x ∧ x ≤ 122) ∨ (65 ≤ x ∧ x ≤ 90)) ∨ (48 ≤ x ∧ x ≤ 57) ∨ x = 45 := by simpa [okI, or_assoc] using h
    clear h
    repeat' split
    all_goals first | rfl | (exfalso; omega)
  · rw [if_neg h]
    have h' : ¬ (((97 ≤ x ∧ x ≤ 122) ∨ (65 ≤ x ∧ x ≤ 90)) ∨ (48 ≤ x ∧ x ≤ 57) ∨ x = 45) := fun e => h (by simpa [okI, or_assoc] using e)
    clear h
    repeat' split
    all_goals first | rfl | (exfalso; omega)

def inw (l : List Int) : Prop := ∀ x ∈ l, okI x = true ∧ 0 ≤ x ∧ x ≤ 255
theorem word_of {acc : List Int} (hl : acc.length ≤ 12) (h : inw acc) : word 12 (strOfNums acc) := by
  refine ⟨by rw [strOfNums_size]; exact hl, fun c hc => ?_⟩
  rw [strOfNums_data, List.mem_map] at hc
  obtain ⟨x, hx, rfl⟩ := hc
  obtain ⟨h1, h2, h3⟩ := h x hx
  have : ((UInt8.ofNat x.toNat).toNat : Int) = x := by simp; omega
  rw [this]; exact h1

theorem plain_main (s : ByteArray) (hs : s.size ≤ 140737488351232) : ∀ d j (acc : List Int), s.size - j = d → j ≤ s.size → acc.length ≤ 12 → inw acc → ∃ r, word 12 r ∧ Ev (fun k => laws_kyPlain.l0 k s acc (j : Int)) r := by
  intro d
  induction d with
  | zero =>
    intro j acc hd hj hl hi
    refine ⟨_, word_of hl hi, Ev.step (fun k => laws_kyPlain.l0.eq_2 ..) (Ev.neg (by omega) (Ev.step (fun k => laws_kyPlain.j1.eq_2 ..) (Ev.neg (by simp) (Ev.now _))))⟩
  | succ d ih =>
    intro j acc hd hj hl hi
    by_cases h12 : (acc.length : Int) < 12
    · have hb := bt_range s (j : Int)
      by_cases ho : okI (bt s (j : Int)) = true
      · obtain ⟨r, hr, he⟩ := ih (j + 1) (acc ++ [bt s (j : Int)]) (by omega) (by omega) (by simp; omega) (by
          intro x hx
          rcases List.mem_append.1 hx with hx | hx
          · exact hi x hx
          · rw [List.mem_singleton] at hx; subst hx; exact ⟨ho, hb.1, hb.2⟩)
        refine ⟨r, hr, Ev.step (fun k => laws_kyPlain.l0.eq_2 ..) (Ev.pos (by omega) (Ev.step (fun k => ?_) he))⟩
        rw [decide_eq_true h12, j1_eq _ _ _ _ (by omega) (by omega), if_pos ho, wrap_nat (by omega)]
      · obtain ⟨r, hr, he⟩ := ih (j + 1) acc (by omega) (by omega) hl hi
        refine ⟨r, hr, Ev.step (fun k => laws_kyPlain.l0.eq_2 ..) (Ev.pos (by omega) (Ev.step (fun k => ?_) he))⟩
        rw [decide_eq_true h12, j1_eq _ _ _ _ (by omega) (by omega), if_neg ho, wrap_nat (by omega)]
    · refine ⟨_, word_of hl hi, Ev.step (fun k => laws_kyPlain.l0.eq_2 ..) (Ev.pos (by omega) (Ev.step (fun k => laws_kyPlain.j1.eq_2 ..) (Ev.neg (by simpa using h12) (Ev.now _))))⟩

theorem plain_calls (s : ByteArray) (hs : s.size ≤ 140737488351232) : ∃ r, word 12 r ∧ ∀ w : World, Calls Tryd.prog 7 #[.string s] w fun e w' => e = .returned (.string r) ∧ Below w.heap.size w w' := by
  obtain ⟨r, hr, he⟩ := plain_main s hs s.size 0 [] (by omega) (by omega) (by simp) (fun x hx => by cases hx)
  obtain ⟨k, hk⟩ := he.rounds
  exact ⟨r, hr, fun w => laws_kyPlain.calls k s r w hk⟩

end Go.Proofs.YtfdgbgjbncakfaaDoor.QkyPlain
