/- The law FnKindLess returns true for every input: the orders of installing and of uninstalling are orders; where they lie in the variables as their initialisers lay them. -/
import Derived.Test.YtefejcggkkmhaaaDoorHKindRow
namespace Go.Proofs.YtefejcggkkmhaaaDoor.HKind
open Go.RowKit Go.Proofs.YtefejcggkkmhaaaDoorW.PrintWords Go.Proofs.YtefejcggkkmhaaaDoorW.PrintLast Go.Proofs.YtefejcggkkmhaaaDoorW.PrintMore Go.Proofs.YtefejcggkkmhaaaDoor.Plain

/-! ### the order, plainly -/
theorem bytes_irrefl : ∀ l : List UInt8, Op.bytesLess l l = false := less_self
theorem bytes_total : ∀ l m : List UInt8, l = m ∨ Op.bytesLess l m = !Op.bytesLess m l
  | [], [] => .inl rfl
  | [], _ :: _ => .inr rfl
  | _ :: _, [] => .inr rfl
  | c :: r, d :: s => by
    rcases bytes_total r s with h | h
    · subst h
      by_cases e : c = d
      · exact .inl (by rw [e])
      · right
        have h1 : (c == d) = false := by simp [e]
        have h2 : (d == c) = false := by simp [Ne.symm e]
        simp only [Op.bytesLess, h1, h2, Bool.false_and, Bool.or_false]
        rcases UInt8.lt_or_lt_of_ne e with h3 | h3
        · simp [h3, UInt8.not_lt.2 (UInt8.le_of_lt h3)]
        · simp [h3, UInt8.not_lt.2 (UInt8.le_of_lt h3)]
    · by_cases e : c = d
      · subst e
        right
        simp [Op.bytesLess, h, UInt8.lt_irrefl]
      · right
        have h1 : (c == d) = false := by simp [e]
        have h2 : (d == c) = false := by simp [Ne.symm e]
        simp only [Op.bytesLess, h1, h2, Bool.false_and, Bool.or_false]
        rcases UInt8.lt_or_lt_of_ne e with h3 | h3
        · simp [h3, UInt8.not_lt.2 (UInt8.le_of_lt h3)]
        · simp [h3, UInt8.not_lt.2 (UInt8.le_of_lt h3)]
theorem bytes_trans : ∀ l m n : List UInt8, Op.bytesLess l m = true → Op.bytesLess m n = true → Op.bytesLess l n = true
  | _, [], _, h, _ => by simp [Op.bytesLess] at h
  | _, _ :: _, [], _, h => by simp [Op.bytesLess] at h
  | [], _ :: _, _ :: _, _, _ => rfl
  | a :: l, b :: m, c :: n, h1, h2 => by
    simp only [Op.bytesLess, Bool.or_eq_true, decide_eq_true_iff, Bool.and_eq_true, beq_iff_eq] at h1 h2 ⊢
    rcases h1 with h1 | ⟨rfl, h1⟩
    · rcases h2 with h2 | ⟨rfl, h2⟩
      · exact .inl (UInt8.lt_trans h1 h2)
      · exact .inl h1
    · rcases h2 with h2 | ⟨rfl, h2⟩
      · exact .inl h2
      · exact .inr ⟨rfl, bytes_trans l m n h1 h2⟩

theorem lessB_self (a : ByteArray) (l : List ByteArray) : lessB a a l = false := by
  rw [less_places]
  split
  · exact less_self _
  · simp
theorem place_same {a b : ByteArray} {l : List ByteArray} (h : place a l = place b l) (h36 : place a l ≠ 36) : a = b := by
  unfold place at h h36
  cases ha : lastUpTo a l 36 with
  | none => rw [ha] at h36; exact absurd rfl h36
  | some i =>
    cases hb : lastUpTo b l 36 with
    | none =>
      rw [ha, hb] at h
      have := (lastUpTo_lt ha).1
      simp at h; omega
    | some j =>
      rw [ha, hb] at h
      have e : i = j := by simpa using h
      subst e
      exact (lastUpTo_lt ha).2.symm.trans (lastUpTo_lt hb).2
theorem lessB_total {a b : ByteArray} (l : List ByteArray) (hne : a ≠ b) : lessB a b l = !lessB b a l := by
  rw [less_places, less_places]
  by_cases h : place a l = place b l
  · have h36 : place a l = 36 := Classical.byContradiction fun h36 => hne (place_same h h36)
    rw [if_pos ⟨h, h36⟩, if_pos ⟨h.symm, h.symm.trans h36⟩]
    rcases bytes_total a.toList b.toList with h1 | h1
    · exact absurd (toList_inj.1 h1) hne
    · exact h1
  · rw [if_neg (fun e => h e.1), if_neg (fun e => h e.1.symm)]
    rcases Nat.lt_or_gt_of_ne h with h1 | h1
    · simp [h1, Nat.not_lt.2 (Nat.le_of_lt h1)]
    · simp [h1, Nat.not_lt.2 (Nat.le_of_lt h1)]
theorem lessB_trans {a b c : ByteArray} {l : List ByteArray} (h1 : lessB a b l = true) (h2 : lessB b c l = true) : lessB a c l = true := by
  rw [less_places] at h1 h2 ⊢
  by_cases e1 : place a l = place b l ∧ place a l = 36
  · rw [if_pos e1] at h1
    by_cases e2 : place b l = place c l ∧ place b l = 36
    · rw [if_pos e2] at h2
      rw [if_pos ⟨e1.1.trans e2.1, e1.2⟩]
      exact bytes_trans _ _ _ h1 h2
    · rw [if_neg e2] at h2
      have := of_decide_eq_true h2
      rw [if_neg (fun e => by omega)]
      simp; omega
  · rw [if_neg e1] at h1
    have h3 := of_decide_eq_true h1
    by_cases e2 : place b l = place c l ∧ place b l = 36
    · rw [if_neg (fun e => by omega)]
      simp; omega
    · rw [if_neg e2] at h2
      have := of_decide_eq_true h2
      rw [if_neg (fun e => by omega)]
      simp; omega
theorem known2 (un : Bool) : lessB ⟨#[75, 120]⟩ ⟨#[75, 121]⟩ (orderOf un) = true := by cases un <;> decide +kernel

/-! ### the walks -/
set_option maxHeartbeats 1000000 in
theorem clo_calls (a b : ByteArray) (un : Bool) (w : World) (g : Nat) (hg : w.cell? ⟨g, 0, none⟩ = some (.bool un)) (hL : Laid w) (ha : a.size ≤ maxLen) (hb : b.size ≤ maxLen) :
    Calls Tryd.prog 8 #[.string a, .string b, .pointer (some ⟨g, 0, none⟩)] w fun e w' => e = .returned (.bool (lessB a b (orderOf un))) ∧ Below w.heap.size w w' := by
  go_enter Tryd.func8, Tryd.ntmps8
  go_wp2_with (go_at_call 9; refine (kind_calls a b un _ hL ha hb).mono ?_; rintro e w1 ⟨rfl, hb⟩)
  go_ret
  exact ⟨rfl, hb⟩

theorem box_cell (w : World) (un : Bool) : (w.alloc (.cells #[.bool un] 4)).cell? ⟨w.heap.size, 0, none⟩ = some (.bool un) := by rw [blk_cell (blk_new w _)]; rfl

set_option maxHeartbeats 4000000 in
theorem less_law (a b c : ByteArray) (un : Bool) (w : World) (ha : a.size ≤ 140737488351232) (hb : b.size ≤ 140737488351232) (hc : c.size ≤ 140737488351232) (hL : Laid w) :
    Calls Tryd.prog 4 #[.string a, .string b, .string c, .bool un] w fun e w' => e = .returned (.bool true) ∧ Below w.heap.size w w' := by
  have HA := Aside0.mk (show a.size ≤ maxLen by unfold maxLen; omega)
  have HC := Aside0.mk (show b.size ≤ maxLen by unfold maxLen; omega)
  have HD := Aside0.mk (show c.size ≤ maxLen by unfold maxLen; omega)
  have HL := Aside0.mk (show Laid (w.alloc (.cells #[.bool un] 4)) from hL.below (below_alloc (Below.refl _ _) _))
  have HB := Aside0.mk (Below.refl (w.alloc (.cells #[.bool un] 4)).heap.size (w.alloc (.cells #[.bool un] 4)))
  clear hL ha hb hc
  have k0 := known2 un
  have l0 := lessB_self a (orderOf un)
  by_cases s0 : 2147483647 < (a.size : Int)
  · go_enter Tryd.func4, Tryd.ntmps4
    go_wp2
    go_ret
    exact ⟨rfl, below_alloc (Below.refl _ _) _⟩
  by_cases s1 : 2147483647 < (b.size : Int)
  · go_enter Tryd.func4, Tryd.ntmps4
    go_wp2
    go_ret
    exact ⟨rfl, below_alloc (Below.refl _ _) _⟩
  by_cases s2 : 2147483647 < (c.size : Int)
  · go_enter Tryd.func4, Tryd.ntmps4
    go_wp2
    go_ret
    exact ⟨rfl, below_alloc (Below.refl _ _) _⟩
  by_cases s3 : 100 < (a.size : Int)
  · go_enter Tryd.func4, Tryd.ntmps4
    go_wp2
    go_ret
    exact ⟨rfl, below_alloc (Below.refl _ _) _⟩
  by_cases s4 : 100 < (b.size : Int)
  · go_enter Tryd.func4, Tryd.ntmps4
    go_wp2
    go_ret
    exact ⟨rfl, below_alloc (Below.refl _ _) _⟩
  by_cases s5 : 100 < (c.size : Int)
  · go_enter Tryd.func4, Tryd.ntmps4
    go_wp2
    go_ret
    exact ⟨rfl, below_alloc (Below.refl _ _) _⟩
  by_cases e : a = b
  · subst e
    have q0 : (a.toList == a.toList) = true := by simp
    go_enter Tryd.func4, Tryd.ntmps4
    go_wp2_with (go_at_call 8; refine (clo_calls _ _ un _ w.heap.size (pw_cell_below HB.out (box_cell w un)) (HL.out.below HB.out) (by first | exact HA.out | exact HC.out | exact HD.out | decide) (by first | exact HA.out | exact HC.out | exact HD.out | decide)).mono ?_; rintro e w1 ⟨rfl, hb⟩; have n1 := Aside0.mk (below_step HB.out hb); clear HB hb; have HB := n1; clear n1)
    go_ret
    exact ⟨rfl, below_then (below_alloc (Below.refl _ _) _) (by simp) HB.out⟩
  · have q0 : (a.toList == b.toList) = false := by rw [beq_toList]; simp [e]
    have HT := Aside0.mk (lessB_total (orderOf un) e)
    clear e
    cases hab : lessB a b (orderOf un) with
    | false =>
      have hba : lessB b a (orderOf un) = true := by have := HT.out; rw [hab] at this; simpa using this.symm
      go_enter Tryd.func4, Tryd.ntmps4
      go_wp2_with (go_at_call 8; refine (clo_calls _ _ un _ w.heap.size (pw_cell_below HB.out (box_cell w un)) (HL.out.below HB.out) (by first | exact HA.out | exact HC.out | exact HD.out | decide) (by first | exact HA.out | exact HC.out | exact HD.out | decide)).mono ?_; rintro e w1 ⟨rfl, hb⟩; have n1 := Aside0.mk (below_step HB.out hb); clear HB hb; have HB := n1; clear n1)
      go_ret
      exact ⟨rfl, below_then (below_alloc (Below.refl _ _) _) (by simp) HB.out⟩
    | true =>
      have hba : lessB b a (orderOf un) = false := by have := HT.out; rw [hab] at this; simpa using this.symm
      cases hbc : lessB b c (orderOf un) with
      | false =>
        go_enter Tryd.func4, Tryd.ntmps4
        go_wp2_with (go_at_call 8; refine (clo_calls _ _ un _ w.heap.size (pw_cell_below HB.out (box_cell w un)) (HL.out.below HB.out) (by first | exact HA.out | exact HC.out | exact HD.out | decide) (by first | exact HA.out | exact HC.out | exact HD.out | decide)).mono ?_; rintro e w1 ⟨rfl, hb⟩; have n1 := Aside0.mk (below_step HB.out hb); clear HB hb; have HB := n1; clear n1)
        go_ret
        exact ⟨rfl, below_then (below_alloc (Below.refl _ _) _) (by simp) HB.out⟩
      | true =>
        have hac := lessB_trans hab hbc
        go_enter Tryd.func4, Tryd.ntmps4
        go_wp2_with (go_at_call 8; refine (clo_calls _ _ un _ w.heap.size (pw_cell_below HB.out (box_cell w un)) (HL.out.below HB.out) (by first | exact HA.out | exact HC.out | exact HD.out | decide) (by first | exact HA.out | exact HC.out | exact HD.out | decide)).mono ?_; rintro e w1 ⟨rfl, hb⟩; have n1 := Aside0.mk (below_step HB.out hb); clear HB hb; have HB := n1; clear n1)
        go_ret
        exact ⟨rfl, below_then (below_alloc (Below.refl _ _) _) (by simp) HB.out⟩

theorem less_row (a b c : ByteArray) (un : Bool) (w : World) (ha : a.size ≤ 140737488351232) (hb : b.size ≤ 140737488351232) (hc : c.size ≤ 140737488351232) (hL : laidMetH Tryd.prog Rows.fnKindLessRow.laid w) :
    Calls Tryd.prog 4 #[.string a, .string b, .string c, .bool un] w fun e w' => e = .returned (.bool true) ∧ Below w.heap.size w w' :=
  less_law a b c un w ha hb hc (laid_of (show laidMetH Tryd.prog Rows.fnKindOrderRow.laid w from hL))

end Go.Proofs.YtefejcggkkmhaaaDoor.HKind
