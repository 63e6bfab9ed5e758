/- The order of the stable texts: it is one, and it tells ids apart. -/
import Derived.Test.YtfdgbgjbncakfaaDoorHOrd
import Derived.Test.YtfdgbgjbncakfaaDoorHId
namespace Go.Proofs.YtfdgbgjbncakfaaDoor.HLess
open Go.RowKit Go.Proofs.YtfdgbgjbncakfaaDoorW.PrintWords Go.Proofs.YtfdgbgjbncakfaaDoor.Plain Go.Proofs.YtfdgbgjbncakfaaDoor.HOrd Go.Proofs.YtfdgbgjbncakfaaDoor.HId Go.Proofs.YtfdgbgjbncakfaaDoor.QkyPlain
theorem blk_setO {w : World} {b : Nat} {o : Obj} {p : Addr} (h : w.heap[b]? = some o) (hne : b ≠ p.block) (v : Value) : (w.setCell p v).heap[b]? = some o := (Below.heap_setCell w p v b hne).trans h
def last : List ByteArray := [⟨#[77, 117, 116, 97, 116, 105, 110, 103, 87, 101, 98, 104, 111, 111, 107, 67, 111, 110, 102, 105, 103, 117, 114, 97, 116, 105, 111, 110]⟩, ⟨#[86, 97, 108, 105, 100, 97, 116, 105, 110, 103, 87, 101, 98, 104, 111, 111, 107, 67, 111, 110, 102, 105, 103, 117, 114, 97, 116, 105, 111, 110]⟩]
def first : List ByteArray := [⟨#[78, 97, 109, 101, 115, 112, 97, 99, 101]⟩, ⟨#[82, 101, 115, 111, 117, 114, 99, 101, 81, 117, 111, 116, 97]⟩, ⟨#[83, 116, 111, 114, 97, 103, 101, 67, 108, 97, 115, 115]⟩, ⟨#[67, 117, 115, 116, 111, 109, 82, 101, 115, 111, 117, 114, 99, 101, 68, 101, 102, 105, 110, 105, 116, 105, 111, 110]⟩, ⟨#[83, 101, 114, 118, 105, 99, 101, 65, 99, 99, 111, 117, 110, 116]⟩, ⟨#[80, 111, 100, 83, 101, 99, 117, 114, 105, 116, 121, 80, 111, 108, 105, 99, 121]⟩, ⟨#[82, 111, 108, 101]⟩, ⟨#[67, 108, 117, 115, 116, 101, 114, 82, 111, 108, 101]⟩, ⟨#[82, 111, 108, 101, 66, 105, 110, 100, 105, 110, 103]⟩, ⟨#[67, 108, 117, 115, 116, 101, 114, 82, 111, 108, 101, 66, 105, 110, 100, 105, 110, 103]⟩, ⟨#[67, 111, 110, 102, 105, 103, 77, 97, 112]⟩, ⟨#[83, 101, 99, 114, 101, 116]⟩, ⟨#[69, 110, 100, 112, 111, 105, 110, 116, 115]⟩, ⟨#[83, 101, 114, 118, 105, 99, 101]⟩, ⟨#[76, 105, 109, 105, 116, 82, 97, 110, 103, 101]⟩, ⟨#[80, 114, 105, 111, 114, 105, 116, 121, 67, 108, 97, 115, 115]⟩, ⟨#[80, 101, 114, 115, 105, 115, 116, 101, 110, 116, 86, 111, 108, 117, 109, 101]⟩, ⟨#[80, 101, 114, 115, 105, 115, 116, 101, 110, 116, 86, 111, 108, 117, 109, 101, 67, 108, 97, 105, 109]⟩, ⟨#[68, 101, 112, 108, 111, 121, 109, 101, 110, 116]⟩, ⟨#[83, 116, 97, 116, 101, 102, 117, 108, 83, 101, 116]⟩, ⟨#[67, 114, 111, 110, 74, 111, 98]⟩, ⟨#[80, 111, 100, 68, 105, 115, 114, 117, 112, 116, 105, 111, 110, 66, 117, 100, 103, 101, 116]⟩]
theorem not_of {k : ByteArray} (l : List ByteArray) (hl : l.length ≤ 1000) (h : (l.all fun s => decide (0 < s.size) && decide (s.data.getD 0 0 ≠ 90)) = true) (hk : k = ⟨#[]⟩ ∨ ∃ u, word 12 u ∧ k = ⟨#[90, 122]⟩ ++ u) : Not k l := by
  refine ⟨hl, fun s hs => ?_⟩
  have h1 := List.all_eq_true.1 h s hs
  simp only [Bool.and_eq_true, decide_eq_true_iff] at h1
  rw [beq_eq_false_iff_ne]
  intro e
  have e := toList_inj.1 e
  subst e
  rcases hk with rfl | ⟨u, _, rfl⟩
  · exact absurd h1.1 (by decide)
  · exact h1.2 (by rw [ByteArray.data_append, Array.getD_eq_getD_getElem?, Array.getElem?_append_left (by decide)]; rfl)
theorem not_last {k : ByteArray} (hk : k = ⟨#[]⟩ ∨ ∃ u, word 12 u ∧ k = ⟨#[90, 122]⟩ ++ u) : Not k last := not_of last (by decide) (by decide) hk
theorem not_first {k : ByteArray} (hk : k = ⟨#[]⟩ ∨ ∃ u, word 12 u ∧ k = ⟨#[90, 122]⟩ ++ u) : Not k first := not_of first (by decide) (by decide) hk
theorem less_self : ∀ l : List UInt8, Op.bytesLess l l = false
  | [] => rfl
  | c :: r => by simp [Op.bytesLess, less_self r]
theorem bytes_total : ∀ l m : List UInt8, l = m ∨ Op.bytesLess l m = !Op.bytesLess m l
  | [], [] => .inl rfl
  | [], _ :: _ => .inr rfl
  | _ :: _, [] => .inr rfl
  | c :: r, d :: s => by
    rcases bytes_total r s with h | h
    · subst h
      by_cases e : c = d
      · exact .inl (by rw [e])
      · right
        have h1 : (c == d) = false := by simp [e]
        have h2 : (d == c) = false := by simp [Ne.symm e]
        simp only [Op.bytesLess, h1, h2, Bool.false_and, Bool.or_false]
        rcases UInt8.lt_or_lt_of_ne e with h3 | h3
        · simp [h3, UInt8.not_lt.2 (UInt8.le_of_lt h3)]
        · simp [h3, UInt8.not_lt.2 (UInt8.le_of_lt h3)]
    · by_cases e : c = d
      · subst e
        right
        simp [Op.bytesLess, h, UInt8.lt_irrefl]
      · right
        have h1 : (c == d) = false := by simp [e]
        have h2 : (d == c) = false := by simp [Ne.symm e]
        simp only [Op.bytesLess, h1, h2, Bool.false_and, Bool.or_false]
        rcases UInt8.lt_or_lt_of_ne e with h3 | h3
        · simp [h3, UInt8.not_lt.2 (UInt8.le_of_lt h3)]
        · simp [h3, UInt8.not_lt.2 (UInt8.le_of_lt h3)]
theorem bytes_trans : ∀ l m n : List UInt8, Op.bytesLess l m = true → Op.bytesLess m n = true → Op.bytesLess l n = true
  | _, [], _, h, _ => by simp [Op.bytesLess] at h
  | _, _ :: _, [], _, h => by simp [Op.bytesLess] at h
  | [], _ :: _, _ :: _, _, _ => rfl
  | a :: l, b :: m, c :: n, h1, h2 => by
    simp only [Op.bytesLess, Bool.or_eq_true, decide_eq_true_iff, Bool.and_eq_true, beq_iff_eq] at h1 h2 ⊢
    rcases h1 with h1 | ⟨rfl, h1⟩
    · rcases h2 with h2 | ⟨rfl, h2⟩
      · exact .inl (UInt8.lt_trans h1 h2)
      · exact .inl h1
    · rcases h2 with h2 | ⟨rfl, h2⟩
      · exact .inl h2
      · exact .inr ⟨rfl, bytes_trans l m n h1 h2⟩

theorem split95 : ∀ {l1 l2 r1 r2 : List UInt8}, (95 : UInt8) ∉ l1 → (95 : UInt8) ∉ l2 → l1 ++ 95 :: r1 = l2 ++ 95 :: r2 → l1 = l2 ∧ r1 = r2
  | [], [], _, _, _, _, h => ⟨rfl, by simpa using h⟩
  | [], d :: l2, _, _, _, h2, h => by simp only [List.nil_append, List.cons_append, List.cons.injEq] at h; exact absurd (h.1 ▸ List.mem_cons_self) h2
  | c :: l1, [], _, _, h1, _, h => by simp only [List.nil_append, List.cons_append, List.cons.injEq] at h; exact absurd (h.1 ▸ List.mem_cons_self) h1
  | c :: l1, d :: l2, _, _, h1, h2, h => by
    simp only [List.cons_append, List.cons.injEq] at h
    obtain ⟨rfl, h⟩ := h
    obtain ⟨h3, h4⟩ := split95 (fun e => h1 (List.mem_cons_of_mem _ e)) (fun e => h2 (List.mem_cons_of_mem _ e)) h
    exact ⟨by rw [h3], h4⟩
theorem word_no {n : Nat} {s : ByteArray} (h : word n s) (c : UInt8) (hc : okI (c.toNat : Int) = false) : c ∉ s.data.toList := fun hm => by
  have := h.2 c hm
  rw [hc] at this
  cases this
theorem bytes_inj' {a b : ByteArray} (h : a.data.toList = b.data.toList) : a = b := ByteArray.ext (Array.toList_inj.1 h)
theorem data_app (a b : ByteArray) : (a ++ b).data.toList = a.data.toList ++ b.data.toList := by simp [ByteArray.data_append]
theorem orB_no {s t : ByteArray} {c : UInt8} (h : c ∉ s.data.toList) (ht : c ∉ t.data.toList) : c ∉ (orB s t).data.toList := by
  unfold orB; split <;> assumption
theorem orB_inj {s s' t : ByteArray} {c : UInt8} (hs : c ∉ s.data.toList) (hs' : c ∉ s'.data.toList) (ht : c ∈ t.data.toList) (h : orB s t = orB s' t) : s = s' := by
  unfold orB at h
  split at h <;> split at h
  · rename_i a b; rw [a, b]
  · subst h; exact absurd ht hs'
  · rename_i a b; rw [h] at hs; exact absurd ht hs
  · exact h
theorem g_no {g v k n s : ByteArray} (h : IdOk g v k n s) (c : UInt8) (hc : okI (c.toNat : Int) = false) (hd : c ∉ [46, 105, 111]) : c ∉ g.data.toList := by
  obtain ⟨u, hu, rfl | rfl⟩ := h.g
  · exact word_no hu c hc
  · rw [data_app, List.mem_append]
    rintro (e | e)
    · exact word_no hu c hc e
    · exact hd e
theorem k_no {g v k n s : ByteArray} (h : IdOk g v k n s) (c : UInt8) (hc : okI (c.toNat : Int) = false) (hd : c ∉ [90, 122]) : c ∉ k.data.toList := by
  rcases h.k with rfl | ⟨u, hu, rfl⟩
  · simp
  · rw [data_app, List.mem_append]
    rintro (e | e)
    · exact hd e
    · exact word_no hu c hc e
theorem stab_inj {g v k n s g' v' k' n' s' : ByteArray} (h : IdOk g v k n s) (h' : IdOk g' v' k' n' s') (e : stabB g v k = stabB g' v' k') : g = g' ∧ v = v' ∧ k = k' := by
  have e1 := congrArg (fun x : ByteArray => x.data.toList) e
  simp only [stabB, data_app, List.append_assoc] at e1
  simp only [List.cons_append, List.nil_append] at e1
  obtain ⟨a1, a2⟩ := split95 (orB_no (g_no h 95 (by decide) (by decide)) (by decide)) (orB_no (g_no h' 95 (by decide) (by decide)) (by decide)) e1
  obtain ⟨b1, b2⟩ := split95 (orB_no (word_no h.v 95 (by decide)) (by decide)) (orB_no (word_no h'.v 95 (by decide)) (by decide)) a2
  have A := bytes_inj' a1
  have B := bytes_inj' b1
  have C := bytes_inj' b2
  exact ⟨orB_inj (c := 126) (g_no h 126 (by decide) (by decide)) (g_no h' 126 (by decide) (by decide)) (by decide) A, orB_inj (c := 126) (word_no h.v 126 (by decide)) (word_no h'.v 126 (by decide)) (by decide) B, orB_inj (c := 126) (k_no h 126 (by decide) (by decide)) (k_no h' 126 (by decide) (by decide)) (by decide) C⟩
theorem lessS_self (g v k : ByteArray) : lessS g v k g v k = false := less_self _
theorem lessS_total {g v k n s g' v' k' n' s' : ByteArray} (h : IdOk g v k n s) (h' : IdOk g' v' k' n' s') (hne : ¬ (g = g' ∧ v = v' ∧ k = k')) : lessS g v k g' v' k' = !lessS g' v' k' g v k := by
  rcases bytes_total (stabB g v k).toList (stabB g' v' k').toList with e | e
  · exact absurd (stab_inj h h' (toList_inj.1 e)) hne
  · exact e
theorem lessS_trans {g v k g' v' k' g2 v2 k2 : ByteArray} (h1 : lessS g v k g' v' k' = true) (h2 : lessS g' v' k' g2 v2 k2 = true) : lessS g v k g2 v2 k2 = true := bytes_trans _ _ _ h1 h2
end Go.Proofs.YtfdgbgjbncakfaaDoor.HLess
