/- Small plain words for the pure statements: what comes to an answer from some number of rounds on; lists read by index. -/
import Derived.Test.YtjfbjkodjjlkiaaWMore
import Derived.RowKit
namespace Go.Proofs.Ytjfbjkodjjlkiaa.Plain
open Go.RowKit Go.Proofs.YtjfbjkodjjlkiaaW.PrintWords

theorem Ev.pos {α : Type} {c : Prop} [Decidable c] {a b : Nat → Option α} {r : α} (hc : c) (h : Ev a r) : Ev (fun k => if c then a k else b k) r := by simpa [hc] using h
theorem Ev.neg {α : Type} {c : Prop} [Decidable c] {a b : Nat → Option α} {r : α} (hc : ¬ c) (h : Ev b r) : Ev (fun k => if c then a k else b k) r := by simpa [hc] using h
theorem Ev.const {α : Type} (r : α) : Ev (fun _ => some r) r := Ev.now r
theorem evEq {α : Type} {g : Nat → Option α} {r r' : α} (h : Ev g r) (e : r = r') : Ev g r' := e ▸ h
/-- A call whose answer is handed on. -/
theorem Ev.ret {α : Type} {g : Nat → Option α} {r : α} (h : Ev g r) : Ev (fun n => (g n).bind fun t => some t) r := Ev.bind h (Ev.now r)

theorem wrap_nat {j : Nat} (h : j < 9223372036854775807) : wrap64 ((j : Int) + 1) = ((j + 1 : Nat) : Int) := by unfold wrap64; omega
theorem wrap_id {x : Int} (h0 : -9223372036854775808 ≤ x) (h1 : x ≤ 9223372036854775807) : wrap64 x = x := by unfold wrap64; omega
theorem rdOf_nat {α : Type} (d : α) (xs : List α) (j : Nat) (h : j < xs.length) : rdOf d xs (j : Int) = xs[j] := by
  unfold rdOf
  rw [Int.toNat_natCast, List.getD_eq_getElem?_getD, List.getElem?_eq_getElem h]
  rfl
theorem toList_inj {a b : ByteArray} : a.toList = b.toList ↔ a = b := by
  constructor
  · intro h
    rw [ByteArray.toList_eq, ByteArray.toList_eq] at h
    have h2 : a.data.toList = b.data.toList := h
    cases a; cases b
    simp at h2
    rw [h2]
  · exact fun h => h ▸ rfl
theorem beq_toList (a b : ByteArray) : (a.toList == b.toList) = decide (a = b) := by
  by_cases h : a = b
  · simp [h]
  · have : a.toList ≠ b.toList := fun e => h (toList_inj.1 e)
    simp [h, this]

/-- Is a text one of a list? -/
def has (a : ByteArray) (l : List ByteArray) : Bool := l.any fun x => decide (x = a)
theorem has_nil (a : ByteArray) : has a [] = false := rfl
theorem has_cons (a x : ByteArray) (l : List ByteArray) : has a (x :: l) = (decide (x = a) || has a l) := rfl
theorem has_snoc (a x : ByteArray) (l : List ByteArray) : has a (l ++ [x]) = (has a l || decide (x = a)) := by simp [has]
theorem take_next {α : Type} {l : List α} {j : Nat} (h : j < l.length) : l.take (j + 1) = l.take j ++ [l[j]] := List.take_succ_eq_append_getElem h
theorem drop_next {α : Type} {l : List α} {j : Nat} (h : j < l.length) : l.drop j = l[j] :: l.drop (j + 1) := List.drop_eq_getElem_cons h

end Go.Proofs.Ytjfbjkodjjlkiaa.Plain
