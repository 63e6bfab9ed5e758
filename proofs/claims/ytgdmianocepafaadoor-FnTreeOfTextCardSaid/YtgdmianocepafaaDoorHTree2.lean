/- Nodes made of a text: the nodes themselves, and what they are told as. -/
import Derived.Test.YtgdmianocepafaaDoorHTree
import Derived.Test.YtgdmianocepafaaDoorPFnTreeOfTextx
import Derived.Test.YtgdmianocepafaaDoorHShelfValid
import Derived.Lib.ValidLaws
namespace Go.Proofs.YtgdmianocepafaaDoor.HTree
open Go.RowKit Go.Proofs.YtgdmianocepafaaDoorW.PrintWords Go.Proofs.YtgdmianocepafaaDoorW.PrintLast Go.Proofs.YtgdmianocepafaaDoorW.PrintMore Go.Proofs.YtgdmianocepafaaDoor.Plain Go.Proofs.YtgdmianocepafaaDoor.PFnTreeOfText

/-- A tree whose node is a scalar. -/
structure TreeAt (w : World) (r b : Nat) (tag value : ByteArray) : Prop where
  root : w.heap[r]? = some (.cells #[.slice none 0 0, .pointer (some ⟨b, 0, none⟩), .bool false, .slice none 0 0] 48 (0, 0))
  node : NodeAt w b tag value
/-- A value of twelve cells is laid at block b. -/
def put12 (W : World) (b : Nat) (a0 a1 a2 a3 a4 a5 a6 a7 a8 a9 a10 a11 : Value) : World := ((((((((((((W.setCell ⟨b, 0, none⟩ a0).setCell ⟨b, 1, none⟩ a1).setCell ⟨b, 2, none⟩ a2).setCell ⟨b, 3, none⟩ a3).setCell ⟨b, 4, none⟩ a4).setCell ⟨b, 5, none⟩ a5).setCell ⟨b, 6, none⟩ a6).setCell ⟨b, 7, none⟩ a7).setCell ⟨b, 8, none⟩ a8).setCell ⟨b, 9, none⟩ a9).setCell ⟨b, 10, none⟩ a10).setCell ⟨b, 11, none⟩ a11)
theorem put12_blk {W : World} {b : Nat} {z0 z1 z2 z3 z4 z5 z6 z7 z8 z9 z10 z11 : Value} (h : W.heap[b]? = some (.cells #[z0, z1, z2, z3, z4, z5, z6, z7, z8, z9, z10, z11] 25 (0, 0))) (a0 a1 a2 a3 a4 a5 a6 a7 a8 a9 a10 a11 : Value) : (put12 W b a0 a1 a2 a3 a4 a5 a6 a7 a8 a9 a10 a11).heap[b]? = some (.cells #[a0, a1, a2, a3, a4, a5, a6, a7, a8, a9, a10, a11] 25 (0, 0)) := by
  unfold put12
  have h1 := blk_put (cs' := #[a0, z1, z2, z3, z4, z5, z6, z7, z8, z9, z10, z11]) h 0 a0 rfl
  generalize W.setCell ⟨b, 0, none⟩ a0 = w1 at h1 ⊢
  have h2 := blk_put (cs' := #[a0, a1, z2, z3, z4, z5, z6, z7, z8, z9, z10, z11]) h1 1 a1 rfl
  generalize w1.setCell ⟨b, 1, none⟩ a1 = w2 at h2 ⊢
  have h3 := blk_put (cs' := #[a0, a1, a2, z3, z4, z5, z6, z7, z8, z9, z10, z11]) h2 2 a2 rfl
  generalize w2.setCell ⟨b, 2, none⟩ a2 = w3 at h3 ⊢
  have h4 := blk_put (cs' := #[a0, a1, a2, a3, z4, z5, z6, z7, z8, z9, z10, z11]) h3 3 a3 rfl
  generalize w3.setCell ⟨b, 3, none⟩ a3 = w4 at h4 ⊢
  have h5 := blk_put (cs' := #[a0, a1, a2, a3, a4, z5, z6, z7, z8, z9, z10, z11]) h4 4 a4 rfl
  generalize w4.setCell ⟨b, 4, none⟩ a4 = w5 at h5 ⊢
  have h6 := blk_put (cs' := #[a0, a1, a2, a3, a4, a5, z6, z7, z8, z9, z10, z11]) h5 5 a5 rfl
  generalize w5.setCell ⟨b, 5, none⟩ a5 = w6 at h6 ⊢
  have h7 := blk_put (cs' := #[a0, a1, a2, a3, a4, a5, a6, z7, z8, z9, z10, z11]) h6 6 a6 rfl
  generalize w6.setCell ⟨b, 6, none⟩ a6 = w7 at h7 ⊢
  have h8 := blk_put (cs' := #[a0, a1, a2, a3, a4, a5, a6, a7, z8, z9, z10, z11]) h7 7 a7 rfl
  generalize w7.setCell ⟨b, 7, none⟩ a7 = w8 at h8 ⊢
  have h9 := blk_put (cs' := #[a0, a1, a2, a3, a4, a5, a6, a7, a8, z9, z10, z11]) h8 8 a8 rfl
  generalize w8.setCell ⟨b, 8, none⟩ a8 = w9 at h9 ⊢
  have h10 := blk_put (cs' := #[a0, a1, a2, a3, a4, a5, a6, a7, a8, a9, z10, z11]) h9 9 a9 rfl
  generalize w9.setCell ⟨b, 9, none⟩ a9 = w10 at h10 ⊢
  have h11 := blk_put (cs' := #[a0, a1, a2, a3, a4, a5, a6, a7, a8, a9, a10, z11]) h10 10 a10 rfl
  generalize w10.setCell ⟨b, 10, none⟩ a10 = w11 at h11 ⊢
  have h12 := blk_put (cs' := #[a0, a1, a2, a3, a4, a5, a6, a7, a8, a9, a10, a11]) h11 11 a11 rfl
  generalize w11.setCell ⟨b, 11, none⟩ a11 = w12 at h12 ⊢
  exact h12
theorem put12_other (W : World) (b : Nat) (a0 a1 a2 a3 a4 a5 a6 a7 a8 a9 a10 a11 : Value) (k : Nat) (hk : k ≠ b) : (put12 W b a0 a1 a2 a3 a4 a5 a6 a7 a8 a9 a10 a11).heap[k]? = W.heap[k]? := by
  unfold put12
  repeat (rw [Below.heap_setCell _ _ _ _ (by simpa using hk)])
theorem put12_below {B : Nat} {w W : World} (h : Below B w W) {b : Nat} (hb : B ≤ b) (a0 a1 a2 a3 a4 a5 a6 a7 a8 a9 a10 a11 : Value) : Below B w (put12 W b a0 a1 a2 a3 a4 a5 a6 a7 a8 a9 a10 a11) := by
  unfold put12
  repeat (apply Below.setCell (hp := by simpa using hb))
  exact h

set_option maxHeartbeats 1000000 in
theorem doc_calls (r b : Nat) (tag value : ByteArray) (w : World) (h : TreeAt w r b tag value) : Calls Tryd.prog 13 #[.pointer (some ⟨r, 0, none⟩)] w fun e w' => e = .returned (.pointer (some ⟨b, 0, none⟩)) ∧ w = w' := by
  have c1 : w.cell? ⟨r, 1, none⟩ = some (.pointer (some ⟨b, 0, none⟩)) := (blk_cell h.root 1).trans rfl
  clear h
  go_enter Tryd.func13, Tryd.ntmps13
  go_wp2
  go_ret
  exact ⟨rfl, rfl⟩
theorem TreeAt.below {w w' : World} {r b : Nat} {tag value : ByteArray} (h : TreeAt w r b tag value) (hb : Below w.heap.size w w') : TreeAt w' r b tag value := ⟨blk_below h.root hb, blk_below h.node hb⟩

set_option maxHeartbeats 1000000 in
theorem tree_calls (r b : Nat) (tag value : ByteArray) (w : World) (h : TreeAt w r b tag value) : Calls Tryd.prog 9 #[.pointer (some ⟨r, 0, none⟩)] w fun e w' => e = .returned (dat tag value) ∧ Below w.heap.size w w' := by
  have HT := Aside0.mk h
  clear h
  go_enter Tryd.func9, Tryd.ntmps9
  go_wp2_with (first
    | (go_at_call 13; refine (doc_calls r b tag value _ (HT.out.below (below_alloc (Below.refl _ _) _))).mono ?_; rintro e w1 ⟨rfl, rfl⟩)
    | (go_at_call 15; refine (listed_calls b tag value _ (blk_alloc HT.out.node _)).mono ?_; rintro e w2 ⟨A, c, rfl, hb⟩; have n2 := Aside0.mk (below_step (below_alloc (Below.refl _ w) _) hb); have R2 := Aside0.mk (blk_below (blk_new w (.cells zd 25)) hb); have N2 := Aside0.mk (blk_below (blk_alloc HT.out.node (.cells zd 25)) hb); clear hb)
    | (go_at_call 14; refine (node_calls b tag value A c _ N2.out).mono ?_; rintro e w3 ⟨rfl, hb⟩; have n3 := Aside0.mk (below_step n2.out hb); have R3 := Aside0.mk (blk_below R2.out hb); have hf := blk_frozen R3.out; have f0 := hf 0; have f1 := hf 1; have f2 := hf 2; have f3 := hf 3; have f4 := hf 4; have f5 := hf 5; have f6 := hf 6; have f7 := hf 7; have f8 := hf 8; have f9 := hf 9; have f10 := hf 10; have f11 := hf 11; have o0 : w3.cell? ⟨w.heap.size, 0, none⟩ = some (.int .i64 0) := (blk_cell R3.out 0).trans rfl; have o1 : w3.cell? ⟨w.heap.size, 1, none⟩ = some (.int .i64 0) := (blk_cell R3.out 1).trans rfl; have o2 : w3.cell? ⟨w.heap.size, 2, none⟩ = some (.string ⟨#[]⟩) := (blk_cell R3.out 2).trans rfl; have o3 : w3.cell? ⟨w.heap.size, 3, none⟩ = some (.string ⟨#[]⟩) := (blk_cell R3.out 3).trans rfl; have o4 : w3.cell? ⟨w.heap.size, 4, none⟩ = some (.string ⟨#[]⟩) := (blk_cell R3.out 4).trans rfl; have o5 : w3.cell? ⟨w.heap.size, 5, none⟩ = some (.string ⟨#[]⟩) := (blk_cell R3.out 5).trans rfl; have o6 : w3.cell? ⟨w.heap.size, 6, none⟩ = some (.string ⟨#[]⟩) := (blk_cell R3.out 6).trans rfl; have o7 : w3.cell? ⟨w.heap.size, 7, none⟩ = some (.string ⟨#[]⟩) := (blk_cell R3.out 7).trans rfl; have o8 : w3.cell? ⟨w.heap.size, 8, none⟩ = some (.int .i64 0) := (blk_cell R3.out 8).trans rfl; have o9 : w3.cell? ⟨w.heap.size, 9, none⟩ = some (.int .i64 0) := (blk_cell R3.out 9).trans rfl; have o10 : w3.cell? ⟨w.heap.size, 10, none⟩ = some (.int .i64 0) := (blk_cell R3.out 10).trans rfl; have o11 : w3.cell? ⟨w.heap.size, 11, none⟩ = some (.slice none 0 0) := (blk_cell R3.out 11).trans rfl; clear hb hf))

  refine bodyPost_ret (results_cell_row rfl _ _ w.heap.size 25 _ (0, 0) _ rfl (put12_blk R3.out _ _ _ _ _ _ _ _ _ _ _ _) rfl rfl rfl) rfl ⟨rfl, put12_below n3.out (Nat.le_refl _) _ _ _ _ _ _ _ _ _ _ _ _⟩

end Go.Proofs.YtgdmianocepafaaDoor.HTree
