/- Nodes made of a text: what they come to as data. -/
import Derived.Test.YtgdmianocepafaaDoorProg
import Derived.Test.YtgdmianocepafaaDoorWMore
import Derived.Test.YtgdmianocepafaaDoorPlain
import Derived.Deep.LoopGhost
import Derived.Deep.QuietTactic
import Derived.Deep.DeepMust
import Derived.BigQuiet
import Derived.RegionTactic
import Derived.Deep.RegionHeld3
import Derived.Deep.Cut
import Derived.Laws.OwnMore
import Derived.Maps.AppendAt
import Derived.OwnWalk
import Derived.WalkKit
import Derived.WalkSpells
namespace Go.Proofs.YtgdmianocepafaaDoor.HTree
open Go.RowKit Go.Proofs.YtgdmianocepafaaDoorW.PrintWords Go.Proofs.YtgdmianocepafaaDoorW.PrintLast Go.Proofs.YtgdmianocepafaaDoorW.PrintMore Go.Proofs.YtgdmianocepafaaDoor.Plain

abbrev E0 : ByteArray := ⟨#[]⟩
/-- The cells of a scalar. -/
def sc (tag value : ByteArray) : Array Value := #[.int .u32 8, .int .u32 0, .string tag, .string value, .string E0, .pointer none, .slice none 0 0, .string E0, .string E0, .string E0, .int .i64 0, .int .i64 0]
/-- A scalar's node at block b. -/
def NodeAt (w : World) (b : Nat) (tag value : ByteArray) : Prop := w.heap[b]? = some (.cells (sc tag value) 43 (0, 0))
theorem NodeAt.cells {w : World} {b : Nat} {tag value : ByteArray} (h : NodeAt w b tag value) : w.cell? ⟨b, 0, none⟩ = some (.int .u32 8) ∧ w.cell? ⟨b, 1, none⟩ = some (.int .u32 0) ∧ w.cell? ⟨b, 2, none⟩ = some (.string tag) ∧ w.cell? ⟨b, 3, none⟩ = some (.string value) ∧ w.cell? ⟨b, 4, none⟩ = some (.string E0) ∧ w.cell? ⟨b, 5, none⟩ = some (.pointer none) ∧ w.cell? ⟨b, 6, none⟩ = some (.slice none 0 0) ∧
    w.cell? ⟨b, 7, none⟩ = some (.string E0) ∧ w.cell? ⟨b, 8, none⟩ = some (.string E0) ∧ w.cell? ⟨b, 9, none⟩ = some (.string E0) ∧ w.cell? ⟨b, 10, none⟩ = some (.int .i64 0) ∧ w.cell? ⟨b, 11, none⟩ = some (.int .i64 0) :=
  ⟨(blk_cell h 0).trans rfl, (blk_cell h 1).trans rfl, (blk_cell h 2).trans rfl, (blk_cell h 3).trans rfl, (blk_cell h 4).trans rfl, (blk_cell h 5).trans rfl, (blk_cell h 6).trans rfl, (blk_cell h 7).trans rfl, (blk_cell h 8).trans rfl, (blk_cell h 9).trans rfl, (blk_cell h 10).trans rfl, (blk_cell h 11).trans rfl⟩
/-- The data that a scalar is told as. -/
abbrev dat (tag value : ByteArray) : Value := .agg #[.int .i64 8, .int .i64 0, .string tag, .string value, .string E0, .string E0, .string E0, .string E0, .int .i64 0, .int .i64 0, .int .i64 (-1), .slice none 0 0]

theorem info34 : (Tryd.prog.info? 34).map (fun i => (i.zero, i.size, i.bytes)) = some (some (.pointer none), 1, 8) := by kernel_rfl
def LPost (w : World) (e : Ending) (w' : World) : Prop := ∃ A c, e = .returned (.slice A 1 c) ∧ Below w.heap.size w w'
set_option maxHeartbeats 1000000 in
theorem listed_calls (b : Nat) (tag value : ByteArray) (w : World) (h : NodeAt w b tag value) : Calls Tryd.prog 15 #[.pointer (some ⟨b, 0, none⟩), .slice none 0 0] w (LPost w) := by
  obtain ⟨i0, hi, hz0, hz1, hz2⟩ := info_parts info34
  have HN := Aside0.mk h
  clear h
  go_enter Tryd.func15, Tryd.ntmps15
  go_wp2_with (refine gate_builtin (b := .append) (xs := #[.tmp 7, .tmp 9]) rfl ?_; at_builtin; go_must (refine wpList_append_own_at _ rfl _ _ 37 rfl 0 34 i0 (.pointer none) 1 8 Tryd.underlying37 hi hz0 hz1 hz2 rfl (by decide) (.slice none 0 0) 0 [] rfl (own_nil _ _ _ _) ⟨w.heap.size, 0, none⟩ 1 1 [_] rfl rfl (cell_one_new _ _ _) (by intro u hu; simp at hu; subst hu; rfl) (by unfold maxLen; omega) (by omega) (Nat.zero_le _) ?_; intro v' w' hown hg _ hat; have hn : NodeAt w' b tag value := (hg.block b (by rw [World.size_alloc]; have := blk_lt HN.out; omega) (by simp [Value.ownBlock])).trans (blk_alloc HN.out _); have HB := Aside0.mk (show Below w.heap.size w w' from below_step (below_alloc (Below.refl _ w) _) ⟨hg.os, hg.tape, hg.output, hg.size, fun k hk => hg.block k hk (by simp [Value.ownBlock])⟩); obtain ⟨A, c, rfl⟩ := own_slice hown; obtain ⟨c0, c1, c2, c3, c4, c5, c6, c7, c8, c9, c10, c11⟩ := hn.cells; clear hown hg hat hn))
  go_loop [1, 16] (fun l i => l = .slice A 1 c ∧ i = .int .i64 0) (fun _ _ => 0)
  case atStart => exact ⟨rfl, rfl⟩
  case round =>
    obtain ⟨rfl, rfl⟩ := hrel
    go_wp2_with fail
    go_ret
    exact ⟨_, _, rfl, HB.out⟩

abbrev zd : Array Value := #[.int .i64 0, .int .i64 0, .string ⟨#[]⟩, .string ⟨#[]⟩, .string ⟨#[]⟩, .string ⟨#[]⟩, .string ⟨#[]⟩, .string ⟨#[]⟩, .int .i64 0, .int .i64 0, .int .i64 0, .slice none 0 0]
/-- What stays through the region. -/
structure NK (w : World) (b : Nat) (tag value : ByteArray) (W : World) : Prop where
  node : NodeAt W b tag value
  res : W.heap[w.heap.size]? = some (.cells zd 25 (0, 0))
  below : Below w.heap.size w W
theorem NK.drew {w : World} {b : Nat} {tag value : ByteArray} {W : World} (h : NK w b tag value W) : NK w b tag value W.drew := ⟨blk_drew h.node, blk_drew h.res, below_drew h.below⟩
theorem NK.alloc {w : World} {b : Nat} {tag value : ByteArray} {W : World} (h : NK w b tag value W) (o : Obj) : NK w b tag value (W.alloc o) := ⟨blk_alloc h.node o, blk_alloc h.res o, below_alloc h.below o⟩
theorem NK.all {w : World} {b : Nat} {tag value : ByteArray} {w' : World} (h : NK w b tag value w') : w'.cell? ⟨b, 0, none⟩ = some (.int .u32 8) ∧ w'.cell? ⟨b, 1, none⟩ = some (.int .u32 0) ∧ w'.cell? ⟨b, 2, none⟩ = some (.string tag) ∧ w'.cell? ⟨b, 3, none⟩ = some (.string value) ∧ w'.cell? ⟨b, 4, none⟩ = some (.string E0) ∧ w'.cell? ⟨b, 5, none⟩ = some (.pointer none) ∧ w'.cell? ⟨b, 6, none⟩ = some (.slice none 0 0) ∧ w'.cell? ⟨b, 7, none⟩ = some (.string E0) ∧ w'.cell? ⟨b, 8, none⟩ = some (.string E0) ∧ w'.cell? ⟨b, 9, none⟩ = some (.string E0) ∧ w'.cell? ⟨b, 10, none⟩ = some (.int .i64 0) ∧ w'.cell? ⟨b, 11, none⟩ = some (.int .i64 0) ∧ b < w'.heap.size ∧ NK w b tag value w' := by
  obtain ⟨c0, c1, c2, c3, c4, c5, c6, c7, c8, c9, c10, c11⟩ := h.node.cells
  exact ⟨c0, c1, c2, c3, c4, c5, c6, c7, c8, c9, c10, c11, blk_lt h.node, h⟩
set_option maxHeartbeats 1000000 in
theorem node_calls (b : Nat) (tag value : ByteArray) (A : Option Addr) (c : Nat) (w : World) (h : NodeAt w b tag value) : Calls Tryd.prog 14 #[.pointer (some ⟨b, 0, none⟩), .slice A 1 c] w fun e w' => e = .returned (dat tag value) ∧ Below w.heap.size w w' := by
  have HN := Aside0.mk h
  clear h
  go_enter Tryd.func14, Tryd.ntmps14
  go_wp2_with fail
  have HK := Aside0.mk (NK.mk (w := w) (b := b) (tag := tag) (value := value) (W := w.alloc (.cells zd 25)) (blk_alloc HN.out _) (blk_new w _) (below_alloc (Below.refl w.heap.size w) _))
  go_region_held3 (fun w' => w'.cell? ⟨b, 0, none⟩ = some (.int .u32 8) ∧ w'.cell? ⟨b, 1, none⟩ = some (.int .u32 0) ∧ w'.cell? ⟨b, 2, none⟩ = some (.string tag) ∧ w'.cell? ⟨b, 3, none⟩ = some (.string value) ∧ w'.cell? ⟨b, 4, none⟩ = some (.string E0) ∧ w'.cell? ⟨b, 5, none⟩ = some (.pointer none) ∧ w'.cell? ⟨b, 6, none⟩ = some (.slice none 0 0) ∧ w'.cell? ⟨b, 7, none⟩ = some (.string E0) ∧ w'.cell? ⟨b, 8, none⟩ = some (.string E0) ∧ w'.cell? ⟨b, 9, none⟩ = some (.string E0) ∧ w'.cell? ⟨b, 10, none⟩ = some (.int .i64 0) ∧ w'.cell? ⟨b, 11, none⟩ = some (.int .i64 0) ∧ b < w'.heap.size ∧ NK w b tag value w')
    (first | exact HK.out.all | exact HK.out.drew.all | exact (HK.out.drew.alloc _).all | (go_keep))
    (first | fail)
  have hk := (HK.out.alloc (.cells #[.int .i64 8, .int .i64 0, .string tag, .string value, .string E0, .string E0, .string E0, .string E0, .int .i64 0, .int .i64 0, .int .i64 (-1), .slice none 0 0] 25)).drew
  obtain ⟨c0, c1, c2, c3, c4, c5, c6, c7, c8, c9, c10, c11⟩ := hk.node.cells
  have lg : b < w.heap.size := blk_lt HN.out
  clear hk
  go_wp2_with fail
  go_loop [80] (fun i => i = .int .i64 0) (fun _ => 0)
  case atStart => rfl
  case round =>
    subst hrel
    go_wp2_with fail
    exact bodyPost_ret (results_cell_row rfl _ _ w.heap.size 25 _ (0, 0) _ rfl (blk_drew (blk_alloc (blk_new w _) _)) rfl rfl rfl) rfl ⟨rfl, below_drew (below_alloc (below_alloc (Below.refl _ _) _) _)⟩

end Go.Proofs.YtgdmianocepafaaDoor.HTree
