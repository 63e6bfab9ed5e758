/- What the thin package's GvkTexts comes to: the three texts of a group, version and kind. -/
import Derived.Test.YtfdgbgjbncakfaaHGvkShort
import Derived.Test.YtfdgbgjbncakfaaPgvkx
import Derived.Deep.RegionHeld3
import Derived.Deep.DrawnRows
namespace Go.Proofs.Ytfdgbgjbncakfaa.HGvk
open Go.RowKit Go.Proofs.YtfdgbgjbncakfaaW.PrintWords Go.Proofs.YtfdgbgjbncakfaaW.PrintLast Go.Proofs.YtfdgbgjbncakfaaW.PrintMore Go.Proofs.Ytfdgbgjbncakfaa.Plain

theorem gvk_calls (g v k n s : ByteArray) (w : World) : Calls Try.prog 20 #[.agg #[.string g, .string v, .string k, .string n, .string s]] w fun e w' => e = .returned (.agg #[.string g, .string v, .string k, .bool false]) ∧ Below w.heap.size w w' :=
  Pgvk.impl_gvk.calls g v k n s g v k false w rfl

theorem keep_call {w w' w5 : World} {b : Nat} {x0 x1 x2 x3 : Value} (h : w'.cell? ⟨b, 0, none⟩ = some x0 ∧ w'.cell? ⟨b, 1, none⟩ = some x1 ∧ w'.cell? ⟨b, 2, none⟩ = some x2 ∧ w'.cell? ⟨b, 3, none⟩ = some x3 ∧ b < w'.heap.size ∧ Below w.heap.size w w') (h5 : Below w'.heap.size w' w5) :
    w5.cell? ⟨b, 0, none⟩ = some x0 ∧ w5.cell? ⟨b, 1, none⟩ = some x1 ∧ w5.cell? ⟨b, 2, none⟩ = some x2 ∧ w5.cell? ⟨b, 3, none⟩ = some x3 ∧ b < w5.heap.size ∧ Below w.heap.size w w5 := by
  obtain ⟨h0, h1, h2, h3, hb, hB⟩ := h
  exact ⟨(h5.cell (p := ⟨b, 0, none⟩) hb).trans h0, (h5.cell (p := ⟨b, 1, none⟩) hb).trans h1, (h5.cell (p := ⟨b, 2, none⟩) hb).trans h2, (h5.cell (p := ⟨b, 3, none⟩) hb).trans h3, Nat.lt_of_lt_of_le hb h5.size, below_step hB h5⟩
theorem start_keep {w w2 : World} {x0 x1 x2 x3 : Value} (h : Below w.heap.size w w2) :
    (w2.alloc (.cells #[x0, x1, x2, x3] 38)).cell? ⟨w2.heap.size, 0, none⟩ = some x0 ∧ (w2.alloc (.cells #[x0, x1, x2, x3] 38)).cell? ⟨w2.heap.size, 1, none⟩ = some x1 ∧ (w2.alloc (.cells #[x0, x1, x2, x3] 38)).cell? ⟨w2.heap.size, 2, none⟩ = some x2 ∧ (w2.alloc (.cells #[x0, x1, x2, x3] 38)).cell? ⟨w2.heap.size, 3, none⟩ = some x3 ∧ w2.heap.size < (w2.alloc (.cells #[x0, x1, x2, x3] 38)).heap.size ∧ Below w.heap.size w (w2.alloc (.cells #[x0, x1, x2, x3] 38)) := by
  have h0 := blk_new w2 (.cells #[x0, x1, x2, x3] 38)
  exact ⟨(blk_cell h0 0).trans rfl, (blk_cell h0 1).trans rfl, (blk_cell h0 2).trans rfl, (blk_cell h0 3).trans rfl, by rw [World.size_alloc]; omega, below_alloc h _⟩
theorem keep_drew {w w' : World} {b : Nat} {x0 x1 x2 x3 : Value} (h : w'.cell? ⟨b, 0, none⟩ = some x0 ∧ w'.cell? ⟨b, 1, none⟩ = some x1 ∧ w'.cell? ⟨b, 2, none⟩ = some x2 ∧ w'.cell? ⟨b, 3, none⟩ = some x3 ∧ b < w'.heap.size ∧ Below w.heap.size w w') :
    w'.drew.cell? ⟨b, 0, none⟩ = some x0 ∧ w'.drew.cell? ⟨b, 1, none⟩ = some x1 ∧ w'.drew.cell? ⟨b, 2, none⟩ = some x2 ∧ w'.drew.cell? ⟨b, 3, none⟩ = some x3 ∧ b < w'.drew.heap.size ∧ Below w.heap.size w w'.drew :=
  ⟨h.1, h.2.1, h.2.2.1, h.2.2.2.1, h.2.2.2.2.1, h.2.2.2.2.2.drew⟩

set_option maxHeartbeats 2000000 in
theorem texts_calls (g v k n s : ByteArray) (w : World) (hg : g.size ≤ 1000) (hv : v.size ≤ 1000) (hk : k.size ≤ 1000) :
    Calls Try.prog 11 #[.agg #[.string g, .string v, .string k, .string n, .string s]] w fun e w' => e = .returned (.tuple #[.string (textB g v k), .string (apiB g v), .string (shortB g v k)]) ∧ Below w.heap.size w w' := by
  have HG := Aside0.mk hg
  have HV := Aside0.mk hv
  have HK := Aside0.mk hk
  clear hg hv hk
  go_enter Try.func11, Try.ntmps11
  go_upto_region 2 with (go_at_call 20; refine (gvk_calls g v k n s _).mono ?_; rintro e w2 ⟨rfl, hb⟩; have HB := Aside0.mk (below_step (below_alloc (Below.refl _ _) _) hb); clear hb)
  go_region_held3 (fun w' => w'.cell? ⟨w2.heap.size, 0, none⟩ = some (.string g) ∧ w'.cell? ⟨w2.heap.size, 1, none⟩ = some (.string v) ∧ w'.cell? ⟨w2.heap.size, 2, none⟩ = some (.string k) ∧ w'.cell? ⟨w2.heap.size, 3, none⟩ = some (.bool false) ∧ w2.heap.size < w'.heap.size ∧ Below w.heap.size w w')
    (first | exact hkeep.out | exact start_keep HB.out | exact keep_drew (start_keep HB.out) | (go_keep))
    (first
      | (go_at_call 21; refine (string_calls g v k false _ HG.out HV.out HK.out).mono ?_; rintro e w5 ⟨rfl, hb5⟩; have hkeep := Aside0.mk (keep_call ‹_› hb5); clear hb5)
      | (go_at_call 22; refine (api_calls g v k false _ HG.out HV.out).mono ?_; rintro e w5 ⟨rfl, hb5⟩; have hkeep := Aside0.mk (keep_call ‹_› hb5); clear hb5)
      | (go_at_call 23; refine (short_calls g v k false _ HG.out HV.out HK.out).mono ?_; rintro e w5 ⟨rfl, hb5⟩; have hkeep := Aside0.mk (keep_call ‹_› hb5); clear hb5))
  all_goals go_wp2
  all_goals go_ret3
  all_goals exact ⟨rfl, hkeep.out.2.2.2.2.2⟩

end Go.Proofs.Ytfdgbgjbncakfaa.HGvk
