/- What the reference's text of an id, and the thin package's IdTexts, come to. -/
import Derived.Test.YtfdgbgjbncakfaaHIdTexts
namespace Go.Proofs.Ytfdgbgjbncakfaa.HGvk
open Go.RowKit Go.Proofs.YtfdgbgjbncakfaaW.PrintWords Go.Proofs.YtfdgbgjbncakfaaW.PrintLast Go.Proofs.YtfdgbgjbncakfaaW.PrintMore Go.Proofs.Ytfdgbgjbncakfaa.Plain Go.Proofs.Ytfdgbgjbncakfaa.PIdEqual

/-- The block of an id, kept. -/
def Keep5 (w : World) (b : Nat) (x0 x1 x2 x3 x4 : Value) (w' : World) : Prop :=
  w'.cell? ⟨b, 0, none⟩ = some x0 ∧ w'.cell? ⟨b, 1, none⟩ = some x1 ∧ w'.cell? ⟨b, 2, none⟩ = some x2 ∧ w'.cell? ⟨b, 3, none⟩ = some x3 ∧ w'.cell? ⟨b, 4, none⟩ = some x4 ∧ b < w'.heap.size ∧ Below w.heap.size w w'
theorem keep5_call {w w' w5 : World} {b : Nat} {x0 x1 x2 x3 x4 : Value} (h : w'.cell? ⟨b, 0, none⟩ = some x0 ∧ w'.cell? ⟨b, 1, none⟩ = some x1 ∧ w'.cell? ⟨b, 2, none⟩ = some x2 ∧ w'.cell? ⟨b, 3, none⟩ = some x3 ∧ w'.cell? ⟨b, 4, none⟩ = some x4 ∧ b < w'.heap.size ∧ Below w.heap.size w w') (h5 : Below w'.heap.size w' w5) :
    w5.cell? ⟨b, 0, none⟩ = some x0 ∧ w5.cell? ⟨b, 1, none⟩ = some x1 ∧ w5.cell? ⟨b, 2, none⟩ = some x2 ∧ w5.cell? ⟨b, 3, none⟩ = some x3 ∧ w5.cell? ⟨b, 4, none⟩ = some x4 ∧ b < w5.heap.size ∧ Below w.heap.size w w5 := by
  obtain ⟨h0, h1, h2, h3, h4, hb, hB⟩ := h
  exact ⟨(h5.cell (p := ⟨b, 0, none⟩) hb).trans h0, (h5.cell (p := ⟨b, 1, none⟩) hb).trans h1, (h5.cell (p := ⟨b, 2, none⟩) hb).trans h2, (h5.cell (p := ⟨b, 3, none⟩) hb).trans h3, (h5.cell (p := ⟨b, 4, none⟩) hb).trans h4, Nat.lt_of_lt_of_le hb h5.size, below_step hB h5⟩
theorem start5 {w w2 : World} {t : TypeId} {x0 x1 x2 x3 x4 : Value} (h : Below w.heap.size w w2) :
    (w2.alloc (.cells #[x0, x1, x2, x3, x4] t)).cell? ⟨w2.heap.size, 0, none⟩ = some x0 ∧ (w2.alloc (.cells #[x0, x1, x2, x3, x4] t)).cell? ⟨w2.heap.size, 1, none⟩ = some x1 ∧ (w2.alloc (.cells #[x0, x1, x2, x3, x4] t)).cell? ⟨w2.heap.size, 2, none⟩ = some x2 ∧ (w2.alloc (.cells #[x0, x1, x2, x3, x4] t)).cell? ⟨w2.heap.size, 3, none⟩ = some x3 ∧ (w2.alloc (.cells #[x0, x1, x2, x3, x4] t)).cell? ⟨w2.heap.size, 4, none⟩ = some x4 ∧ w2.heap.size < (w2.alloc (.cells #[x0, x1, x2, x3, x4] t)).heap.size ∧ Below w.heap.size w (w2.alloc (.cells #[x0, x1, x2, x3, x4] t)) := by
  have h0 := blk_new w2 (.cells #[x0, x1, x2, x3, x4] t)
  exact ⟨(blk_cell h0 0).trans rfl, (blk_cell h0 1).trans rfl, (blk_cell h0 2).trans rfl, (blk_cell h0 3).trans rfl, (blk_cell h0 4).trans rfl, by rw [World.size_alloc]; omega, below_alloc h _⟩
theorem keep5_drew {w w' : World} {b : Nat} {x0 x1 x2 x3 x4 : Value} (h : w'.cell? ⟨b, 0, none⟩ = some x0 ∧ w'.cell? ⟨b, 1, none⟩ = some x1 ∧ w'.cell? ⟨b, 2, none⟩ = some x2 ∧ w'.cell? ⟨b, 3, none⟩ = some x3 ∧ w'.cell? ⟨b, 4, none⟩ = some x4 ∧ b < w'.heap.size ∧ Below w.heap.size w w') :
    w'.drew.cell? ⟨b, 0, none⟩ = some x0 ∧ w'.drew.cell? ⟨b, 1, none⟩ = some x1 ∧ w'.drew.cell? ⟨b, 2, none⟩ = some x2 ∧ w'.drew.cell? ⟨b, 3, none⟩ = some x3 ∧ w'.drew.cell? ⟨b, 4, none⟩ = some x4 ∧ b < w'.drew.heap.size ∧ Below w.heap.size w w'.drew :=
  ⟨h.1, h.2.1, h.2.2.1, h.2.2.2.1, h.2.2.2.2.1, h.2.2.2.2.2.1, h.2.2.2.2.2.2.drew⟩

theorem idB_eq (g v k n s : ByteArray) : textB g v k ++ sl ++ orB n noN ++ pt ++ orB s noS = idB g v k n s := by
  unfold idB
  simp only [ByteArray.append_assoc]
theorem idr1 {T : ByteArray} (h : T.size ≤ 4000) : ¬ 9223372036854775807 < T.size + 1 := by omega
theorem idr2 {T n : ByteArray} (h : T.size ≤ 4000) (hn : n.size ≤ 1000) : ¬ 9223372036854775807 < T.size + 1 + n.size := by omega
theorem idr3 {T n : ByteArray} (h : T.size ≤ 4000) (hn : n.size ≤ 1000) : ¬ 9223372036854775807 < T.size + 1 + n.size + 1 := by omega
theorem idr4 {T n s : ByteArray} (h : T.size ≤ 4000) (hn : n.size ≤ 1000) (hs : s.size ≤ 1000) : ¬ 9223372036854775807 < T.size + 1 + n.size + 1 + s.size := by omega

set_option maxHeartbeats 4000000 in
theorem ids_calls (g v k n s : ByteArray) (w : World) (hg : g.size ≤ 1000) (hv : v.size ≤ 1000) (hk : k.size ≤ 1000) (hn : n.size ≤ 1000) (hs : s.size ≤ 1000) :
    Calls Try.prog 14 #[.agg #[.string g, .string v, .string k, .string n, .string s]] w fun e w' => e = .returned (.string (idB g v k n s)) ∧ Below w.heap.size w w' := by
  have HG := Aside0.mk hg
  have HV := Aside0.mk hv
  have HK := Aside0.mk hk
  have S1 := Aside0.mk (show (orB n noN).size ≤ 1000 from or_size hn (by decide))
  have S2 := Aside0.mk (show (orB s noS).size ≤ 1000 from or_size hs (by decide))
  have HTS := Aside0.mk (text_size hg hv hk)
  have r1 := idr1 HTS.out
  have r2 := idr2 HTS.out S1.out
  have r3 := idr3 HTS.out S1.out
  have r4 := idr4 HTS.out S1.out S2.out
  clear hg hv hk hn hs
  go_enter Try.func14, Try.ntmps14
  go_upto_region 1 with (fail)
  go_region_held3 (fun w' => w'.cell? ⟨w.heap.size, 0, none⟩ = some (.string g) ∧ w'.cell? ⟨w.heap.size, 1, none⟩ = some (.string v) ∧ w'.cell? ⟨w.heap.size, 2, none⟩ = some (.string k) ∧ w'.cell? ⟨w.heap.size, 3, none⟩ = some (.string n) ∧ w'.cell? ⟨w.heap.size, 4, none⟩ = some (.string s) ∧ w.heap.size < w'.heap.size ∧ Below w.heap.size w w')
    (first | exact hkeep.out | exact start5 (Below.refl _ _) | exact keep5_drew (start5 (Below.refl _ _)) | (go_keep))
    (first
      | (go_at_call 12; refine (spec_calls g v k n s _ HG.out HV.out HK.out).mono ?_; rintro e w5 ⟨rfl, hb5⟩; have hkeep := Aside0.mk (keep5_call ‹_› hb5); clear hb5)
      | (go_at_call 24; refine (or_calls n noN _).mono ?_; rintro e w5 ⟨rfl, rfl⟩; have hkeep := Aside0.mk ‹_ ∧ _›)
      | (go_at_call 24; refine (or_calls s noS _).mono ?_; rintro e w5 ⟨rfl, rfl⟩; have hkeep := Aside0.mk ‹_ ∧ _›))
  all_goals go_wp2
  all_goals go_ret
  all_goals exact ⟨by rw [idB_eq]; rfl, hkeep.out.2.2.2.2.2.2⟩

theorem keep6_call {w w' w5 : World} {b : Nat} {x0 x1 x2 x3 x4 x5 : Value} (h : w'.cell? ⟨b, 0, none⟩ = some x0 ∧ w'.cell? ⟨b, 1, none⟩ = some x1 ∧ w'.cell? ⟨b, 2, none⟩ = some x2 ∧ w'.cell? ⟨b, 3, none⟩ = some x3 ∧ w'.cell? ⟨b, 4, none⟩ = some x4 ∧ w'.cell? ⟨b, 5, none⟩ = some x5 ∧ b < w'.heap.size ∧ Below w.heap.size w w') (hz : Below w'.heap.size w' w5) :
    w5.cell? ⟨b, 0, none⟩ = some x0 ∧ w5.cell? ⟨b, 1, none⟩ = some x1 ∧ w5.cell? ⟨b, 2, none⟩ = some x2 ∧ w5.cell? ⟨b, 3, none⟩ = some x3 ∧ w5.cell? ⟨b, 4, none⟩ = some x4 ∧ w5.cell? ⟨b, 5, none⟩ = some x5 ∧ b < w5.heap.size ∧ Below w.heap.size w w5 := by
  obtain ⟨h0, h1, h2, h3, h4, h5, hb, hB⟩ := h
  exact ⟨(hz.cell (p := ⟨b, 0, none⟩) hb).trans h0, (hz.cell (p := ⟨b, 1, none⟩) hb).trans h1, (hz.cell (p := ⟨b, 2, none⟩) hb).trans h2, (hz.cell (p := ⟨b, 3, none⟩) hb).trans h3, (hz.cell (p := ⟨b, 4, none⟩) hb).trans h4, (hz.cell (p := ⟨b, 5, none⟩) hb).trans h5, Nat.lt_of_lt_of_le hb hz.size, below_step hB hz⟩
theorem keep6_drew {w w' : World} {b : Nat} {x0 x1 x2 x3 x4 x5 : Value} (h : w'.cell? ⟨b, 0, none⟩ = some x0 ∧ w'.cell? ⟨b, 1, none⟩ = some x1 ∧ w'.cell? ⟨b, 2, none⟩ = some x2 ∧ w'.cell? ⟨b, 3, none⟩ = some x3 ∧ w'.cell? ⟨b, 4, none⟩ = some x4 ∧ w'.cell? ⟨b, 5, none⟩ = some x5 ∧ b < w'.heap.size ∧ Below w.heap.size w w') :
    w'.drew.cell? ⟨b, 0, none⟩ = some x0 ∧ w'.drew.cell? ⟨b, 1, none⟩ = some x1 ∧ w'.drew.cell? ⟨b, 2, none⟩ = some x2 ∧ w'.drew.cell? ⟨b, 3, none⟩ = some x3 ∧ w'.drew.cell? ⟨b, 4, none⟩ = some x4 ∧ w'.drew.cell? ⟨b, 5, none⟩ = some x5 ∧ b < w'.drew.heap.size ∧ Below w.heap.size w w'.drew :=
  ⟨h.1, h.2.1, h.2.2.1, h.2.2.2.1, h.2.2.2.2.1, h.2.2.2.2.2.1, h.2.2.2.2.2.2.1, h.2.2.2.2.2.2.2.drew⟩
theorem keep6_of {w w' : World} {b : Nat} {t : TypeId} {x0 x1 x2 x3 x4 x5 : Value} (hB : Below w.heap.size w w') (h : w'.heap[b]? = some (.cells #[x0, x1, x2, x3, x4, x5] t (0, 0))) : w'.cell? ⟨b, 0, none⟩ = some x0 ∧ w'.cell? ⟨b, 1, none⟩ = some x1 ∧ w'.cell? ⟨b, 2, none⟩ = some x2 ∧ w'.cell? ⟨b, 3, none⟩ = some x3 ∧ w'.cell? ⟨b, 4, none⟩ = some x4 ∧ w'.cell? ⟨b, 5, none⟩ = some x5 ∧ b < w'.heap.size ∧ Below w.heap.size w w' :=
  ⟨(blk_cell h 0).trans rfl, (blk_cell h 1).trans rfl, (blk_cell h 2).trans rfl, (blk_cell h 3).trans rfl, (blk_cell h 4).trans rfl, (blk_cell h 5).trans rfl, (Array.getElem?_eq_some_iff.1 h).1, hB⟩

theorem start6 {w w2 : World} {t : TypeId} {x0 x1 x2 x3 x4 x5 : Value} (h : Below w.heap.size w w2) : (w2.alloc (.cells #[x0, x1, x2, x3, x4, x5] t)).cell? ⟨w2.heap.size, 0, none⟩ = some x0 ∧ (w2.alloc (.cells #[x0, x1, x2, x3, x4, x5] t)).cell? ⟨w2.heap.size, 1, none⟩ = some x1 ∧ (w2.alloc (.cells #[x0, x1, x2, x3, x4, x5] t)).cell? ⟨w2.heap.size, 2, none⟩ = some x2 ∧ (w2.alloc (.cells #[x0, x1, x2, x3, x4, x5] t)).cell? ⟨w2.heap.size, 3, none⟩ = some x3 ∧ (w2.alloc (.cells #[x0, x1, x2, x3, x4, x5] t)).cell? ⟨w2.heap.size, 4, none⟩ = some x4 ∧ (w2.alloc (.cells #[x0, x1, x2, x3, x4, x5] t)).cell? ⟨w2.heap.size, 5, none⟩ = some x5 ∧ w2.heap.size < (w2.alloc (.cells #[x0, x1, x2, x3, x4, x5] t)).heap.size ∧ Below w.heap.size w (w2.alloc (.cells #[x0, x1, x2, x3, x4, x5] t)) := by
  have h0 := blk_new w2 (.cells #[x0, x1, x2, x3, x4, x5] t)
  exact ⟨(blk_cell h0 0).trans rfl, (blk_cell h0 1).trans rfl, (blk_cell h0 2).trans rfl, (blk_cell h0 3).trans rfl, (blk_cell h0 4).trans rfl, (blk_cell h0 5).trans rfl, by rw [World.size_alloc]; omega, below_alloc h _⟩

theorem id_calls (g v k n s : ByteArray) (w : World) : Calls Try.prog 16 #[.agg #[.string g, .string v, .string k, .string n, .string s]] w fun e w' => e = .returned (.agg #[.string g, .string v, .string k, .bool false, .string n, .string s]) ∧ Below w.heap.size w w' :=
  impl_id.calls g v k n s g v k false n s w rfl

set_option maxHeartbeats 4000000 in
theorem idtexts_calls (g v k n s : ByteArray) (w : World) (hg : g.size ≤ 1000) (hv : v.size ≤ 1000) (hk : k.size ≤ 1000) (hn : n.size ≤ 1000) (hs : s.size ≤ 1000) :
    Calls Try.prog 13 #[.agg #[.string g, .string v, .string k, .string n, .string s]] w fun e w' => e = .returned (.tuple #[.string (idB g v k n s), .string (orB s dflt)]) ∧ Below w.heap.size w w' := by
  have HG := Aside0.mk hg
  have HV := Aside0.mk hv
  have HK := Aside0.mk hk
  have HN := Aside0.mk hn
  have HS := Aside0.mk hs
  clear hg hv hk hn hs
  go_enter Try.func13, Try.ntmps13
  go_upto_region 2 with (go_at_call 16; refine (id_calls g v k n s _).mono ?_; rintro e w2 ⟨rfl, hb⟩; have HB := Aside0.mk (below_step (below_alloc (Below.refl _ _) _) hb); clear hb)
  go_region_held3 (fun w' => w'.cell? ⟨w2.heap.size, 0, none⟩ = some (.string g) ∧ w'.cell? ⟨w2.heap.size, 1, none⟩ = some (.string v) ∧ w'.cell? ⟨w2.heap.size, 2, none⟩ = some (.string k) ∧ w'.cell? ⟨w2.heap.size, 3, none⟩ = some (.bool false) ∧ w'.cell? ⟨w2.heap.size, 4, none⟩ = some (.string n) ∧ w'.cell? ⟨w2.heap.size, 5, none⟩ = some (.string s) ∧ w2.heap.size < w'.heap.size ∧ Below w.heap.size w w')
    (first | exact hkeep.out | exact start6 HB.out | exact keep6_drew (start6 HB.out) | (go_keep))
    (first
      | (go_at_call 25; refine (idstr_calls g v k n s false _ HG.out HV.out HK.out HN.out HS.out).mono ?_; rintro e w5 ⟨rfl, hb5⟩; have hkeep := Aside0.mk (keep6_call ‹_› hb5); clear hb5)
      | (go_at_call 26; refine (eff_calls g v k n s _).mono ?_; rintro e w5 ⟨rfl, hb5⟩; have hkeep := Aside0.mk (keep6_call ‹_› hb5); clear hb5))
  all_goals go_wp2
  all_goals go_ret2
  all_goals exact ⟨rfl, hkeep.out.2.2.2.2.2.2.2⟩

end Go.Proofs.Ytfdgbgjbncakfaa.HGvk
