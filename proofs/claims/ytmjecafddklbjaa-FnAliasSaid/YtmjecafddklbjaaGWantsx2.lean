-- Laid by a program of this session (stub.py)
import Derived.Test.YtmjecafddklbjaaGWantsx0
import Derived.Test.YtmjecafddklbjaaGWantsx1
namespace Go.Proofs.Ytmjecafddklbjaa.GWants
open Go.RowKit Go.Proofs.YtmjecafddklbjaaW.PrintWords Go.Proofs.YtmjecafddklbjaaW.PrintLast Go.Proofs.YtmjecafddklbjaaW.PrintMore
attribute [local go_sem] max2_int min2_int max_two min_two max_three min_three max_four min_four   -- for this text's walks alone
set_option linter.unusedVariables false
set_option linter.unusedSimpArgs false

/-! ### laws_chWants: function 9 -/
mutual
def laws_chWants.l0 : Nat → List (S31) → List (S31) → Int → Int → Option (Bool)
  | 0, _, _, _, _ => none
  | k + 1, x0, x7, x8, x9 => if x9 < x8 then (if 0 ≤ x9 then (if x9 < (x7.length : Int) then ((spec_Version.f k ((rd_T31 x7 x9).f1)).bind fun t113 => (if t113 = true then (if (((rd_T31 x7 x9).f2).size : Int) > 100 then (laws_chWants.j1 k x0 x7 x8 x9 true ((rd_T31 x7 x9).f0) ((rd_T31 x7 x9).f1) ((rd_T31 x7 x9).f2) ((rd_T31 x7 x9).f3) ((rd_T31 x7 x9).f4) ((rd_T31 x7 x9).f5) ((rd_T31 x7 x9).f6)) else (if (((rd_T31 x7 x9).f4).length : Int) > 10 then (laws_chWants.j1 k x0 x7 x8 x9 true ((rd_T31 x7 x9).f0) ((rd_T31 x7 x9).f1) ((rd_T31 x7 x9).f2) ((rd_T31 x7 x9).f3) ((rd_T31 x7 x9).f4) ((rd_T31 x7 x9).f5) ((rd_T31 x7 x9).f6)) else (if (((rd_T31 x7 x9).f6).length : Int) > 10 then (laws_chWants.j1 k x0 x7 x8 x9 true ((rd_T31 x7 x9).f0) ((rd_T31 x7 x9).f1) ((rd_T31 x7 x9).f2) ((rd_T31 x7 x9).f3) ((rd_T31 x7 x9).f4) ((rd_T31 x7 x9).f5) ((rd_T31 x7 x9).f6)) else (if (((rd_T31 x7 x9).f0).size : Int) > 100 then (laws_chWants.j1 k x0 x7 x8 x9 true ((rd_T31 x7 x9).f0) ((rd_T31 x7 x9).f1) ((rd_T31 x7 x9).f2) ((rd_T31 x7 x9).f3) ((rd_T31 x7 x9).f4) ((rd_T31 x7 x9).f5) ((rd_T31 x7 x9).f6)) else (laws_chWants.j1 k x0 x7 x8 x9 (decide ((((rd_T31 x7 x9).f3).size : Int) > 100)) ((rd_T31 x7 x9).f0) ((rd_T31 x7 x9).f1) ((rd_T31 x7 x9).f2) ((rd_T31 x7 x9).f3) ((rd_T31 x7 x9).f4) ((rd_T31 x7 x9).f5) ((rd_T31 x7 x9).f6)))))) else (laws_chWants.j1 k x0 x7 x8 x9 true ((rd_T31 x7 x9).f0) ((rd_T31 x7 x9).f1) ((rd_T31 x7 x9).f2) ((rd_T31 x7 x9).f3) ((rd_T31 x7 x9).f4) ((rd_T31 x7 x9).f5) ((rd_T31 x7 x9).f6)))) else (none)) else (none)) else (some (decide ((x0.length : Int) ≤ 20)))
def laws_chWants.j1 : Nat → List (S31) → List (S31) → Int → Int → Bool → ByteArray → ByteArray → ByteArray → ByteArray → List ByteArray → Bool → List (S60) → Option (Bool)
  | 0, _, _, _, _, _, _, _, _, _, _, _, _ => none
  | k + 1, x0, x7, x8, x9, x46, x113000, x113001, x113002, x113003, x113004, x113005, x113006 => if x46 = true then (some false) else (laws_chWants.l1 k x0 x7 x8 x9 x113006 (x113006.length : Int) 0)
def laws_chWants.l1 : Nat → List (S31) → List (S31) → Int → Int → List (S60) → Int → Int → Option (Bool)
  | 0, _, _, _, _, _, _, _ => none
  | k + 1, x0, x7, x8, x9, x48, x49, x50 => if x50 < x49 then (if 0 ≤ x50 then (if x50 < (x48.length : Int) then (if (rd_T60 x48 x50).f3 = true then (if ((rd_T60 x48 x50).f0).toList = ([] : List UInt8) then (if ((rd_T60 x48 x50).f3 = true) then (laws_chWants.l1 k x0 x7 x8 x9 x48 x49 (wrap64 (x50 + 1))) else (if ((rd_T60 x48 x50).f1).size + ((rd_T60 x48 x50).f2).size ≤ 9223372036854775807 then (if (((rd_T60 x48 x50).f1) ++ ((rd_T60 x48 x50).f2)).toList = ([] : List UInt8) then (laws_chWants.l1 k x0 x7 x8 x9 x48 x49 (wrap64 (x50 + 1))) else (some false)) else (none))) else (some false)) else (if ((rd_T60 x48 x50).f3 = true) then (laws_chWants.l1 k x0 x7 x8 x9 x48 x49 (wrap64 (x50 + 1))) else (if ((rd_T60 x48 x50).f1).size + ((rd_T60 x48 x50).f2).size ≤ 9223372036854775807 then (if (((rd_T60 x48 x50).f1) ++ ((rd_T60 x48 x50).f2)).toList = ([] : List UInt8) then (laws_chWants.l1 k x0 x7 x8 x9 x48 x49 (wrap64 (x50 + 1))) else (some false)) else (none)))) else (none)) else (none)) else (laws_chWants.l0 k x0 x7 x8 (wrap64 (x9 + 1)))
end
def laws_chWants.f (k : Nat) (l0 : List (S31)) : Option (Bool) := laws_chWants.l0 k l0 l0 (l0.length : Int) 0
theorem laws_chWants.mono_l : ∀ k, (∀ y0 y1 y2 y3, LeO (laws_chWants.l0 k y0 y1 y2 y3) (laws_chWants.l0 (k + 1) y0 y1 y2 y3)) ∧ (∀ y0 y1 y2 y3 y4 y5 y6 y7 y8 y9 y10 y11, LeO (laws_chWants.j1 k y0 y1 y2 y3 y4 y5 y6 y7 y8 y9 y10 y11) (laws_chWants.j1 (k + 1) y0 y1 y2 y3 y4 y5 y6 y7 y8 y9 y10 y11)) ∧ (∀ y0 y1 y2 y3 y4 y5 y6, LeO (laws_chWants.l1 k y0 y1 y2 y3 y4 y5 y6) (laws_chWants.l1 (k + 1) y0 y1 y2 y3 y4 y5 y6))
  | 0 => ⟨fun _ _ _ _ r h => by simp [laws_chWants.l0] at h, fun _ _ _ _ _ _ _ _ _ _ _ _ r h => by simp [laws_chWants.j1] at h, fun _ _ _ _ _ _ _ r h => by simp [laws_chWants.l1] at h⟩
  | k + 1 => by
    obtain ⟨ih0, ih1, ih2⟩ := laws_chWants.mono_l k
    refine ⟨?_, ?_, ?_⟩
    · intro y0 y1 y2 y3
      unfold laws_chWants.l0
      repeat' first
      | (with_reducible exact ih0 _ _ _ _)
      | (with_reducible exact ih1 _ _ _ _ _ _ _ _ _ _ _ _)
      | (with_reducible exact ih2 _ _ _ _ _ _ _)
      | (with_reducible exact spec_Version.mono _ _)
      | (with_reducible exact LeO.refl _)
      | (with_reducible exact LeO.none _)
      | (with_reducible refine LeO.ite ?_ ?_)
      | (with_reducible refine LeO.bind ?_ (fun _ => ?_))
      | exact ih0 _ _ _ _
      | exact ih1 _ _ _ _ _ _ _ _ _ _ _ _
      | exact ih2 _ _ _ _ _ _ _
      | exact spec_Version.mono _ _
      | exact LeO.none _
      | refine LeO.ite ?_ ?_
      | refine LeO.bind ?_ (fun _ => ?_)
    · intro y0 y1 y2 y3 y4 y5 y6 y7 y8 y9 y10 y11
      unfold laws_chWants.j1
      repeat' first
      | (with_reducible exact ih0 _ _ _ _)
      | (with_reducible exact ih1 _ _ _ _ _ _ _ _ _ _ _ _)
      | (with_reducible exact ih2 _ _ _ _ _ _ _)
      | (with_reducible exact spec_Version.mono _ _)
      | (with_reducible exact LeO.refl _)
      | (with_reducible exact LeO.none _)
      | (with_reducible refine LeO.ite ?_ ?_)
      | (with_reducible refine LeO.bind ?_ (fun _ => ?_))
      | exact ih0 _ _ _ _
      | exact ih1 _ _ _ _ _ _ _ _ _ _ _ _
      | exact ih2 _ _ _ _ _ _ _
      | exact spec_Version.mono _ _
      | exact LeO.none _
      | refine LeO.ite ?_ ?_
      | refine LeO.bind ?_ (fun _ => ?_)
    · intro y0 y1 y2 y3 y4 y5 y6
      unfold laws_chWants.l1
      repeat' first
      | (with_reducible exact ih0 _ _ _ _)
      | (with_reducible exact ih1 _ _ _ _ _ _ _ _ _ _ _ _)
      | (with_reducible exact ih2 _ _ _ _ _ _ _)
      | (with_reducible exact spec_Version.mono _ _)
      | (with_reducible exact LeO.refl _)
      | (with_reducible exact LeO.none _)
      | (with_reducible refine LeO.ite ?_ ?_)
      | (with_reducible refine LeO.bind ?_ (fun _ => ?_))
      | exact ih0 _ _ _ _
      | exact ih1 _ _ _ _ _ _ _ _ _ _ _ _
      | exact ih2 _ _ _ _ _ _ _
      | exact spec_Version.mono _ _
      | exact LeO.none _
      | refine LeO.ite ?_ ?_
      | refine LeO.bind ?_ (fun _ => ?_)
theorem laws_chWants.mono : ∀ a0 k, LeO (laws_chWants.f k a0) (laws_chWants.f (k + 1) a0) := by
  intro a0 k
  obtain ⟨ih0, ih1, ih2⟩ := laws_chWants.mono_l k
  unfold laws_chWants.f
  repeat' first
      | (with_reducible exact ih0 _ _ _ _)
      | (with_reducible exact ih1 _ _ _ _ _ _ _ _ _ _ _ _)
      | (with_reducible exact ih2 _ _ _ _ _ _ _)
      | (with_reducible exact spec_Version.mono _ _)
      | (with_reducible exact LeO.refl _)
      | (with_reducible exact LeO.none _)
      | (with_reducible refine LeO.ite ?_ ?_)
      | (with_reducible refine LeO.bind ?_ (fun _ => ?_))
      | exact ih0 _ _ _ _
      | exact ih1 _ _ _ _ _ _ _ _ _ _ _ _
      | exact ih2 _ _ _ _ _ _ _
      | exact spec_Version.mono _ _
      | exact LeO.none _
      | refine LeO.ite ?_ ?_
      | refine LeO.bind ?_ (fun _ => ?_)
set_option maxHeartbeats 8000000 in
set_option maxRecDepth 100000 in
theorem laws_chWants.calls (k : Nat) (A0 : Option Addr) (c0 : Nat) (l0 : List (S31)) (r : Bool) (w : World) (hr0 : Kd.C k31 w A0 l0.length l0) (hc0 : l0.length ≤ c0) (h : laws_chWants.f k l0 = some r) :
    Calls Try.prog 9 #[.slice A0 l0.length c0] w fun e w' => e = .returned (.bool r) ∧ Below w.heap.size w w' := by
  have hu31 := Try.underlying31
  have hu60 := Try.underlying60
  have HR0 := Aside0.mk hr0
  have HC0 := Aside0.mk hc0
  clear hr0 hc0
  have HB := Aside0.mk (Below.refl w.heap.size w)
  have H : (laws_chWants.l0 k l0 l0 (l0.length : Int) 0) = some r := h
  clear h
  have H' := Aside0.mk H
  clear H
  go_enter Try.func9, Try.ntmps9
  go_wp2
  go_loopg [9] k (fun kq v9 w' => ∃ (x9_1 : Int), v9 = .int .i64 x9_1 ∧ Aside0 (laws_chWants.l0 kq l0 l0 (l0.length : Int) x9_1 = some r) ∧ Aside0 (kq ≤ k) ∧ Aside0 (Below w.heap.size w w'))
  case atStart => exact ⟨(0), (by first | rfl | (simp; done) | (simp [*]; done)), H', ⟨Nat.le_refl _⟩, ⟨by repeat (first | (with_reducible first | exact HB.out | apply below_alloc | apply pw_below_drewN | apply below_drew1) | exact HB.out)⟩⟩
  case round =>
    clear H'
    obtain ⟨x9_1, rfl, HA, HK1, HB⟩ := hrel
    cases gk with
    | zero => exact absurd HA.out (by simp [laws_chWants.l0])
    | succ k1 =>
      have H := HA.out
      clear HA
      simp only [laws_chWants.l0] at H
      by_cases c2 : x9_1 < (l0.length : Int)
      · rw [if_pos c2] at H
        have c2b0 : decide (x9_1 < (l0.length : Int)) = true := decide_eq_true c2
        clear c2
        by_cases c3 : 0 ≤ x9_1
        · rw [if_pos c3] at H
          have c3b0 : decide (0 ≤ x9_1) = true := decide_eq_true c3
          clear c3
          by_cases c4 : x9_1 < (l0.length : Int)
          · rw [if_pos c4] at H
            have c4b0 : decide (x9_1 < (l0.length : Int)) = true := decide_eq_true c4
            clear c4
            have HC5 := Aside0.mk H
            clear H
            have p111 : 0 ≤ (x9_1 : Int) := of_decide_eq_true (by first | (with_reducible assumption) | assumption)
            have q111 : x9_1 < (l0.length : Int) := of_decide_eq_true (by first | (with_reducible assumption) | assumption)
            obtain ⟨ad111, A111_4, c111_4, A111_6, c111_6, e111, hx111_0, hx111_1, hx111_2, hx111_3, hx111_4, hx111_5, hx111_6, hl111_4, hi111_4, hl111_6, hi111_6⟩ := at_T31 HR0.out x9_1 p111 q111
            cases e111
            replace hx111_0 := (HB.out.cell (World.block_lt_of_cell? w _ hx111_0)).trans hx111_0
            replace hx111_1 := (HB.out.cell (World.block_lt_of_cell? w _ hx111_1)).trans hx111_1
            replace hx111_2 := (HB.out.cell (World.block_lt_of_cell? w _ hx111_2)).trans hx111_2
            replace hx111_3 := (HB.out.cell (World.block_lt_of_cell? w _ hx111_3)).trans hx111_3
            replace hx111_4 := (HB.out.cell (World.block_lt_of_cell? w _ hx111_4)).trans hx111_4
            replace hx111_5 := (HB.out.cell (World.block_lt_of_cell? w _ hx111_5)).trans hx111_5
            replace hx111_6 := (HB.out.cell (World.block_lt_of_cell? w _ hx111_6)).trans hx111_6
            have HR111_4 := Aside0.mk hi111_4
            have HC111_4 := Aside0.mk hl111_4
            clear hi111_4 hl111_4
            have HR111_6 := Aside0.mk hi111_6
            have HC111_6 := Aside0.mk hl111_6
            clear hi111_6 hl111_6
            replace p111 := eq_true p111
            replace q111 := eq_true q111
            go_upto_region 4 with (first | ((with_reducible refine gate_dst (N := 4) rfl ?_); (try (refine gate_guard (by rfl) ?_; dsimp only)); refine box_event ?hg (N := 4) ?hd (cs := #[.string (⟨#[]⟩ : ByteArray), .string (⟨#[]⟩ : ByteArray), .string (⟨#[]⟩ : ByteArray), .string (⟨#[]⟩ : ByteArray), .slice none 0 0, .bool false, .slice none 0 0]) (t := 31) ?hr ?_; (case hd => rfl); (case hg => rfl); (case hr => first | (go_simp; done) | (go_simp; rfl)); intro gb112 hg w6 hbox hb; have n0_ := Aside0.mk (below_step (by repeat (first | (with_reducible first | exact HB.out | apply below_alloc | apply pw_below_drewN | apply below_drew1) | exact HB.out)) hb); have n1_ := Aside0.mk (hbox); have n2_ := Aside0.mk ((by rw [hg]; exact (below_size (by repeat (first | (with_reducible first | exact HB.out | apply below_alloc | apply pw_below_drewN | apply below_drew1) | exact HB.out))) : w.heap.size ≤ gb112)); have n3_ := Aside0.mk ((by rw [hg]; exact (below_size (by repeat (first | (with_reducible first | exact HB.out | apply below_alloc | apply pw_below_drewN | apply below_drew1) | exact HB.out))) : w.heap.size ≤ gb112)); clear HB; have HB := n0_; have BK112 := n1_; have GW112 := n2_; have GE112 := n3_; clear n0_ n1_ n2_ n3_; clear hb hbox hg; have hcz7_0 : w6.cell? ⟨gb112, 0, none⟩ = some (.string (⟨#[]⟩ : ByteArray)) := (blk_cell BK112.out 0).trans rfl; have hcz7_1 : w6.cell? ⟨gb112, 1, none⟩ = some (.string (⟨#[]⟩ : ByteArray)) := (blk_cell BK112.out 1).trans rfl; have hcz7_2 : w6.cell? ⟨gb112, 2, none⟩ = some (.string (⟨#[]⟩ : ByteArray)) := (blk_cell BK112.out 2).trans rfl; have hcz7_3 : w6.cell? ⟨gb112, 3, none⟩ = some (.string (⟨#[]⟩ : ByteArray)) := (blk_cell BK112.out 3).trans rfl; have hcz7_4 : w6.cell? ⟨gb112, 4, none⟩ = some (.slice none 0 0) := (blk_cell BK112.out 4).trans rfl; have hcz7_5 : w6.cell? ⟨gb112, 5, none⟩ = some (.bool false) := (blk_cell BK112.out 5).trans rfl; have hcz7_6 : w6.cell? ⟨gb112, 6, none⟩ = some (.slice none 0 0) := (blk_cell BK112.out 6).trans rfl; have hfz7_0 := blk_frozen BK112.out 0; have hfz7_1 := blk_frozen BK112.out 1; have hfz7_2 := blk_frozen BK112.out 2; have hfz7_3 := blk_frozen BK112.out 3; have hfz7_4 := blk_frozen BK112.out 4; have hfz7_5 := blk_frozen BK112.out 5; have hfz7_6 := blk_frozen BK112.out 6))
            (try simp only [Act.put, List.setIfInBounds_toArray, List.set_cons_zero, List.set_cons_succ])
            go_cut [46] (fun v46 wc => ∃ (kq : Nat) (x46_4 : Bool), v46 = .bool x46_4 ∧ Aside0 (laws_chWants.j1 kq l0 l0 (l0.length : Int) x9_1 x46_4 ((rd_T31 l0 x9_1).f0) ((rd_T31 l0 x9_1).f1) ((rd_T31 l0 x9_1).f2) ((rd_T31 l0 x9_1).f3) ((rd_T31 l0 x9_1).f4) ((rd_T31 l0 x9_1).f5) ((rd_T31 l0 x9_1).f6) = some r) ∧ Aside0 (kq ≤ k1) ∧ Aside0 (wc.heap[gb112]? = some (.cells #[.string ((rd_T31 l0 x9_1).f0), .string ((rd_T31 l0 x9_1).f1), .string ((rd_T31 l0 x9_1).f2), .string ((rd_T31 l0 x9_1).f3), (.slice A111_4 ((rd_T31 l0 x9_1).f4).length c111_4), .bool ((rd_T31 l0 x9_1).f5), (.slice A111_6 ((rd_T31 l0 x9_1).f6).length c111_6)] 31 (0, 0))) ∧ Aside0 (Below w.heap.size w wc))
            case first =>
              have H := HC5.out
              clear HC5
              replace H := Option.bind_eq_some_iff.mp H
              obtain ⟨t113, A80, H⟩ := H
              replace H : (if t113 = true then (if (((rd_T31 l0 x9_1).f2).size : Int) > 100 then (laws_chWants.j1 k1 l0 l0 (l0.length : Int) x9_1 true ((rd_T31 l0 x9_1).f0) ((rd_T31 l0 x9_1).f1) ((rd_T31 l0 x9_1).f2) ((rd_T31 l0 x9_1).f3) ((rd_T31 l0 x9_1).f4) ((rd_T31 l0 x9_1).f5) ((rd_T31 l0 x9_1).f6)) else (if (((rd_T31 l0 x9_1).f4).length : Int) > 10 then (laws_chWants.j1 k1 l0 l0 (l0.length : Int) x9_1 true ((rd_T31 l0 x9_1).f0) ((rd_T31 l0 x9_1).f1) ((rd_T31 l0 x9_1).f2) ((rd_T31 l0 x9_1).f3) ((rd_T31 l0 x9_1).f4) ((rd_T31 l0 x9_1).f5) ((rd_T31 l0 x9_1).f6)) else (if (((rd_T31 l0 x9_1).f6).length : Int) > 10 then (laws_chWants.j1 k1 l0 l0 (l0.length : Int) x9_1 true ((rd_T31 l0 x9_1).f0) ((rd_T31 l0 x9_1).f1) ((rd_T31 l0 x9_1).f2) ((rd_T31 l0 x9_1).f3) ((rd_T31 l0 x9_1).f4) ((rd_T31 l0 x9_1).f5) ((rd_T31 l0 x9_1).f6)) else (if (((rd_T31 l0 x9_1).f0).size : Int) > 100 then (laws_chWants.j1 k1 l0 l0 (l0.length : Int) x9_1 true ((rd_T31 l0 x9_1).f0) ((rd_T31 l0 x9_1).f1) ((rd_T31 l0 x9_1).f2) ((rd_T31 l0 x9_1).f3) ((rd_T31 l0 x9_1).f4) ((rd_T31 l0 x9_1).f5) ((rd_T31 l0 x9_1).f6)) else (laws_chWants.j1 k1 l0 l0 (l0.length : Int) x9_1 (decide ((((rd_T31 l0 x9_1).f3).size : Int) > 100)) ((rd_T31 l0 x9_1).f0) ((rd_T31 l0 x9_1).f1) ((rd_T31 l0 x9_1).f2) ((rd_T31 l0 x9_1).f3) ((rd_T31 l0 x9_1).f4) ((rd_T31 l0 x9_1).f5) ((rd_T31 l0 x9_1).f6)))))) else (laws_chWants.j1 k1 l0 l0 (l0.length : Int) x9_1 true ((rd_T31 l0 x9_1).f0) ((rd_T31 l0 x9_1).f1) ((rd_T31 l0 x9_1).f2) ((rd_T31 l0 x9_1).f3) ((rd_T31 l0 x9_1).f4) ((rd_T31 l0 x9_1).f5) ((rd_T31 l0 x9_1).f6))) = some r := H
              have A8 := Aside0.mk A80
              clear A80
              by_cases c9 : t113 = true
              · subst c9
                have H1 : (if (((rd_T31 l0 x9_1).f2).size : Int) > 100 then (laws_chWants.j1 k1 l0 l0 (l0.length : Int) x9_1 true ((rd_T31 l0 x9_1).f0) ((rd_T31 l0 x9_1).f1) ((rd_T31 l0 x9_1).f2) ((rd_T31 l0 x9_1).f3) ((rd_T31 l0 x9_1).f4) ((rd_T31 l0 x9_1).f5) ((rd_T31 l0 x9_1).f6)) else (if (((rd_T31 l0 x9_1).f4).length : Int) > 10 then (laws_chWants.j1 k1 l0 l0 (l0.length : Int) x9_1 true ((rd_T31 l0 x9_1).f0) ((rd_T31 l0 x9_1).f1) ((rd_T31 l0 x9_1).f2) ((rd_T31 l0 x9_1).f3) ((rd_T31 l0 x9_1).f4) ((rd_T31 l0 x9_1).f5) ((rd_T31 l0 x9_1).f6)) else (if (((rd_T31 l0 x9_1).f6).length : Int) > 10 then (laws_chWants.j1 k1 l0 l0 (l0.length : Int) x9_1 true ((rd_T31 l0 x9_1).f0) ((rd_T31 l0 x9_1).f1) ((rd_T31 l0 x9_1).f2) ((rd_T31 l0 x9_1).f3) ((rd_T31 l0 x9_1).f4) ((rd_T31 l0 x9_1).f5) ((rd_T31 l0 x9_1).f6)) else (if (((rd_T31 l0 x9_1).f0).size : Int) > 100 then (laws_chWants.j1 k1 l0 l0 (l0.length : Int) x9_1 true ((rd_T31 l0 x9_1).f0) ((rd_T31 l0 x9_1).f1) ((rd_T31 l0 x9_1).f2) ((rd_T31 l0 x9_1).f3) ((rd_T31 l0 x9_1).f4) ((rd_T31 l0 x9_1).f5) ((rd_T31 l0 x9_1).f6)) else (laws_chWants.j1 k1 l0 l0 (l0.length : Int) x9_1 (decide ((((rd_T31 l0 x9_1).f3).size : Int) > 100)) ((rd_T31 l0 x9_1).f0) ((rd_T31 l0 x9_1).f1) ((rd_T31 l0 x9_1).f2) ((rd_T31 l0 x9_1).f3) ((rd_T31 l0 x9_1).f4) ((rd_T31 l0 x9_1).f5) ((rd_T31 l0 x9_1).f6)))))) = some r := by rw [if_pos rfl] at H; exact H
                clear H
                have H := H1
                clear H1
                by_cases c10 : (((rd_T31 l0 x9_1).f2).size : Int) > 100
                · rw [if_pos c10] at H
                  have c10b0 : decide (100 < (((rd_T31 l0 x9_1).f2).size : Int)) = true := decide_eq_true c10
                  have c10b1 : decide (100 < ((rd_T31 l0 x9_1).f2).size) = true := decide_eq_true (by omega)
                  clear c10
                  (first | rw [c10b0] | (simp only [i64_w, i32_w]; rw [c10b0]) | skip)
                  have H' := Aside0.mk H
                  clear H
                  have hcz11_0 : w6.cell? ⟨gb112, 0, none⟩ = some (.string (⟨#[]⟩ : ByteArray)) := (blk_cell BK112.out 0).trans rfl
                  have hcz11_1 : w6.cell? ⟨gb112, 1, none⟩ = some (.string (⟨#[]⟩ : ByteArray)) := (blk_cell BK112.out 1).trans rfl
                  have hcz11_2 : w6.cell? ⟨gb112, 2, none⟩ = some (.string (⟨#[]⟩ : ByteArray)) := (blk_cell BK112.out 2).trans rfl
                  have hcz11_3 : w6.cell? ⟨gb112, 3, none⟩ = some (.string (⟨#[]⟩ : ByteArray)) := (blk_cell BK112.out 3).trans rfl
                  have hcz11_4 : w6.cell? ⟨gb112, 4, none⟩ = some (.slice none 0 0) := (blk_cell BK112.out 4).trans rfl
                  have hcz11_5 : w6.cell? ⟨gb112, 5, none⟩ = some (.bool false) := (blk_cell BK112.out 5).trans rfl
                  have hcz11_6 : w6.cell? ⟨gb112, 6, none⟩ = some (.slice none 0 0) := (blk_cell BK112.out 6).trans rfl
                  have hfz11_0 := blk_frozen BK112.out 0
                  have hfz11_1 := blk_frozen BK112.out 1
                  have hfz11_2 := blk_frozen BK112.out 2
                  have hfz11_3 := blk_frozen BK112.out 3
                  have hfz11_4 := blk_frozen BK112.out 4
                  have hfz11_5 := blk_frozen BK112.out 5
                  have hfz11_6 := blk_frozen BK112.out 6
                  go_wp2_with (first | ((with_reducible refine gate_callee (f := 8) rfl ?_); refine goesL_ (some 15) rfl rfl Try.func8 (by kernel_rfl) rfl #[.string ((rd_T31 l0 x9_1).f1)] rfl (by (try simp only [List.map_toArray, List.map_cons, List.map_nil]); first | done | rfl | (simp only [List.length_drop, List.length_take]; rfl)) ?_; (with_reducible refine (spec_Version.calls k1 ((rd_T31 l0 x9_1).f1) true _ A8.out).mono ?_); rintro e w12 ⟨rfl, hb⟩; refine ⟨_, rfl, ?_⟩; have n0_ := Aside0.mk (blk_below (g := gb112) (o := .cells #[.string ((rd_T31 l0 x9_1).f0), .string ((rd_T31 l0 x9_1).f1), .string ((rd_T31 l0 x9_1).f2), .string ((rd_T31 l0 x9_1).f3), .slice A111_4 ((rd_T31 l0 x9_1).f4).length c111_4, .bool ((rd_T31 l0 x9_1).f5), .slice A111_6 ((rd_T31 l0 x9_1).f6).length c111_6] 31 (0, 0)) (by (with_reducible repeat (first | refine blk_drewN ?_ _ | refine blk_drew ?_ | refine blk_alloc ?_ _)); refine blk_put (cs := #[.string ((rd_T31 l0 x9_1).f0), .string ((rd_T31 l0 x9_1).f1), .string ((rd_T31 l0 x9_1).f2), .string ((rd_T31 l0 x9_1).f3), .slice A111_4 ((rd_T31 l0 x9_1).f4).length c111_4, .bool ((rd_T31 l0 x9_1).f5), .slice none 0 0]) ?_ 6 _ rfl; (with_reducible repeat (first | refine blk_drewN ?_ _ | refine blk_drew ?_ | refine blk_alloc ?_ _)); refine blk_put (cs := #[.string ((rd_T31 l0 x9_1).f0), .string ((rd_T31 l0 x9_1).f1), .string ((rd_T31 l0 x9_1).f2), .string ((rd_T31 l0 x9_1).f3), .slice A111_4 ((rd_T31 l0 x9_1).f4).length c111_4, .bool false, .slice none 0 0]) ?_ 5 _ rfl; (with_reducible repeat (first | refine blk_drewN ?_ _ | refine blk_drew ?_ | refine blk_alloc ?_ _)); refine blk_put (cs := #[.string ((rd_T31 l0 x9_1).f0), .string ((rd_T31 l0 x9_1).f1), .string ((rd_T31 l0 x9_1).f2), .string ((rd_T31 l0 x9_1).f3), .slice none 0 0, .bool false, .slice none 0 0]) ?_ 4 _ rfl; (with_reducible repeat (first | refine blk_drewN ?_ _ | refine blk_drew ?_ | refine blk_alloc ?_ _)); refine blk_put (cs := #[.string ((rd_T31 l0 x9_1).f0), .string ((rd_T31 l0 x9_1).f1), .string ((rd_T31 l0 x9_1).f2), .string (⟨#[]⟩ : ByteArray), .slice none 0 0, .bool false, .slice none 0 0]) ?_ 3 _ rfl; (with_reducible repeat (first | refine blk_drewN ?_ _ | refine blk_drew ?_ | refine blk_alloc ?_ _)); refine blk_put (cs := #[.string ((rd_T31 l0 x9_1).f0), .string ((rd_T31 l0 x9_1).f1), .string (⟨#[]⟩ : ByteArray), .string (⟨#[]⟩ : ByteArray), .slice none 0 0, .bool false, .slice none 0 0]) ?_ 2 _ rfl; (with_reducible repeat (first | refine blk_drewN ?_ _ | refine blk_drew ?_ | refine blk_alloc ?_ _)); refine blk_put (cs := #[.string ((rd_T31 l0 x9_1).f0), .string (⟨#[]⟩ : ByteArray), .string (⟨#[]⟩ : ByteArray), .string (⟨#[]⟩ : ByteArray), .slice none 0 0, .bool false, .slice none 0 0]) ?_ 1 _ rfl; (with_reducible repeat (first | refine blk_drewN ?_ _ | refine blk_drew ?_ | refine blk_alloc ?_ _)); refine blk_put (cs := #[.string (⟨#[]⟩ : ByteArray), .string (⟨#[]⟩ : ByteArray), .string (⟨#[]⟩ : ByteArray), .string (⟨#[]⟩ : ByteArray), .slice none 0 0, .bool false, .slice none 0 0]) ?_ 0 _ rfl; (with_reducible repeat (first | refine blk_drewN ?_ _ | refine blk_drew ?_ | refine blk_alloc ?_ _)); exact BK112.out) hb); have n1_ := Aside0.mk (below_step (by repeat (first | (with_reducible first | exact HB.out | apply below_alloc | apply pw_below_drewN | apply below_drew1 | refine below_set ?_ GE112.out) | exact HB.out)) hb); clear BK112; clear HB; have BK112 := n0_; have HB := n1_; clear n0_ n1_; (try clear hb); (try clear hb2); (try clear hk); (try clear hi); have hcz13_0 : w12.cell? ⟨gb112, 0, none⟩ = some (.string ((rd_T31 l0 x9_1).f0)) := (blk_cell BK112.out 0).trans rfl; have hcz13_1 : w12.cell? ⟨gb112, 1, none⟩ = some (.string ((rd_T31 l0 x9_1).f1)) := (blk_cell BK112.out 1).trans rfl; have hcz13_2 : w12.cell? ⟨gb112, 2, none⟩ = some (.string ((rd_T31 l0 x9_1).f2)) := (blk_cell BK112.out 2).trans rfl; have hcz13_3 : w12.cell? ⟨gb112, 3, none⟩ = some (.string ((rd_T31 l0 x9_1).f3)) := (blk_cell BK112.out 3).trans rfl; have hcz13_4 : w12.cell? ⟨gb112, 4, none⟩ = some (.slice A111_4 ((rd_T31 l0 x9_1).f4).length c111_4) := (blk_cell BK112.out 4).trans rfl; have hcz13_5 : w12.cell? ⟨gb112, 5, none⟩ = some (.bool ((rd_T31 l0 x9_1).f5)) := (blk_cell BK112.out 5).trans rfl; have hcz13_6 : w12.cell? ⟨gb112, 6, none⟩ = some (.slice A111_6 ((rd_T31 l0 x9_1).f6).length c111_6) := (blk_cell BK112.out 6).trans rfl; have hfz13_0 := blk_frozen BK112.out 0; have hfz13_1 := blk_frozen BK112.out 1; have hfz13_2 := blk_frozen BK112.out 2; have hfz13_3 := blk_frozen BK112.out 3; have hfz13_4 := blk_frozen BK112.out 4; have hfz13_5 := blk_frozen BK112.out 5; have hfz13_6 := blk_frozen BK112.out 6))
                  go_meet
                  case rel => exact ⟨_, (true), (by first | rfl | (simp; done) | (simp [*]; done)), H', ⟨by have := HK1.out; first | omega | exact Nat.le_refl _⟩, ⟨by (with_reducible repeat (first | refine blk_drewN ?_ _ | refine blk_drew ?_ | refine blk_alloc ?_ _)); exact BK112.out⟩, ⟨by repeat (first | (with_reducible first | exact HB.out | apply below_alloc | apply pw_below_drewN | apply below_drew1 | refine below_set ?_ GE112.out) | exact HB.out)⟩⟩
                · rw [if_neg c10] at H
                  have c10b0 : decide (100 < (((rd_T31 l0 x9_1).f2).size : Int)) = false := decide_eq_false c10
                  have c10b1 : decide (100 < ((rd_T31 l0 x9_1).f2).size) = false := decide_eq_false (by omega)
                  clear c10
                  (first | rw [c10b0] | (simp only [i64_w, i32_w]; rw [c10b0]) | skip)
                  by_cases c14 : (((rd_T31 l0 x9_1).f4).length : Int) > 10
                  · rw [if_pos c14] at H
                    have c14b0 : decide (10 < (((rd_T31 l0 x9_1).f4).length : Int)) = true := decide_eq_true c14
                    have c14b1 : decide (10 < ((rd_T31 l0 x9_1).f4).length) = true := decide_eq_true (by omega)
                    clear c14
                    have H' := Aside0.mk H
                    clear H
                    have hcz15_0 : w6.cell? ⟨gb112, 0, none⟩ = some (.string (⟨#[]⟩ : ByteArray)) := (blk_cell BK112.out 0).trans rfl
                    have hcz15_1 : w6.cell? ⟨gb112, 1, none⟩ = some (.string (⟨#[]⟩ : ByteArray)) := (blk_cell BK112.out 1).trans rfl
                    have hcz15_2 : w6.cell? ⟨gb112, 2, none⟩ = some (.string (⟨#[]⟩ : ByteArray)) := (blk_cell BK112.out 2).trans rfl
                    have hcz15_3 : w6.cell? ⟨gb112, 3, none⟩ = some (.string (⟨#[]⟩ : ByteArray)) := (blk_cell BK112.out 3).trans rfl
                    have hcz15_4 : w6.cell? ⟨gb112, 4, none⟩ = some (.slice none 0 0) := (blk_cell BK112.out 4).trans rfl
                    have hcz15_5 : w6.cell? ⟨gb112, 5, none⟩ = some (.bool false) := (blk_cell BK112.out 5).trans rfl
                    have hcz15_6 : w6.cell? ⟨gb112, 6, none⟩ = some (.slice none 0 0) := (blk_cell BK112.out 6).trans rfl
                    have hfz15_0 := blk_frozen BK112.out 0
                    have hfz15_1 := blk_frozen BK112.out 1
                    have hfz15_2 := blk_frozen BK112.out 2
                    have hfz15_3 := blk_frozen BK112.out 3
                    have hfz15_4 := blk_frozen BK112.out 4
                    have hfz15_5 := blk_frozen BK112.out 5
                    have hfz15_6 := blk_frozen BK112.out 6
                    go_wp2_with (first | ((with_reducible refine gate_callee (f := 8) rfl ?_); refine goesL_ (some 15) rfl rfl Try.func8 (by kernel_rfl) rfl #[.string ((rd_T31 l0 x9_1).f1)] rfl (by (try simp only [List.map_toArray, List.map_cons, List.map_nil]); first | done | rfl | (simp only [List.length_drop, List.length_take]; rfl)) ?_; (with_reducible refine (spec_Version.calls k1 ((rd_T31 l0 x9_1).f1) true _ A8.out).mono ?_); rintro e w16 ⟨rfl, hb⟩; refine ⟨_, rfl, ?_⟩; have n0_ := Aside0.mk (blk_below (g := gb112) (o := .cells #[.string ((rd_T31 l0 x9_1).f0), .string ((rd_T31 l0 x9_1).f1), .string ((rd_T31 l0 x9_1).f2), .string ((rd_T31 l0 x9_1).f3), .slice A111_4 ((rd_T31 l0 x9_1).f4).length c111_4, .bool ((rd_T31 l0 x9_1).f5), .slice A111_6 ((rd_T31 l0 x9_1).f6).length c111_6] 31 (0, 0)) (by (with_reducible repeat (first | refine blk_drewN ?_ _ | refine blk_drew ?_ | refine blk_alloc ?_ _)); refine blk_put (cs := #[.string ((rd_T31 l0 x9_1).f0), .string ((rd_T31 l0 x9_1).f1), .string ((rd_T31 l0 x9_1).f2), .string ((rd_T31 l0 x9_1).f3), .slice A111_4 ((rd_T31 l0 x9_1).f4).length c111_4, .bool ((rd_T31 l0 x9_1).f5), .slice none 0 0]) ?_ 6 _ rfl; (with_reducible repeat (first | refine blk_drewN ?_ _ | refine blk_drew ?_ | refine blk_alloc ?_ _)); refine blk_put (cs := #[.string ((rd_T31 l0 x9_1).f0), .string ((rd_T31 l0 x9_1).f1), .string ((rd_T31 l0 x9_1).f2), .string ((rd_T31 l0 x9_1).f3), .slice A111_4 ((rd_T31 l0 x9_1).f4).length c111_4, .bool false, .slice none 0 0]) ?_ 5 _ rfl; (with_reducible repeat (first | refine blk_drewN ?_ _ | refine blk_drew ?_ | refine blk_alloc ?_ _)); refine blk_put (cs := #[.string ((rd_T31 l0 x9_1).f0), .string ((rd_T31 l0 x9_1).f1), .string ((rd_T31 l0 x9_1).f2), .string ((rd_T31 l0 x9_1).f3), .slice none 0 0, .bool false, .slice none 0 0]) ?_ 4 _ rfl; (with_reducible repeat (first | refine blk_drewN ?_ _ | refine blk_drew ?_ | refine blk_alloc ?_ _)); refine blk_put (cs := #[.string ((rd_T31 l0 x9_1).f0), .string ((rd_T31 l0 x9_1).f1), .string ((rd_T31 l0 x9_1).f2), .string (⟨#[]⟩ : ByteArray), .slice none 0 0, .bool false, .slice none 0 0]) ?_ 3 _ rfl; (with_reducible repeat (first | refine blk_drewN ?_ _ | refine blk_drew ?_ | refine blk_alloc ?_ _)); refine blk_put (cs := #[.string ((rd_T31 l0 x9_1).f0), .string ((rd_T31 l0 x9_1).f1), .string (⟨#[]⟩ : ByteArray), .string (⟨#[]⟩ : ByteArray), .slice none 0 0, .bool false, .slice none 0 0]) ?_ 2 _ rfl; (with_reducible repeat (first | refine blk_drewN ?_ _ | refine blk_drew ?_ | refine blk_alloc ?_ _)); refine blk_put (cs := #[.string ((rd_T31 l0 x9_1).f0), .string (⟨#[]⟩ : ByteArray), .string (⟨#[]⟩ : ByteArray), .string (⟨#[]⟩ : ByteArray), .slice none 0 0, .bool false, .slice none 0 0]) ?_ 1 _ rfl; (with_reducible repeat (first | refine blk_drewN ?_ _ | refine blk_drew ?_ | refine blk_alloc ?_ _)); refine blk_put (cs := #[.string (⟨#[]⟩ : ByteArray), .string (⟨#[]⟩ : ByteArray), .string (⟨#[]⟩ : ByteArray), .string (⟨#[]⟩ : ByteArray), .slice none 0 0, .bool false, .slice none 0 0]) ?_ 0 _ rfl; (with_reducible repeat (first | refine blk_drewN ?_ _ | refine blk_drew ?_ | refine blk_alloc ?_ _)); exact BK112.out) hb); have n1_ := Aside0.mk (below_step (by repeat (first | (with_reducible first | exact HB.out | apply below_alloc | apply pw_below_drewN | apply below_drew1 | refine below_set ?_ GE112.out) | exact HB.out)) hb); clear BK112; clear HB; have BK112 := n0_; have HB := n1_; clear n0_ n1_; (try clear hb); (try clear hb2); (try clear hk); (try clear hi); have hcz17_0 : w16.cell? ⟨gb112, 0, none⟩ = some (.string ((rd_T31 l0 x9_1).f0)) := (blk_cell BK112.out 0).trans rfl; have hcz17_1 : w16.cell? ⟨gb112, 1, none⟩ = some (.string ((rd_T31 l0 x9_1).f1)) := (blk_cell BK112.out 1).trans rfl; have hcz17_2 : w16.cell? ⟨gb112, 2, none⟩ = some (.string ((rd_T31 l0 x9_1).f2)) := (blk_cell BK112.out 2).trans rfl; have hcz17_3 : w16.cell? ⟨gb112, 3, none⟩ = some (.string ((rd_T31 l0 x9_1).f3)) := (blk_cell BK112.out 3).trans rfl; have hcz17_4 : w16.cell? ⟨gb112, 4, none⟩ = some (.slice A111_4 ((rd_T31 l0 x9_1).f4).length c111_4) := (blk_cell BK112.out 4).trans rfl; have hcz17_5 : w16.cell? ⟨gb112, 5, none⟩ = some (.bool ((rd_T31 l0 x9_1).f5)) := (blk_cell BK112.out 5).trans rfl; have hcz17_6 : w16.cell? ⟨gb112, 6, none⟩ = some (.slice A111_6 ((rd_T31 l0 x9_1).f6).length c111_6) := (blk_cell BK112.out 6).trans rfl; have hfz17_0 := blk_frozen BK112.out 0; have hfz17_1 := blk_frozen BK112.out 1; have hfz17_2 := blk_frozen BK112.out 2; have hfz17_3 := blk_frozen BK112.out 3; have hfz17_4 := blk_frozen BK112.out 4; have hfz17_5 := blk_frozen BK112.out 5; have hfz17_6 := blk_frozen BK112.out 6))
                    go_meet
                    case rel => exact ⟨_, (true), (by first | rfl | (simp; done) | (simp [*]; done)), H', ⟨by have := HK1.out; first | omega | exact Nat.le_refl _⟩, ⟨by (with_reducible repeat (first | refine blk_drewN ?_ _ | refine blk_drew ?_ | refine blk_alloc ?_ _)); exact BK112.out⟩, ⟨by repeat (first | (with_reducible first | exact HB.out | apply below_alloc | apply pw_below_drewN | apply below_drew1 | refine below_set ?_ GE112.out) | exact HB.out)⟩⟩
                  · rw [if_neg c14] at H
                    have c14b0 : decide (10 < (((rd_T31 l0 x9_1).f4).length : Int)) = false := decide_eq_false c14
                    have c14b1 : decide (10 < ((rd_T31 l0 x9_1).f4).length) = false := decide_eq_false (by omega)
                    clear c14
                    by_cases c18 : (((rd_T31 l0 x9_1).f6).length : Int) > 10
                    · rw [if_pos c18] at H
                      have c18b0 : decide (10 < (((rd_T31 l0 x9_1).f6).length : Int)) = true := decide_eq_true c18
                      have c18b1 : decide (10 < ((rd_T31 l0 x9_1).f6).length) = true := decide_eq_true (by omega)
                      clear c18
                      have H' := Aside0.mk H
                      clear H
                      have hcz19_0 : w6.cell? ⟨gb112, 0, none⟩ = some (.string (⟨#[]⟩ : ByteArray)) := (blk_cell BK112.out 0).trans rfl
                      have hcz19_1 : w6.cell? ⟨gb112, 1, none⟩ = some (.string (⟨#[]⟩ : ByteArray)) := (blk_cell BK112.out 1).trans rfl
                      have hcz19_2 : w6.cell? ⟨gb112, 2, none⟩ = some (.string (⟨#[]⟩ : ByteArray)) := (blk_cell BK112.out 2).trans rfl
                      have hcz19_3 : w6.cell? ⟨gb112, 3, none⟩ = some (.string (⟨#[]⟩ : ByteArray)) := (blk_cell BK112.out 3).trans rfl
                      have hcz19_4 : w6.cell? ⟨gb112, 4, none⟩ = some (.slice none 0 0) := (blk_cell BK112.out 4).trans rfl
                      have hcz19_5 : w6.cell? ⟨gb112, 5, none⟩ = some (.bool false) := (blk_cell BK112.out 5).trans rfl
                      have hcz19_6 : w6.cell? ⟨gb112, 6, none⟩ = some (.slice none 0 0) := (blk_cell BK112.out 6).trans rfl
                      have hfz19_0 := blk_frozen BK112.out 0
                      have hfz19_1 := blk_frozen BK112.out 1
                      have hfz19_2 := blk_frozen BK112.out 2
                      have hfz19_3 := blk_frozen BK112.out 3
                      have hfz19_4 := blk_frozen BK112.out 4
                      have hfz19_5 := blk_frozen BK112.out 5
                      have hfz19_6 := blk_frozen BK112.out 6
                      go_wp2_with (first | ((with_reducible refine gate_callee (f := 8) rfl ?_); refine goesL_ (some 15) rfl rfl Try.func8 (by kernel_rfl) rfl #[.string ((rd_T31 l0 x9_1).f1)] rfl (by (try simp only [List.map_toArray, List.map_cons, List.map_nil]); first | done | rfl | (simp only [List.length_drop, List.length_take]; rfl)) ?_; (with_reducible refine (spec_Version.calls k1 ((rd_T31 l0 x9_1).f1) true _ A8.out).mono ?_); rintro e w20 ⟨rfl, hb⟩; refine ⟨_, rfl, ?_⟩; have n0_ := Aside0.mk (blk_below (g := gb112) (o := .cells #[.string ((rd_T31 l0 x9_1).f0), .string ((rd_T31 l0 x9_1).f1), .string ((rd_T31 l0 x9_1).f2), .string ((rd_T31 l0 x9_1).f3), .slice A111_4 ((rd_T31 l0 x9_1).f4).length c111_4, .bool ((rd_T31 l0 x9_1).f5), .slice A111_6 ((rd_T31 l0 x9_1).f6).length c111_6] 31 (0, 0)) (by (with_reducible repeat (first | refine blk_drewN ?_ _ | refine blk_drew ?_ | refine blk_alloc ?_ _)); refine blk_put (cs := #[.string ((rd_T31 l0 x9_1).f0), .string ((rd_T31 l0 x9_1).f1), .string ((rd_T31 l0 x9_1).f2), .string ((rd_T31 l0 x9_1).f3), .slice A111_4 ((rd_T31 l0 x9_1).f4).length c111_4, .bool ((rd_T31 l0 x9_1).f5), .slice none 0 0]) ?_ 6 _ rfl; (with_reducible repeat (first | refine blk_drewN ?_ _ | refine blk_drew ?_ | refine blk_alloc ?_ _)); refine blk_put (cs := #[.string ((rd_T31 l0 x9_1).f0), .string ((rd_T31 l0 x9_1).f1), .string ((rd_T31 l0 x9_1).f2), .string ((rd_T31 l0 x9_1).f3), .slice A111_4 ((rd_T31 l0 x9_1).f4).length c111_4, .bool false, .slice none 0 0]) ?_ 5 _ rfl; (with_reducible repeat (first | refine blk_drewN ?_ _ | refine blk_drew ?_ | refine blk_alloc ?_ _)); refine blk_put (cs := #[.string ((rd_T31 l0 x9_1).f0), .string ((rd_T31 l0 x9_1).f1), .string ((rd_T31 l0 x9_1).f2), .string ((rd_T31 l0 x9_1).f3), .slice none 0 0, .bool false, .slice none 0 0]) ?_ 4 _ rfl; (with_reducible repeat (first | refine blk_drewN ?_ _ | refine blk_drew ?_ | refine blk_alloc ?_ _)); refine blk_put (cs := #[.string ((rd_T31 l0 x9_1).f0), .string ((rd_T31 l0 x9_1).f1), .string ((rd_T31 l0 x9_1).f2), .string (⟨#[]⟩ : ByteArray), .slice none 0 0, .bool false, .slice none 0 0]) ?_ 3 _ rfl; (with_reducible repeat (first | refine blk_drewN ?_ _ | refine blk_drew ?_ | refine blk_alloc ?_ _)); refine blk_put (cs := #[.string ((rd_T31 l0 x9_1).f0), .string ((rd_T31 l0 x9_1).f1), .string (⟨#[]⟩ : ByteArray), .string (⟨#[]⟩ : ByteArray), .slice none 0 0, .bool false, .slice none 0 0]) ?_ 2 _ rfl; (with_reducible repeat (first | refine blk_drewN ?_ _ | refine blk_drew ?_ | refine blk_alloc ?_ _)); refine blk_put (cs := #[.string ((rd_T31 l0 x9_1).f0), .string (⟨#[]⟩ : ByteArray), .string (⟨#[]⟩ : ByteArray), .string (⟨#[]⟩ : ByteArray), .slice none 0 0, .bool false, .slice none 0 0]) ?_ 1 _ rfl; (with_reducible repeat (first | refine blk_drewN ?_ _ | refine blk_drew ?_ | refine blk_alloc ?_ _)); refine blk_put (cs := #[.string (⟨#[]⟩ : ByteArray), .string (⟨#[]⟩ : ByteArray), .string (⟨#[]⟩ : ByteArray), .string (⟨#[]⟩ : ByteArray), .slice none 0 0, .bool false, .slice none 0 0]) ?_ 0 _ rfl; (with_reducible repeat (first | refine blk_drewN ?_ _ | refine blk_drew ?_ | refine blk_alloc ?_ _)); exact BK112.out) hb); have n1_ := Aside0.mk (below_step (by repeat (first | (with_reducible first | exact HB.out | apply below_alloc | apply pw_below_drewN | apply below_drew1 | refine below_set ?_ GE112.out) | exact HB.out)) hb); clear BK112; clear HB; have BK112 := n0_; have HB := n1_; clear n0_ n1_; (try clear hb); (try clear hb2); (try clear hk); (try clear hi); have hcz21_0 : w20.cell? ⟨gb112, 0, none⟩ = some (.string ((rd_T31 l0 x9_1).f0)) := (blk_cell BK112.out 0).trans rfl; have hcz21_1 : w20.cell? ⟨gb112, 1, none⟩ = some (.string ((rd_T31 l0 x9_1).f1)) := (blk_cell BK112.out 1).trans rfl; have hcz21_2 : w20.cell? ⟨gb112, 2, none⟩ = some (.string ((rd_T31 l0 x9_1).f2)) := (blk_cell BK112.out 2).trans rfl; have hcz21_3 : w20.cell? ⟨gb112, 3, none⟩ = some (.string ((rd_T31 l0 x9_1).f3)) := (blk_cell BK112.out 3).trans rfl; have hcz21_4 : w20.cell? ⟨gb112, 4, none⟩ = some (.slice A111_4 ((rd_T31 l0 x9_1).f4).length c111_4) := (blk_cell BK112.out 4).trans rfl; have hcz21_5 : w20.cell? ⟨gb112, 5, none⟩ = some (.bool ((rd_T31 l0 x9_1).f5)) := (blk_cell BK112.out 5).trans rfl; have hcz21_6 : w20.cell? ⟨gb112, 6, none⟩ = some (.slice A111_6 ((rd_T31 l0 x9_1).f6).length c111_6) := (blk_cell BK112.out 6).trans rfl; have hfz21_0 := blk_frozen BK112.out 0; have hfz21_1 := blk_frozen BK112.out 1; have hfz21_2 := blk_frozen BK112.out 2; have hfz21_3 := blk_frozen BK112.out 3; have hfz21_4 := blk_frozen BK112.out 4; have hfz21_5 := blk_frozen BK112.out 5; have hfz21_6 := blk_frozen BK112.out 6))
                      go_meet
                      case rel => exact ⟨_, (true), (by first | rfl | (simp; done) | (simp [*]; done)), H', ⟨by have := HK1.out; first | omega | exact Nat.le_refl _⟩, ⟨by (with_reducible repeat (first | refine blk_drewN ?_ _ | refine blk_drew ?_ | refine blk_alloc ?_ _)); exact BK112.out⟩, ⟨by repeat (first | (with_reducible first | exact HB.out | apply below_alloc | apply pw_below_drewN | apply below_drew1 | refine below_set ?_ GE112.out) | exact HB.out)⟩⟩
                    · rw [if_neg c18] at H
                      have c18b0 : decide (10 < (((rd_T31 l0 x9_1).f6).length : Int)) = false := decide_eq_false c18
                      have c18b1 : decide (10 < ((rd_T31 l0 x9_1).f6).length) = false := decide_eq_false (by omega)
                      clear c18
                      by_cases c22 : (((rd_T31 l0 x9_1).f0).size : Int) > 100
                      · rw [if_pos c22] at H
                        have c22b0 : decide (100 < (((rd_T31 l0 x9_1).f0).size : Int)) = true := decide_eq_true c22
                        have c22b1 : decide (100 < ((rd_T31 l0 x9_1).f0).size) = true := decide_eq_true (by omega)
                        clear c22
                        have H' := Aside0.mk H
                        clear H
                        have hcz23_0 : w6.cell? ⟨gb112, 0, none⟩ = some (.string (⟨#[]⟩ : ByteArray)) := (blk_cell BK112.out 0).trans rfl
                        have hcz23_1 : w6.cell? ⟨gb112, 1, none⟩ = some (.string (⟨#[]⟩ : ByteArray)) := (blk_cell BK112.out 1).trans rfl
                        have hcz23_2 : w6.cell? ⟨gb112, 2, none⟩ = some (.string (⟨#[]⟩ : ByteArray)) := (blk_cell BK112.out 2).trans rfl
                        have hcz23_3 : w6.cell? ⟨gb112, 3, none⟩ = some (.string (⟨#[]⟩ : ByteArray)) := (blk_cell BK112.out 3).trans rfl
                        have hcz23_4 : w6.cell? ⟨gb112, 4, none⟩ = some (.slice none 0 0) := (blk_cell BK112.out 4).trans rfl
                        have hcz23_5 : w6.cell? ⟨gb112, 5, none⟩ = some (.bool false) := (blk_cell BK112.out 5).trans rfl
                        have hcz23_6 : w6.cell? ⟨gb112, 6, none⟩ = some (.slice none 0 0) := (blk_cell BK112.out 6).trans rfl
                        have hfz23_0 := blk_frozen BK112.out 0
                        have hfz23_1 := blk_frozen BK112.out 1
                        have hfz23_2 := blk_frozen BK112.out 2
                        have hfz23_3 := blk_frozen BK112.out 3
                        have hfz23_4 := blk_frozen BK112.out 4
                        have hfz23_5 := blk_frozen BK112.out 5
                        have hfz23_6 := blk_frozen BK112.out 6
                        go_wp2_with (first | ((with_reducible refine gate_callee (f := 8) rfl ?_); refine goesL_ (some 15) rfl rfl Try.func8 (by kernel_rfl) rfl #[.string ((rd_T31 l0 x9_1).f1)] rfl (by (try simp only [List.map_toArray, List.map_cons, List.map_nil]); first | done | rfl | (simp only [List.length_drop, List.length_take]; rfl)) ?_; (with_reducible refine (spec_Version.calls k1 ((rd_T31 l0 x9_1).f1) true _ A8.out).mono ?_); rintro e w24 ⟨rfl, hb⟩; refine ⟨_, rfl, ?_⟩; have n0_ := Aside0.mk (blk_below (g := gb112) (o := .cells #[.string ((rd_T31 l0 x9_1).f0), .string ((rd_T31 l0 x9_1).f1), .string ((rd_T31 l0 x9_1).f2), .string ((rd_T31 l0 x9_1).f3), .slice A111_4 ((rd_T31 l0 x9_1).f4).length c111_4, .bool ((rd_T31 l0 x9_1).f5), .slice A111_6 ((rd_T31 l0 x9_1).f6).length c111_6] 31 (0, 0)) (by (with_reducible repeat (first | refine blk_drewN ?_ _ | refine blk_drew ?_ | refine blk_alloc ?_ _)); refine blk_put (cs := #[.string ((rd_T31 l0 x9_1).f0), .string ((rd_T31 l0 x9_1).f1), .string ((rd_T31 l0 x9_1).f2), .string ((rd_T31 l0 x9_1).f3), .slice A111_4 ((rd_T31 l0 x9_1).f4).length c111_4, .bool ((rd_T31 l0 x9_1).f5), .slice none 0 0]) ?_ 6 _ rfl; (with_reducible repeat (first | refine blk_drewN ?_ _ | refine blk_drew ?_ | refine blk_alloc ?_ _)); refine blk_put (cs := #[.string ((rd_T31 l0 x9_1).f0), .string ((rd_T31 l0 x9_1).f1), .string ((rd_T31 l0 x9_1).f2), .string ((rd_T31 l0 x9_1).f3), .slice A111_4 ((rd_T31 l0 x9_1).f4).length c111_4, .bool false, .slice none 0 0]) ?_ 5 _ rfl; (with_reducible repeat (first | refine blk_drewN ?_ _ | refine blk_drew ?_ | refine blk_alloc ?_ _)); refine blk_put (cs := #[.string ((rd_T31 l0 x9_1).f0), .string ((rd_T31 l0 x9_1).f1), .string ((rd_T31 l0 x9_1).f2), .string ((rd_T31 l0 x9_1).f3), .slice none 0 0, .bool false, .slice none 0 0]) ?_ 4 _ rfl; (with_reducible repeat (first | refine blk_drewN ?_ _ | refine blk_drew ?_ | refine blk_alloc ?_ _)); refine blk_put (cs := #[.string ((rd_T31 l0 x9_1).f0), .string ((rd_T31 l0 x9_1).f1), .string ((rd_T31 l0 x9_1).f2), .string (⟨#[]⟩ : ByteArray), .slice none 0 0, .bool false, .slice none 0 0]) ?_ 3 _ rfl; (with_reducible repeat (first | refine blk_drewN ?_ _ | refine blk_drew ?_ | refine blk_alloc ?_ _)); refine blk_put (cs := #[.string ((rd_T31 l0 x9_1).f0), .string ((rd_T31 l0 x9_1).f1), .string (⟨#[]⟩ : ByteArray), .string (⟨#[]⟩ : ByteArray), .slice none 0 0, .bool false, .slice none 0 0]) ?_ 2 _ rfl; (with_reducible repeat (first | refine blk_drewN ?_ _ | refine blk_drew ?_ | refine blk_alloc ?_ _)); refine blk_put (cs := #[.string ((rd_T31 l0 x9_1).f0), .string (⟨#[]⟩ : ByteArray), .string (⟨#[]⟩ : ByteArray), .string (⟨#[]⟩ : ByteArray), .slice none 0 0, .bool false, .slice none 0 0]) ?_ 1 _ rfl; (with_reducible repeat (first | refine blk_drewN ?_ _ | refine blk_drew ?_ | refine blk_alloc ?_ _)); refine blk_put (cs := #[.string (⟨#[]⟩ : ByteArray), .string (⟨#[]⟩ : ByteArray), .string (⟨#[]⟩ : ByteArray), .string (⟨#[]⟩ : ByteArray), .slice none 0 0, .bool false, .slice none 0 0]) ?_ 0 _ rfl; (with_reducible repeat (first | refine blk_drewN ?_ _ | refine blk_drew ?_ | refine blk_alloc ?_ _)); exact BK112.out) hb); have n1_ := Aside0.mk (below_step (by repeat (first | (with_reducible first | exact HB.out | apply below_alloc | apply pw_below_drewN | apply below_drew1 | refine below_set ?_ GE112.out) | exact HB.out)) hb); clear BK112; clear HB; have BK112 := n0_; have HB := n1_; clear n0_ n1_; (try clear hb); (try clear hb2); (try clear hk); (try clear hi); have hcz25_0 : w24.cell? ⟨gb112, 0, none⟩ = some (.string ((rd_T31 l0 x9_1).f0)) := (blk_cell BK112.out 0).trans rfl; have hcz25_1 : w24.cell? ⟨gb112, 1, none⟩ = some (.string ((rd_T31 l0 x9_1).f1)) := (blk_cell BK112.out 1).trans rfl; have hcz25_2 : w24.cell? ⟨gb112, 2, none⟩ = some (.string ((rd_T31 l0 x9_1).f2)) := (blk_cell BK112.out 2).trans rfl; have hcz25_3 : w24.cell? ⟨gb112, 3, none⟩ = some (.string ((rd_T31 l0 x9_1).f3)) := (blk_cell BK112.out 3).trans rfl; have hcz25_4 : w24.cell? ⟨gb112, 4, none⟩ = some (.slice A111_4 ((rd_T31 l0 x9_1).f4).length c111_4) := (blk_cell BK112.out 4).trans rfl; have hcz25_5 : w24.cell? ⟨gb112, 5, none⟩ = some (.bool ((rd_T31 l0 x9_1).f5)) := (blk_cell BK112.out 5).trans rfl; have hcz25_6 : w24.cell? ⟨gb112, 6, none⟩ = some (.slice A111_6 ((rd_T31 l0 x9_1).f6).length c111_6) := (blk_cell BK112.out 6).trans rfl; have hfz25_0 := blk_frozen BK112.out 0; have hfz25_1 := blk_frozen BK112.out 1; have hfz25_2 := blk_frozen BK112.out 2; have hfz25_3 := blk_frozen BK112.out 3; have hfz25_4 := blk_frozen BK112.out 4; have hfz25_5 := blk_frozen BK112.out 5; have hfz25_6 := blk_frozen BK112.out 6))
                        go_meet
                        case rel => exact ⟨_, (true), (by first | rfl | (simp; done) | (simp [*]; done)), H', ⟨by have := HK1.out; first | omega | exact Nat.le_refl _⟩, ⟨by (with_reducible repeat (first | refine blk_drewN ?_ _ | refine blk_drew ?_ | refine blk_alloc ?_ _)); exact BK112.out⟩, ⟨by repeat (first | (with_reducible first | exact HB.out | apply below_alloc | apply pw_below_drewN | apply below_drew1 | refine below_set ?_ GE112.out) | exact HB.out)⟩⟩
                      · rw [if_neg c22] at H
                        have c22b0 : decide (100 < (((rd_T31 l0 x9_1).f0).size : Int)) = false := decide_eq_false c22
                        have c22b1 : decide (100 < ((rd_T31 l0 x9_1).f0).size) = false := decide_eq_false (by omega)
                        clear c22
                        have H' := Aside0.mk H
                        clear H
                        have hcz26_0 : w6.cell? ⟨gb112, 0, none⟩ = some (.string (⟨#[]⟩ : ByteArray)) := (blk_cell BK112.out 0).trans rfl
                        have hcz26_1 : w6.cell? ⟨gb112, 1, none⟩ = some (.string (⟨#[]⟩ : ByteArray)) := (blk_cell BK112.out 1).trans rfl
                        have hcz26_2 : w6.cell? ⟨gb112, 2, none⟩ = some (.string (⟨#[]⟩ : ByteArray)) := (blk_cell BK112.out 2).trans rfl
                        have hcz26_3 : w6.cell? ⟨gb112, 3, none⟩ = some (.string (⟨#[]⟩ : ByteArray)) := (blk_cell BK112.out 3).trans rfl
                        have hcz26_4 : w6.cell? ⟨gb112, 4, none⟩ = some (.slice none 0 0) := (blk_cell BK112.out 4).trans rfl
                        have hcz26_5 : w6.cell? ⟨gb112, 5, none⟩ = some (.bool false) := (blk_cell BK112.out 5).trans rfl
                        have hcz26_6 : w6.cell? ⟨gb112, 6, none⟩ = some (.slice none 0 0) := (blk_cell BK112.out 6).trans rfl
                        have hfz26_0 := blk_frozen BK112.out 0
                        have hfz26_1 := blk_frozen BK112.out 1
                        have hfz26_2 := blk_frozen BK112.out 2
                        have hfz26_3 := blk_frozen BK112.out 3
                        have hfz26_4 := blk_frozen BK112.out 4
                        have hfz26_5 := blk_frozen BK112.out 5
                        have hfz26_6 := blk_frozen BK112.out 6
                        go_wp2_with (first | ((with_reducible refine gate_callee (f := 8) rfl ?_); refine goesL_ (some 15) rfl rfl Try.func8 (by kernel_rfl) rfl #[.string ((rd_T31 l0 x9_1).f1)] rfl (by (try simp only [List.map_toArray, List.map_cons, List.map_nil]); first | done | rfl | (simp only [List.length_drop, List.length_take]; rfl)) ?_; (with_reducible refine (spec_Version.calls k1 ((rd_T31 l0 x9_1).f1) true _ A8.out).mono ?_); rintro e w27 ⟨rfl, hb⟩; refine ⟨_, rfl, ?_⟩; have n0_ := Aside0.mk (blk_below (g := gb112) (o := .cells #[.string ((rd_T31 l0 x9_1).f0), .string ((rd_T31 l0 x9_1).f1), .string ((rd_T31 l0 x9_1).f2), .string ((rd_T31 l0 x9_1).f3), .slice A111_4 ((rd_T31 l0 x9_1).f4).length c111_4, .bool ((rd_T31 l0 x9_1).f5), .slice A111_6 ((rd_T31 l0 x9_1).f6).length c111_6] 31 (0, 0)) (by (with_reducible repeat (first | refine blk_drewN ?_ _ | refine blk_drew ?_ | refine blk_alloc ?_ _)); refine blk_put (cs := #[.string ((rd_T31 l0 x9_1).f0), .string ((rd_T31 l0 x9_1).f1), .string ((rd_T31 l0 x9_1).f2), .string ((rd_T31 l0 x9_1).f3), .slice A111_4 ((rd_T31 l0 x9_1).f4).length c111_4, .bool ((rd_T31 l0 x9_1).f5), .slice none 0 0]) ?_ 6 _ rfl; (with_reducible repeat (first | refine blk_drewN ?_ _ | refine blk_drew ?_ | refine blk_alloc ?_ _)); refine blk_put (cs := #[.string ((rd_T31 l0 x9_1).f0), .string ((rd_T31 l0 x9_1).f1), .string ((rd_T31 l0 x9_1).f2), .string ((rd_T31 l0 x9_1).f3), .slice A111_4 ((rd_T31 l0 x9_1).f4).length c111_4, .bool false, .slice none 0 0]) ?_ 5 _ rfl; (with_reducible repeat (first | refine blk_drewN ?_ _ | refine blk_drew ?_ | refine blk_alloc ?_ _)); refine blk_put (cs := #[.string ((rd_T31 l0 x9_1).f0), .string ((rd_T31 l0 x9_1).f1), .string ((rd_T31 l0 x9_1).f2), .string ((rd_T31 l0 x9_1).f3), .slice none 0 0, .bool false, .slice none 0 0]) ?_ 4 _ rfl; (with_reducible repeat (first | refine blk_drewN ?_ _ | refine blk_drew ?_ | refine blk_alloc ?_ _)); refine blk_put (cs := #[.string ((rd_T31 l0 x9_1).f0), .string ((rd_T31 l0 x9_1).f1), .string ((rd_T31 l0 x9_1).f2), .string (⟨#[]⟩ : ByteArray), .slice none 0 0, .bool false, .slice none 0 0]) ?_ 3 _ rfl; (with_reducible repeat (first | refine blk_drewN ?_ _ | refine blk_drew ?_ | refine blk_alloc ?_ _)); refine blk_put (cs := #[.string ((rd_T31 l0 x9_1).f0), .string ((rd_T31 l0 x9_1).f1), .string (⟨#[]⟩ : ByteArray), .string (⟨#[]⟩ : ByteArray), .slice none 0 0, .bool false, .slice none 0 0]) ?_ 2 _ rfl; (with_reducible repeat (first | refine blk_drewN ?_ _ | refine blk_drew ?_ | refine blk_alloc ?_ _)); refine blk_put (cs := #[.string ((rd_T31 l0 x9_1).f0), .string (⟨#[]⟩ : ByteArray), .string (⟨#[]⟩ : ByteArray), .string (⟨#[]⟩ : ByteArray), .slice none 0 0, .bool false, .slice none 0 0]) ?_ 1 _ rfl; (with_reducible repeat (first | refine blk_drewN ?_ _ | refine blk_drew ?_ | refine blk_alloc ?_ _)); refine blk_put (cs := #[.string (⟨#[]⟩ : ByteArray), .string (⟨#[]⟩ : ByteArray), .string (⟨#[]⟩ : ByteArray), .string (⟨#[]⟩ : ByteArray), .slice none 0 0, .bool false, .slice none 0 0]) ?_ 0 _ rfl; (with_reducible repeat (first | refine blk_drewN ?_ _ | refine blk_drew ?_ | refine blk_alloc ?_ _)); exact BK112.out) hb); have n1_ := Aside0.mk (below_step (by repeat (first | (with_reducible first | exact HB.out | apply below_alloc | apply pw_below_drewN | apply below_drew1 | refine below_set ?_ GE112.out) | exact HB.out)) hb); clear BK112; clear HB; have BK112 := n0_; have HB := n1_; clear n0_ n1_; (try clear hb); (try clear hb2); (try clear hk); (try clear hi); have hcz28_0 : w27.cell? ⟨gb112, 0, none⟩ = some (.string ((rd_T31 l0 x9_1).f0)) := (blk_cell BK112.out 0).trans rfl; have hcz28_1 : w27.cell? ⟨gb112, 1, none⟩ = some (.string ((rd_T31 l0 x9_1).f1)) := (blk_cell BK112.out 1).trans rfl; have hcz28_2 : w27.cell? ⟨gb112, 2, none⟩ = some (.string ((rd_T31 l0 x9_1).f2)) := (blk_cell BK112.out 2).trans rfl; have hcz28_3 : w27.cell? ⟨gb112, 3, none⟩ = some (.string ((rd_T31 l0 x9_1).f3)) := (blk_cell BK112.out 3).trans rfl; have hcz28_4 : w27.cell? ⟨gb112, 4, none⟩ = some (.slice A111_4 ((rd_T31 l0 x9_1).f4).length c111_4) := (blk_cell BK112.out 4).trans rfl; have hcz28_5 : w27.cell? ⟨gb112, 5, none⟩ = some (.bool ((rd_T31 l0 x9_1).f5)) := (blk_cell BK112.out 5).trans rfl; have hcz28_6 : w27.cell? ⟨gb112, 6, none⟩ = some (.slice A111_6 ((rd_T31 l0 x9_1).f6).length c111_6) := (blk_cell BK112.out 6).trans rfl; have hfz28_0 := blk_frozen BK112.out 0; have hfz28_1 := blk_frozen BK112.out 1; have hfz28_2 := blk_frozen BK112.out 2; have hfz28_3 := blk_frozen BK112.out 3; have hfz28_4 := blk_frozen BK112.out 4; have hfz28_5 := blk_frozen BK112.out 5; have hfz28_6 := blk_frozen BK112.out 6))
                        go_meet
                        case rel => exact ⟨_, (decide ((((rd_T31 l0 x9_1).f3).size : Int) > 100)), (by first | rfl | (simp; done) | (simp [*]; done)), H', ⟨by have := HK1.out; first | omega | exact Nat.le_refl _⟩, ⟨by (with_reducible repeat (first | refine blk_drewN ?_ _ | refine blk_drew ?_ | refine blk_alloc ?_ _)); exact BK112.out⟩, ⟨by repeat (first | (with_reducible first | exact HB.out | apply below_alloc | apply pw_below_drewN | apply below_drew1 | refine below_set ?_ GE112.out) | exact HB.out)⟩⟩
              · replace c9 := Bool.eq_false_iff.mpr c9
                subst c9
                have H1 : (laws_chWants.j1 k1 l0 l0 (l0.length : Int) x9_1 true ((rd_T31 l0 x9_1).f0) ((rd_T31 l0 x9_1).f1) ((rd_T31 l0 x9_1).f2) ((rd_T31 l0 x9_1).f3) ((rd_T31 l0 x9_1).f4) ((rd_T31 l0 x9_1).f5) ((rd_T31 l0 x9_1).f6)) = some r := by rw [if_neg (show ¬ (false = true) by decide)] at H; exact H
                clear H
                have H := H1
                clear H1
                have H' := Aside0.mk H
                clear H
                have hcz29_0 : w6.cell? ⟨gb112, 0, none⟩ = some (.string (⟨#[]⟩ : ByteArray)) := (blk_cell BK112.out 0).trans rfl
                have hcz29_1 : w6.cell? ⟨gb112, 1, none⟩ = some (.string (⟨#[]⟩ : ByteArray)) := (blk_cell BK112.out 1).trans rfl
                have hcz29_2 : w6.cell? ⟨gb112, 2, none⟩ = some (.string (⟨#[]⟩ : ByteArray)) := (blk_cell BK112.out 2).trans rfl
                have hcz29_3 : w6.cell? ⟨gb112, 3, none⟩ = some (.string (⟨#[]⟩ : ByteArray)) := (blk_cell BK112.out 3).trans rfl
                have hcz29_4 : w6.cell? ⟨gb112, 4, none⟩ = some (.slice none 0 0) := (blk_cell BK112.out 4).trans rfl
                have hcz29_5 : w6.cell? ⟨gb112, 5, none⟩ = some (.bool false) := (blk_cell BK112.out 5).trans rfl
                have hcz29_6 : w6.cell? ⟨gb112, 6, none⟩ = some (.slice none 0 0) := (blk_cell BK112.out 6).trans rfl
                have hfz29_0 := blk_frozen BK112.out 0
                have hfz29_1 := blk_frozen BK112.out 1
                have hfz29_2 := blk_frozen BK112.out 2
                have hfz29_3 := blk_frozen BK112.out 3
                have hfz29_4 := blk_frozen BK112.out 4
                have hfz29_5 := blk_frozen BK112.out 5
                have hfz29_6 := blk_frozen BK112.out 6
                go_wp2_with (first | ((with_reducible refine gate_callee (f := 8) rfl ?_); refine goesL_ (some 15) rfl rfl Try.func8 (by kernel_rfl) rfl #[.string ((rd_T31 l0 x9_1).f1)] rfl (by (try simp only [List.map_toArray, List.map_cons, List.map_nil]); first | done | rfl | (simp only [List.length_drop, List.length_take]; rfl)) ?_; (with_reducible refine (spec_Version.calls k1 ((rd_T31 l0 x9_1).f1) false _ A8.out).mono ?_); rintro e w30 ⟨rfl, hb⟩; refine ⟨_, rfl, ?_⟩; have n0_ := Aside0.mk (blk_below (g := gb112) (o := .cells #[.string ((rd_T31 l0 x9_1).f0), .string ((rd_T31 l0 x9_1).f1), .string ((rd_T31 l0 x9_1).f2), .string ((rd_T31 l0 x9_1).f3), .slice A111_4 ((rd_T31 l0 x9_1).f4).length c111_4, .bool ((rd_T31 l0 x9_1).f5), .slice A111_6 ((rd_T31 l0 x9_1).f6).length c111_6] 31 (0, 0)) (by (with_reducible repeat (first | refine blk_drewN ?_ _ | refine blk_drew ?_ | refine blk_alloc ?_ _)); refine blk_put (cs := #[.string ((rd_T31 l0 x9_1).f0), .string ((rd_T31 l0 x9_1).f1), .string ((rd_T31 l0 x9_1).f2), .string ((rd_T31 l0 x9_1).f3), .slice A111_4 ((rd_T31 l0 x9_1).f4).length c111_4, .bool ((rd_T31 l0 x9_1).f5), .slice none 0 0]) ?_ 6 _ rfl; (with_reducible repeat (first | refine blk_drewN ?_ _ | refine blk_drew ?_ | refine blk_alloc ?_ _)); refine blk_put (cs := #[.string ((rd_T31 l0 x9_1).f0), .string ((rd_T31 l0 x9_1).f1), .string ((rd_T31 l0 x9_1).f2), .string ((rd_T31 l0 x9_1).f3), .slice A111_4 ((rd_T31 l0 x9_1).f4).length c111_4, .bool false, .slice none 0 0]) ?_ 5 _ rfl; (with_reducible repeat (first | refine blk_drewN ?_ _ | refine blk_drew ?_ | refine blk_alloc ?_ _)); refine blk_put (cs := #[.string ((rd_T31 l0 x9_1).f0), .string ((rd_T31 l0 x9_1).f1), .string ((rd_T31 l0 x9_1).f2), .string ((rd_T31 l0 x9_1).f3), .slice none 0 0, .bool false, .slice none 0 0]) ?_ 4 _ rfl; (with_reducible repeat (first | refine blk_drewN ?_ _ | refine blk_drew ?_ | refine blk_alloc ?_ _)); refine blk_put (cs := #[.string ((rd_T31 l0 x9_1).f0), .string ((rd_T31 l0 x9_1).f1), .string ((rd_T31 l0 x9_1).f2), .string (⟨#[]⟩ : ByteArray), .slice none 0 0, .bool false, .slice none 0 0]) ?_ 3 _ rfl; (with_reducible repeat (first | refine blk_drewN ?_ _ | refine blk_drew ?_ | refine blk_alloc ?_ _)); refine blk_put (cs := #[.string ((rd_T31 l0 x9_1).f0), .string ((rd_T31 l0 x9_1).f1), .string (⟨#[]⟩ : ByteArray), .string (⟨#[]⟩ : ByteArray), .slice none 0 0, .bool false, .slice none 0 0]) ?_ 2 _ rfl; (with_reducible repeat (first | refine blk_drewN ?_ _ | refine blk_drew ?_ | refine blk_alloc ?_ _)); refine blk_put (cs := #[.string ((rd_T31 l0 x9_1).f0), .string (⟨#[]⟩ : ByteArray), .string (⟨#[]⟩ : ByteArray), .string (⟨#[]⟩ : ByteArray), .slice none 0 0, .bool false, .slice none 0 0]) ?_ 1 _ rfl; (with_reducible repeat (first | refine blk_drewN ?_ _ | refine blk_drew ?_ | refine blk_alloc ?_ _)); refine blk_put (cs := #[.string (⟨#[]⟩ : ByteArray), .string (⟨#[]⟩ : ByteArray), .string (⟨#[]⟩ : ByteArray), .string (⟨#[]⟩ : ByteArray), .slice none 0 0, .bool false, .slice none 0 0]) ?_ 0 _ rfl; (with_reducible repeat (first | refine blk_drewN ?_ _ | refine blk_drew ?_ | refine blk_alloc ?_ _)); exact BK112.out) hb); have n1_ := Aside0.mk (below_step (by repeat (first | (with_reducible first | exact HB.out | apply below_alloc | apply pw_below_drewN | apply below_drew1 | refine below_set ?_ GE112.out) | exact HB.out)) hb); clear BK112; clear HB; have BK112 := n0_; have HB := n1_; clear n0_ n1_; (try clear hb); (try clear hb2); (try clear hk); (try clear hi)))
                go_meet
                case rel => exact ⟨_, (true), (by first | rfl | (simp; done) | (simp [*]; done)), H', ⟨by have := HK1.out; first | omega | exact Nat.le_refl _⟩, ⟨by (with_reducible repeat (first | refine blk_drewN ?_ _ | refine blk_drew ?_ | refine blk_alloc ?_ _)); exact BK112.out⟩, ⟨by repeat (first | (with_reducible first | exact HB.out | apply below_alloc | apply pw_below_drewN | apply below_drew1 | refine below_set ?_ GE112.out) | exact HB.out)⟩⟩
            case rest =>
              clear HC5
              try clear c1
              try clear p1
              try clear q1
              try clear hx1
              try clear c2
              try clear c2b0
              try clear p2
              try clear c3
              try clear c3b0
              try clear c4
              try clear c4b0
              try clear c8
              try clear c9
              try clear c10
              try clear c10b0
              try clear c10b1
              try clear c11
              try clear p11
              try clear q11
              try clear hx11
              try clear c14
              try clear c14b0
              try clear c14b1
              try clear c18
              try clear c18b0
              try clear c18b1
              try clear c22
              try clear c22b0
              try clear c22b1
              try clear hcz11_0
              try clear hcz11_1
              try clear hcz11_2
              try clear hcz11_3
              try clear hcz11_4
              try clear hcz11_5
              try clear hcz11_6
              try clear hcz13_0
              try clear hcz13_1
              try clear hcz13_2
              try clear hcz13_3
              try clear hcz13_4
              try clear hcz13_5
              try clear hcz13_6
              try clear hcz15_0
              try clear hcz15_1
              try clear hcz15_2
              try clear hcz15_3
              try clear hcz15_4
              try clear hcz15_5
              try clear hcz15_6
              try clear hcz17_0
              try clear hcz17_1
              try clear hcz17_2
              try clear hcz17_3
              try clear hcz17_4
              try clear hcz17_5
              try clear hcz17_6
              try clear hcz19_0
              try clear hcz19_1
              try clear hcz19_2
              try clear hcz19_3
              try clear hcz19_4
              try clear hcz19_5
              try clear hcz19_6
              try clear hcz21_0
              try clear hcz21_1
              try clear hcz21_2
              try clear hcz21_3
              try clear hcz21_4
              try clear hcz21_5
              try clear hcz21_6
              try clear hcz23_0
              try clear hcz23_1
              try clear hcz23_2
              try clear hcz23_3
              try clear hcz23_4
              try clear hcz23_5
              try clear hcz23_6
              try clear hcz25_0
              try clear hcz25_1
              try clear hcz25_2
              try clear hcz25_3
              try clear hcz25_4
              try clear hcz25_5
              try clear hcz25_6
              try clear hcz26_0
              try clear hcz26_1
              try clear hcz26_2
              try clear hcz26_3
              try clear hcz26_4
              try clear hcz26_5
              try clear hcz26_6
              try clear hcz28_0
              try clear hcz28_1
              try clear hcz28_2
              try clear hcz28_3
              try clear hcz28_4
              try clear hcz28_5
              try clear hcz28_6
              try clear hcz29_0
              try clear hcz29_1
              try clear hcz29_2
              try clear hcz29_3
              try clear hcz29_4
              try clear hcz29_5
              try clear hcz29_6
              try clear hcz7_0
              try clear hcz7_1
              try clear hcz7_2
              try clear hcz7_3
              try clear hcz7_4
              try clear hcz7_5
              try clear hcz7_6
              try clear hfz11_0
              try clear hfz11_1
              try clear hfz11_2
              try clear hfz11_3
              try clear hfz11_4
              try clear hfz11_5
              try clear hfz11_6
              try clear hfz13_0
              try clear hfz13_1
              try clear hfz13_2
              try clear hfz13_3
              try clear hfz13_4
              try clear hfz13_5
              try clear hfz13_6
              try clear hfz15_0
              try clear hfz15_1
              try clear hfz15_2
              try clear hfz15_3
              try clear hfz15_4
              try clear hfz15_5
              try clear hfz15_6
              try clear hfz17_0
              try clear hfz17_1
              try clear hfz17_2
              try clear hfz17_3
              try clear hfz17_4
              try clear hfz17_5
              try clear hfz17_6
              try clear hfz19_0
              try clear hfz19_1
              try clear hfz19_2
              try clear hfz19_3
              try clear hfz19_4
              try clear hfz19_5
              try clear hfz19_6
              try clear hfz21_0
              try clear hfz21_1
              try clear hfz21_2
              try clear hfz21_3
              try clear hfz21_4
              try clear hfz21_5
              try clear hfz21_6
              try clear hfz23_0
              try clear hfz23_1
              try clear hfz23_2
              try clear hfz23_3
              try clear hfz23_4
              try clear hfz23_5
              try clear hfz23_6
              try clear hfz25_0
              try clear hfz25_1
              try clear hfz25_2
              try clear hfz25_3
              try clear hfz25_4
              try clear hfz25_5
              try clear hfz25_6
              try clear hfz26_0
              try clear hfz26_1
              try clear hfz26_2
              try clear hfz26_3
              try clear hfz26_4
              try clear hfz26_5
              try clear hfz26_6
              try clear hfz28_0
              try clear hfz28_1
              try clear hfz28_2
              try clear hfz28_3
              try clear hfz28_4
              try clear hfz28_5
              try clear hfz28_6
              try clear hfz29_0
              try clear hfz29_1
              try clear hfz29_2
              try clear hfz29_3
              try clear hfz29_4
              try clear hfz29_5
              try clear hfz29_6
              try clear hfz7_0
              try clear hfz7_1
              try clear hfz7_2
              try clear hfz7_3
              try clear hfz7_4
              try clear hfz7_5
              try clear hfz7_6
              try clear hx111_0
              try clear hx111_1
              try clear hx111_2
              try clear hx111_3
              try clear hx111_4
              try clear hx111_5
              try clear hx111_6
              try clear p111
              try clear q111
              obtain ⟨kq, x46_4, rfl, HA, HJ4, BK112, HB⟩ := hcut
              cases kq with
              | zero => exact absurd HA.out (by simp [laws_chWants.j1])
              | succ kj4 =>
                have H := HA.out
                clear HA
                simp only [laws_chWants.j1] at H
                by_cases c31 : x46_4 = true
                · subst c31
                  have H1 : (some false) = some r := by rw [if_pos rfl] at H; exact H
                  clear H
                  have H := H1
                  clear H1
                  obtain rfl := Option.some.inj H
                  go_wp2
                  go_ret
                  exact ⟨by first | rfl | (simp [errW_none, errW_some] <;> rfl) | (simp [*, errW_none, errW_some] <;> rfl), by repeat (first | (with_reducible first | exact HB.out | apply below_alloc | apply pw_below_drewN | apply below_drew1 | refine below_set ?_ GE112.out) | exact HB.out)⟩
                · replace c31 := Bool.eq_false_iff.mpr c31
                  subst c31
                  have H1 : (laws_chWants.l1 kj4 l0 l0 (l0.length : Int) x9_1 ((rd_T31 l0 x9_1).f6) (((rd_T31 l0 x9_1).f6).length : Int) 0) = some r := by rw [if_neg (show ¬ (false = true) by decide)] at H; exact H
                  clear H
                  have H := H1
                  clear H1
                  have H' := Aside0.mk H
                  clear H
                  have hcz32_0 : wc.cell? ⟨gb112, 0, none⟩ = some (.string ((rd_T31 l0 x9_1).f0)) := (blk_cell BK112.out 0).trans rfl
                  have hcz32_1 : wc.cell? ⟨gb112, 1, none⟩ = some (.string ((rd_T31 l0 x9_1).f1)) := (blk_cell BK112.out 1).trans rfl
                  have hcz32_2 : wc.cell? ⟨gb112, 2, none⟩ = some (.string ((rd_T31 l0 x9_1).f2)) := (blk_cell BK112.out 2).trans rfl
                  have hcz32_3 : wc.cell? ⟨gb112, 3, none⟩ = some (.string ((rd_T31 l0 x9_1).f3)) := (blk_cell BK112.out 3).trans rfl
                  have hcz32_4 : wc.cell? ⟨gb112, 4, none⟩ = some (.slice A111_4 ((rd_T31 l0 x9_1).f4).length c111_4) := (blk_cell BK112.out 4).trans rfl
                  have hcz32_5 : wc.cell? ⟨gb112, 5, none⟩ = some (.bool ((rd_T31 l0 x9_1).f5)) := (blk_cell BK112.out 5).trans rfl
                  have hcz32_6 : wc.cell? ⟨gb112, 6, none⟩ = some (.slice A111_6 ((rd_T31 l0 x9_1).f6).length c111_6) := (blk_cell BK112.out 6).trans rfl
                  have hfz32_0 := blk_frozen BK112.out 0
                  have hfz32_1 := blk_frozen BK112.out 1
                  have hfz32_2 := blk_frozen BK112.out 2
                  have hfz32_3 := blk_frozen BK112.out 3
                  have hfz32_4 := blk_frozen BK112.out 4
                  have hfz32_5 := blk_frozen BK112.out 5
                  have hfz32_6 := blk_frozen BK112.out 6
                  go_wp2
                  go_loopg [50] kj4 (fun kq v50 w' => ∃ (x50_3 : Int), v50 = .int .i64 x50_3 ∧ Aside0 (laws_chWants.l1 kq l0 l0 (l0.length : Int) x9_1 ((rd_T31 l0 x9_1).f6) (((rd_T31 l0 x9_1).f6).length : Int) x50_3 = some r) ∧ Aside0 (kq ≤ kj4) ∧ Aside0 (w'.heap[gb112]? = some (.cells #[.string ((rd_T31 l0 x9_1).f0), .string ((rd_T31 l0 x9_1).f1), .string ((rd_T31 l0 x9_1).f2), .string ((rd_T31 l0 x9_1).f3), (.slice A111_4 ((rd_T31 l0 x9_1).f4).length c111_4), .bool ((rd_T31 l0 x9_1).f5), (.slice A111_6 ((rd_T31 l0 x9_1).f6).length c111_6)] 31 (0, 0))) ∧ Aside0 (Below w.heap.size w w'))
                  case atStart => exact ⟨(0), (by first | rfl | (simp; done) | (simp [*]; done)), H', ⟨Nat.le_refl _⟩, ⟨by (with_reducible repeat (first | refine blk_drewN ?_ _ | refine blk_drew ?_ | refine blk_alloc ?_ _)); exact BK112.out⟩, ⟨by repeat (first | (with_reducible first | exact HB.out | apply below_alloc | apply pw_below_drewN | apply below_drew1 | refine below_set ?_ GE112.out) | exact HB.out)⟩⟩
                  case round =>
                    clear H'
                    try clear c1
                    try clear p1
                    try clear q1
                    try clear hx1
                    try clear c2
                    try clear c2b0
                    try clear p2
                    try clear c3
                    try clear c3b0
                    try clear c4
                    try clear c4b0
                    try clear c8
                    try clear c9
                    try clear c10
                    try clear c10b0
                    try clear c10b1
                    try clear c11
                    try clear p11
                    try clear q11
                    try clear hx11
                    try clear c14
                    try clear c14b0
                    try clear c14b1
                    try clear c18
                    try clear c18b0
                    try clear c18b1
                    try clear c22
                    try clear c22b0
                    try clear c22b1
                    try clear c31
                    try clear hcz11_0
                    try clear hcz11_1
                    try clear hcz11_2
                    try clear hcz11_3
                    try clear hcz11_4
                    try clear hcz11_5
                    try clear hcz11_6
                    try clear hcz13_0
                    try clear hcz13_1
                    try clear hcz13_2
                    try clear hcz13_3
                    try clear hcz13_4
                    try clear hcz13_5
                    try clear hcz13_6
                    try clear hcz15_0
                    try clear hcz15_1
                    try clear hcz15_2
                    try clear hcz15_3
                    try clear hcz15_4
                    try clear hcz15_5
                    try clear hcz15_6
                    try clear hcz17_0
                    try clear hcz17_1
                    try clear hcz17_2
                    try clear hcz17_3
                    try clear hcz17_4
                    try clear hcz17_5
                    try clear hcz17_6
                    try clear hcz19_0
                    try clear hcz19_1
                    try clear hcz19_2
                    try clear hcz19_3
                    try clear hcz19_4
                    try clear hcz19_5
                    try clear hcz19_6
                    try clear hcz21_0
                    try clear hcz21_1
                    try clear hcz21_2
                    try clear hcz21_3
                    try clear hcz21_4
                    try clear hcz21_5
                    try clear hcz21_6
                    try clear hcz23_0
                    try clear hcz23_1
                    try clear hcz23_2
                    try clear hcz23_3
                    try clear hcz23_4
                    try clear hcz23_5
                    try clear hcz23_6
                    try clear hcz25_0
                    try clear hcz25_1
                    try clear hcz25_2
                    try clear hcz25_3
                    try clear hcz25_4
                    try clear hcz25_5
                    try clear hcz25_6
                    try clear hcz26_0
                    try clear hcz26_1
                    try clear hcz26_2
                    try clear hcz26_3
                    try clear hcz26_4
                    try clear hcz26_5
                    try clear hcz26_6
                    try clear hcz28_0
                    try clear hcz28_1
                    try clear hcz28_2
                    try clear hcz28_3
                    try clear hcz28_4
                    try clear hcz28_5
                    try clear hcz28_6
                    try clear hcz29_0
                    try clear hcz29_1
                    try clear hcz29_2
                    try clear hcz29_3
                    try clear hcz29_4
                    try clear hcz29_5
                    try clear hcz29_6
                    try clear hcz32_0
                    try clear hcz32_1
                    try clear hcz32_2
                    try clear hcz32_3
                    try clear hcz32_4
                    try clear hcz32_5
                    try clear hcz32_6
                    try clear hcz7_0
                    try clear hcz7_1
                    try clear hcz7_2
                    try clear hcz7_3
                    try clear hcz7_4
                    try clear hcz7_5
                    try clear hcz7_6
                    try clear hfz11_0
                    try clear hfz11_1
                    try clear hfz11_2
                    try clear hfz11_3
                    try clear hfz11_4
                    try clear hfz11_5
                    try clear hfz11_6
                    try clear hfz13_0
                    try clear hfz13_1
                    try clear hfz13_2
                    try clear hfz13_3
                    try clear hfz13_4
                    try clear hfz13_5
                    try clear hfz13_6
                    try clear hfz15_0
                    try clear hfz15_1
                    try clear hfz15_2
                    try clear hfz15_3
                    try clear hfz15_4
                    try clear hfz15_5
                    try clear hfz15_6
                    try clear hfz17_0
                    try clear hfz17_1
                    try clear hfz17_2
                    try clear hfz17_3
                    try clear hfz17_4
                    try clear hfz17_5
                    try clear hfz17_6
                    try clear hfz19_0
                    try clear hfz19_1
                    try clear hfz19_2
                    try clear hfz19_3
                    try clear hfz19_4
                    try clear hfz19_5
                    try clear hfz19_6
                    try clear hfz21_0
                    try clear hfz21_1
                    try clear hfz21_2
                    try clear hfz21_3
                    try clear hfz21_4
                    try clear hfz21_5
                    try clear hfz21_6
                    try clear hfz23_0
                    try clear hfz23_1
                    try clear hfz23_2
                    try clear hfz23_3
                    try clear hfz23_4
                    try clear hfz23_5
                    try clear hfz23_6
                    try clear hfz25_0
                    try clear hfz25_1
                    try clear hfz25_2
                    try clear hfz25_3
                    try clear hfz25_4
                    try clear hfz25_5
                    try clear hfz25_6
                    try clear hfz26_0
                    try clear hfz26_1
                    try clear hfz26_2
                    try clear hfz26_3
                    try clear hfz26_4
                    try clear hfz26_5
                    try clear hfz26_6
                    try clear hfz28_0
                    try clear hfz28_1
                    try clear hfz28_2
                    try clear hfz28_3
                    try clear hfz28_4
                    try clear hfz28_5
                    try clear hfz28_6
                    try clear hfz29_0
                    try clear hfz29_1
                    try clear hfz29_2
                    try clear hfz29_3
                    try clear hfz29_4
                    try clear hfz29_5
                    try clear hfz29_6
                    try clear hfz32_0
                    try clear hfz32_1
                    try clear hfz32_2
                    try clear hfz32_3
                    try clear hfz32_4
                    try clear hfz32_5
                    try clear hfz32_6
                    try clear hfz7_0
                    try clear hfz7_1
                    try clear hfz7_2
                    try clear hfz7_3
                    try clear hfz7_4
                    try clear hfz7_5
                    try clear hfz7_6
                    try clear hx111_0
                    try clear hx111_1
                    try clear hx111_2
                    try clear hx111_3
                    try clear hx111_4
                    try clear hx111_5
                    try clear hx111_6
                    try clear p1
                    try clear p11
                    try clear p111
                    try clear p2
                    try clear q1
                    try clear q11
                    try clear q111
                    obtain ⟨x50_3, rfl, HA, HK3, BK112, HB⟩ := hrel
                    cases gk with
                    | zero => exact absurd HA.out (by simp [laws_chWants.l1])
                    | succ k3 =>
                      have H := HA.out
                      clear HA
                      simp only [laws_chWants.l1] at H
                      by_cases c33 : x50_3 < (((rd_T31 l0 x9_1).f6).length : Int)
                      · rw [if_pos c33] at H
                        have c33b0 : decide (x50_3 < (((rd_T31 l0 x9_1).f6).length : Int)) = true := decide_eq_true c33
                        clear c33
                        by_cases c34 : 0 ≤ x50_3
                        · rw [if_pos c34] at H
                          have c34b0 : decide (0 ≤ x50_3) = true := decide_eq_true c34
                          clear c34
                          by_cases c35 : x50_3 < (((rd_T31 l0 x9_1).f6).length : Int)
                          · rw [if_pos c35] at H
                            have c35b0 : decide (x50_3 < (((rd_T31 l0 x9_1).f6).length : Int)) = true := decide_eq_true c35
                            clear c35
                            obtain ⟨bq36, hbq36⟩ : ∃ b_ : Bool, b_ = ((rd_T60 ((rd_T31 l0 x9_1).f6) x50_3).f3) := ⟨_, rfl⟩
                            replace H : (if bq36 = true then (if ((rd_T60 ((rd_T31 l0 x9_1).f6) x50_3).f0).toList = ([] : List UInt8) then (if (bq36 = true) then (laws_chWants.l1 k3 l0 l0 (l0.length : Int) x9_1 ((rd_T31 l0 x9_1).f6) (((rd_T31 l0 x9_1).f6).length : Int) (wrap64 (x50_3 + 1))) else (if ((rd_T60 ((rd_T31 l0 x9_1).f6) x50_3).f1).size + ((rd_T60 ((rd_T31 l0 x9_1).f6) x50_3).f2).size ≤ 9223372036854775807 then (if (((rd_T60 ((rd_T31 l0 x9_1).f6) x50_3).f1) ++ ((rd_T60 ((rd_T31 l0 x9_1).f6) x50_3).f2)).toList = ([] : List UInt8) then (laws_chWants.l1 k3 l0 l0 (l0.length : Int) x9_1 ((rd_T31 l0 x9_1).f6) (((rd_T31 l0 x9_1).f6).length : Int) (wrap64 (x50_3 + 1))) else (some false)) else (none))) else (some false)) else (if (bq36 = true) then (laws_chWants.l1 k3 l0 l0 (l0.length : Int) x9_1 ((rd_T31 l0 x9_1).f6) (((rd_T31 l0 x9_1).f6).length : Int) (wrap64 (x50_3 + 1))) else (if ((rd_T60 ((rd_T31 l0 x9_1).f6) x50_3).f1).size + ((rd_T60 ((rd_T31 l0 x9_1).f6) x50_3).f2).size ≤ 9223372036854775807 then (if (((rd_T60 ((rd_T31 l0 x9_1).f6) x50_3).f1) ++ ((rd_T60 ((rd_T31 l0 x9_1).f6) x50_3).f2)).toList = ([] : List UInt8) then (laws_chWants.l1 k3 l0 l0 (l0.length : Int) x9_1 ((rd_T31 l0 x9_1).f6) (((rd_T31 l0 x9_1).f6).length : Int) (wrap64 (x50_3 + 1))) else (some false)) else (none)))) = some r := by rw [← hbq36] at H; exact H
                            have Nbq36 := Aside0.mk hbq36
                            clear hbq36
                            by_cases c37 : bq36 = true
                            · subst c37
                              have H1 : (if ((rd_T60 ((rd_T31 l0 x9_1).f6) x50_3).f0).toList = ([] : List UInt8) then (if (true = true) then (laws_chWants.l1 k3 l0 l0 (l0.length : Int) x9_1 ((rd_T31 l0 x9_1).f6) (((rd_T31 l0 x9_1).f6).length : Int) (wrap64 (x50_3 + 1))) else (if ((rd_T60 ((rd_T31 l0 x9_1).f6) x50_3).f1).size + ((rd_T60 ((rd_T31 l0 x9_1).f6) x50_3).f2).size ≤ 9223372036854775807 then (if (((rd_T60 ((rd_T31 l0 x9_1).f6) x50_3).f1) ++ ((rd_T60 ((rd_T31 l0 x9_1).f6) x50_3).f2)).toList = ([] : List UInt8) then (laws_chWants.l1 k3 l0 l0 (l0.length : Int) x9_1 ((rd_T31 l0 x9_1).f6) (((rd_T31 l0 x9_1).f6).length : Int) (wrap64 (x50_3 + 1))) else (some false)) else (none))) else (some false)) = some r := by rw [if_pos rfl] at H; exact H
                              clear H
                              have H := H1
                              clear H1
                              by_cases c38 : ((rd_T60 ((rd_T31 l0 x9_1).f6) x50_3).f0).toList = ([] : List UInt8)
                              · rw [if_pos c38] at H
                                have c38b0 : (((rd_T60 ((rd_T31 l0 x9_1).f6) x50_3).f0).toList == ([] : List UInt8)) = true := beq_iff_eq.mpr c38
                                have c38b1 : (((rd_T60 ((rd_T31 l0 x9_1).f6) x50_3).f0).toList != ([] : List UInt8)) = false := bne_eq_false_iff_eq.mpr c38
                                clear c38
                                by_cases c39 : (true = true)
                                · clear c39
                                  have H1 : (laws_chWants.l1 k3 l0 l0 (l0.length : Int) x9_1 ((rd_T31 l0 x9_1).f6) (((rd_T31 l0 x9_1).f6).length : Int) (wrap64 (x50_3 + 1))) = some r := by rw [if_pos rfl] at H; exact H
                                  clear H
                                  have H := H1
                                  clear H1
                                  have H' := Aside0.mk H
                                  clear H
                                  have p114 : 0 ≤ (x50_3 : Int) := of_decide_eq_true (by first | (with_reducible assumption) | assumption)
                                  have q114 : x50_3 < (((rd_T31 l0 x9_1).f6).length : Int) := of_decide_eq_true (by first | (with_reducible assumption) | assumption)
                                  obtain ⟨ad114, e114, hx114_0, hx114_1, hx114_2, hx114_3⟩ := at_T60 HR111_6.out x50_3 p114 q114
                                  (try rw [← Nbq36.out] at hx114_3)
                                  cases e114
                                  replace hx114_0 := (HB.out.cell (World.block_lt_of_cell? w _ hx114_0)).trans hx114_0
                                  replace hx114_1 := (HB.out.cell (World.block_lt_of_cell? w _ hx114_1)).trans hx114_1
                                  replace hx114_2 := (HB.out.cell (World.block_lt_of_cell? w _ hx114_2)).trans hx114_2
                                  replace hx114_3 := (HB.out.cell (World.block_lt_of_cell? w _ hx114_3)).trans hx114_3
                                  replace p114 := eq_true p114
                                  replace q114 := eq_true q114
                                  go_wp2_with (first | ((with_reducible refine gate_dst (N := 6) rfl ?_); (try (refine gate_guard (by rfl) ?_; dsimp only)); refine box_event ?hg (N := 6) ?hd (cs := #[.string (⟨#[]⟩ : ByteArray), .string (⟨#[]⟩ : ByteArray), .string (⟨#[]⟩ : ByteArray), .bool false]) (t := 60) ?hr ?_; (case hd => rfl); (case hg => rfl); (case hr => first | (go_simp; done) | (go_simp; rfl)); intro gb115 hg w40 hbox hb; have n0_ := Aside0.mk (blk_below (g := gb112) (o := .cells #[.string ((rd_T31 l0 x9_1).f0), .string ((rd_T31 l0 x9_1).f1), .string ((rd_T31 l0 x9_1).f2), .string ((rd_T31 l0 x9_1).f3), .slice A111_4 ((rd_T31 l0 x9_1).f4).length c111_4, .bool ((rd_T31 l0 x9_1).f5), .slice (some ad114) ((rd_T31 l0 x9_1).f6).length c111_6] 31 (0, 0)) (by (with_reducible repeat (first | refine blk_drewN ?_ _ | refine blk_drew ?_ | refine blk_alloc ?_ _)); exact BK112.out) hb); have n1_ := Aside0.mk (below_step (by repeat (first | (with_reducible first | exact HB.out | apply below_alloc | apply pw_below_drewN | apply below_drew1 | refine below_set ?_ GE112.out) | exact HB.out)) hb); have n2_ := Aside0.mk (hbox); have n3_ := Aside0.mk ((by rw [hg]; exact (below_size (by repeat (first | (with_reducible first | exact HB.out | apply below_alloc | apply pw_below_drewN | apply below_drew1 | refine below_set ?_ GE112.out) | exact HB.out))) : w.heap.size ≤ gb115)); have n4_ := Aside0.mk ((by rw [hg]; exact (below_size (by repeat (first | (with_reducible first | exact HB.out | apply below_alloc | apply pw_below_drewN | apply below_drew1 | refine below_set ?_ GE112.out) | exact HB.out))) : w.heap.size ≤ gb115)); have n5_ := Aside0.mk ((by rw [hg]; exact Nat.ne_of_lt (blk_lt (g := gb112) (o := .cells #[.string ((rd_T31 l0 x9_1).f0), .string ((rd_T31 l0 x9_1).f1), .string ((rd_T31 l0 x9_1).f2), .string ((rd_T31 l0 x9_1).f3), .slice A111_4 ((rd_T31 l0 x9_1).f4).length c111_4, .bool ((rd_T31 l0 x9_1).f5), .slice (some ad114) ((rd_T31 l0 x9_1).f6).length c111_6] 31 (0, 0)) (by (with_reducible repeat (first | refine blk_drewN ?_ _ | refine blk_drew ?_ | refine blk_alloc ?_ _)); exact BK112.out)) : gb112 ≠ gb115)); have n6_ := Aside0.mk ((by rw [hg]; exact Nat.ne_of_gt (blk_lt (g := gb112) (o := .cells #[.string ((rd_T31 l0 x9_1).f0), .string ((rd_T31 l0 x9_1).f1), .string ((rd_T31 l0 x9_1).f2), .string ((rd_T31 l0 x9_1).f3), .slice A111_4 ((rd_T31 l0 x9_1).f4).length c111_4, .bool ((rd_T31 l0 x9_1).f5), .slice (some ad114) ((rd_T31 l0 x9_1).f6).length c111_6] 31 (0, 0)) (by (with_reducible repeat (first | refine blk_drewN ?_ _ | refine blk_drew ?_ | refine blk_alloc ?_ _)); exact BK112.out)) : gb115 ≠ gb112)); clear BK112; clear HB; have BK112 := n0_; have HB := n1_; have BK115 := n2_; have GW115 := n3_; have GE115 := n4_; have NB112_115 := n5_; have NB115_112 := n6_; clear n0_ n1_ n2_ n3_ n4_ n5_ n6_; clear hb hbox hg; have hnb41 := NB115_112.out; have hnc41 := NB112_115.out; have hcz42_0 : w40.cell? ⟨gb115, 0, none⟩ = some (.string (⟨#[]⟩ : ByteArray)) := (blk_cell BK115.out 0).trans rfl; have hcz42_1 : w40.cell? ⟨gb115, 1, none⟩ = some (.string (⟨#[]⟩ : ByteArray)) := (blk_cell BK115.out 1).trans rfl; have hcz42_2 : w40.cell? ⟨gb115, 2, none⟩ = some (.string (⟨#[]⟩ : ByteArray)) := (blk_cell BK115.out 2).trans rfl; have hcz42_3 : w40.cell? ⟨gb115, 3, none⟩ = some (.bool false) := (blk_cell BK115.out 3).trans rfl; have hfz42_0 := blk_frozen BK115.out 0; have hfz42_1 := blk_frozen BK115.out 1; have hfz42_2 := blk_frozen BK115.out 2; have hfz42_3 := blk_frozen BK115.out 3))
                                  go_roundg k3
                                  case measure => have := HK1.out; have := HJ4.out; have := HK3.out; omega
                                  case rel => exact ⟨(wrap64 (x50_3 + 1)), (by first | rfl | (simp; done) | (simp [*]; done)), H', ⟨by have := HK1.out; have := HJ4.out; have := HK3.out; omega⟩, ⟨by (with_reducible repeat (first | refine blk_drewN ?_ _ | refine blk_drew ?_ | refine blk_alloc ?_ _)); refine blk_far ?_ NB112_115.out _; (with_reducible repeat (first | refine blk_drewN ?_ _ | refine blk_drew ?_ | refine blk_alloc ?_ _)); refine blk_far ?_ NB112_115.out _; (with_reducible repeat (first | refine blk_drewN ?_ _ | refine blk_drew ?_ | refine blk_alloc ?_ _)); refine blk_far ?_ NB112_115.out _; (with_reducible repeat (first | refine blk_drewN ?_ _ | refine blk_drew ?_ | refine blk_alloc ?_ _)); refine blk_far ?_ NB112_115.out _; (with_reducible repeat (first | refine blk_drewN ?_ _ | refine blk_drew ?_ | refine blk_alloc ?_ _)); exact BK112.out⟩, ⟨by repeat (first | (with_reducible first | exact HB.out | apply below_alloc | apply pw_below_drewN | apply below_drew1 | refine below_set ?_ GE112.out | refine below_set ?_ GE115.out) | exact HB.out)⟩⟩
                                · exact absurd rfl c39
                              · rw [if_neg c38] at H
                                have c38b0 : (((rd_T60 ((rd_T31 l0 x9_1).f6) x50_3).f0).toList == ([] : List UInt8)) = false := beq_eq_false_iff_ne.mpr c38
                                have c38b1 : (((rd_T60 ((rd_T31 l0 x9_1).f6) x50_3).f0).toList != ([] : List UInt8)) = true := bne_iff_ne.mpr c38
                                obtain rfl := Option.some.inj H
                                have p114 : 0 ≤ (x50_3 : Int) := of_decide_eq_true (by first | (with_reducible assumption) | assumption)
                                have q114 : x50_3 < (((rd_T31 l0 x9_1).f6).length : Int) := of_decide_eq_true (by first | (with_reducible assumption) | assumption)
                                obtain ⟨ad114, e114, hx114_0, hx114_1, hx114_2, hx114_3⟩ := at_T60 HR111_6.out x50_3 p114 q114
                                (try rw [← Nbq36.out] at hx114_3)
                                cases e114
                                replace hx114_0 := (HB.out.cell (World.block_lt_of_cell? w _ hx114_0)).trans hx114_0
                                replace hx114_1 := (HB.out.cell (World.block_lt_of_cell? w _ hx114_1)).trans hx114_1
                                replace hx114_2 := (HB.out.cell (World.block_lt_of_cell? w _ hx114_2)).trans hx114_2
                                replace hx114_3 := (HB.out.cell (World.block_lt_of_cell? w _ hx114_3)).trans hx114_3
                                replace p114 := eq_true p114
                                replace q114 := eq_true q114
                                go_wp2_with (first | ((with_reducible refine gate_dst (N := 6) rfl ?_); (try (refine gate_guard (by rfl) ?_; dsimp only)); refine box_event ?hg (N := 6) ?hd (cs := #[.string (⟨#[]⟩ : ByteArray), .string (⟨#[]⟩ : ByteArray), .string (⟨#[]⟩ : ByteArray), .bool false]) (t := 60) ?hr ?_; (case hd => rfl); (case hg => rfl); (case hr => first | (go_simp; done) | (go_simp; rfl)); intro gb115 hg w51 hbox hb; have n0_ := Aside0.mk (blk_below (g := gb112) (o := .cells #[.string ((rd_T31 l0 x9_1).f0), .string ((rd_T31 l0 x9_1).f1), .string ((rd_T31 l0 x9_1).f2), .string ((rd_T31 l0 x9_1).f3), .slice A111_4 ((rd_T31 l0 x9_1).f4).length c111_4, .bool ((rd_T31 l0 x9_1).f5), .slice (some ad114) ((rd_T31 l0 x9_1).f6).length c111_6] 31 (0, 0)) (by (with_reducible repeat (first | refine blk_drewN ?_ _ | refine blk_drew ?_ | refine blk_alloc ?_ _)); exact BK112.out) hb); have n1_ := Aside0.mk (below_step (by repeat (first | (with_reducible first | exact HB.out | apply below_alloc | apply pw_below_drewN | apply below_drew1 | refine below_set ?_ GE112.out) | exact HB.out)) hb); have n2_ := Aside0.mk (hbox); have n3_ := Aside0.mk ((by rw [hg]; exact (below_size (by repeat (first | (with_reducible first | exact HB.out | apply below_alloc | apply pw_below_drewN | apply below_drew1 | refine below_set ?_ GE112.out) | exact HB.out))) : w.heap.size ≤ gb115)); have n4_ := Aside0.mk ((by rw [hg]; exact (below_size (by repeat (first | (with_reducible first | exact HB.out | apply below_alloc | apply pw_below_drewN | apply below_drew1 | refine below_set ?_ GE112.out) | exact HB.out))) : w.heap.size ≤ gb115)); have n5_ := Aside0.mk ((by rw [hg]; exact Nat.ne_of_lt (blk_lt (g := gb112) (o := .cells #[.string ((rd_T31 l0 x9_1).f0), .string ((rd_T31 l0 x9_1).f1), .string ((rd_T31 l0 x9_1).f2), .string ((rd_T31 l0 x9_1).f3), .slice A111_4 ((rd_T31 l0 x9_1).f4).length c111_4, .bool ((rd_T31 l0 x9_1).f5), .slice (some ad114) ((rd_T31 l0 x9_1).f6).length c111_6] 31 (0, 0)) (by (with_reducible repeat (first | refine blk_drewN ?_ _ | refine blk_drew ?_ | refine blk_alloc ?_ _)); exact BK112.out)) : gb112 ≠ gb115)); have n6_ := Aside0.mk ((by rw [hg]; exact Nat.ne_of_gt (blk_lt (g := gb112) (o := .cells #[.string ((rd_T31 l0 x9_1).f0), .string ((rd_T31 l0 x9_1).f1), .string ((rd_T31 l0 x9_1).f2), .string ((rd_T31 l0 x9_1).f3), .slice A111_4 ((rd_T31 l0 x9_1).f4).length c111_4, .bool ((rd_T31 l0 x9_1).f5), .slice (some ad114) ((rd_T31 l0 x9_1).f6).length c111_6] 31 (0, 0)) (by (with_reducible repeat (first | refine blk_drewN ?_ _ | refine blk_drew ?_ | refine blk_alloc ?_ _)); exact BK112.out)) : gb115 ≠ gb112)); clear BK112; clear HB; have BK112 := n0_; have HB := n1_; have BK115 := n2_; have GW115 := n3_; have GE115 := n4_; have NB112_115 := n5_; have NB115_112 := n6_; clear n0_ n1_ n2_ n3_ n4_ n5_ n6_; clear hb hbox hg; have hnb52 := NB115_112.out; have hnc52 := NB112_115.out; have hcz53_0 : w51.cell? ⟨gb115, 0, none⟩ = some (.string (⟨#[]⟩ : ByteArray)) := (blk_cell BK115.out 0).trans rfl; have hcz53_1 : w51.cell? ⟨gb115, 1, none⟩ = some (.string (⟨#[]⟩ : ByteArray)) := (blk_cell BK115.out 1).trans rfl; have hcz53_2 : w51.cell? ⟨gb115, 2, none⟩ = some (.string (⟨#[]⟩ : ByteArray)) := (blk_cell BK115.out 2).trans rfl; have hcz53_3 : w51.cell? ⟨gb115, 3, none⟩ = some (.bool false) := (blk_cell BK115.out 3).trans rfl; have hfz53_0 := blk_frozen BK115.out 0; have hfz53_1 := blk_frozen BK115.out 1; have hfz53_2 := blk_frozen BK115.out 2; have hfz53_3 := blk_frozen BK115.out 3))
                                go_ret
                                exact ⟨by first | rfl | (simp [errW_none, errW_some] <;> rfl) | (simp [*, errW_none, errW_some] <;> rfl), by repeat (first | (with_reducible first | exact HB.out | apply below_alloc | apply pw_below_drewN | apply below_drew1 | refine below_set ?_ GE112.out | refine below_set ?_ GE115.out) | exact HB.out)⟩
                            · replace c37 := Bool.eq_false_iff.mpr c37
                              subst c37
                              have H1 : (if (false = true) then (laws_chWants.l1 k3 l0 l0 (l0.length : Int) x9_1 ((rd_T31 l0 x9_1).f6) (((rd_T31 l0 x9_1).f6).length : Int) (wrap64 (x50_3 + 1))) else (if ((rd_T60 ((rd_T31 l0 x9_1).f6) x50_3).f1).size + ((rd_T60 ((rd_T31 l0 x9_1).f6) x50_3).f2).size ≤ 9223372036854775807 then (if (((rd_T60 ((rd_T31 l0 x9_1).f6) x50_3).f1) ++ ((rd_T60 ((rd_T31 l0 x9_1).f6) x50_3).f2)).toList = ([] : List UInt8) then (laws_chWants.l1 k3 l0 l0 (l0.length : Int) x9_1 ((rd_T31 l0 x9_1).f6) (((rd_T31 l0 x9_1).f6).length : Int) (wrap64 (x50_3 + 1))) else (some false)) else (none))) = some r := by rw [if_neg (show ¬ (false = true) by decide)] at H; exact H
                              clear H
                              have H := H1
                              clear H1
                              by_cases c54 : (false = true)
                              · exact absurd c54 (by decide)
                              · replace c54 := Bool.eq_false_iff.mpr c54
                                clear c54
                                have H1 : (if ((rd_T60 ((rd_T31 l0 x9_1).f6) x50_3).f1).size + ((rd_T60 ((rd_T31 l0 x9_1).f6) x50_3).f2).size ≤ 9223372036854775807 then (if (((rd_T60 ((rd_T31 l0 x9_1).f6) x50_3).f1) ++ ((rd_T60 ((rd_T31 l0 x9_1).f6) x50_3).f2)).toList = ([] : List UInt8) then (laws_chWants.l1 k3 l0 l0 (l0.length : Int) x9_1 ((rd_T31 l0 x9_1).f6) (((rd_T31 l0 x9_1).f6).length : Int) (wrap64 (x50_3 + 1))) else (some false)) else (none)) = some r := by rw [if_neg (show ¬ (false = true) by decide)] at H; exact H
                                clear H
                                have H := H1
                                clear H1
                                by_cases c58 : ((rd_T60 ((rd_T31 l0 x9_1).f6) x50_3).f1).size + ((rd_T60 ((rd_T31 l0 x9_1).f6) x50_3).f2).size ≤ 9223372036854775807
                                · rw [if_pos c58] at H
                                  have c58b0 := eq_true c58
                                  have c58b1 : decide (((rd_T60 ((rd_T31 l0 x9_1).f6) x50_3).f1).size + ((rd_T60 ((rd_T31 l0 x9_1).f6) x50_3).f2).size ≤ 9223372036854775807) = true := decide_eq_true c58
                                  try have c58b2 : (9223372036854775807 < ((rd_T60 ((rd_T31 l0 x9_1).f6) x50_3).f1).size + ((rd_T60 ((rd_T31 l0 x9_1).f6) x50_3).f2).size) = False := eq_false (Nat.not_lt.2 c58)
                                  by_cases c59 : (((rd_T60 ((rd_T31 l0 x9_1).f6) x50_3).f1) ++ ((rd_T60 ((rd_T31 l0 x9_1).f6) x50_3).f2)).toList = ([] : List UInt8)
                                  · rw [if_pos c59] at H
                                    have c59b0 : ((((rd_T60 ((rd_T31 l0 x9_1).f6) x50_3).f1) ++ ((rd_T60 ((rd_T31 l0 x9_1).f6) x50_3).f2)).toList == ([] : List UInt8)) = true := beq_iff_eq.mpr c59
                                    have c59b1 : ((((rd_T60 ((rd_T31 l0 x9_1).f6) x50_3).f1) ++ ((rd_T60 ((rd_T31 l0 x9_1).f6) x50_3).f2)).toList != ([] : List UInt8)) = false := bne_eq_false_iff_eq.mpr c59
                                    clear c59
                                    have H' := Aside0.mk H
                                    clear H
                                    have p114 : 0 ≤ (x50_3 : Int) := of_decide_eq_true (by first | (with_reducible assumption) | assumption)
                                    have q114 : x50_3 < (((rd_T31 l0 x9_1).f6).length : Int) := of_decide_eq_true (by first | (with_reducible assumption) | assumption)
                                    obtain ⟨ad114, e114, hx114_0, hx114_1, hx114_2, hx114_3⟩ := at_T60 HR111_6.out x50_3 p114 q114
                                    (try rw [← Nbq36.out] at hx114_3)
                                    cases e114
                                    replace hx114_0 := (HB.out.cell (World.block_lt_of_cell? w _ hx114_0)).trans hx114_0
                                    replace hx114_1 := (HB.out.cell (World.block_lt_of_cell? w _ hx114_1)).trans hx114_1
                                    replace hx114_2 := (HB.out.cell (World.block_lt_of_cell? w _ hx114_2)).trans hx114_2
                                    replace hx114_3 := (HB.out.cell (World.block_lt_of_cell? w _ hx114_3)).trans hx114_3
                                    replace p114 := eq_true p114
                                    replace q114 := eq_true q114
                                    go_wp2_with (first | ((with_reducible refine gate_dst (N := 6) rfl ?_); (try (refine gate_guard (by rfl) ?_; dsimp only)); refine box_event ?hg (N := 6) ?hd (cs := #[.string (⟨#[]⟩ : ByteArray), .string (⟨#[]⟩ : ByteArray), .string (⟨#[]⟩ : ByteArray), .bool false]) (t := 60) ?hr ?_; (case hd => rfl); (case hg => rfl); (case hr => first | (go_simp; done) | (go_simp; rfl)); intro gb115 hg w60 hbox hb; have n0_ := Aside0.mk (blk_below (g := gb112) (o := .cells #[.string ((rd_T31 l0 x9_1).f0), .string ((rd_T31 l0 x9_1).f1), .string ((rd_T31 l0 x9_1).f2), .string ((rd_T31 l0 x9_1).f3), .slice A111_4 ((rd_T31 l0 x9_1).f4).length c111_4, .bool ((rd_T31 l0 x9_1).f5), .slice (some ad114) ((rd_T31 l0 x9_1).f6).length c111_6] 31 (0, 0)) (by (with_reducible repeat (first | refine blk_drewN ?_ _ | refine blk_drew ?_ | refine blk_alloc ?_ _)); exact BK112.out) hb); have n1_ := Aside0.mk (below_step (by repeat (first | (with_reducible first | exact HB.out | apply below_alloc | apply pw_below_drewN | apply below_drew1 | refine below_set ?_ GE112.out) | exact HB.out)) hb); have n2_ := Aside0.mk (hbox); have n3_ := Aside0.mk ((by rw [hg]; exact (below_size (by repeat (first | (with_reducible first | exact HB.out | apply below_alloc | apply pw_below_drewN | apply below_drew1 | refine below_set ?_ GE112.out) | exact HB.out))) : w.heap.size ≤ gb115)); have n4_ := Aside0.mk ((by rw [hg]; exact (below_size (by repeat (first | (with_reducible first | exact HB.out | apply below_alloc | apply pw_below_drewN | apply below_drew1 | refine below_set ?_ GE112.out) | exact HB.out))) : w.heap.size ≤ gb115)); have n5_ := Aside0.mk ((by rw [hg]; exact Nat.ne_of_lt (blk_lt (g := gb112) (o := .cells #[.string ((rd_T31 l0 x9_1).f0), .string ((rd_T31 l0 x9_1).f1), .string ((rd_T31 l0 x9_1).f2), .string ((rd_T31 l0 x9_1).f3), .slice A111_4 ((rd_T31 l0 x9_1).f4).length c111_4, .bool ((rd_T31 l0 x9_1).f5), .slice (some ad114) ((rd_T31 l0 x9_1).f6).length c111_6] 31 (0, 0)) (by (with_reducible repeat (first | refine blk_drewN ?_ _ | refine blk_drew ?_ | refine blk_alloc ?_ _)); exact BK112.out)) : gb112 ≠ gb115)); have n6_ := Aside0.mk ((by rw [hg]; exact Nat.ne_of_gt (blk_lt (g := gb112) (o := .cells #[.string ((rd_T31 l0 x9_1).f0), .string ((rd_T31 l0 x9_1).f1), .string ((rd_T31 l0 x9_1).f2), .string ((rd_T31 l0 x9_1).f3), .slice A111_4 ((rd_T31 l0 x9_1).f4).length c111_4, .bool ((rd_T31 l0 x9_1).f5), .slice (some ad114) ((rd_T31 l0 x9_1).f6).length c111_6] 31 (0, 0)) (by (with_reducible repeat (first | refine blk_drewN ?_ _ | refine blk_drew ?_ | refine blk_alloc ?_ _)); exact BK112.out)) : gb115 ≠ gb112)); clear BK112; clear HB; have BK112 := n0_; have HB := n1_; have BK115 := n2_; have GW115 := n3_; have GE115 := n4_; have NB112_115 := n5_; have NB115_112 := n6_; clear n0_ n1_ n2_ n3_ n4_ n5_ n6_; clear hb hbox hg; have hnb61 := NB115_112.out; have hnc61 := NB112_115.out; have hcz62_0 : w60.cell? ⟨gb115, 0, none⟩ = some (.string (⟨#[]⟩ : ByteArray)) := (blk_cell BK115.out 0).trans rfl; have hcz62_1 : w60.cell? ⟨gb115, 1, none⟩ = some (.string (⟨#[]⟩ : ByteArray)) := (blk_cell BK115.out 1).trans rfl; have hcz62_2 : w60.cell? ⟨gb115, 2, none⟩ = some (.string (⟨#[]⟩ : ByteArray)) := (blk_cell BK115.out 2).trans rfl; have hcz62_3 : w60.cell? ⟨gb115, 3, none⟩ = some (.bool false) := (blk_cell BK115.out 3).trans rfl; have hfz62_0 := blk_frozen BK115.out 0; have hfz62_1 := blk_frozen BK115.out 1; have hfz62_2 := blk_frozen BK115.out 2; have hfz62_3 := blk_frozen BK115.out 3))
                                    go_roundg k3
                                    case measure => have := HK1.out; have := HJ4.out; have := HK3.out; omega
                                    case rel => exact ⟨(wrap64 (x50_3 + 1)), (by first | rfl | (simp; done) | (simp [*]; done)), H', ⟨by have := HK1.out; have := HJ4.out; have := HK3.out; omega⟩, ⟨by (with_reducible repeat (first | refine blk_drewN ?_ _ | refine blk_drew ?_ | refine blk_alloc ?_ _)); refine blk_far ?_ NB112_115.out _; (with_reducible repeat (first | refine blk_drewN ?_ _ | refine blk_drew ?_ | refine blk_alloc ?_ _)); refine blk_far ?_ NB112_115.out _; (with_reducible repeat (first | refine blk_drewN ?_ _ | refine blk_drew ?_ | refine blk_alloc ?_ _)); refine blk_far ?_ NB112_115.out _; (with_reducible repeat (first | refine blk_drewN ?_ _ | refine blk_drew ?_ | refine blk_alloc ?_ _)); refine blk_far ?_ NB112_115.out _; (with_reducible repeat (first | refine blk_drewN ?_ _ | refine blk_drew ?_ | refine blk_alloc ?_ _)); exact BK112.out⟩, ⟨by repeat (first | (with_reducible first | exact HB.out | apply below_alloc | apply pw_below_drewN | apply below_drew1 | refine below_set ?_ GE112.out | refine below_set ?_ GE115.out) | exact HB.out)⟩⟩
                                  · rw [if_neg c59] at H
                                    have c59b0 : ((((rd_T60 ((rd_T31 l0 x9_1).f6) x50_3).f1) ++ ((rd_T60 ((rd_T31 l0 x9_1).f6) x50_3).f2)).toList == ([] : List UInt8)) = false := beq_eq_false_iff_ne.mpr c59
                                    have c59b1 : ((((rd_T60 ((rd_T31 l0 x9_1).f6) x50_3).f1) ++ ((rd_T60 ((rd_T31 l0 x9_1).f6) x50_3).f2)).toList != ([] : List UInt8)) = true := bne_iff_ne.mpr c59
                                    obtain rfl := Option.some.inj H
                                    have p114 : 0 ≤ (x50_3 : Int) := of_decide_eq_true (by first | (with_reducible assumption) | assumption)
                                    have q114 : x50_3 < (((rd_T31 l0 x9_1).f6).length : Int) := of_decide_eq_true (by first | (with_reducible assumption) | assumption)
                                    obtain ⟨ad114, e114, hx114_0, hx114_1, hx114_2, hx114_3⟩ := at_T60 HR111_6.out x50_3 p114 q114
                                    (try rw [← Nbq36.out] at hx114_3)
                                    cases e114
                                    replace hx114_0 := (HB.out.cell (World.block_lt_of_cell? w _ hx114_0)).trans hx114_0
                                    replace hx114_1 := (HB.out.cell (World.block_lt_of_cell? w _ hx114_1)).trans hx114_1
                                    replace hx114_2 := (HB.out.cell (World.block_lt_of_cell? w _ hx114_2)).trans hx114_2
                                    replace hx114_3 := (HB.out.cell (World.block_lt_of_cell? w _ hx114_3)).trans hx114_3
                                    replace p114 := eq_true p114
                                    replace q114 := eq_true q114
                                    go_wp2_with (first | ((with_reducible refine gate_dst (N := 6) rfl ?_); (try (refine gate_guard (by rfl) ?_; dsimp only)); refine box_event ?hg (N := 6) ?hd (cs := #[.string (⟨#[]⟩ : ByteArray), .string (⟨#[]⟩ : ByteArray), .string (⟨#[]⟩ : ByteArray), .bool false]) (t := 60) ?hr ?_; (case hd => rfl); (case hg => rfl); (case hr => first | (go_simp; done) | (go_simp; rfl)); intro gb115 hg w63 hbox hb; have n0_ := Aside0.mk (blk_below (g := gb112) (o := .cells #[.string ((rd_T31 l0 x9_1).f0), .string ((rd_T31 l0 x9_1).f1), .string ((rd_T31 l0 x9_1).f2), .string ((rd_T31 l0 x9_1).f3), .slice A111_4 ((rd_T31 l0 x9_1).f4).length c111_4, .bool ((rd_T31 l0 x9_1).f5), .slice (some ad114) ((rd_T31 l0 x9_1).f6).length c111_6] 31 (0, 0)) (by (with_reducible repeat (first | refine blk_drewN ?_ _ | refine blk_drew ?_ | refine blk_alloc ?_ _)); exact BK112.out) hb); have n1_ := Aside0.mk (below_step (by repeat (first | (with_reducible first | exact HB.out | apply below_alloc | apply pw_below_drewN | apply below_drew1 | refine below_set ?_ GE112.out) | exact HB.out)) hb); have n2_ := Aside0.mk (hbox); have n3_ := Aside0.mk ((by rw [hg]; exact (below_size (by repeat (first | (with_reducible first | exact HB.out | apply below_alloc | apply pw_below_drewN | apply below_drew1 | refine below_set ?_ GE112.out) | exact HB.out))) : w.heap.size ≤ gb115)); have n4_ := Aside0.mk ((by rw [hg]; exact (below_size (by repeat (first | (with_reducible first | exact HB.out | apply below_alloc | apply pw_below_drewN | apply below_drew1 | refine below_set ?_ GE112.out) | exact HB.out))) : w.heap.size ≤ gb115)); have n5_ := Aside0.mk ((by rw [hg]; exact Nat.ne_of_lt (blk_lt (g := gb112) (o := .cells #[.string ((rd_T31 l0 x9_1).f0), .string ((rd_T31 l0 x9_1).f1), .string ((rd_T31 l0 x9_1).f2), .string ((rd_T31 l0 x9_1).f3), .slice A111_4 ((rd_T31 l0 x9_1).f4).length c111_4, .bool ((rd_T31 l0 x9_1).f5), .slice (some ad114) ((rd_T31 l0 x9_1).f6).length c111_6] 31 (0, 0)) (by (with_reducible repeat (first | refine blk_drewN ?_ _ | refine blk_drew ?_ | refine blk_alloc ?_ _)); exact BK112.out)) : gb112 ≠ gb115)); have n6_ := Aside0.mk ((by rw [hg]; exact Nat.ne_of_gt (blk_lt (g := gb112) (o := .cells #[.string ((rd_T31 l0 x9_1).f0), .string ((rd_T31 l0 x9_1).f1), .string ((rd_T31 l0 x9_1).f2), .string ((rd_T31 l0 x9_1).f3), .slice A111_4 ((rd_T31 l0 x9_1).f4).length c111_4, .bool ((rd_T31 l0 x9_1).f5), .slice (some ad114) ((rd_T31 l0 x9_1).f6).length c111_6] 31 (0, 0)) (by (with_reducible repeat (first | refine blk_drewN ?_ _ | refine blk_drew ?_ | refine blk_alloc ?_ _)); exact BK112.out)) : gb115 ≠ gb112)); clear BK112; clear HB; have BK112 := n0_; have HB := n1_; have BK115 := n2_; have GW115 := n3_; have GE115 := n4_; have NB112_115 := n5_; have NB115_112 := n6_; clear n0_ n1_ n2_ n3_ n4_ n5_ n6_; clear hb hbox hg; have hnb64 := NB115_112.out; have hnc64 := NB112_115.out; have hcz65_0 : w63.cell? ⟨gb115, 0, none⟩ = some (.string (⟨#[]⟩ : ByteArray)) := (blk_cell BK115.out 0).trans rfl; have hcz65_1 : w63.cell? ⟨gb115, 1, none⟩ = some (.string (⟨#[]⟩ : ByteArray)) := (blk_cell BK115.out 1).trans rfl; have hcz65_2 : w63.cell? ⟨gb115, 2, none⟩ = some (.string (⟨#[]⟩ : ByteArray)) := (blk_cell BK115.out 2).trans rfl; have hcz65_3 : w63.cell? ⟨gb115, 3, none⟩ = some (.bool false) := (blk_cell BK115.out 3).trans rfl; have hfz65_0 := blk_frozen BK115.out 0; have hfz65_1 := blk_frozen BK115.out 1; have hfz65_2 := blk_frozen BK115.out 2; have hfz65_3 := blk_frozen BK115.out 3))
                                    go_ret
                                    exact ⟨by first | rfl | (simp [errW_none, errW_some] <;> rfl) | (simp [*, errW_none, errW_some] <;> rfl), by repeat (first | (with_reducible first | exact HB.out | apply below_alloc | apply pw_below_drewN | apply below_drew1 | refine below_set ?_ GE112.out | refine below_set ?_ GE115.out) | exact HB.out)⟩
                                · rw [if_neg c58] at H
                                  exact absurd H (by simp)
                          · rw [if_neg c35] at H
                            exact absurd H (by simp)
                        · rw [if_neg c34] at H
                          exact absurd H (by simp)
                      · rw [if_neg c33] at H
                        have c33b0 : decide (x50_3 < (((rd_T31 l0 x9_1).f6).length : Int)) = false := decide_eq_false c33
                        clear c33
                        have H' := Aside0.mk H
                        clear H
                        go_wp2
                        go_roundg k3
                        case measure => have := HK1.out; have := HJ4.out; have := HK3.out; omega
                        case rel => exact ⟨(wrap64 (x9_1 + 1)), (by first | rfl | (simp; done) | (simp [*]; done)), H', ⟨by have := HK1.out; have := HJ4.out; have := HK3.out; omega⟩, ⟨by repeat (first | (with_reducible first | exact HB.out | apply below_alloc | apply pw_below_drewN | apply below_drew1 | refine below_set ?_ GE112.out) | exact HB.out)⟩⟩
          · rw [if_neg c4] at H
            exact absurd H (by simp)
        · rw [if_neg c3] at H
          exact absurd H (by simp)
      · rw [if_neg c2] at H
        have c2b0 : decide (x9_1 < (l0.length : Int)) = false := decide_eq_false c2
        clear c2
        obtain rfl := Option.some.inj H
        go_wp2
        go_ret
        exact ⟨by first | rfl | (simp [errW_none, errW_some] <;> rfl) | (simp [*, errW_none, errW_some] <;> rfl), by repeat (first | (with_reducible first | exact HB.out | apply below_alloc | apply pw_below_drewN | apply below_drew1) | exact HB.out)⟩

end Go.Proofs.Ytmjecafddklbjaa.GWants
