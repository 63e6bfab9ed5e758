/- What wantsOf comes to, for one want. -/
import Derived.Test.YtmjecafddklbjaaHOne
import Derived.Deep.LoopGhost
import Derived.Deep.RegionHeld3
import Derived.Deep.RegionLaw
namespace Go.Proofs.Ytmjecafddklbjaa.HAlias
open Go.RowKit Go.WideMaps Go.Maps Go.Proofs.YtmjecafddklbjaaW.PrintWords Go.Proofs.YtmjecafddklbjaaW.PrintLast Go.Proofs.YtmjecafddklbjaaW.PrintMore Go.Proofs.Ytmjecafddklbjaa.HMapI Go.Proofs.Ytmjecafddklbjaa.HSchema Go.Proofs.Ytmjecafddklbjaa.Plain Go.Proofs.Ytmjecafddklbjaa.GWants

set_option maxRecDepth 100000 in
set_option maxHeartbeats 2000000 in
theorem wants1 (b : Nat) (n v cnd al : ByteArray) (A4 : Option Addr) (c40 : Nat) (en : Bool) (A6 : Option Addr) (c60 : Nat) (l4 : List ByteArray) (l6 : List S60) (ty : TypeId) (k : Nat) (w : World)
    (h : w.heap[b]? = some (.cells #[.string n, .string v, .string cnd, .string al, .slice A4 l4.length c40, .bool en, .slice A6 l6.length c60] ty (0, 0))) (hk : impl_plain.f k v = some true) (h6 : l6.length ≤ 20) (h4 : l4.length ≤ 1000000)
    (hr4 : Kd.C Kd.string w A4 l4.length l4) (hc4 : l4.length ≤ c40) (hr6 : Kd.C k60 w A6 l6.length l6) (hc6 : l6.length ≤ c60) :
    Calls Try.prog 19 #[.slice (some ⟨b, 0, none⟩) 1 1] w (One w n v al) := by
  have HW := Aside0.mk h
  have HK := Aside0.mk hk
  have H6 := Aside0.mk h6
  have H4 := Aside0.mk h4
  have HR4 := Aside0.mk hr4
  have HR6 := Aside0.mk hr6
  have HC4 := Aside0.mk hc4
  have HC6 := Aside0.mk hc6
  clear h hk h6 h4 hr4 hr6 hc4 hc6
  go_enter Try.func19, Try.ntmps19
  go_wp2
  go_loopw [4, 12] (fun o i wr => (o = .slice none 0 0 ∧ i = .int .i64 0 ∧ wr = w) ∨ (i = .int .i64 1 ∧ Aside0 (∃ g c d, o = .slice (some ⟨g, 0, none⟩) 1 c ∧ wr.cell? ⟨g, 0, none⟩ = some (.pointer (some ⟨d, 0, none⟩)) ∧ Dep wr d n v al ∧ Below w.heap.size w wr))) (fun _o i _w => 1 - (intOf i).toNat)
  case atStart => exact .inl ⟨rfl, rfl, rfl⟩
  case round =>
    rcases hrel with ⟨rfl, rfl, rfl⟩ | ⟨rfl, HO⟩
    · have c0 := (blk_cell HW.out 0).trans rfl
      have c1 := (blk_cell HW.out 1).trans rfl
      have c2 := (blk_cell HW.out 2).trans rfl
      have c3 := (blk_cell HW.out 3).trans rfl
      have c4 := (blk_cell HW.out 4).trans rfl
      have c5 := (blk_cell HW.out 5).trans rfl
      have c6 := (blk_cell HW.out 6).trans rfl
      go_wp2_with (go_at_call 24; go_must (refine (impl_plain.calls k v true _ HK.out).mono ?_; rintro e w2 ⟨rfl, hd⟩; obtain ⟨nd, hw2⟩ := hd.out; have HQ := Aside0.mk (by rw [hw2]; exact blk_drewN (HSchema.blk_at _ rfl) nd : w2.heap[wr.heap.size]? = some (.cells #[.string n, .string v, .string cnd, .string al, .slice A4 l4.length c40, .bool en, .slice A6 l6.length c60] 31 (0, 0))); have HB := Aside0.mk (by rw [hw2]; exact pw_below_drewN (below_alloc (Below.refl _ _) _) nd : Below wr.heap.size wr w2); clear hw2 hd c0 c1 c2 c3 c4 c5 c6; have c0 := (blk_cell HQ.out 0).trans rfl; have c1 := (blk_cell HQ.out 1).trans rfl; have c2 := (blk_cell HQ.out 2).trans rfl; have c3 := (blk_cell HQ.out 3).trans rfl; have c4 := (blk_cell HQ.out 4).trans rfl; have c5 := (blk_cell HQ.out 5).trans rfl; have c6 := (blk_cell HQ.out 6).trans rfl; have h20 : ¬ (20 : Int) < (l6.length : Int) := by have := H6.out; omega))
      have HT := Aside0.mk (Kd.C_below HR4.out HB.out)
      obtain ⟨p, hp⟩ : ∃ p, wr.heap.size = p := ⟨_, rfl⟩
      rw [hp] at HQ c0 c1 c2 c3 c4 c5 c6 ⊢
      have KT := Aside0.mk (TK.mk HQ.out (Below.refl _ _) : TK p #[.string n, .string v, .string cnd, .string al, .slice A4 l4.length c40, .bool en, .slice A6 l6.length c60] w2 w2)
      go_region_held3 (fun w' => w'.cell? ⟨p, 0, none⟩ = some (.string n) ∧ w'.cell? ⟨p, 1, none⟩ = some (.string v) ∧ w'.cell? ⟨p, 2, none⟩ = some (.string cnd) ∧ w'.cell? ⟨p, 3, none⟩ = some (.string al) ∧ w'.cell? ⟨p, 4, none⟩ = some (.slice A4 l4.length c40) ∧ w'.cell? ⟨p, 5, none⟩ = some (.bool en) ∧ TK p #[.string n, .string v, .string cnd, .string al, .slice A4 l4.length c40, .bool en, .slice A6 l6.length c60] w2 w')
        (first
          | exact KT.out.all
          | exact KT.out.drew.all
          | exact (KT.out.drew.alloc _).all
          | exact KT2.out.all
          | exact (KT2.out.alloc _).all)
        (first
          | (refine Kd.R_append_rows_step Kd.string (w0 := w2) w2.heap.size (by rfl) (.tmp 39) (.tmp 41) 22 9 (.string ⟨#[]⟩) 16 rfl Try.underlying22 info9 rfl (by decide) (by omega) (.slice (some ⟨w2.heap.size, 0, none⟩) 0 0) [] l4 A4 l4.length c40 (fun _ => True) (fun _ => False) ?hs ?hx ?hO ?hR (fun _ _ h => h) (fun _ h => h.elim) (fun _ _ => trivial) ?hB ?hb ?hl ?_
             (case hs => first | rfl | (go_simp; done))
             (case hx => first | rfl | (go_simp; done))
             (case hO => exact R_zero _ _ (Nat.le_refl _))
             (case hR => exact Kd.C_below HT.out (below_alloc (below_drew (Below.refl _ _)) _))
             (case hB => exact below_alloc (below_drew (Below.refl _ _)) _)
             (case hb => exact (below_alloc (below_drew (Below.refl _ _)) _ : Below w2.heap.size w2 _).size)
             (case hl => simp only [List.length_nil]; have := H4.out; omega)
             intro v4 w4 ho4 hb4 _ _
             have KT2 := Aside0.mk (KT.out.far hb4)
             obtain ⟨A9, c9, rfl⟩ := Kd.R_slice ho4
             clear ho4 hb4))
      have DQ := Aside0.mk (HSchema.blk_at (w := w4) (.cells #[.string n, .string v, .string E0, .string cnd, .slice A9 l4.length c9, .bool en, .slice none 0 0, .string al] 87) rfl)
      have KT3 := Aside0.mk (KT2.out.alloc (.cells #[.string n, .string v, .string E0, .string cnd, .slice A9 l4.length c9, .bool en, .slice none 0 0, .string al] 87))
      obtain ⟨d, hd⟩ : ∃ d, w4.heap.size = d := ⟨_, rfl⟩
      have HD1 := Aside0.mk (show w2.heap.size ≤ d by rw [← hd]; exact KT2.out.below.size)
      rw [hd] at DQ ⊢
      generalize w4.alloc (.cells #[.string n, .string v, .string E0, .string cnd, .slice A9 l4.length c9, .bool en, .slice none 0 0, .string al] 87) = w5 at DQ KT3 ⊢
      clear c0 c1 c2 c3 c4 c5 c6 KT KT2 HT HQ HW HR4 HC4 h20
      have c6 := (blk_cell KT3.out.box 6).trans rfl
      have W0 := Aside0.mk (Way.start (base := d) DQ.out (below_step HB.out KT3.out.below) (by have h1 := HD1.out; have h2 := HB.out.size; omega) (Nat.le_refl _))
      go_wp2
      go_loopw [50] (fun i wx => ∃ (j : Nat) (l : List Value) (A8 : Option Addr) (c8 : Nat), j ≤ l6.length ∧ i = .int .i64 j ∧ Aside0 (l.length = j) ∧ Aside0 (Way d d n v cnd al (.slice A9 l4.length c9) en A8 c8 l wr wx)) (fun i _w => l6.length - (intOf i).toNat)
      case atStart => exact ⟨0, [], none, 0, Nat.zero_le _, rfl, ⟨rfl⟩, W0⟩
      case round =>
        obtain ⟨j, l, A8, c8, hj, rfl, HL, HY⟩ := hrel
        by_cases hlt : j < l6.length
        · have HJ := Aside0.mk hlt
          obtain ⟨ad, e0, x0, x1, x2, x3⟩ := at_T60 (Kd.C_below HR6.out HY.out.below) (j : Int) (Int.natCast_nonneg j) (Int.ofNat_lt.2 hlt)
          subst e0
          have p0 : 0 ≤ (j : Int) := Int.natCast_nonneg j
          have q0 : (j : Int) < (l6.length : Int) := Int.ofNat_lt.2 hlt
          obtain ⟨⟨f0, f1, f2, f3⟩, hf⟩ : ∃ x, rd_T60 l6 (j : Int) = x := ⟨_, rfl⟩
          rw [hf] at x0 x1 x2 x3
          dsimp only at x0 x1 x2 x3
          rw [Int.toNat_natCast] at x0 x1 x2 x3
          clear hf hlt DQ KT3 c6 W0 HR6
          cases f3 with
          | false =>
            go_wp2
            have y0 : (wr.alloc (.cells #[.string f0, .string f1, .string f2, .bool false] 60)).cell? ⟨wr.heap.size, 0, none⟩ = some (.string f0) := (blk_cell (HSchema.blk_at _ rfl) 0).trans rfl
            have HY6 := Aside0.mk (HY.out.alloc (.cells #[.string f0, .string f1, .string f2, .bool false] 60))
            have nr3 : wr.heap.size < (wr.alloc (.cells #[.string f0, .string f1, .string f2, .bool false] 60)).heap.size := by simp
            have nr : wr.heap.size ≠ (wr.alloc (.cells #[.string f0, .string f1, .string f2, .bool false] 60)).heap.size := by simp
            generalize wr.alloc (.cells #[.string f0, .string f1, .string f2, .bool false] 60) = w6 at y0 HY6 nr nr3 ⊢
            generalize wr.heap.size = r at y0 nr nr3 ⊢
            have nd1 : d ≠ w6.heap.size := Nat.ne_of_lt (blk_lt HY6.out.blk)
            have nd3 : d < w6.heap.size := blk_lt HY6.out.blk
            have y6 := (blk_cell HY6.out.blk 6).trans rfl
            clear x0 x1 x2 x3 HY hp
            go_region_law (first
              | (refine Kd.R_append_step kAny (w0 := w6.drew) d (by rfl) (.tmp 78) (.tmp 82) 78 20 .nilIface 16 rfl Try.underlying78 info20 rfl (by decide) (by omega) (.slice A8 l.length c8) l (.iface 9 (.string f0)) [.iface 9 (.string f0)] (fun k => k ≠ d) (fun _ => False) ?hs ?hx ⟨rfl, rfl⟩ (fun _ h => h.elim) ?hf ?hO (Below.refl _ _) ?hb ?hl ?_
                 (case hs => first | rfl | (go_simp; done))
                 (case hx => first | rfl | (go_simp; done))
                 (case hf => have := blk_lt HY6.out.drew.blk; exact fun _ hk => by omega)
                 (case hO => exact HY6.out.drew.row)
                 (case hb => exact Nat.le_of_lt (blk_lt HY6.out.drew.blk))
                 (case hl => have h1 := HL.out; have h2 := H6.out; have h3 := HJ.out; omega)
                 intro v7 w7 ho7 hb7 hg7 _
                 obtain ⟨A1, c1, rfl⟩ := Kd.R_slice ho7
                 have HN := Aside0.mk (HY6.out.drew.next ho7 hg7 hb7)
                 have z6 := (blk_cell (HY6.out.drew.at_d hg7) 6).trans rfl
                 have zf := blk_frozen (HY6.out.drew.at_d hg7) 6
                 have nd2 : d < w7.heap.size := blk_lt (HY6.out.drew.at_d hg7)
                 clear ho7 hb7 hg7))
            all_goals
              go_wp2_with fail
              go_roundw
              case rel => exact ⟨j + 1, l ++ [.iface 9 (.string f0)], A1, c1, HJ.out, rfl, ⟨by rw [List.length_append, HL.out]; rfl⟩, ⟨by have h := HN.out; rw [List.length_append] at h; exact h⟩⟩
              case measure => exact meas2 HJ.out
          | true =>
            go_wp2
            have HNE := Aside0.mk HY.out.own_ne
            have HND := Aside0.mk (show wr.heap.size ≠ d from fun e => Nat.lt_irrefl _ (e ▸ blk_lt HY.out.blk))
            have HI6 := Aside0.mk (show (wr.alloc (.cells #[.string f0, .string f1, .string f2, .bool true] 60)).cell? ⟨wr.heap.size, 1, none⟩ = some (.string f1) ∧ (wr.alloc (.cells #[.string f0, .string f1, .string f2, .bool true] 60)).cell? ⟨wr.heap.size, 2, none⟩ = some (.string f2) from ⟨(blk_cell (HSchema.blk_at _ rfl) 1).trans rfl, (blk_cell (HSchema.blk_at _ rfl) 2).trans rfl⟩)
            have HY6 := Aside0.mk (HY.out.alloc (.cells #[.string f0, .string f1, .string f2, .bool true] 60))
            have HR3 := Aside0.mk (show wr.heap.size < (wr.alloc (.cells #[.string f0, .string f1, .string f2, .bool true] 60)).heap.size by simp)
            have HBY := Aside0.mk (bytes_l HL.out H6.out HJ.out)
            generalize wr.alloc (.cells #[.string f0, .string f1, .string f2, .bool true] 60) = w6 at HI6 HY6 HR3 ⊢
            generalize wr.heap.size = r at HI6 HR3 HNE HND ⊢
            have HD3 := Aside0.mk (show d < w6.heap.size from blk_lt HY6.out.blk)
            have y6 := (blk_cell HY6.out.blk 6).trans rfl
            clear x0 x1 x2 x3 HY hp
            obtain ⟨WA, WB, m1, m2, ba, bb⟩ := insert_cp w6 f1 f2
            obtain ⟨WC, WD, m3, m4, bc, bd⟩ := insert_pc w6 f1 f2
            have b0 : Below w6.heap.size w6 (w6.alloc (Obj.map #[] 0)) := below_alloc (Below.refl w6.heap.size w6) (Obj.map #[] 0)
            have I0 := Aside0.mk (imp_below HR3.out b0 HI6.out)
            have IA := Aside0.mk (imp_below HR3.out ba HI6.out)
            have IB := Aside0.mk (imp_below HR3.out bb HI6.out)
            have IC := Aside0.mk (imp_below HR3.out bc HI6.out)
            have ID := Aside0.mk (imp_below HR3.out bd HI6.out)
            have IBX := Aside0.mk (imp_below HR3.out (below_alloc bb (Obj.cells #[Value.iface 65 (Value.map (some w6.heap.size))] 20)) HI6.out)
            have IDX := Aside0.mk (imp_below HR3.out (below_alloc bd (Obj.cells #[Value.iface 65 (Value.map (some w6.heap.size))] 20)) HI6.out)
            have IBL := Aside0.mk (Nat.lt_of_lt_of_le HR3.out bb.size)
            have IDL := Aside0.mk (Nat.lt_of_lt_of_le HR3.out bd.size)
            have z06 : (w6.alloc (Obj.map #[] 0)).cell? ⟨d, 6, none⟩ = some (.slice A8 l.length c8) := (World.cell?_of_block (b0.block d HD3.out)).trans y6
            have za6 : WA.cell? ⟨d, 6, none⟩ = some (.slice A8 l.length c8) := (World.cell?_of_block (ba.block d HD3.out)).trans y6
            have zb6 : WB.cell? ⟨d, 6, none⟩ = some (.slice A8 l.length c8) := (World.cell?_of_block (bb.block d HD3.out)).trans y6
            have zc6 : WC.cell? ⟨d, 6, none⟩ = some (.slice A8 l.length c8) := (World.cell?_of_block (bc.block d HD3.out)).trans y6
            have zd6 : WD.cell? ⟨d, 6, none⟩ = some (.slice A8 l.length c8) := (World.cell?_of_block (bd.block d HD3.out)).trans y6
            have zb7 : (WB.alloc (Obj.cells #[Value.iface 65 (Value.map (some w6.heap.size))] 20)).cell? ⟨d, 6, none⟩ = some (.slice A8 l.length c8) := (World.cell?_of_block ((below_alloc bb (Obj.cells #[Value.iface 65 (Value.map (some w6.heap.size))] 20)).block d HD3.out)).trans y6
            have zd7 : (WD.alloc (Obj.cells #[Value.iface 65 (Value.map (some w6.heap.size))] 20)).cell? ⟨d, 6, none⟩ = some (.slice A8 l.length c8) := (World.cell?_of_block ((below_alloc bd (Obj.cells #[Value.iface 65 (Value.map (some w6.heap.size))] 20)).block d HD3.out)).trans y6
            have HYB := Aside0.mk (HY6.out.later bb)
            have HYD := Aside0.mk (HY6.out.later bd)
            have hmm := @run_makeMap Try.prog
            clear b0 ba bb bc bd
            refine wp_region_noPanic ?_
            refine wp_region_held_drew (S := fun w' => w'.cell? ⟨r, 1, none⟩ = some (.string f1) ∧ w'.cell? ⟨r, 2, none⟩ = some (.string f2)) (by kernel_rfl) ?_ (fun hHeld => ?_)
            · (try dsimp only)
              first
                | exact HI6.out
                | exact I0.out
                | exact IA.out
                | exact IB.out
                | exact IC.out
                | exact ID.out
                | exact IBX.out
                | exact IDX.out
                | exact I7.out
                | exact imp_set HND.out I7.out
            refine wpAnyH_take (i := 0) (oi := _) (v := ?_) rfl (by kernel_rfl) (by kernel_rfl) (by kernel_rfl) (fun _ _ _ h => h) (Or.inl ⟨by rfl, ?_⟩) (by assumption) ?_
            rotate_left 1
            · (intro w hSw; (try dsimp only at hSw); go_simp; try with_reducible rfl)
            try simp only [Act.put, List.getElem_toArray, List.getElem_cons_zero, List.setIfInBounds_toArray, List.set_cons_zero, List.set_cons_succ]
            refine wpAnyH_take (i := 1) (oi := _) (v := ?_) rfl (by kernel_rfl) (by kernel_rfl) (by kernel_rfl) (fun _ _ _ h => h) (Or.inl ⟨by rfl, ?_⟩) (by assumption) ?_
            rotate_left 1
            · (intro w hSw; (try dsimp only at hSw); go_simp; try with_reducible rfl)
            try simp only [Act.put, List.getElem_toArray, List.getElem_cons_zero, List.getElem_cons_succ, List.setIfInBounds_toArray, List.set_cons_zero, List.set_cons_succ]
            refine wpAnyH_take (i := 2) (oi := _) (v := ?_) rfl (by kernel_rfl) (by kernel_rfl) (by kernel_rfl) (fun _ _ _ h => h) (Or.inl ⟨by rfl, ?_⟩) (by assumption) ?_
            rotate_left 1
            · (intro w hSw; (try dsimp only at hSw); go_simp; try with_reducible rfl)
            try simp only [Act.put, List.getElem_toArray, List.getElem_cons_zero, List.getElem_cons_succ, List.setIfInBounds_toArray, List.set_cons_zero, List.set_cons_succ]
            refine wpAnyH_take (i := 3) (oi := _) (v := ?_) rfl (by kernel_rfl) (by kernel_rfl) (by kernel_rfl) (fun _ _ _ h => h) (Or.inl ⟨by rfl, ?_⟩) (by assumption) ?_
            rotate_left 1
            · (intro w hSw; (try dsimp only at hSw); go_simp; try with_reducible rfl)
            try simp only [Act.put, List.getElem_toArray, List.getElem_cons_zero, List.getElem_cons_succ, List.setIfInBounds_toArray, List.set_cons_zero, List.set_cons_succ]
            refine wpAnyH_take (i := 6) (oi := _) (v := ?_) rfl (by kernel_rfl) (by kernel_rfl) (by kernel_rfl) (fun _ _ _ h => h) (Or.inl ⟨by rfl, ?_⟩) (by assumption) ?_
            rotate_left 1
            · (intro w hSw; (try dsimp only at hSw); go_simp; try with_reducible rfl)
            try simp only [Act.put, List.getElem_toArray, List.getElem_cons_zero, List.getElem_cons_succ, List.setIfInBounds_toArray, List.set_cons_zero, List.set_cons_succ]
            refine wpAnyH_take (i := 7) (oi := _) (v := ?_) rfl (by kernel_rfl) (by kernel_rfl) (by kernel_rfl) (fun _ _ _ h => h) (Or.inl ⟨by rfl, ?_⟩) (by assumption) ?_
            rotate_left 1
            · (intro w hSw; (try dsimp only at hSw); go_simp; try with_reducible rfl)
            try simp only [Act.put, List.getElem_toArray, List.getElem_cons_zero, List.getElem_cons_succ, List.setIfInBounds_toArray, List.set_cons_zero, List.set_cons_succ]
            refine wpAnyH_take (i := 8) (oi := _) (v := ?_) rfl (by kernel_rfl) (by kernel_rfl) (by kernel_rfl) (fun _ _ _ h => h) (Or.inl ⟨by rfl, ?_⟩) (by assumption) ?_
            rotate_left 1
            · (intro w hSw; (try dsimp only at hSw); go_simp; try with_reducible rfl)
            try simp only [Act.put, List.getElem_toArray, List.getElem_cons_zero, List.getElem_cons_succ, List.setIfInBounds_toArray, List.set_cons_zero, List.set_cons_succ]
            refine wpAnyH_take (i := 10) (oi := _) (v := ?_) rfl (by kernel_rfl) (by kernel_rfl) (by kernel_rfl) (fun _ _ _ h => h) (Or.inl ⟨by rfl, ?_⟩) (by assumption) ?_
            rotate_left 1
            · (intro w hSw; (try dsimp only at hSw); go_simp; try with_reducible rfl)
            try simp only [Act.put, List.getElem_toArray, List.getElem_cons_zero, List.getElem_cons_succ, List.setIfInBounds_toArray, List.set_cons_zero, List.set_cons_succ]
            refine wpAnyH_take (i := 11) (oi := _) (v := ?_) rfl (by kernel_rfl) (by kernel_rfl) (by kernel_rfl) (fun _ _ _ h => h) (Or.inl ⟨by rfl, ?_⟩) (by assumption) ?_
            rotate_left 1
            · (intro w hSw; (try dsimp only at hSw); go_simp; try with_reducible rfl)
            try simp only [Act.put, List.getElem_toArray, List.getElem_cons_zero, List.getElem_cons_succ, List.setIfInBounds_toArray, List.set_cons_zero, List.set_cons_succ]
            refine wpAnyH_take (i := 12) (oi := _) (v := ?_) rfl (by kernel_rfl) (by kernel_rfl) (by kernel_rfl) (fun _ _ _ h => h) (Or.inl ⟨by rfl, ?_⟩) (by assumption) ?_
            rotate_left 1
            · (intro w hSw; (try dsimp only at hSw); go_simp; try with_reducible rfl)
            try simp only [Act.put, List.getElem_toArray, List.getElem_cons_zero, List.getElem_cons_succ, List.setIfInBounds_toArray, List.set_cons_zero, List.set_cons_succ]
            refine wpAnyH_ready (rs := [4, 5]) (by kernel_rfl) (by simp) ?_
            refine AllReadyH.cons (o := _) rfl (fun K hK => ?_) ?_
            · try simp only [List.getElem_toArray, List.getElem_cons_zero, List.getElem_cons_succ]
              go_simp
              refine hK.out _ _ ?_ (fun hHeld1 => ?_)
              · (try dsimp only)
                first
                  | exact HI6.out
                  | exact I0.out
                  | exact IA.out
                  | exact IB.out
                  | exact IC.out
                  | exact ID.out
                  | exact IBX.out
                  | exact IDX.out
                  | exact I7.out
                  | exact imp_set HND.out I7.out
              clear hK K hHeld
              have hHeld := hHeld1
              clear hHeld1
              try simp only [Act.put, List.getElem_toArray, List.getElem_cons_zero, List.getElem_cons_succ, List.setIfInBounds_toArray, List.set_cons_zero, List.set_cons_succ]
              refine wpAnyH_ready (rs := [5]) (by kernel_rfl) (by simp) ?_
              refine AllReadyH.cons (o := _) rfl (fun K hK => ?_) ?_
              · try simp only [List.getElem_toArray, List.getElem_cons_zero, List.getElem_cons_succ]
                go_simp
                refine hK.out _ _ ?_ (fun hHeld1 => ?_)
                · (try dsimp only)
                  first
                    | exact HI6.out
                    | exact I0.out
                    | exact IA.out
                    | exact IB.out
                    | exact IC.out
                    | exact ID.out
                    | exact IBX.out
                    | exact IDX.out
                    | exact I7.out
                    | exact imp_set HND.out I7.out
                clear hK K hHeld
                have hHeld := hHeld1
                clear hHeld1
                try simp only [Act.put, List.getElem_toArray, List.getElem_cons_zero, List.getElem_cons_succ, List.setIfInBounds_toArray, List.set_cons_zero, List.set_cons_succ]
                refine wpAnyH_ready (rs := [9, 13]) (by kernel_rfl) (by simp) ?_
                refine AllReadyH.cons (o := _) rfl (fun K hK => ?_) ?_
                · try simp only [List.getElem_toArray, List.getElem_cons_zero, List.getElem_cons_succ]
                  go_simp
                  refine hK.out _ _ ?_ (fun hHeld1 => ?_)
                  · (try dsimp only)
                    first
                      | exact HI6.out
                      | exact I0.out
                      | exact IA.out
                      | exact IB.out
                      | exact IC.out
                      | exact ID.out
                      | exact IBX.out
                      | exact IDX.out
                      | exact I7.out
                      | exact imp_set HND.out I7.out
                  clear hK K hHeld
                  have hHeld := hHeld1
                  clear hHeld1
                  try simp only [Act.put, List.getElem_toArray, List.getElem_cons_zero, List.getElem_cons_succ, List.setIfInBounds_toArray, List.set_cons_zero, List.set_cons_succ]
                  refine wpAnyH_ready (rs := [13]) (by kernel_rfl) (by simp) ?_
                  refine AllReadyH.cons (o := _) rfl (fun K hK => ?_) ?_
                  · try simp only [List.getElem_toArray, List.getElem_cons_zero, List.getElem_cons_succ]
                    go_simp
                    refine hK.out _ _ ?_ (fun hHeld1 => ?_)
                    · (try dsimp only)
                      first
                        | exact HI6.out
                        | exact I0.out
                        | exact IA.out
                        | exact IB.out
                        | exact IC.out
                        | exact ID.out
                        | exact IBX.out
                        | exact IDX.out
                        | exact I7.out
                        | exact imp_set HND.out I7.out
                    clear hK K hHeld
                    have hHeld := hHeld1
                    clear hHeld1
                    try simp only [Act.put, List.getElem_toArray, List.getElem_cons_zero, List.getElem_cons_succ, List.setIfInBounds_toArray, List.set_cons_zero, List.set_cons_succ]
                    refine wpAnyH_take (i := 14) (oi := _) (v := ?_) rfl (by kernel_rfl) (by kernel_rfl) (by kernel_rfl) (fun _ _ _ h => h) (Or.inl ⟨by rfl, ?_⟩) (by assumption) ?_
                    rotate_left 1
                    · (intro w hSw; (try dsimp only at hSw); go_simp; try with_reducible rfl)
                    try simp only [Act.put, List.getElem_toArray, List.getElem_cons_zero, List.getElem_cons_succ, List.setIfInBounds_toArray, List.set_cons_zero, List.set_cons_succ]
                    refine wpAnyH_take (i := 15) (oi := _) (v := ?_) rfl (by kernel_rfl) (by kernel_rfl) (by kernel_rfl) (fun _ _ _ h => h) (Or.inl ⟨by rfl, ?_⟩) (by assumption) ?_
                    rotate_left 1
                    · (intro w hSw; (try dsimp only at hSw); go_simp; try with_reducible rfl)
                    try simp only [Act.put, List.getElem_toArray, List.getElem_cons_zero, List.getElem_cons_succ, List.setIfInBounds_toArray, List.set_cons_zero, List.set_cons_succ]
                    refine wpAnyH_ready (rs := [16]) (by kernel_rfl) (by simp) ?_
                    refine AllReadyH.cons (o := _) rfl (fun K hK => ?_) ?_
                    · try simp only [List.getElem_toArray, List.getElem_cons_zero, List.getElem_cons_succ]
                      go_simp
                      refine hK.out _ _ ?_ (fun hHeld1 => ?_)
                      · (try dsimp only)
                        first
                          | exact HI6.out
                          | exact I0.out
                          | exact IA.out
                          | exact IB.out
                          | exact IC.out
                          | exact ID.out
                          | exact IBX.out
                          | exact IDX.out
                          | exact I7.out
                          | exact imp_set HND.out I7.out
                      clear hK K hHeld
                      have hHeld := hHeld1
                      clear hHeld1
                      try simp only [Act.put, List.getElem_toArray, List.getElem_cons_zero, List.getElem_cons_succ, List.setIfInBounds_toArray, List.set_cons_zero, List.set_cons_succ]
                      refine wpAnyH_ready (rs := [17]) (by kernel_rfl) (by simp) ?_
                      refine AllReadyH.cons (o := _) rfl (fun K hK => ?_) ?_
                      · skip
                        first
                        | (refine Kd.R_append_step kAny (w0 := WB) d (by rfl) (.tmp 60) (.tmp 70) 78 20 .nilIface 16 rfl Try.underlying78 info20 rfl (by decide) (by decide) (.slice A8 l.length c8) l (.iface 65 (.map (some w6.heap.size))) [.iface 65 (.map (some w6.heap.size))] (fun k => k ≠ d) (fun _ => False) (by first | rfl | (go_simp; done)) (by first | rfl | (go_simp; done)) ⟨rfl, rfl⟩ (fun _ h => h.elim) (fresh_d (blk_lt HYB.out.blk)) HYB.out.row (Below.refl _ _) (Nat.le_of_lt (blk_lt HYB.out.blk)) HBY.out ?_
                           intro v7 w7 ho7 hb7 hg7 _
                           obtain ⟨A1, c1, rfl⟩ := Kd.R_slice ho7
                           have HN := Aside0.mk (HYB.out.next ho7 hg7 hb7)
                           have z6 := (blk_cell (HYB.out.at_d hg7) 6).trans rfl
                           have zf := blk_frozen (HYB.out.at_d hg7) 6
                           have nd2 : d < w7.heap.size := blk_lt (HYB.out.at_d hg7)
                           have I7 := Aside0.mk (imp_grown IBL.out hg7 HNE.out IB.out)
                           clear ho7 hb7 hg7)
                        | (refine Kd.R_append_step kAny (w0 := WD) d (by rfl) (.tmp 60) (.tmp 70) 78 20 .nilIface 16 rfl Try.underlying78 info20 rfl (by decide) (by decide) (.slice A8 l.length c8) l (.iface 65 (.map (some w6.heap.size))) [.iface 65 (.map (some w6.heap.size))] (fun k => k ≠ d) (fun _ => False) (by first | rfl | (go_simp; done)) (by first | rfl | (go_simp; done)) ⟨rfl, rfl⟩ (fun _ h => h.elim) (fresh_d (blk_lt HYD.out.blk)) HYD.out.row (Below.refl _ _) (Nat.le_of_lt (blk_lt HYD.out.blk)) HBY.out ?_
                           intro v7 w7 ho7 hb7 hg7 _
                           obtain ⟨A1, c1, rfl⟩ := Kd.R_slice ho7
                           have HN := Aside0.mk (HYD.out.next ho7 hg7 hb7)
                           have z6 := (blk_cell (HYD.out.at_d hg7) 6).trans rfl
                           have zf := blk_frozen (HYD.out.at_d hg7) 6
                           have nd2 : d < w7.heap.size := blk_lt (HYD.out.at_d hg7)
                           have I7 := Aside0.mk (imp_grown IDL.out hg7 HNE.out ID.out)
                           clear ho7 hb7 hg7)
                        refine hK.out _ _ ?_ (fun hHeld1 => ?_)
                        · (try dsimp only)
                          first
                            | exact HI6.out
                            | exact I0.out
                            | exact IA.out
                            | exact IB.out
                            | exact IC.out
                            | exact ID.out
                            | exact IBX.out
                            | exact IDX.out
                            | exact I7.out
                            | exact imp_set HND.out I7.out
                        clear hK K hHeld
                        have hHeld := hHeld1
                        clear hHeld1
                        try simp only [Act.put, List.getElem_toArray, List.getElem_cons_zero, List.getElem_cons_succ, List.setIfInBounds_toArray, List.set_cons_zero, List.set_cons_succ]
                        refine wpAnyH_take (i := 18) (oi := _) (v := ?_) rfl (by kernel_rfl) (by kernel_rfl) (by kernel_rfl) (fun _ _ _ h => h) (Or.inl ⟨by rfl, ?_⟩) (by assumption) ?_
                        rotate_left 1
                        · (intro w hSw; (try dsimp only at hSw); go_simp; try with_reducible rfl)
                        try simp only [Act.put, List.getElem_toArray, List.getElem_cons_zero, List.getElem_cons_succ, List.setIfInBounds_toArray, List.set_cons_zero, List.set_cons_succ]
                        refine wpAnyH_take (i := 19) (oi := _) (v := ?_) rfl (by kernel_rfl) (by kernel_rfl) (by kernel_rfl) (fun _ _ _ h => h) (Or.inl ⟨by rfl, ?_⟩) (by assumption) ?_
                        rotate_left 1
                        · (intro w hSw; (try dsimp only at hSw); go_simp; try with_reducible rfl)
                        try simp only [Act.put, List.getElem_toArray, List.getElem_cons_zero, List.getElem_cons_succ, List.setIfInBounds_toArray, List.set_cons_zero, List.set_cons_succ]
                        refine wpAnyH_ready (rs := [20]) (by kernel_rfl) (by simp) ?_
                        refine AllReadyH.cons (o := _) rfl (fun K hK => ?_) ?_
                        · try simp only [List.getElem_toArray, List.getElem_cons_zero, List.getElem_cons_succ]
                          go_simp
                          refine hK.out _ _ ?_ (fun hHeld1 => ?_)
                          · (try dsimp only)
                            first
                              | exact HI6.out
                              | exact I0.out
                              | exact IA.out
                              | exact IB.out
                              | exact IC.out
                              | exact ID.out
                              | exact IBX.out
                              | exact IDX.out
                              | exact I7.out
                              | exact imp_set HND.out I7.out
                          clear hK K hHeld
                          have hHeld := hHeld1
                          clear hHeld1
                          try simp only [Act.put, List.getElem_toArray, List.getElem_cons_zero, List.getElem_cons_succ, List.setIfInBounds_toArray, List.set_cons_zero, List.set_cons_succ]
                          refine wpAnyH_done (by kernel_rfl) ?_ _
                          refine NoPanic.normal ?_
                          go_wp2_with fail
                          go_roundw
                          case rel => exact ⟨j + 1, l ++ [.iface 65 (.map (some w6.heap.size))], A1, c1, HJ.out, rfl, ⟨by rw [List.length_append, HL.out]; rfl⟩, ⟨by have h := HN.out; rw [List.length_append] at h; exact h⟩⟩
                          case measure => exact meas2 HJ.out
                        exact AllReadyH.nil
                      exact AllReadyH.nil
                    exact AllReadyH.nil
                  exact AllReadyH.nil
                refine AllReadyH.cons (o := _) rfl (fun K hK => ?_) ?_
                · try simp only [List.getElem_toArray, List.getElem_cons_zero, List.getElem_cons_succ]
                  go_simp
                  refine hK.out _ _ ?_ (fun hHeld1 => ?_)
                  · (try dsimp only)
                    first
                      | exact HI6.out
                      | exact I0.out
                      | exact IA.out
                      | exact IB.out
                      | exact IC.out
                      | exact ID.out
                      | exact IBX.out
                      | exact IDX.out
                      | exact I7.out
                      | exact imp_set HND.out I7.out
                  clear hK K hHeld
                  have hHeld := hHeld1
                  clear hHeld1
                  try simp only [Act.put, List.getElem_toArray, List.getElem_cons_zero, List.getElem_cons_succ, List.setIfInBounds_toArray, List.set_cons_zero, List.set_cons_succ]
                  refine wpAnyH_ready (rs := [9]) (by kernel_rfl) (by simp) ?_
                  refine AllReadyH.cons (o := _) rfl (fun K hK => ?_) ?_
                  · try simp only [List.getElem_toArray, List.getElem_cons_zero, List.getElem_cons_succ]
                    go_simp
                    refine hK.out _ _ ?_ (fun hHeld1 => ?_)
                    · (try dsimp only)
                      first
                        | exact HI6.out
                        | exact I0.out
                        | exact IA.out
                        | exact IB.out
                        | exact IC.out
                        | exact ID.out
                        | exact IBX.out
                        | exact IDX.out
                        | exact I7.out
                        | exact imp_set HND.out I7.out
                    clear hK K hHeld
                    have hHeld := hHeld1
                    clear hHeld1
                    try simp only [Act.put, List.getElem_toArray, List.getElem_cons_zero, List.getElem_cons_succ, List.setIfInBounds_toArray, List.set_cons_zero, List.set_cons_succ]
                    refine wpAnyH_take (i := 14) (oi := _) (v := ?_) rfl (by kernel_rfl) (by kernel_rfl) (by kernel_rfl) (fun _ _ _ h => h) (Or.inl ⟨by rfl, ?_⟩) (by assumption) ?_
                    rotate_left 1
                    · (intro w hSw; (try dsimp only at hSw); go_simp; try with_reducible rfl)
                    try simp only [Act.put, List.getElem_toArray, List.getElem_cons_zero, List.getElem_cons_succ, List.setIfInBounds_toArray, List.set_cons_zero, List.set_cons_succ]
                    refine wpAnyH_take (i := 15) (oi := _) (v := ?_) rfl (by kernel_rfl) (by kernel_rfl) (by kernel_rfl) (fun _ _ _ h => h) (Or.inl ⟨by rfl, ?_⟩) (by assumption) ?_
                    rotate_left 1
                    · (intro w hSw; (try dsimp only at hSw); go_simp; try with_reducible rfl)
                    try simp only [Act.put, List.getElem_toArray, List.getElem_cons_zero, List.getElem_cons_succ, List.setIfInBounds_toArray, List.set_cons_zero, List.set_cons_succ]
                    refine wpAnyH_ready (rs := [16]) (by kernel_rfl) (by simp) ?_
                    refine AllReadyH.cons (o := _) rfl (fun K hK => ?_) ?_
                    · try simp only [List.getElem_toArray, List.getElem_cons_zero, List.getElem_cons_succ]
                      go_simp
                      refine hK.out _ _ ?_ (fun hHeld1 => ?_)
                      · (try dsimp only)
                        first
                          | exact HI6.out
                          | exact I0.out
                          | exact IA.out
                          | exact IB.out
                          | exact IC.out
                          | exact ID.out
                          | exact IBX.out
                          | exact IDX.out
                          | exact I7.out
                          | exact imp_set HND.out I7.out
                      clear hK K hHeld
                      have hHeld := hHeld1
                      clear hHeld1
                      try simp only [Act.put, List.getElem_toArray, List.getElem_cons_zero, List.getElem_cons_succ, List.setIfInBounds_toArray, List.set_cons_zero, List.set_cons_succ]
                      refine wpAnyH_ready (rs := [17]) (by kernel_rfl) (by simp) ?_
                      refine AllReadyH.cons (o := _) rfl (fun K hK => ?_) ?_
                      · skip
                        first
                        | (refine Kd.R_append_step kAny (w0 := WB) d (by rfl) (.tmp 60) (.tmp 70) 78 20 .nilIface 16 rfl Try.underlying78 info20 rfl (by decide) (by decide) (.slice A8 l.length c8) l (.iface 65 (.map (some w6.heap.size))) [.iface 65 (.map (some w6.heap.size))] (fun k => k ≠ d) (fun _ => False) (by first | rfl | (go_simp; done)) (by first | rfl | (go_simp; done)) ⟨rfl, rfl⟩ (fun _ h => h.elim) (fresh_d (blk_lt HYB.out.blk)) HYB.out.row (Below.refl _ _) (Nat.le_of_lt (blk_lt HYB.out.blk)) HBY.out ?_
                           intro v7 w7 ho7 hb7 hg7 _
                           obtain ⟨A1, c1, rfl⟩ := Kd.R_slice ho7
                           have HN := Aside0.mk (HYB.out.next ho7 hg7 hb7)
                           have z6 := (blk_cell (HYB.out.at_d hg7) 6).trans rfl
                           have zf := blk_frozen (HYB.out.at_d hg7) 6
                           have nd2 : d < w7.heap.size := blk_lt (HYB.out.at_d hg7)
                           have I7 := Aside0.mk (imp_grown IBL.out hg7 HNE.out IB.out)
                           clear ho7 hb7 hg7)
                        | (refine Kd.R_append_step kAny (w0 := WD) d (by rfl) (.tmp 60) (.tmp 70) 78 20 .nilIface 16 rfl Try.underlying78 info20 rfl (by decide) (by decide) (.slice A8 l.length c8) l (.iface 65 (.map (some w6.heap.size))) [.iface 65 (.map (some w6.heap.size))] (fun k => k ≠ d) (fun _ => False) (by first | rfl | (go_simp; done)) (by first | rfl | (go_simp; done)) ⟨rfl, rfl⟩ (fun _ h => h.elim) (fresh_d (blk_lt HYD.out.blk)) HYD.out.row (Below.refl _ _) (Nat.le_of_lt (blk_lt HYD.out.blk)) HBY.out ?_
                           intro v7 w7 ho7 hb7 hg7 _
                           obtain ⟨A1, c1, rfl⟩ := Kd.R_slice ho7
                           have HN := Aside0.mk (HYD.out.next ho7 hg7 hb7)
                           have z6 := (blk_cell (HYD.out.at_d hg7) 6).trans rfl
                           have zf := blk_frozen (HYD.out.at_d hg7) 6
                           have nd2 : d < w7.heap.size := blk_lt (HYD.out.at_d hg7)
                           have I7 := Aside0.mk (imp_grown IDL.out hg7 HNE.out ID.out)
                           clear ho7 hb7 hg7)
                        refine hK.out _ _ ?_ (fun hHeld1 => ?_)
                        · (try dsimp only)
                          first
                            | exact HI6.out
                            | exact I0.out
                            | exact IA.out
                            | exact IB.out
                            | exact IC.out
                            | exact ID.out
                            | exact IBX.out
                            | exact IDX.out
                            | exact I7.out
                            | exact imp_set HND.out I7.out
                        clear hK K hHeld
                        have hHeld := hHeld1
                        clear hHeld1
                        try simp only [Act.put, List.getElem_toArray, List.getElem_cons_zero, List.getElem_cons_succ, List.setIfInBounds_toArray, List.set_cons_zero, List.set_cons_succ]
                        refine wpAnyH_take (i := 18) (oi := _) (v := ?_) rfl (by kernel_rfl) (by kernel_rfl) (by kernel_rfl) (fun _ _ _ h => h) (Or.inl ⟨by rfl, ?_⟩) (by assumption) ?_
                        rotate_left 1
                        · (intro w hSw; (try dsimp only at hSw); go_simp; try with_reducible rfl)
                        try simp only [Act.put, List.getElem_toArray, List.getElem_cons_zero, List.getElem_cons_succ, List.setIfInBounds_toArray, List.set_cons_zero, List.set_cons_succ]
                        refine wpAnyH_take (i := 19) (oi := _) (v := ?_) rfl (by kernel_rfl) (by kernel_rfl) (by kernel_rfl) (fun _ _ _ h => h) (Or.inl ⟨by rfl, ?_⟩) (by assumption) ?_
                        rotate_left 1
                        · (intro w hSw; (try dsimp only at hSw); go_simp; try with_reducible rfl)
                        try simp only [Act.put, List.getElem_toArray, List.getElem_cons_zero, List.getElem_cons_succ, List.setIfInBounds_toArray, List.set_cons_zero, List.set_cons_succ]
                        refine wpAnyH_ready (rs := [20]) (by kernel_rfl) (by simp) ?_
                        refine AllReadyH.cons (o := _) rfl (fun K hK => ?_) ?_
                        · try simp only [List.getElem_toArray, List.getElem_cons_zero, List.getElem_cons_succ]
                          go_simp
                          refine hK.out _ _ ?_ (fun hHeld1 => ?_)
                          · (try dsimp only)
                            first
                              | exact HI6.out
                              | exact I0.out
                              | exact IA.out
                              | exact IB.out
                              | exact IC.out
                              | exact ID.out
                              | exact IBX.out
                              | exact IDX.out
                              | exact I7.out
                              | exact imp_set HND.out I7.out
                          clear hK K hHeld
                          have hHeld := hHeld1
                          clear hHeld1
                          try simp only [Act.put, List.getElem_toArray, List.getElem_cons_zero, List.getElem_cons_succ, List.setIfInBounds_toArray, List.set_cons_zero, List.set_cons_succ]
                          refine wpAnyH_done (by kernel_rfl) ?_ _
                          refine NoPanic.normal ?_
                          go_wp2_with fail
                          go_roundw
                          case rel => exact ⟨j + 1, l ++ [.iface 65 (.map (some w6.heap.size))], A1, c1, HJ.out, rfl, ⟨by rw [List.length_append, HL.out]; rfl⟩, ⟨by have h := HN.out; rw [List.length_append] at h; exact h⟩⟩
                          case measure => exact meas2 HJ.out
                        exact AllReadyH.nil
                      exact AllReadyH.nil
                    exact AllReadyH.nil
                  exact AllReadyH.nil
                exact AllReadyH.nil
              exact AllReadyH.nil
            refine AllReadyH.cons (o := _) rfl (fun K hK => ?_) ?_
            · try simp only [List.getElem_toArray, List.getElem_cons_zero, List.getElem_cons_succ]
              go_simp
              refine hK.out _ _ ?_ (fun hHeld1 => ?_)
              · (try dsimp only)
                first
                  | exact HI6.out
                  | exact I0.out
                  | exact IA.out
                  | exact IB.out
                  | exact IC.out
                  | exact ID.out
                  | exact IBX.out
                  | exact IDX.out
                  | exact I7.out
                  | exact imp_set HND.out I7.out
              clear hK K hHeld
              have hHeld := hHeld1
              clear hHeld1
              try simp only [Act.put, List.getElem_toArray, List.getElem_cons_zero, List.getElem_cons_succ, List.setIfInBounds_toArray, List.set_cons_zero, List.set_cons_succ]
              refine wpAnyH_ready (rs := [4, 9, 13]) (by kernel_rfl) (by simp) ?_
              refine AllReadyH.cons (o := _) rfl (fun K hK => ?_) ?_
              · try simp only [List.getElem_toArray, List.getElem_cons_zero, List.getElem_cons_succ]
                go_simp
                refine hK.out _ _ ?_ (fun hHeld1 => ?_)
                · (try dsimp only)
                  first
                    | exact HI6.out
                    | exact I0.out
                    | exact IA.out
                    | exact IB.out
                    | exact IC.out
                    | exact ID.out
                    | exact IBX.out
                    | exact IDX.out
                    | exact I7.out
                    | exact imp_set HND.out I7.out
                clear hK K hHeld
                have hHeld := hHeld1
                clear hHeld1
                try simp only [Act.put, List.getElem_toArray, List.getElem_cons_zero, List.getElem_cons_succ, List.setIfInBounds_toArray, List.set_cons_zero, List.set_cons_succ]
                refine wpAnyH_ready (rs := [9, 13]) (by kernel_rfl) (by simp) ?_
                refine AllReadyH.cons (o := _) rfl (fun K hK => ?_) ?_
                · try simp only [List.getElem_toArray, List.getElem_cons_zero, List.getElem_cons_succ]
                  go_simp
                  refine hK.out _ _ ?_ (fun hHeld1 => ?_)
                  · (try dsimp only)
                    first
                      | exact HI6.out
                      | exact I0.out
                      | exact IA.out
                      | exact IB.out
                      | exact IC.out
                      | exact ID.out
                      | exact IBX.out
                      | exact IDX.out
                      | exact I7.out
                      | exact imp_set HND.out I7.out
                  clear hK K hHeld
                  have hHeld := hHeld1
                  clear hHeld1
                  try simp only [Act.put, List.getElem_toArray, List.getElem_cons_zero, List.getElem_cons_succ, List.setIfInBounds_toArray, List.set_cons_zero, List.set_cons_succ]
                  refine wpAnyH_ready (rs := [13]) (by kernel_rfl) (by simp) ?_
                  refine AllReadyH.cons (o := _) rfl (fun K hK => ?_) ?_
                  · try simp only [List.getElem_toArray, List.getElem_cons_zero, List.getElem_cons_succ]
                    go_simp
                    refine hK.out _ _ ?_ (fun hHeld1 => ?_)
                    · (try dsimp only)
                      first
                        | exact HI6.out
                        | exact I0.out
                        | exact IA.out
                        | exact IB.out
                        | exact IC.out
                        | exact ID.out
                        | exact IBX.out
                        | exact IDX.out
                        | exact I7.out
                        | exact imp_set HND.out I7.out
                    clear hK K hHeld
                    have hHeld := hHeld1
                    clear hHeld1
                    try simp only [Act.put, List.getElem_toArray, List.getElem_cons_zero, List.getElem_cons_succ, List.setIfInBounds_toArray, List.set_cons_zero, List.set_cons_succ]
                    refine wpAnyH_take (i := 14) (oi := _) (v := ?_) rfl (by kernel_rfl) (by kernel_rfl) (by kernel_rfl) (fun _ _ _ h => h) (Or.inl ⟨by rfl, ?_⟩) (by assumption) ?_
                    rotate_left 1
                    · (intro w hSw; (try dsimp only at hSw); go_simp; try with_reducible rfl)
                    try simp only [Act.put, List.getElem_toArray, List.getElem_cons_zero, List.getElem_cons_succ, List.setIfInBounds_toArray, List.set_cons_zero, List.set_cons_succ]
                    refine wpAnyH_take (i := 15) (oi := _) (v := ?_) rfl (by kernel_rfl) (by kernel_rfl) (by kernel_rfl) (fun _ _ _ h => h) (Or.inl ⟨by rfl, ?_⟩) (by assumption) ?_
                    rotate_left 1
                    · (intro w hSw; (try dsimp only at hSw); go_simp; try with_reducible rfl)
                    try simp only [Act.put, List.getElem_toArray, List.getElem_cons_zero, List.getElem_cons_succ, List.setIfInBounds_toArray, List.set_cons_zero, List.set_cons_succ]
                    refine wpAnyH_ready (rs := [16]) (by kernel_rfl) (by simp) ?_
                    refine AllReadyH.cons (o := _) rfl (fun K hK => ?_) ?_
                    · try simp only [List.getElem_toArray, List.getElem_cons_zero, List.getElem_cons_succ]
                      go_simp
                      refine hK.out _ _ ?_ (fun hHeld1 => ?_)
                      · (try dsimp only)
                        first
                          | exact HI6.out
                          | exact I0.out
                          | exact IA.out
                          | exact IB.out
                          | exact IC.out
                          | exact ID.out
                          | exact IBX.out
                          | exact IDX.out
                          | exact I7.out
                          | exact imp_set HND.out I7.out
                      clear hK K hHeld
                      have hHeld := hHeld1
                      clear hHeld1
                      try simp only [Act.put, List.getElem_toArray, List.getElem_cons_zero, List.getElem_cons_succ, List.setIfInBounds_toArray, List.set_cons_zero, List.set_cons_succ]
                      refine wpAnyH_ready (rs := [17]) (by kernel_rfl) (by simp) ?_
                      refine AllReadyH.cons (o := _) rfl (fun K hK => ?_) ?_
                      · skip
                        first
                        | (refine Kd.R_append_step kAny (w0 := WB) d (by rfl) (.tmp 60) (.tmp 70) 78 20 .nilIface 16 rfl Try.underlying78 info20 rfl (by decide) (by decide) (.slice A8 l.length c8) l (.iface 65 (.map (some w6.heap.size))) [.iface 65 (.map (some w6.heap.size))] (fun k => k ≠ d) (fun _ => False) (by first | rfl | (go_simp; done)) (by first | rfl | (go_simp; done)) ⟨rfl, rfl⟩ (fun _ h => h.elim) (fresh_d (blk_lt HYB.out.blk)) HYB.out.row (Below.refl _ _) (Nat.le_of_lt (blk_lt HYB.out.blk)) HBY.out ?_
                           intro v7 w7 ho7 hb7 hg7 _
                           obtain ⟨A1, c1, rfl⟩ := Kd.R_slice ho7
                           have HN := Aside0.mk (HYB.out.next ho7 hg7 hb7)
                           have z6 := (blk_cell (HYB.out.at_d hg7) 6).trans rfl
                           have zf := blk_frozen (HYB.out.at_d hg7) 6
                           have nd2 : d < w7.heap.size := blk_lt (HYB.out.at_d hg7)
                           have I7 := Aside0.mk (imp_grown IBL.out hg7 HNE.out IB.out)
                           clear ho7 hb7 hg7)
                        | (refine Kd.R_append_step kAny (w0 := WD) d (by rfl) (.tmp 60) (.tmp 70) 78 20 .nilIface 16 rfl Try.underlying78 info20 rfl (by decide) (by decide) (.slice A8 l.length c8) l (.iface 65 (.map (some w6.heap.size))) [.iface 65 (.map (some w6.heap.size))] (fun k => k ≠ d) (fun _ => False) (by first | rfl | (go_simp; done)) (by first | rfl | (go_simp; done)) ⟨rfl, rfl⟩ (fun _ h => h.elim) (fresh_d (blk_lt HYD.out.blk)) HYD.out.row (Below.refl _ _) (Nat.le_of_lt (blk_lt HYD.out.blk)) HBY.out ?_
                           intro v7 w7 ho7 hb7 hg7 _
                           obtain ⟨A1, c1, rfl⟩ := Kd.R_slice ho7
                           have HN := Aside0.mk (HYD.out.next ho7 hg7 hb7)
                           have z6 := (blk_cell (HYD.out.at_d hg7) 6).trans rfl
                           have zf := blk_frozen (HYD.out.at_d hg7) 6
                           have nd2 : d < w7.heap.size := blk_lt (HYD.out.at_d hg7)
                           have I7 := Aside0.mk (imp_grown IDL.out hg7 HNE.out ID.out)
                           clear ho7 hb7 hg7)
                        refine hK.out _ _ ?_ (fun hHeld1 => ?_)
                        · (try dsimp only)
                          first
                            | exact HI6.out
                            | exact I0.out
                            | exact IA.out
                            | exact IB.out
                            | exact IC.out
                            | exact ID.out
                            | exact IBX.out
                            | exact IDX.out
                            | exact I7.out
                            | exact imp_set HND.out I7.out
                        clear hK K hHeld
                        have hHeld := hHeld1
                        clear hHeld1
                        try simp only [Act.put, List.getElem_toArray, List.getElem_cons_zero, List.getElem_cons_succ, List.setIfInBounds_toArray, List.set_cons_zero, List.set_cons_succ]
                        refine wpAnyH_take (i := 18) (oi := _) (v := ?_) rfl (by kernel_rfl) (by kernel_rfl) (by kernel_rfl) (fun _ _ _ h => h) (Or.inl ⟨by rfl, ?_⟩) (by assumption) ?_
                        rotate_left 1
                        · (intro w hSw; (try dsimp only at hSw); go_simp; try with_reducible rfl)
                        try simp only [Act.put, List.getElem_toArray, List.getElem_cons_zero, List.getElem_cons_succ, List.setIfInBounds_toArray, List.set_cons_zero, List.set_cons_succ]
                        refine wpAnyH_take (i := 19) (oi := _) (v := ?_) rfl (by kernel_rfl) (by kernel_rfl) (by kernel_rfl) (fun _ _ _ h => h) (Or.inl ⟨by rfl, ?_⟩) (by assumption) ?_
                        rotate_left 1
                        · (intro w hSw; (try dsimp only at hSw); go_simp; try with_reducible rfl)
                        try simp only [Act.put, List.getElem_toArray, List.getElem_cons_zero, List.getElem_cons_succ, List.setIfInBounds_toArray, List.set_cons_zero, List.set_cons_succ]
                        refine wpAnyH_ready (rs := [20]) (by kernel_rfl) (by simp) ?_
                        refine AllReadyH.cons (o := _) rfl (fun K hK => ?_) ?_
                        · try simp only [List.getElem_toArray, List.getElem_cons_zero, List.getElem_cons_succ]
                          go_simp
                          refine hK.out _ _ ?_ (fun hHeld1 => ?_)
                          · (try dsimp only)
                            first
                              | exact HI6.out
                              | exact I0.out
                              | exact IA.out
                              | exact IB.out
                              | exact IC.out
                              | exact ID.out
                              | exact IBX.out
                              | exact IDX.out
                              | exact I7.out
                              | exact imp_set HND.out I7.out
                          clear hK K hHeld
                          have hHeld := hHeld1
                          clear hHeld1
                          try simp only [Act.put, List.getElem_toArray, List.getElem_cons_zero, List.getElem_cons_succ, List.setIfInBounds_toArray, List.set_cons_zero, List.set_cons_succ]
                          refine wpAnyH_done (by kernel_rfl) ?_ _
                          refine NoPanic.normal ?_
                          go_wp2_with fail
                          go_roundw
                          case rel => exact ⟨j + 1, l ++ [.iface 65 (.map (some w6.heap.size))], A1, c1, HJ.out, rfl, ⟨by rw [List.length_append, HL.out]; rfl⟩, ⟨by have h := HN.out; rw [List.length_append] at h; exact h⟩⟩
                          case measure => exact meas2 HJ.out
                        exact AllReadyH.nil
                      exact AllReadyH.nil
                    exact AllReadyH.nil
                  exact AllReadyH.nil
                refine AllReadyH.cons (o := _) rfl (fun K hK => ?_) ?_
                · try simp only [List.getElem_toArray, List.getElem_cons_zero, List.getElem_cons_succ]
                  go_simp
                  refine hK.out _ _ ?_ (fun hHeld1 => ?_)
                  · (try dsimp only)
                    first
                      | exact HI6.out
                      | exact I0.out
                      | exact IA.out
                      | exact IB.out
                      | exact IC.out
                      | exact ID.out
                      | exact IBX.out
                      | exact IDX.out
                      | exact I7.out
                      | exact imp_set HND.out I7.out
                  clear hK K hHeld
                  have hHeld := hHeld1
                  clear hHeld1
                  try simp only [Act.put, List.getElem_toArray, List.getElem_cons_zero, List.getElem_cons_succ, List.setIfInBounds_toArray, List.set_cons_zero, List.set_cons_succ]
                  refine wpAnyH_ready (rs := [9]) (by kernel_rfl) (by simp) ?_
                  refine AllReadyH.cons (o := _) rfl (fun K hK => ?_) ?_
                  · try simp only [List.getElem_toArray, List.getElem_cons_zero, List.getElem_cons_succ]
                    go_simp
                    refine hK.out _ _ ?_ (fun hHeld1 => ?_)
                    · (try dsimp only)
                      first
                        | exact HI6.out
                        | exact I0.out
                        | exact IA.out
                        | exact IB.out
                        | exact IC.out
                        | exact ID.out
                        | exact IBX.out
                        | exact IDX.out
                        | exact I7.out
                        | exact imp_set HND.out I7.out
                    clear hK K hHeld
                    have hHeld := hHeld1
                    clear hHeld1
                    try simp only [Act.put, List.getElem_toArray, List.getElem_cons_zero, List.getElem_cons_succ, List.setIfInBounds_toArray, List.set_cons_zero, List.set_cons_succ]
                    refine wpAnyH_take (i := 14) (oi := _) (v := ?_) rfl (by kernel_rfl) (by kernel_rfl) (by kernel_rfl) (fun _ _ _ h => h) (Or.inl ⟨by rfl, ?_⟩) (by assumption) ?_
                    rotate_left 1
                    · (intro w hSw; (try dsimp only at hSw); go_simp; try with_reducible rfl)
                    try simp only [Act.put, List.getElem_toArray, List.getElem_cons_zero, List.getElem_cons_succ, List.setIfInBounds_toArray, List.set_cons_zero, List.set_cons_succ]
                    refine wpAnyH_take (i := 15) (oi := _) (v := ?_) rfl (by kernel_rfl) (by kernel_rfl) (by kernel_rfl) (fun _ _ _ h => h) (Or.inl ⟨by rfl, ?_⟩) (by assumption) ?_
                    rotate_left 1
                    · (intro w hSw; (try dsimp only at hSw); go_simp; try with_reducible rfl)
                    try simp only [Act.put, List.getElem_toArray, List.getElem_cons_zero, List.getElem_cons_succ, List.setIfInBounds_toArray, List.set_cons_zero, List.set_cons_succ]
                    refine wpAnyH_ready (rs := [16]) (by kernel_rfl) (by simp) ?_
                    refine AllReadyH.cons (o := _) rfl (fun K hK => ?_) ?_
                    · try simp only [List.getElem_toArray, List.getElem_cons_zero, List.getElem_cons_succ]
                      go_simp
                      refine hK.out _ _ ?_ (fun hHeld1 => ?_)
                      · (try dsimp only)
                        first
                          | exact HI6.out
                          | exact I0.out
                          | exact IA.out
                          | exact IB.out
                          | exact IC.out
                          | exact ID.out
                          | exact IBX.out
                          | exact IDX.out
                          | exact I7.out
                          | exact imp_set HND.out I7.out
                      clear hK K hHeld
                      have hHeld := hHeld1
                      clear hHeld1
                      try simp only [Act.put, List.getElem_toArray, List.getElem_cons_zero, List.getElem_cons_succ, List.setIfInBounds_toArray, List.set_cons_zero, List.set_cons_succ]
                      refine wpAnyH_ready (rs := [17]) (by kernel_rfl) (by simp) ?_
                      refine AllReadyH.cons (o := _) rfl (fun K hK => ?_) ?_
                      · skip
                        first
                        | (refine Kd.R_append_step kAny (w0 := WB) d (by rfl) (.tmp 60) (.tmp 70) 78 20 .nilIface 16 rfl Try.underlying78 info20 rfl (by decide) (by decide) (.slice A8 l.length c8) l (.iface 65 (.map (some w6.heap.size))) [.iface 65 (.map (some w6.heap.size))] (fun k => k ≠ d) (fun _ => False) (by first | rfl | (go_simp; done)) (by first | rfl | (go_simp; done)) ⟨rfl, rfl⟩ (fun _ h => h.elim) (fresh_d (blk_lt HYB.out.blk)) HYB.out.row (Below.refl _ _) (Nat.le_of_lt (blk_lt HYB.out.blk)) HBY.out ?_
                           intro v7 w7 ho7 hb7 hg7 _
                           obtain ⟨A1, c1, rfl⟩ := Kd.R_slice ho7
                           have HN := Aside0.mk (HYB.out.next ho7 hg7 hb7)
                           have z6 := (blk_cell (HYB.out.at_d hg7) 6).trans rfl
                           have zf := blk_frozen (HYB.out.at_d hg7) 6
                           have nd2 : d < w7.heap.size := blk_lt (HYB.out.at_d hg7)
                           have I7 := Aside0.mk (imp_grown IBL.out hg7 HNE.out IB.out)
                           clear ho7 hb7 hg7)
                        | (refine Kd.R_append_step kAny (w0 := WD) d (by rfl) (.tmp 60) (.tmp 70) 78 20 .nilIface 16 rfl Try.underlying78 info20 rfl (by decide) (by decide) (.slice A8 l.length c8) l (.iface 65 (.map (some w6.heap.size))) [.iface 65 (.map (some w6.heap.size))] (fun k => k ≠ d) (fun _ => False) (by first | rfl | (go_simp; done)) (by first | rfl | (go_simp; done)) ⟨rfl, rfl⟩ (fun _ h => h.elim) (fresh_d (blk_lt HYD.out.blk)) HYD.out.row (Below.refl _ _) (Nat.le_of_lt (blk_lt HYD.out.blk)) HBY.out ?_
                           intro v7 w7 ho7 hb7 hg7 _
                           obtain ⟨A1, c1, rfl⟩ := Kd.R_slice ho7
                           have HN := Aside0.mk (HYD.out.next ho7 hg7 hb7)
                           have z6 := (blk_cell (HYD.out.at_d hg7) 6).trans rfl
                           have zf := blk_frozen (HYD.out.at_d hg7) 6
                           have nd2 : d < w7.heap.size := blk_lt (HYD.out.at_d hg7)
                           have I7 := Aside0.mk (imp_grown IDL.out hg7 HNE.out ID.out)
                           clear ho7 hb7 hg7)
                        refine hK.out _ _ ?_ (fun hHeld1 => ?_)
                        · (try dsimp only)
                          first
                            | exact HI6.out
                            | exact I0.out
                            | exact IA.out
                            | exact IB.out
                            | exact IC.out
                            | exact ID.out
                            | exact IBX.out
                            | exact IDX.out
                            | exact I7.out
                            | exact imp_set HND.out I7.out
                        clear hK K hHeld
                        have hHeld := hHeld1
                        clear hHeld1
                        try simp only [Act.put, List.getElem_toArray, List.getElem_cons_zero, List.getElem_cons_succ, List.setIfInBounds_toArray, List.set_cons_zero, List.set_cons_succ]
                        refine wpAnyH_take (i := 18) (oi := _) (v := ?_) rfl (by kernel_rfl) (by kernel_rfl) (by kernel_rfl) (fun _ _ _ h => h) (Or.inl ⟨by rfl, ?_⟩) (by assumption) ?_
                        rotate_left 1
                        · (intro w hSw; (try dsimp only at hSw); go_simp; try with_reducible rfl)
                        try simp only [Act.put, List.getElem_toArray, List.getElem_cons_zero, List.getElem_cons_succ, List.setIfInBounds_toArray, List.set_cons_zero, List.set_cons_succ]
                        refine wpAnyH_take (i := 19) (oi := _) (v := ?_) rfl (by kernel_rfl) (by kernel_rfl) (by kernel_rfl) (fun _ _ _ h => h) (Or.inl ⟨by rfl, ?_⟩) (by assumption) ?_
                        rotate_left 1
                        · (intro w hSw; (try dsimp only at hSw); go_simp; try with_reducible rfl)
                        try simp only [Act.put, List.getElem_toArray, List.getElem_cons_zero, List.getElem_cons_succ, List.setIfInBounds_toArray, List.set_cons_zero, List.set_cons_succ]
                        refine wpAnyH_ready (rs := [20]) (by kernel_rfl) (by simp) ?_
                        refine AllReadyH.cons (o := _) rfl (fun K hK => ?_) ?_
                        · try simp only [List.getElem_toArray, List.getElem_cons_zero, List.getElem_cons_succ]
                          go_simp
                          refine hK.out _ _ ?_ (fun hHeld1 => ?_)
                          · (try dsimp only)
                            first
                              | exact HI6.out
                              | exact I0.out
                              | exact IA.out
                              | exact IB.out
                              | exact IC.out
                              | exact ID.out
                              | exact IBX.out
                              | exact IDX.out
                              | exact I7.out
                              | exact imp_set HND.out I7.out
                          clear hK K hHeld
                          have hHeld := hHeld1
                          clear hHeld1
                          try simp only [Act.put, List.getElem_toArray, List.getElem_cons_zero, List.getElem_cons_succ, List.setIfInBounds_toArray, List.set_cons_zero, List.set_cons_succ]
                          refine wpAnyH_done (by kernel_rfl) ?_ _
                          refine NoPanic.normal ?_
                          go_wp2_with fail
                          go_roundw
                          case rel => exact ⟨j + 1, l ++ [.iface 65 (.map (some w6.heap.size))], A1, c1, HJ.out, rfl, ⟨by rw [List.length_append, HL.out]; rfl⟩, ⟨by have h := HN.out; rw [List.length_append] at h; exact h⟩⟩
                          case measure => exact meas2 HJ.out
                        exact AllReadyH.nil
                      exact AllReadyH.nil
                    exact AllReadyH.nil
                  exact AllReadyH.nil
                exact AllReadyH.nil
              refine AllReadyH.cons (o := _) rfl (fun K hK => ?_) ?_
              · try simp only [List.getElem_toArray, List.getElem_cons_zero, List.getElem_cons_succ]
                go_simp
                refine hK.out _ _ ?_ (fun hHeld1 => ?_)
                · (try dsimp only)
                  first
                    | exact HI6.out
                    | exact I0.out
                    | exact IA.out
                    | exact IB.out
                    | exact IC.out
                    | exact ID.out
                    | exact IBX.out
                    | exact IDX.out
                    | exact I7.out
                    | exact imp_set HND.out I7.out
                clear hK K hHeld
                have hHeld := hHeld1
                clear hHeld1
                try simp only [Act.put, List.getElem_toArray, List.getElem_cons_zero, List.getElem_cons_succ, List.setIfInBounds_toArray, List.set_cons_zero, List.set_cons_succ]
                refine wpAnyH_ready (rs := [4, 13]) (by kernel_rfl) (by simp) ?_
                refine AllReadyH.cons (o := _) rfl (fun K hK => ?_) ?_
                · try simp only [List.getElem_toArray, List.getElem_cons_zero, List.getElem_cons_succ]
                  go_simp
                  refine hK.out _ _ ?_ (fun hHeld1 => ?_)
                  · (try dsimp only)
                    first
                      | exact HI6.out
                      | exact I0.out
                      | exact IA.out
                      | exact IB.out
                      | exact IC.out
                      | exact ID.out
                      | exact IBX.out
                      | exact IDX.out
                      | exact I7.out
                      | exact imp_set HND.out I7.out
                  clear hK K hHeld
                  have hHeld := hHeld1
                  clear hHeld1
                  try simp only [Act.put, List.getElem_toArray, List.getElem_cons_zero, List.getElem_cons_succ, List.setIfInBounds_toArray, List.set_cons_zero, List.set_cons_succ]
                  refine wpAnyH_ready (rs := [13]) (by kernel_rfl) (by simp) ?_
                  refine AllReadyH.cons (o := _) rfl (fun K hK => ?_) ?_
                  · try simp only [List.getElem_toArray, List.getElem_cons_zero, List.getElem_cons_succ]
                    go_simp
                    refine hK.out _ _ ?_ (fun hHeld1 => ?_)
                    · (try dsimp only)
                      first
                        | exact HI6.out
                        | exact I0.out
                        | exact IA.out
                        | exact IB.out
                        | exact IC.out
                        | exact ID.out
                        | exact IBX.out
                        | exact IDX.out
                        | exact I7.out
                        | exact imp_set HND.out I7.out
                    clear hK K hHeld
                    have hHeld := hHeld1
                    clear hHeld1
                    try simp only [Act.put, List.getElem_toArray, List.getElem_cons_zero, List.getElem_cons_succ, List.setIfInBounds_toArray, List.set_cons_zero, List.set_cons_succ]
                    refine wpAnyH_take (i := 14) (oi := _) (v := ?_) rfl (by kernel_rfl) (by kernel_rfl) (by kernel_rfl) (fun _ _ _ h => h) (Or.inl ⟨by rfl, ?_⟩) (by assumption) ?_
                    rotate_left 1
                    · (intro w hSw; (try dsimp only at hSw); go_simp; try with_reducible rfl)
                    try simp only [Act.put, List.getElem_toArray, List.getElem_cons_zero, List.getElem_cons_succ, List.setIfInBounds_toArray, List.set_cons_zero, List.set_cons_succ]
                    refine wpAnyH_take (i := 15) (oi := _) (v := ?_) rfl (by kernel_rfl) (by kernel_rfl) (by kernel_rfl) (fun _ _ _ h => h) (Or.inl ⟨by rfl, ?_⟩) (by assumption) ?_
                    rotate_left 1
                    · (intro w hSw; (try dsimp only at hSw); go_simp; try with_reducible rfl)
                    try simp only [Act.put, List.getElem_toArray, List.getElem_cons_zero, List.getElem_cons_succ, List.setIfInBounds_toArray, List.set_cons_zero, List.set_cons_succ]
                    refine wpAnyH_ready (rs := [16]) (by kernel_rfl) (by simp) ?_
                    refine AllReadyH.cons (o := _) rfl (fun K hK => ?_) ?_
                    · try simp only [List.getElem_toArray, List.getElem_cons_zero, List.getElem_cons_succ]
                      go_simp
                      refine hK.out _ _ ?_ (fun hHeld1 => ?_)
                      · (try dsimp only)
                        first
                          | exact HI6.out
                          | exact I0.out
                          | exact IA.out
                          | exact IB.out
                          | exact IC.out
                          | exact ID.out
                          | exact IBX.out
                          | exact IDX.out
                          | exact I7.out
                          | exact imp_set HND.out I7.out
                      clear hK K hHeld
                      have hHeld := hHeld1
                      clear hHeld1
                      try simp only [Act.put, List.getElem_toArray, List.getElem_cons_zero, List.getElem_cons_succ, List.setIfInBounds_toArray, List.set_cons_zero, List.set_cons_succ]
                      refine wpAnyH_ready (rs := [17]) (by kernel_rfl) (by simp) ?_
                      refine AllReadyH.cons (o := _) rfl (fun K hK => ?_) ?_
                      · skip
                        first
                        | (refine Kd.R_append_step kAny (w0 := WB) d (by rfl) (.tmp 60) (.tmp 70) 78 20 .nilIface 16 rfl Try.underlying78 info20 rfl (by decide) (by decide) (.slice A8 l.length c8) l (.iface 65 (.map (some w6.heap.size))) [.iface 65 (.map (some w6.heap.size))] (fun k => k ≠ d) (fun _ => False) (by first | rfl | (go_simp; done)) (by first | rfl | (go_simp; done)) ⟨rfl, rfl⟩ (fun _ h => h.elim) (fresh_d (blk_lt HYB.out.blk)) HYB.out.row (Below.refl _ _) (Nat.le_of_lt (blk_lt HYB.out.blk)) HBY.out ?_
                           intro v7 w7 ho7 hb7 hg7 _
                           obtain ⟨A1, c1, rfl⟩ := Kd.R_slice ho7
                           have HN := Aside0.mk (HYB.out.next ho7 hg7 hb7)
                           have z6 := (blk_cell (HYB.out.at_d hg7) 6).trans rfl
                           have zf := blk_frozen (HYB.out.at_d hg7) 6
                           have nd2 : d < w7.heap.size := blk_lt (HYB.out.at_d hg7)
                           have I7 := Aside0.mk (imp_grown IBL.out hg7 HNE.out IB.out)
                           clear ho7 hb7 hg7)
                        | (refine Kd.R_append_step kAny (w0 := WD) d (by rfl) (.tmp 60) (.tmp 70) 78 20 .nilIface 16 rfl Try.underlying78 info20 rfl (by decide) (by decide) (.slice A8 l.length c8) l (.iface 65 (.map (some w6.heap.size))) [.iface 65 (.map (some w6.heap.size))] (fun k => k ≠ d) (fun _ => False) (by first | rfl | (go_simp; done)) (by first | rfl | (go_simp; done)) ⟨rfl, rfl⟩ (fun _ h => h.elim) (fresh_d (blk_lt HYD.out.blk)) HYD.out.row (Below.refl _ _) (Nat.le_of_lt (blk_lt HYD.out.blk)) HBY.out ?_
                           intro v7 w7 ho7 hb7 hg7 _
                           obtain ⟨A1, c1, rfl⟩ := Kd.R_slice ho7
                           have HN := Aside0.mk (HYD.out.next ho7 hg7 hb7)
                           have z6 := (blk_cell (HYD.out.at_d hg7) 6).trans rfl
                           have zf := blk_frozen (HYD.out.at_d hg7) 6
                           have nd2 : d < w7.heap.size := blk_lt (HYD.out.at_d hg7)
                           have I7 := Aside0.mk (imp_grown IDL.out hg7 HNE.out ID.out)
                           clear ho7 hb7 hg7)
                        refine hK.out _ _ ?_ (fun hHeld1 => ?_)
                        · (try dsimp only)
                          first
                            | exact HI6.out
                            | exact I0.out
                            | exact IA.out
                            | exact IB.out
                            | exact IC.out
                            | exact ID.out
                            | exact IBX.out
                            | exact IDX.out
                            | exact I7.out
                            | exact imp_set HND.out I7.out
                        clear hK K hHeld
                        have hHeld := hHeld1
                        clear hHeld1
                        try simp only [Act.put, List.getElem_toArray, List.getElem_cons_zero, List.getElem_cons_succ, List.setIfInBounds_toArray, List.set_cons_zero, List.set_cons_succ]
                        refine wpAnyH_take (i := 18) (oi := _) (v := ?_) rfl (by kernel_rfl) (by kernel_rfl) (by kernel_rfl) (fun _ _ _ h => h) (Or.inl ⟨by rfl, ?_⟩) (by assumption) ?_
                        rotate_left 1
                        · (intro w hSw; (try dsimp only at hSw); go_simp; try with_reducible rfl)
                        try simp only [Act.put, List.getElem_toArray, List.getElem_cons_zero, List.getElem_cons_succ, List.setIfInBounds_toArray, List.set_cons_zero, List.set_cons_succ]
                        refine wpAnyH_take (i := 19) (oi := _) (v := ?_) rfl (by kernel_rfl) (by kernel_rfl) (by kernel_rfl) (fun _ _ _ h => h) (Or.inl ⟨by rfl, ?_⟩) (by assumption) ?_
                        rotate_left 1
                        · (intro w hSw; (try dsimp only at hSw); go_simp; try with_reducible rfl)
                        try simp only [Act.put, List.getElem_toArray, List.getElem_cons_zero, List.getElem_cons_succ, List.setIfInBounds_toArray, List.set_cons_zero, List.set_cons_succ]
                        refine wpAnyH_ready (rs := [20]) (by kernel_rfl) (by simp) ?_
                        refine AllReadyH.cons (o := _) rfl (fun K hK => ?_) ?_
                        · try simp only [List.getElem_toArray, List.getElem_cons_zero, List.getElem_cons_succ]
                          go_simp
                          refine hK.out _ _ ?_ (fun hHeld1 => ?_)
                          · (try dsimp only)
                            first
                              | exact HI6.out
                              | exact I0.out
                              | exact IA.out
                              | exact IB.out
                              | exact IC.out
                              | exact ID.out
                              | exact IBX.out
                              | exact IDX.out
                              | exact I7.out
                              | exact imp_set HND.out I7.out
                          clear hK K hHeld
                          have hHeld := hHeld1
                          clear hHeld1
                          try simp only [Act.put, List.getElem_toArray, List.getElem_cons_zero, List.getElem_cons_succ, List.setIfInBounds_toArray, List.set_cons_zero, List.set_cons_succ]
                          refine wpAnyH_done (by kernel_rfl) ?_ _
                          refine NoPanic.normal ?_
                          go_wp2_with fail
                          go_roundw
                          case rel => exact ⟨j + 1, l ++ [.iface 65 (.map (some w6.heap.size))], A1, c1, HJ.out, rfl, ⟨by rw [List.length_append, HL.out]; rfl⟩, ⟨by have h := HN.out; rw [List.length_append] at h; exact h⟩⟩
                          case measure => exact meas2 HJ.out
                        exact AllReadyH.nil
                      exact AllReadyH.nil
                    exact AllReadyH.nil
                  exact AllReadyH.nil
                refine AllReadyH.cons (o := _) rfl (fun K hK => ?_) ?_
                · try simp only [List.getElem_toArray, List.getElem_cons_zero, List.getElem_cons_succ]
                  go_simp
                  refine hK.out _ _ ?_ (fun hHeld1 => ?_)
                  · (try dsimp only)
                    first
                      | exact HI6.out
                      | exact I0.out
                      | exact IA.out
                      | exact IB.out
                      | exact IC.out
                      | exact ID.out
                      | exact IBX.out
                      | exact IDX.out
                      | exact I7.out
                      | exact imp_set HND.out I7.out
                  clear hK K hHeld
                  have hHeld := hHeld1
                  clear hHeld1
                  try simp only [Act.put, List.getElem_toArray, List.getElem_cons_zero, List.getElem_cons_succ, List.setIfInBounds_toArray, List.set_cons_zero, List.set_cons_succ]
                  refine wpAnyH_take (i := 14) (oi := _) (v := ?_) rfl (by kernel_rfl) (by kernel_rfl) (by kernel_rfl) (fun _ _ _ h => h) (Or.inl ⟨by rfl, ?_⟩) (by assumption) ?_
                  rotate_left 1
                  · (intro w hSw; (try dsimp only at hSw); go_simp; try with_reducible rfl)
                  try simp only [Act.put, List.getElem_toArray, List.getElem_cons_zero, List.getElem_cons_succ, List.setIfInBounds_toArray, List.set_cons_zero, List.set_cons_succ]
                  refine wpAnyH_take (i := 15) (oi := _) (v := ?_) rfl (by kernel_rfl) (by kernel_rfl) (by kernel_rfl) (fun _ _ _ h => h) (Or.inl ⟨by rfl, ?_⟩) (by assumption) ?_
                  rotate_left 1
                  · (intro w hSw; (try dsimp only at hSw); go_simp; try with_reducible rfl)
                  try simp only [Act.put, List.getElem_toArray, List.getElem_cons_zero, List.getElem_cons_succ, List.setIfInBounds_toArray, List.set_cons_zero, List.set_cons_succ]
                  refine wpAnyH_ready (rs := [4, 16]) (by kernel_rfl) (by simp) ?_
                  refine AllReadyH.cons (o := _) rfl (fun K hK => ?_) ?_
                  · try simp only [List.getElem_toArray, List.getElem_cons_zero, List.getElem_cons_succ]
                    go_simp
                    refine hK.out _ _ ?_ (fun hHeld1 => ?_)
                    · (try dsimp only)
                      first
                        | exact HI6.out
                        | exact I0.out
                        | exact IA.out
                        | exact IB.out
                        | exact IC.out
                        | exact ID.out
                        | exact IBX.out
                        | exact IDX.out
                        | exact I7.out
                        | exact imp_set HND.out I7.out
                    clear hK K hHeld
                    have hHeld := hHeld1
                    clear hHeld1
                    try simp only [Act.put, List.getElem_toArray, List.getElem_cons_zero, List.getElem_cons_succ, List.setIfInBounds_toArray, List.set_cons_zero, List.set_cons_succ]
                    refine wpAnyH_ready (rs := [16]) (by kernel_rfl) (by simp) ?_
                    refine AllReadyH.cons (o := _) rfl (fun K hK => ?_) ?_
                    · try simp only [List.getElem_toArray, List.getElem_cons_zero, List.getElem_cons_succ]
                      go_simp
                      refine hK.out _ _ ?_ (fun hHeld1 => ?_)
                      · (try dsimp only)
                        first
                          | exact HI6.out
                          | exact I0.out
                          | exact IA.out
                          | exact IB.out
                          | exact IC.out
                          | exact ID.out
                          | exact IBX.out
                          | exact IDX.out
                          | exact I7.out
                          | exact imp_set HND.out I7.out
                      clear hK K hHeld
                      have hHeld := hHeld1
                      clear hHeld1
                      try simp only [Act.put, List.getElem_toArray, List.getElem_cons_zero, List.getElem_cons_succ, List.setIfInBounds_toArray, List.set_cons_zero, List.set_cons_succ]
                      refine wpAnyH_ready (rs := [17]) (by kernel_rfl) (by simp) ?_
                      refine AllReadyH.cons (o := _) rfl (fun K hK => ?_) ?_
                      · skip
                        first
                        | (refine Kd.R_append_step kAny (w0 := WB) d (by rfl) (.tmp 60) (.tmp 70) 78 20 .nilIface 16 rfl Try.underlying78 info20 rfl (by decide) (by decide) (.slice A8 l.length c8) l (.iface 65 (.map (some w6.heap.size))) [.iface 65 (.map (some w6.heap.size))] (fun k => k ≠ d) (fun _ => False) (by first | rfl | (go_simp; done)) (by first | rfl | (go_simp; done)) ⟨rfl, rfl⟩ (fun _ h => h.elim) (fresh_d (blk_lt HYB.out.blk)) HYB.out.row (Below.refl _ _) (Nat.le_of_lt (blk_lt HYB.out.blk)) HBY.out ?_
                           intro v7 w7 ho7 hb7 hg7 _
                           obtain ⟨A1, c1, rfl⟩ := Kd.R_slice ho7
                           have HN := Aside0.mk (HYB.out.next ho7 hg7 hb7)
                           have z6 := (blk_cell (HYB.out.at_d hg7) 6).trans rfl
                           have zf := blk_frozen (HYB.out.at_d hg7) 6
                           have nd2 : d < w7.heap.size := blk_lt (HYB.out.at_d hg7)
                           have I7 := Aside0.mk (imp_grown IBL.out hg7 HNE.out IB.out)
                           clear ho7 hb7 hg7)
                        | (refine Kd.R_append_step kAny (w0 := WD) d (by rfl) (.tmp 60) (.tmp 70) 78 20 .nilIface 16 rfl Try.underlying78 info20 rfl (by decide) (by decide) (.slice A8 l.length c8) l (.iface 65 (.map (some w6.heap.size))) [.iface 65 (.map (some w6.heap.size))] (fun k => k ≠ d) (fun _ => False) (by first | rfl | (go_simp; done)) (by first | rfl | (go_simp; done)) ⟨rfl, rfl⟩ (fun _ h => h.elim) (fresh_d (blk_lt HYD.out.blk)) HYD.out.row (Below.refl _ _) (Nat.le_of_lt (blk_lt HYD.out.blk)) HBY.out ?_
                           intro v7 w7 ho7 hb7 hg7 _
                           obtain ⟨A1, c1, rfl⟩ := Kd.R_slice ho7
                           have HN := Aside0.mk (HYD.out.next ho7 hg7 hb7)
                           have z6 := (blk_cell (HYD.out.at_d hg7) 6).trans rfl
                           have zf := blk_frozen (HYD.out.at_d hg7) 6
                           have nd2 : d < w7.heap.size := blk_lt (HYD.out.at_d hg7)
                           have I7 := Aside0.mk (imp_grown IDL.out hg7 HNE.out ID.out)
                           clear ho7 hb7 hg7)
                        refine hK.out _ _ ?_ (fun hHeld1 => ?_)
                        · (try dsimp only)
                          first
                            | exact HI6.out
                            | exact I0.out
                            | exact IA.out
                            | exact IB.out
                            | exact IC.out
                            | exact ID.out
                            | exact IBX.out
                            | exact IDX.out
                            | exact I7.out
                            | exact imp_set HND.out I7.out
                        clear hK K hHeld
                        have hHeld := hHeld1
                        clear hHeld1
                        try simp only [Act.put, List.getElem_toArray, List.getElem_cons_zero, List.getElem_cons_succ, List.setIfInBounds_toArray, List.set_cons_zero, List.set_cons_succ]
                        refine wpAnyH_take (i := 18) (oi := _) (v := ?_) rfl (by kernel_rfl) (by kernel_rfl) (by kernel_rfl) (fun _ _ _ h => h) (Or.inl ⟨by rfl, ?_⟩) (by assumption) ?_
                        rotate_left 1
                        · (intro w hSw; (try dsimp only at hSw); go_simp; try with_reducible rfl)
                        try simp only [Act.put, List.getElem_toArray, List.getElem_cons_zero, List.getElem_cons_succ, List.setIfInBounds_toArray, List.set_cons_zero, List.set_cons_succ]
                        refine wpAnyH_take (i := 19) (oi := _) (v := ?_) rfl (by kernel_rfl) (by kernel_rfl) (by kernel_rfl) (fun _ _ _ h => h) (Or.inl ⟨by rfl, ?_⟩) (by assumption) ?_
                        rotate_left 1
                        · (intro w hSw; (try dsimp only at hSw); go_simp; try with_reducible rfl)
                        try simp only [Act.put, List.getElem_toArray, List.getElem_cons_zero, List.getElem_cons_succ, List.setIfInBounds_toArray, List.set_cons_zero, List.set_cons_succ]
                        refine wpAnyH_ready (rs := [20]) (by kernel_rfl) (by simp) ?_
                        refine AllReadyH.cons (o := _) rfl (fun K hK => ?_) ?_
                        · try simp only [List.getElem_toArray, List.getElem_cons_zero, List.getElem_cons_succ]
                          go_simp
                          refine hK.out _ _ ?_ (fun hHeld1 => ?_)
                          · (try dsimp only)
                            first
                              | exact HI6.out
                              | exact I0.out
                              | exact IA.out
                              | exact IB.out
                              | exact IC.out
                              | exact ID.out
                              | exact IBX.out
                              | exact IDX.out
                              | exact I7.out
                              | exact imp_set HND.out I7.out
                          clear hK K hHeld
                          have hHeld := hHeld1
                          clear hHeld1
                          try simp only [Act.put, List.getElem_toArray, List.getElem_cons_zero, List.getElem_cons_succ, List.setIfInBounds_toArray, List.set_cons_zero, List.set_cons_succ]
                          refine wpAnyH_done (by kernel_rfl) ?_ _
                          refine NoPanic.normal ?_
                          go_wp2_with fail
                          go_roundw
                          case rel => exact ⟨j + 1, l ++ [.iface 65 (.map (some w6.heap.size))], A1, c1, HJ.out, rfl, ⟨by rw [List.length_append, HL.out]; rfl⟩, ⟨by have h := HN.out; rw [List.length_append] at h; exact h⟩⟩
                          case measure => exact meas2 HJ.out
                        exact AllReadyH.nil
                      exact AllReadyH.nil
                    exact AllReadyH.nil
                  refine AllReadyH.cons (o := _) rfl (fun K hK => ?_) ?_
                  · try simp only [List.getElem_toArray, List.getElem_cons_zero, List.getElem_cons_succ]
                    go_simp
                    refine hK.out _ _ ?_ (fun hHeld1 => ?_)
                    · (try dsimp only)
                      first
                        | exact HI6.out
                        | exact I0.out
                        | exact IA.out
                        | exact IB.out
                        | exact IC.out
                        | exact ID.out
                        | exact IBX.out
                        | exact IDX.out
                        | exact I7.out
                        | exact imp_set HND.out I7.out
                    clear hK K hHeld
                    have hHeld := hHeld1
                    clear hHeld1
                    try simp only [Act.put, List.getElem_toArray, List.getElem_cons_zero, List.getElem_cons_succ, List.setIfInBounds_toArray, List.set_cons_zero, List.set_cons_succ]
                    refine wpAnyH_ready (rs := [4]) (by kernel_rfl) (by simp) ?_
                    refine AllReadyH.cons (o := _) rfl (fun K hK => ?_) ?_
                    · try simp only [List.getElem_toArray, List.getElem_cons_zero, List.getElem_cons_succ]
                      go_simp
                      refine hK.out _ _ ?_ (fun hHeld1 => ?_)
                      · (try dsimp only)
                        first
                          | exact HI6.out
                          | exact I0.out
                          | exact IA.out
                          | exact IB.out
                          | exact IC.out
                          | exact ID.out
                          | exact IBX.out
                          | exact IDX.out
                          | exact I7.out
                          | exact imp_set HND.out I7.out
                      clear hK K hHeld
                      have hHeld := hHeld1
                      clear hHeld1
                      try simp only [Act.put, List.getElem_toArray, List.getElem_cons_zero, List.getElem_cons_succ, List.setIfInBounds_toArray, List.set_cons_zero, List.set_cons_succ]
                      refine wpAnyH_ready (rs := [17]) (by kernel_rfl) (by simp) ?_
                      refine AllReadyH.cons (o := _) rfl (fun K hK => ?_) ?_
                      · skip
                        first
                        | (refine Kd.R_append_step kAny (w0 := WB) d (by rfl) (.tmp 60) (.tmp 70) 78 20 .nilIface 16 rfl Try.underlying78 info20 rfl (by decide) (by decide) (.slice A8 l.length c8) l (.iface 65 (.map (some w6.heap.size))) [.iface 65 (.map (some w6.heap.size))] (fun k => k ≠ d) (fun _ => False) (by first | rfl | (go_simp; done)) (by first | rfl | (go_simp; done)) ⟨rfl, rfl⟩ (fun _ h => h.elim) (fresh_d (blk_lt HYB.out.blk)) HYB.out.row (Below.refl _ _) (Nat.le_of_lt (blk_lt HYB.out.blk)) HBY.out ?_
                           intro v7 w7 ho7 hb7 hg7 _
                           obtain ⟨A1, c1, rfl⟩ := Kd.R_slice ho7
                           have HN := Aside0.mk (HYB.out.next ho7 hg7 hb7)
                           have z6 := (blk_cell (HYB.out.at_d hg7) 6).trans rfl
                           have zf := blk_frozen (HYB.out.at_d hg7) 6
                           have nd2 : d < w7.heap.size := blk_lt (HYB.out.at_d hg7)
                           have I7 := Aside0.mk (imp_grown IBL.out hg7 HNE.out IB.out)
                           clear ho7 hb7 hg7)
                        | (refine Kd.R_append_step kAny (w0 := WD) d (by rfl) (.tmp 60) (.tmp 70) 78 20 .nilIface 16 rfl Try.underlying78 info20 rfl (by decide) (by decide) (.slice A8 l.length c8) l (.iface 65 (.map (some w6.heap.size))) [.iface 65 (.map (some w6.heap.size))] (fun k => k ≠ d) (fun _ => False) (by first | rfl | (go_simp; done)) (by first | rfl | (go_simp; done)) ⟨rfl, rfl⟩ (fun _ h => h.elim) (fresh_d (blk_lt HYD.out.blk)) HYD.out.row (Below.refl _ _) (Nat.le_of_lt (blk_lt HYD.out.blk)) HBY.out ?_
                           intro v7 w7 ho7 hb7 hg7 _
                           obtain ⟨A1, c1, rfl⟩ := Kd.R_slice ho7
                           have HN := Aside0.mk (HYD.out.next ho7 hg7 hb7)
                           have z6 := (blk_cell (HYD.out.at_d hg7) 6).trans rfl
                           have zf := blk_frozen (HYD.out.at_d hg7) 6
                           have nd2 : d < w7.heap.size := blk_lt (HYD.out.at_d hg7)
                           have I7 := Aside0.mk (imp_grown IDL.out hg7 HNE.out ID.out)
                           clear ho7 hb7 hg7)
                        refine hK.out _ _ ?_ (fun hHeld1 => ?_)
                        · (try dsimp only)
                          first
                            | exact HI6.out
                            | exact I0.out
                            | exact IA.out
                            | exact IB.out
                            | exact IC.out
                            | exact ID.out
                            | exact IBX.out
                            | exact IDX.out
                            | exact I7.out
                            | exact imp_set HND.out I7.out
                        clear hK K hHeld
                        have hHeld := hHeld1
                        clear hHeld1
                        try simp only [Act.put, List.getElem_toArray, List.getElem_cons_zero, List.getElem_cons_succ, List.setIfInBounds_toArray, List.set_cons_zero, List.set_cons_succ]
                        refine wpAnyH_take (i := 18) (oi := _) (v := ?_) rfl (by kernel_rfl) (by kernel_rfl) (by kernel_rfl) (fun _ _ _ h => h) (Or.inl ⟨by rfl, ?_⟩) (by assumption) ?_
                        rotate_left 1
                        · (intro w hSw; (try dsimp only at hSw); go_simp; try with_reducible rfl)
                        try simp only [Act.put, List.getElem_toArray, List.getElem_cons_zero, List.getElem_cons_succ, List.setIfInBounds_toArray, List.set_cons_zero, List.set_cons_succ]
                        refine wpAnyH_take (i := 19) (oi := _) (v := ?_) rfl (by kernel_rfl) (by kernel_rfl) (by kernel_rfl) (fun _ _ _ h => h) (Or.inl ⟨by rfl, ?_⟩) (by assumption) ?_
                        rotate_left 1
                        · (intro w hSw; (try dsimp only at hSw); go_simp; try with_reducible rfl)
                        try simp only [Act.put, List.getElem_toArray, List.getElem_cons_zero, List.getElem_cons_succ, List.setIfInBounds_toArray, List.set_cons_zero, List.set_cons_succ]
                        refine wpAnyH_ready (rs := [20]) (by kernel_rfl) (by simp) ?_
                        refine AllReadyH.cons (o := _) rfl (fun K hK => ?_) ?_
                        · try simp only [List.getElem_toArray, List.getElem_cons_zero, List.getElem_cons_succ]
                          go_simp
                          refine hK.out _ _ ?_ (fun hHeld1 => ?_)
                          · (try dsimp only)
                            first
                              | exact HI6.out
                              | exact I0.out
                              | exact IA.out
                              | exact IB.out
                              | exact IC.out
                              | exact ID.out
                              | exact IBX.out
                              | exact IDX.out
                              | exact I7.out
                              | exact imp_set HND.out I7.out
                          clear hK K hHeld
                          have hHeld := hHeld1
                          clear hHeld1
                          try simp only [Act.put, List.getElem_toArray, List.getElem_cons_zero, List.getElem_cons_succ, List.setIfInBounds_toArray, List.set_cons_zero, List.set_cons_succ]
                          refine wpAnyH_done (by kernel_rfl) ?_ _
                          refine NoPanic.normal ?_
                          go_wp2_with fail
                          go_roundw
                          case rel => exact ⟨j + 1, l ++ [.iface 65 (.map (some w6.heap.size))], A1, c1, HJ.out, rfl, ⟨by rw [List.length_append, HL.out]; rfl⟩, ⟨by have h := HN.out; rw [List.length_append] at h; exact h⟩⟩
                          case measure => exact meas2 HJ.out
                        exact AllReadyH.nil
                      exact AllReadyH.nil
                    exact AllReadyH.nil
                  exact AllReadyH.nil
                exact AllReadyH.nil
              refine AllReadyH.cons (o := _) rfl (fun K hK => ?_) ?_
              · try simp only [List.getElem_toArray, List.getElem_cons_zero, List.getElem_cons_succ]
                go_simp
                refine hK.out _ _ ?_ (fun hHeld1 => ?_)
                · (try dsimp only)
                  first
                    | exact HI6.out
                    | exact I0.out
                    | exact IA.out
                    | exact IB.out
                    | exact IC.out
                    | exact ID.out
                    | exact IBX.out
                    | exact IDX.out
                    | exact I7.out
                    | exact imp_set HND.out I7.out
                clear hK K hHeld
                have hHeld := hHeld1
                clear hHeld1
                try simp only [Act.put, List.getElem_toArray, List.getElem_cons_zero, List.getElem_cons_succ, List.setIfInBounds_toArray, List.set_cons_zero, List.set_cons_succ]
                refine wpAnyH_ready (rs := [4, 9]) (by kernel_rfl) (by simp) ?_
                refine AllReadyH.cons (o := _) rfl (fun K hK => ?_) ?_
                · try simp only [List.getElem_toArray, List.getElem_cons_zero, List.getElem_cons_succ]
                  go_simp
                  refine hK.out _ _ ?_ (fun hHeld1 => ?_)
                  · (try dsimp only)
                    first
                      | exact HI6.out
                      | exact I0.out
                      | exact IA.out
                      | exact IB.out
                      | exact IC.out
                      | exact ID.out
                      | exact IBX.out
                      | exact IDX.out
                      | exact I7.out
                      | exact imp_set HND.out I7.out
                  clear hK K hHeld
                  have hHeld := hHeld1
                  clear hHeld1
                  try simp only [Act.put, List.getElem_toArray, List.getElem_cons_zero, List.getElem_cons_succ, List.setIfInBounds_toArray, List.set_cons_zero, List.set_cons_succ]
                  refine wpAnyH_ready (rs := [9]) (by kernel_rfl) (by simp) ?_
                  refine AllReadyH.cons (o := _) rfl (fun K hK => ?_) ?_
                  · try simp only [List.getElem_toArray, List.getElem_cons_zero, List.getElem_cons_succ]
                    go_simp
                    refine hK.out _ _ ?_ (fun hHeld1 => ?_)
                    · (try dsimp only)
                      first
                        | exact HI6.out
                        | exact I0.out
                        | exact IA.out
                        | exact IB.out
                        | exact IC.out
                        | exact ID.out
                        | exact IBX.out
                        | exact IDX.out
                        | exact I7.out
                        | exact imp_set HND.out I7.out
                    clear hK K hHeld
                    have hHeld := hHeld1
                    clear hHeld1
                    try simp only [Act.put, List.getElem_toArray, List.getElem_cons_zero, List.getElem_cons_succ, List.setIfInBounds_toArray, List.set_cons_zero, List.set_cons_succ]
                    refine wpAnyH_take (i := 14) (oi := _) (v := ?_) rfl (by kernel_rfl) (by kernel_rfl) (by kernel_rfl) (fun _ _ _ h => h) (Or.inl ⟨by rfl, ?_⟩) (by assumption) ?_
                    rotate_left 1
                    · (intro w hSw; (try dsimp only at hSw); go_simp; try with_reducible rfl)
                    try simp only [Act.put, List.getElem_toArray, List.getElem_cons_zero, List.getElem_cons_succ, List.setIfInBounds_toArray, List.set_cons_zero, List.set_cons_succ]
                    refine wpAnyH_take (i := 15) (oi := _) (v := ?_) rfl (by kernel_rfl) (by kernel_rfl) (by kernel_rfl) (fun _ _ _ h => h) (Or.inl ⟨by rfl, ?_⟩) (by assumption) ?_
                    rotate_left 1
                    · (intro w hSw; (try dsimp only at hSw); go_simp; try with_reducible rfl)
                    try simp only [Act.put, List.getElem_toArray, List.getElem_cons_zero, List.getElem_cons_succ, List.setIfInBounds_toArray, List.set_cons_zero, List.set_cons_succ]
                    refine wpAnyH_ready (rs := [16]) (by kernel_rfl) (by simp) ?_
                    refine AllReadyH.cons (o := _) rfl (fun K hK => ?_) ?_
                    · try simp only [List.getElem_toArray, List.getElem_cons_zero, List.getElem_cons_succ]
                      go_simp
                      refine hK.out _ _ ?_ (fun hHeld1 => ?_)
                      · (try dsimp only)
                        first
                          | exact HI6.out
                          | exact I0.out
                          | exact IA.out
                          | exact IB.out
                          | exact IC.out
                          | exact ID.out
                          | exact IBX.out
                          | exact IDX.out
                          | exact I7.out
                          | exact imp_set HND.out I7.out
                      clear hK K hHeld
                      have hHeld := hHeld1
                      clear hHeld1
                      try simp only [Act.put, List.getElem_toArray, List.getElem_cons_zero, List.getElem_cons_succ, List.setIfInBounds_toArray, List.set_cons_zero, List.set_cons_succ]
                      refine wpAnyH_ready (rs := [17]) (by kernel_rfl) (by simp) ?_
                      refine AllReadyH.cons (o := _) rfl (fun K hK => ?_) ?_
                      · skip
                        first
                        | (refine Kd.R_append_step kAny (w0 := WB) d (by rfl) (.tmp 60) (.tmp 70) 78 20 .nilIface 16 rfl Try.underlying78 info20 rfl (by decide) (by decide) (.slice A8 l.length c8) l (.iface 65 (.map (some w6.heap.size))) [.iface 65 (.map (some w6.heap.size))] (fun k => k ≠ d) (fun _ => False) (by first | rfl | (go_simp; done)) (by first | rfl | (go_simp; done)) ⟨rfl, rfl⟩ (fun _ h => h.elim) (fresh_d (blk_lt HYB.out.blk)) HYB.out.row (Below.refl _ _) (Nat.le_of_lt (blk_lt HYB.out.blk)) HBY.out ?_
                           intro v7 w7 ho7 hb7 hg7 _
                           obtain ⟨A1, c1, rfl⟩ := Kd.R_slice ho7
                           have HN := Aside0.mk (HYB.out.next ho7 hg7 hb7)
                           have z6 := (blk_cell (HYB.out.at_d hg7) 6).trans rfl
                           have zf := blk_frozen (HYB.out.at_d hg7) 6
                           have nd2 : d < w7.heap.size := blk_lt (HYB.out.at_d hg7)
                           have I7 := Aside0.mk (imp_grown IBL.out hg7 HNE.out IB.out)
                           clear ho7 hb7 hg7)
                        | (refine Kd.R_append_step kAny (w0 := WD) d (by rfl) (.tmp 60) (.tmp 70) 78 20 .nilIface 16 rfl Try.underlying78 info20 rfl (by decide) (by decide) (.slice A8 l.length c8) l (.iface 65 (.map (some w6.heap.size))) [.iface 65 (.map (some w6.heap.size))] (fun k => k ≠ d) (fun _ => False) (by first | rfl | (go_simp; done)) (by first | rfl | (go_simp; done)) ⟨rfl, rfl⟩ (fun _ h => h.elim) (fresh_d (blk_lt HYD.out.blk)) HYD.out.row (Below.refl _ _) (Nat.le_of_lt (blk_lt HYD.out.blk)) HBY.out ?_
                           intro v7 w7 ho7 hb7 hg7 _
                           obtain ⟨A1, c1, rfl⟩ := Kd.R_slice ho7
                           have HN := Aside0.mk (HYD.out.next ho7 hg7 hb7)
                           have z6 := (blk_cell (HYD.out.at_d hg7) 6).trans rfl
                           have zf := blk_frozen (HYD.out.at_d hg7) 6
                           have nd2 : d < w7.heap.size := blk_lt (HYD.out.at_d hg7)
                           have I7 := Aside0.mk (imp_grown IDL.out hg7 HNE.out ID.out)
                           clear ho7 hb7 hg7)
                        refine hK.out _ _ ?_ (fun hHeld1 => ?_)
                        · (try dsimp only)
                          first
                            | exact HI6.out
                            | exact I0.out
                            | exact IA.out
                            | exact IB.out
                            | exact IC.out
                            | exact ID.out
                            | exact IBX.out
                            | exact IDX.out
                            | exact I7.out
                            | exact imp_set HND.out I7.out
                        clear hK K hHeld
                        have hHeld := hHeld1
                        clear hHeld1
                        try simp only [Act.put, List.getElem_toArray, List.getElem_cons_zero, List.getElem_cons_succ, List.setIfInBounds_toArray, List.set_cons_zero, List.set_cons_succ]
                        refine wpAnyH_take (i := 18) (oi := _) (v := ?_) rfl (by kernel_rfl) (by kernel_rfl) (by kernel_rfl) (fun _ _ _ h => h) (Or.inl ⟨by rfl, ?_⟩) (by assumption) ?_
                        rotate_left 1
                        · (intro w hSw; (try dsimp only at hSw); go_simp; try with_reducible rfl)
                        try simp only [Act.put, List.getElem_toArray, List.getElem_cons_zero, List.getElem_cons_succ, List.setIfInBounds_toArray, List.set_cons_zero, List.set_cons_succ]
                        refine wpAnyH_take (i := 19) (oi := _) (v := ?_) rfl (by kernel_rfl) (by kernel_rfl) (by kernel_rfl) (fun _ _ _ h => h) (Or.inl ⟨by rfl, ?_⟩) (by assumption) ?_
                        rotate_left 1
                        · (intro w hSw; (try dsimp only at hSw); go_simp; try with_reducible rfl)
                        try simp only [Act.put, List.getElem_toArray, List.getElem_cons_zero, List.getElem_cons_succ, List.setIfInBounds_toArray, List.set_cons_zero, List.set_cons_succ]
                        refine wpAnyH_ready (rs := [20]) (by kernel_rfl) (by simp) ?_
                        refine AllReadyH.cons (o := _) rfl (fun K hK => ?_) ?_
                        · try simp only [List.getElem_toArray, List.getElem_cons_zero, List.getElem_cons_succ]
                          go_simp
                          refine hK.out _ _ ?_ (fun hHeld1 => ?_)
                          · (try dsimp only)
                            first
                              | exact HI6.out
                              | exact I0.out
                              | exact IA.out
                              | exact IB.out
                              | exact IC.out
                              | exact ID.out
                              | exact IBX.out
                              | exact IDX.out
                              | exact I7.out
                              | exact imp_set HND.out I7.out
                          clear hK K hHeld
                          have hHeld := hHeld1
                          clear hHeld1
                          try simp only [Act.put, List.getElem_toArray, List.getElem_cons_zero, List.getElem_cons_succ, List.setIfInBounds_toArray, List.set_cons_zero, List.set_cons_succ]
                          refine wpAnyH_done (by kernel_rfl) ?_ _
                          refine NoPanic.normal ?_
                          go_wp2_with fail
                          go_roundw
                          case rel => exact ⟨j + 1, l ++ [.iface 65 (.map (some w6.heap.size))], A1, c1, HJ.out, rfl, ⟨by rw [List.length_append, HL.out]; rfl⟩, ⟨by have h := HN.out; rw [List.length_append] at h; exact h⟩⟩
                          case measure => exact meas2 HJ.out
                        exact AllReadyH.nil
                      exact AllReadyH.nil
                    exact AllReadyH.nil
                  exact AllReadyH.nil
                refine AllReadyH.cons (o := _) rfl (fun K hK => ?_) ?_
                · try simp only [List.getElem_toArray, List.getElem_cons_zero, List.getElem_cons_succ]
                  go_simp
                  refine hK.out _ _ ?_ (fun hHeld1 => ?_)
                  · (try dsimp only)
                    first
                      | exact HI6.out
                      | exact I0.out
                      | exact IA.out
                      | exact IB.out
                      | exact IC.out
                      | exact ID.out
                      | exact IBX.out
                      | exact IDX.out
                      | exact I7.out
                      | exact imp_set HND.out I7.out
                  clear hK K hHeld
                  have hHeld := hHeld1
                  clear hHeld1
                  try simp only [Act.put, List.getElem_toArray, List.getElem_cons_zero, List.getElem_cons_succ, List.setIfInBounds_toArray, List.set_cons_zero, List.set_cons_succ]
                  refine wpAnyH_take (i := 14) (oi := _) (v := ?_) rfl (by kernel_rfl) (by kernel_rfl) (by kernel_rfl) (fun _ _ _ h => h) (Or.inl ⟨by rfl, ?_⟩) (by assumption) ?_
                  rotate_left 1
                  · (intro w hSw; (try dsimp only at hSw); go_simp; try with_reducible rfl)
                  try simp only [Act.put, List.getElem_toArray, List.getElem_cons_zero, List.getElem_cons_succ, List.setIfInBounds_toArray, List.set_cons_zero, List.set_cons_succ]
                  refine wpAnyH_take (i := 15) (oi := _) (v := ?_) rfl (by kernel_rfl) (by kernel_rfl) (by kernel_rfl) (fun _ _ _ h => h) (Or.inl ⟨by rfl, ?_⟩) (by assumption) ?_
                  rotate_left 1
                  · (intro w hSw; (try dsimp only at hSw); go_simp; try with_reducible rfl)
                  try simp only [Act.put, List.getElem_toArray, List.getElem_cons_zero, List.getElem_cons_succ, List.setIfInBounds_toArray, List.set_cons_zero, List.set_cons_succ]
                  refine wpAnyH_ready (rs := [4, 16]) (by kernel_rfl) (by simp) ?_
                  refine AllReadyH.cons (o := _) rfl (fun K hK => ?_) ?_
                  · try simp only [List.getElem_toArray, List.getElem_cons_zero, List.getElem_cons_succ]
                    go_simp
                    refine hK.out _ _ ?_ (fun hHeld1 => ?_)
                    · (try dsimp only)
                      first
                        | exact HI6.out
                        | exact I0.out
                        | exact IA.out
                        | exact IB.out
                        | exact IC.out
                        | exact ID.out
                        | exact IBX.out
                        | exact IDX.out
                        | exact I7.out
                        | exact imp_set HND.out I7.out
                    clear hK K hHeld
                    have hHeld := hHeld1
                    clear hHeld1
                    try simp only [Act.put, List.getElem_toArray, List.getElem_cons_zero, List.getElem_cons_succ, List.setIfInBounds_toArray, List.set_cons_zero, List.set_cons_succ]
                    refine wpAnyH_ready (rs := [16]) (by kernel_rfl) (by simp) ?_
                    refine AllReadyH.cons (o := _) rfl (fun K hK => ?_) ?_
                    · try simp only [List.getElem_toArray, List.getElem_cons_zero, List.getElem_cons_succ]
                      go_simp
                      refine hK.out _ _ ?_ (fun hHeld1 => ?_)
                      · (try dsimp only)
                        first
                          | exact HI6.out
                          | exact I0.out
                          | exact IA.out
                          | exact IB.out
                          | exact IC.out
                          | exact ID.out
                          | exact IBX.out
                          | exact IDX.out
                          | exact I7.out
                          | exact imp_set HND.out I7.out
                      clear hK K hHeld
                      have hHeld := hHeld1
                      clear hHeld1
                      try simp only [Act.put, List.getElem_toArray, List.getElem_cons_zero, List.getElem_cons_succ, List.setIfInBounds_toArray, List.set_cons_zero, List.set_cons_succ]
                      refine wpAnyH_ready (rs := [17]) (by kernel_rfl) (by simp) ?_
                      refine AllReadyH.cons (o := _) rfl (fun K hK => ?_) ?_
                      · skip
                        first
                        | (refine Kd.R_append_step kAny (w0 := WB) d (by rfl) (.tmp 60) (.tmp 70) 78 20 .nilIface 16 rfl Try.underlying78 info20 rfl (by decide) (by decide) (.slice A8 l.length c8) l (.iface 65 (.map (some w6.heap.size))) [.iface 65 (.map (some w6.heap.size))] (fun k => k ≠ d) (fun _ => False) (by first | rfl | (go_simp; done)) (by first | rfl | (go_simp; done)) ⟨rfl, rfl⟩ (fun _ h => h.elim) (fresh_d (blk_lt HYB.out.blk)) HYB.out.row (Below.refl _ _) (Nat.le_of_lt (blk_lt HYB.out.blk)) HBY.out ?_
                           intro v7 w7 ho7 hb7 hg7 _
                           obtain ⟨A1, c1, rfl⟩ := Kd.R_slice ho7
                           have HN := Aside0.mk (HYB.out.next ho7 hg7 hb7)
                           have z6 := (blk_cell (HYB.out.at_d hg7) 6).trans rfl
                           have zf := blk_frozen (HYB.out.at_d hg7) 6
                           have nd2 : d < w7.heap.size := blk_lt (HYB.out.at_d hg7)
                           have I7 := Aside0.mk (imp_grown IBL.out hg7 HNE.out IB.out)
                           clear ho7 hb7 hg7)
                        | (refine Kd.R_append_step kAny (w0 := WD) d (by rfl) (.tmp 60) (.tmp 70) 78 20 .nilIface 16 rfl Try.underlying78 info20 rfl (by decide) (by decide) (.slice A8 l.length c8) l (.iface 65 (.map (some w6.heap.size))) [.iface 65 (.map (some w6.heap.size))] (fun k => k ≠ d) (fun _ => False) (by first | rfl | (go_simp; done)) (by first | rfl | (go_simp; done)) ⟨rfl, rfl⟩ (fun _ h => h.elim) (fresh_d (blk_lt HYD.out.blk)) HYD.out.row (Below.refl _ _) (Nat.le_of_lt (blk_lt HYD.out.blk)) HBY.out ?_
                           intro v7 w7 ho7 hb7 hg7 _
                           obtain ⟨A1, c1, rfl⟩ := Kd.R_slice ho7
                           have HN := Aside0.mk (HYD.out.next ho7 hg7 hb7)
                           have z6 := (blk_cell (HYD.out.at_d hg7) 6).trans rfl
                           have zf := blk_frozen (HYD.out.at_d hg7) 6
                           have nd2 : d < w7.heap.size := blk_lt (HYD.out.at_d hg7)
                           have I7 := Aside0.mk (imp_grown IDL.out hg7 HNE.out ID.out)
                           clear ho7 hb7 hg7)
                        refine hK.out _ _ ?_ (fun hHeld1 => ?_)
                        · (try dsimp only)
                          first
                            | exact HI6.out
                            | exact I0.out
                            | exact IA.out
                            | exact IB.out
                            | exact IC.out
                            | exact ID.out
                            | exact IBX.out
                            | exact IDX.out
                            | exact I7.out
                            | exact imp_set HND.out I7.out
                        clear hK K hHeld
                        have hHeld := hHeld1
                        clear hHeld1
                        try simp only [Act.put, List.getElem_toArray, List.getElem_cons_zero, List.getElem_cons_succ, List.setIfInBounds_toArray, List.set_cons_zero, List.set_cons_succ]
                        refine wpAnyH_take (i := 18) (oi := _) (v := ?_) rfl (by kernel_rfl) (by kernel_rfl) (by kernel_rfl) (fun _ _ _ h => h) (Or.inl ⟨by rfl, ?_⟩) (by assumption) ?_
                        rotate_left 1
                        · (intro w hSw; (try dsimp only at hSw); go_simp; try with_reducible rfl)
                        try simp only [Act.put, List.getElem_toArray, List.getElem_cons_zero, List.getElem_cons_succ, List.setIfInBounds_toArray, List.set_cons_zero, List.set_cons_succ]
                        refine wpAnyH_take (i := 19) (oi := _) (v := ?_) rfl (by kernel_rfl) (by kernel_rfl) (by kernel_rfl) (fun _ _ _ h => h) (Or.inl ⟨by rfl, ?_⟩) (by assumption) ?_
                        rotate_left 1
                        · (intro w hSw; (try dsimp only at hSw); go_simp; try with_reducible rfl)
                        try simp only [Act.put, List.getElem_toArray, List.getElem_cons_zero, List.getElem_cons_succ, List.setIfInBounds_toArray, List.set_cons_zero, List.set_cons_succ]
                        refine wpAnyH_ready (rs := [20]) (by kernel_rfl) (by simp) ?_
                        refine AllReadyH.cons (o := _) rfl (fun K hK => ?_) ?_
                        · try simp only [List.getElem_toArray, List.getElem_cons_zero, List.getElem_cons_succ]
                          go_simp
                          refine hK.out _ _ ?_ (fun hHeld1 => ?_)
                          · (try dsimp only)
                            first
                              | exact HI6.out
                              | exact I0.out
                              | exact IA.out
                              | exact IB.out
                              | exact IC.out
                              | exact ID.out
                              | exact IBX.out
                              | exact IDX.out
                              | exact I7.out
                              | exact imp_set HND.out I7.out
                          clear hK K hHeld
                          have hHeld := hHeld1
                          clear hHeld1
                          try simp only [Act.put, List.getElem_toArray, List.getElem_cons_zero, List.getElem_cons_succ, List.setIfInBounds_toArray, List.set_cons_zero, List.set_cons_succ]
                          refine wpAnyH_done (by kernel_rfl) ?_ _
                          refine NoPanic.normal ?_
                          go_wp2_with fail
                          go_roundw
                          case rel => exact ⟨j + 1, l ++ [.iface 65 (.map (some w6.heap.size))], A1, c1, HJ.out, rfl, ⟨by rw [List.length_append, HL.out]; rfl⟩, ⟨by have h := HN.out; rw [List.length_append] at h; exact h⟩⟩
                          case measure => exact meas2 HJ.out
                        exact AllReadyH.nil
                      exact AllReadyH.nil
                    exact AllReadyH.nil
                  refine AllReadyH.cons (o := _) rfl (fun K hK => ?_) ?_
                  · try simp only [List.getElem_toArray, List.getElem_cons_zero, List.getElem_cons_succ]
                    go_simp
                    refine hK.out _ _ ?_ (fun hHeld1 => ?_)
                    · (try dsimp only)
                      first
                        | exact HI6.out
                        | exact I0.out
                        | exact IA.out
                        | exact IB.out
                        | exact IC.out
                        | exact ID.out
                        | exact IBX.out
                        | exact IDX.out
                        | exact I7.out
                        | exact imp_set HND.out I7.out
                    clear hK K hHeld
                    have hHeld := hHeld1
                    clear hHeld1
                    try simp only [Act.put, List.getElem_toArray, List.getElem_cons_zero, List.getElem_cons_succ, List.setIfInBounds_toArray, List.set_cons_zero, List.set_cons_succ]
                    refine wpAnyH_ready (rs := [4]) (by kernel_rfl) (by simp) ?_
                    refine AllReadyH.cons (o := _) rfl (fun K hK => ?_) ?_
                    · try simp only [List.getElem_toArray, List.getElem_cons_zero, List.getElem_cons_succ]
                      go_simp
                      refine hK.out _ _ ?_ (fun hHeld1 => ?_)
                      · (try dsimp only)
                        first
                          | exact HI6.out
                          | exact I0.out
                          | exact IA.out
                          | exact IB.out
                          | exact IC.out
                          | exact ID.out
                          | exact IBX.out
                          | exact IDX.out
                          | exact I7.out
                          | exact imp_set HND.out I7.out
                      clear hK K hHeld
                      have hHeld := hHeld1
                      clear hHeld1
                      try simp only [Act.put, List.getElem_toArray, List.getElem_cons_zero, List.getElem_cons_succ, List.setIfInBounds_toArray, List.set_cons_zero, List.set_cons_succ]
                      refine wpAnyH_ready (rs := [17]) (by kernel_rfl) (by simp) ?_
                      refine AllReadyH.cons (o := _) rfl (fun K hK => ?_) ?_
                      · skip
                        first
                        | (refine Kd.R_append_step kAny (w0 := WB) d (by rfl) (.tmp 60) (.tmp 70) 78 20 .nilIface 16 rfl Try.underlying78 info20 rfl (by decide) (by decide) (.slice A8 l.length c8) l (.iface 65 (.map (some w6.heap.size))) [.iface 65 (.map (some w6.heap.size))] (fun k => k ≠ d) (fun _ => False) (by first | rfl | (go_simp; done)) (by first | rfl | (go_simp; done)) ⟨rfl, rfl⟩ (fun _ h => h.elim) (fresh_d (blk_lt HYB.out.blk)) HYB.out.row (Below.refl _ _) (Nat.le_of_lt (blk_lt HYB.out.blk)) HBY.out ?_
                           intro v7 w7 ho7 hb7 hg7 _
                           obtain ⟨A1, c1, rfl⟩ := Kd.R_slice ho7
                           have HN := Aside0.mk (HYB.out.next ho7 hg7 hb7)
                           have z6 := (blk_cell (HYB.out.at_d hg7) 6).trans rfl
                           have zf := blk_frozen (HYB.out.at_d hg7) 6
                           have nd2 : d < w7.heap.size := blk_lt (HYB.out.at_d hg7)
                           have I7 := Aside0.mk (imp_grown IBL.out hg7 HNE.out IB.out)
                           clear ho7 hb7 hg7)
                        | (refine Kd.R_append_step kAny (w0 := WD) d (by rfl) (.tmp 60) (.tmp 70) 78 20 .nilIface 16 rfl Try.underlying78 info20 rfl (by decide) (by decide) (.slice A8 l.length c8) l (.iface 65 (.map (some w6.heap.size))) [.iface 65 (.map (some w6.heap.size))] (fun k => k ≠ d) (fun _ => False) (by first | rfl | (go_simp; done)) (by first | rfl | (go_simp; done)) ⟨rfl, rfl⟩ (fun _ h => h.elim) (fresh_d (blk_lt HYD.out.blk)) HYD.out.row (Below.refl _ _) (Nat.le_of_lt (blk_lt HYD.out.blk)) HBY.out ?_
                           intro v7 w7 ho7 hb7 hg7 _
                           obtain ⟨A1, c1, rfl⟩ := Kd.R_slice ho7
                           have HN := Aside0.mk (HYD.out.next ho7 hg7 hb7)
                           have z6 := (blk_cell (HYD.out.at_d hg7) 6).trans rfl
                           have zf := blk_frozen (HYD.out.at_d hg7) 6
                           have nd2 : d < w7.heap.size := blk_lt (HYD.out.at_d hg7)
                           have I7 := Aside0.mk (imp_grown IDL.out hg7 HNE.out ID.out)
                           clear ho7 hb7 hg7)
                        refine hK.out _ _ ?_ (fun hHeld1 => ?_)
                        · (try dsimp only)
                          first
                            | exact HI6.out
                            | exact I0.out
                            | exact IA.out
                            | exact IB.out
                            | exact IC.out
                            | exact ID.out
                            | exact IBX.out
                            | exact IDX.out
                            | exact I7.out
                            | exact imp_set HND.out I7.out
                        clear hK K hHeld
                        have hHeld := hHeld1
                        clear hHeld1
                        try simp only [Act.put, List.getElem_toArray, List.getElem_cons_zero, List.getElem_cons_succ, List.setIfInBounds_toArray, List.set_cons_zero, List.set_cons_succ]
                        refine wpAnyH_take (i := 18) (oi := _) (v := ?_) rfl (by kernel_rfl) (by kernel_rfl) (by kernel_rfl) (fun _ _ _ h => h) (Or.inl ⟨by rfl, ?_⟩) (by assumption) ?_
                        rotate_left 1
                        · (intro w hSw; (try dsimp only at hSw); go_simp; try with_reducible rfl)
                        try simp only [Act.put, List.getElem_toArray, List.getElem_cons_zero, List.getElem_cons_succ, List.setIfInBounds_toArray, List.set_cons_zero, List.set_cons_succ]
                        refine wpAnyH_take (i := 19) (oi := _) (v := ?_) rfl (by kernel_rfl) (by kernel_rfl) (by kernel_rfl) (fun _ _ _ h => h) (Or.inl ⟨by rfl, ?_⟩) (by assumption) ?_
                        rotate_left 1
                        · (intro w hSw; (try dsimp only at hSw); go_simp; try with_reducible rfl)
                        try simp only [Act.put, List.getElem_toArray, List.getElem_cons_zero, List.getElem_cons_succ, List.setIfInBounds_toArray, List.set_cons_zero, List.set_cons_succ]
                        refine wpAnyH_ready (rs := [20]) (by kernel_rfl) (by simp) ?_
                        refine AllReadyH.cons (o := _) rfl (fun K hK => ?_) ?_
                        · try simp only [List.getElem_toArray, List.getElem_cons_zero, List.getElem_cons_succ]
                          go_simp
                          refine hK.out _ _ ?_ (fun hHeld1 => ?_)
                          · (try dsimp only)
                            first
                              | exact HI6.out
                              | exact I0.out
                              | exact IA.out
                              | exact IB.out
                              | exact IC.out
                              | exact ID.out
                              | exact IBX.out
                              | exact IDX.out
                              | exact I7.out
                              | exact imp_set HND.out I7.out
                          clear hK K hHeld
                          have hHeld := hHeld1
                          clear hHeld1
                          try simp only [Act.put, List.getElem_toArray, List.getElem_cons_zero, List.getElem_cons_succ, List.setIfInBounds_toArray, List.set_cons_zero, List.set_cons_succ]
                          refine wpAnyH_done (by kernel_rfl) ?_ _
                          refine NoPanic.normal ?_
                          go_wp2_with fail
                          go_roundw
                          case rel => exact ⟨j + 1, l ++ [.iface 65 (.map (some w6.heap.size))], A1, c1, HJ.out, rfl, ⟨by rw [List.length_append, HL.out]; rfl⟩, ⟨by have h := HN.out; rw [List.length_append] at h; exact h⟩⟩
                          case measure => exact meas2 HJ.out
                        exact AllReadyH.nil
                      exact AllReadyH.nil
                    exact AllReadyH.nil
                  exact AllReadyH.nil
                exact AllReadyH.nil
              exact AllReadyH.nil
            exact AllReadyH.nil
        · have e : j = l6.length := Nat.le_antisymm hj (Nat.not_lt.1 hlt)
          have q1 : ¬ (j : Int) < (l6.length : Int) := by omega
          clear e hlt
          go_wp2_with (refine gate_builtin (b := .append) (xs := #[.tmp 87, .tmp 89]) rfl ?_; at_builtin; go_must (refine Kd.R_append kPtr (w0 := wr) wr.heap.size rfl (.tmp 87) (.tmp 89) 69 73 (.pointer none) 8 rfl Try.underlying69 info73 rfl (by decide) (by omega) _ [] d [.pointer (some ⟨d, 0, none⟩)] (fun _ => True) (fun _ => False) rfl rfl rfl (fun _ h => h.elim) (fun _ _ => trivial) (Kd.R_nil _ _ _ _ _) (Below.refl _ _) (Nat.le_refl _) (by simp) ?_; intro v3 w3 ho3 hb3 hg3 _; have HO3 := Aside0.mk ho3; have HB3 := Aside0.mk hb3; obtain ⟨A2, c2, rfl⟩ := Kd.R_slice HO3.out; clear ho3 hb3 hg3))
          clear DQ KT3 c6 W0 HR6
          go_roundw
          case rel => exact .inr ⟨rfl, ⟨one_of HO3.out (HY.out.dep.below HB3.out) (below_step HY.out.below HB3.out)⟩⟩
          case measure => exact Nat.lt_succ_self 0
    · obtain ⟨g, c, d, rfl, hg, hD, hB⟩ := HO.out
      go_wp2
      go_ret2
      exact ⟨g, c, d, rfl, hg, hD, hB⟩
end Go.Proofs.Ytmjecafddklbjaa.HAlias
