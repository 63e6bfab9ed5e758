/- What AliasDependency comes to: the walk. -/
import Derived.Test.YtmjecafddklbjaaHAlias5
import Derived.Deep.RegionWith
namespace Go.Proofs.Ytmjecafddklbjaa.HAlias
open Go.RowKit Go.WideMaps Go.Maps Go.Proofs.YtmjecafddklbjaaW.PrintWords Go.Proofs.YtmjecafddklbjaaW.PrintLast Go.Proofs.YtmjecafddklbjaaW.PrintMore Go.Proofs.Ytmjecafddklbjaa.HMapI Go.Proofs.Ytmjecafddklbjaa.HSchema Go.Proofs.Ytmjecafddklbjaa.Plain Go.Proofs.Ytmjecafddklbjaa.GWants

theorem run_store_flt {P : Program} {w : World} {a : Addr} {m : Mode} (k : FloatKind) (b : Nat) : (store a (.float k b) m).run P w = stored P w a (.float k b) m := run_store P w a _ m rfl
attribute [local go_sem] run_store_flt
/-- The cells of a want. -/
abbrev wcells (n v cnd al : ByteArray) (A4 : Option Addr) (l4 : List ByteArray) (c4 : Nat) (en : Bool) (A6 : Option Addr) (l6 : List S60) (c6 : Nat) : Array Value := #[.string n, .string v, .string cnd, .string al, .slice A4 l4.length c4, .bool en, .slice A6 l6.length c6]
theorem Mid.charts {xs : List (ByteArray × ByteArray)} {wc : Array Value} {j : Nat} {cs : List Ch} {A7 : Option Addr} {c7 : Nat} {w W : World} (h : Mid xs wc j cs A7 c7 w W) : ChartsAt W A7 cs :=
  charts_at (by have h2 := (Kd.R_reads' h.row).2.2; rwa [List.length_map] at h2) h.ins
theorem ne_of_blocks {W : World} {a b : Nat} {o1 o2 : Obj} (h1 : W.heap[a]? = some o1) (h2 : W.heap[b]? = some o2) (h : o1 ≠ o2) : a ≠ b := fun e => h (by rw [e, h2] at h1; injection h1 with h1; exact h1.symm)
set_option maxRecDepth 100000 in
set_option maxHeartbeats 4000000 in
theorem alias_dep (HW1 : ∀ (b : Nat) (n v cnd al : ByteArray) (A4 : Option Addr) (c40 : Nat) (en : Bool) (A6 : Option Addr) (c60 : Nat) (l4 : List ByteArray) (l6 : List S60) (ty : TypeId) (k : Nat) (w : World)
    (_h : w.heap[b]? = some (.cells #[.string n, .string v, .string cnd, .string al, .slice A4 l4.length c40, .bool en, .slice A6 l6.length c60] ty (0, 0))) (_hk : impl_plain.f k v = some true) (_h6 : l6.length ≤ 20) (_h4 : l4.length ≤ 1000000)
    (_hr4 : Kd.C Kd.string w A4 l4.length l4) (_hc4 : l4.length ≤ c40) (_hr6 : Kd.C k60 w A6 l6.length l6) (_hc6 : l6.length ≤ c60),
    Calls Try.prog 19 #[.slice (some ⟨b, 0, none⟩) 1 1] w (One w n v al))
    (A : Option Addr) (c : Nat) (xs : List (ByteArray × ByteArray)) (n v cnd al : ByteArray) (A4 : Option Addr) (c4 : Nat) (en : Bool) (A6 : Option Addr) (c6 : Nat) (l4 : List ByteArray) (l6 : List S60) (k : Nat) (w : World)
    (hA : Kd.C kCh w A xs.length xs) (hv : ∀ (j : Nat) (h : j < xs.length), ∃ k, impl_plain.f k xs[j].2 = some true) (hl : xs.length ≤ 1000)
    (hk : impl_plain.f k v = some true) (h6 : l6.length ≤ 20) (h4 : l4.length ≤ 1000000)
    (hr4 : Kd.C Kd.string w A4 l4.length l4) (hc4 : l4.length ≤ c4) (hr6 : Kd.C k60 w A6 l6.length l6) (hc6 : l6.length ≤ c6) :
    Calls Try.prog 10 #[.slice A xs.length c, .agg (wcells n v cnd al A4 l4 c4 en A6 l6 c6)] w (Told3 w (answer xs n v al)) := by
  have hmf : ∀ (fn : Fn) (first cap : Array Value) (w : World), (Instr.makeFunc fn first cap).run Try.prog w = .ok (.func fn first cap) w := fun _ _ _ _ => rfl
  have HW := Aside0.mk HW1
  have HA := Aside0.mk hA
  have HV := Aside0.mk hv
  have HL := Aside0.mk hl
  have HK := Aside0.mk hk
  have H6 := Aside0.mk h6
  have H4 := Aside0.mk h4
  have HR4 := Aside0.mk hr4
  have HR6 := Aside0.mk hr6
  have HC4 := Aside0.mk hc4
  have HC6 := Aside0.mk hc6
  clear HW1 hA hv hl hk h6 h4 hr4 hr6 hc4 hc6
  go_enter_defers Try.func10, Try.ntmps10
  go_wp2
  have HM0 := Aside0.mk (Mid.start (xs := xs) (wc := wcells n v cnd al A4 l4 c4 en A6 l6 c6) (w := w))
  go_loopw [7, 18] (fun o i wr => ∃ (j : Nat) (cs : List Ch) (A7 : Option Addr) (c7 : Nat), j ≤ xs.length ∧ i = .int .i64 j ∧ o = .slice A7 cs.length c7 ∧ Aside0 (Mid xs (wcells n v cnd al A4 l4 c4 en A6 l6 c6) j cs A7 c7 w wr)) (fun _o i _w => xs.length - (intOf i).toNat)
  case atStart => exact ⟨0, [], none, 0, Nat.zero_le _, rfl, rfl, HM0⟩
  case round =>
    obtain ⟨j, cs, A7, c7, hj, rfl, rfl, HM⟩ := hrel
    clear HM0
    by_cases hlt : j < xs.length
    · obtain ⟨ad, e0, x0, x1, x2, x3, x4, x5, x6, x7, x8, x9, x10⟩ := at_cells (Kd.C_below HA.out HM.out.below) j hlt hlt
      subst e0
      obtain ⟨k1, hk1⟩ := HV.out j hlt
      obtain ⟨⟨n1, v1⟩, hp⟩ : ∃ p, xs[j] = p := ⟨_, rfl⟩
      have HJ := Aside0.mk hlt
      have HX := Aside0.mk (show ∀ h : j < xs.length, (n1, v1) = xs[j] from fun _ => hp.symm)
      rw [hp] at x0 x1 hk1
      dsimp only at x0 x1 hk1
      have HK1 := Aside0.mk hk1
      have p0 : 0 ≤ (j : Int) := Int.natCast_nonneg j
      have q0 : (j : Int) < (xs.length : Int) := Int.ofNat_lt.2 hlt
      clear hp hk1 hlt
      have hmm := @run_makeMap Try.prog
      go_wp2_with (first
        | (go_at_call 18; go_must (
        refine (chart0 n1 v1 k1 HK1.out _).mono ?_
        rintro e w2 ⟨q, m, rfl, hC, hq, hm, hqm, hb⟩
        have HC := Aside0.mk hC
        have HB2 := Aside0.mk (below_step (below_alloc (Below.refl wr.heap.size wr) _) hb)
        have HQ := Aside0.mk (show wr.heap.size ≤ q by simp at hq; omega)
        have HM2 := Aside0.mk (show wr.heap.size ≤ m by simp at hm; omega)
        have HQM := Aside0.mk hqm
        clear hC hb hq hm hqm x0 x1 x2 x3 x4 x5 x6 x7 x8 x9 x10
        obtain ⟨WA, m1, i1, i2⟩ := insert1 (W := w2.alloc (.map #[] 0)) (r := w2.heap.size) ⟨#[97, 116]⟩ (.iface 2 (.int .i64 j)) (HSchema.blk_at _ rfl)
        have HI1 := Aside0.mk i1
        have HI2 := Aside0.mk (show Below w2.heap.size w2 WA from (below_alloc (Below.refl _ _) _).trans (i2 _ (Nat.le_refl _)))
        clear i1 i2
        have c1 := (blk_cell (blk_below HC.out.at_q HI2.out) 1).trans rfl
        have f1 := blk_frozen (blk_below HC.out.at_q HI2.out) 1
        obtain ⟨W4, hW4⟩ : ∃ W4, WA.setCell ⟨q, 1, none⟩ (.map (some w2.heap.size)) = W4 := ⟨_, rfl⟩
        have HB4 := Aside0.mk (show Below wr.heap.size wr W4 by rw [← hW4]; exact (below_step HB2.out HI2.out).setCell (p := ⟨q, 1, none⟩) HQ.out _)
        have HX4 := Aside0.mk (show Ch.In ⟨q, m, n1, v1, some w2.heap.size⟩ W4 by rw [← hW4]; exact ⟨blk_put (blk_below HC.out.at_q HI2.out) 1 _ rfl, blk_setO (blk_below HC.out.at_m HI2.out) (fun e => HQM.out e.symm) _⟩)
        have HA4 := Aside0.mk (show W4.heap[w2.heap.size]? = some (atMap j) by rw [← hW4]; exact blk_setO HI1.out (fun e => absurd (blk_lt HC.out.at_q) (by rw [e]; exact Nat.lt_irrefl _)) _)
        have HM4 := Aside0.mk (HM.out.later HB4.out)
        have HK4 := Aside0.mk (HM.out.wide HB4.out ⟨q, m, n1, v1, some w2.heap.size⟩ HQ.out HM2.out (fun b e => by injection e with e; subst e; exact HB2.out.size))
        have HF4 := Aside0.mk (HM4.out.fresh ⟨q, m, n1, v1, some w2.heap.size⟩ HX4.out j w2.heap.size rfl HA4.out)
        clear HB4 HC HI1 HI2 HQ HM2 HQM HB2 HM))
        | (refine gate_builtin (b := .append) (xs := #[.tmp 37, .tmp 39]) rfl ?_; at_builtin; go_must (
            refine Kd.R_append kPtr (w0 := W4) (w.heap.size + 1 + 1 + 1 + 1) rfl (.tmp 37) (.tmp 39) 61 62 (.pointer none) 8 rfl Try.underlying61 info62 rfl (by decide) (by omega) (.slice A7 cs.length c7) (cs.map (·.q)) q [.pointer (some ⟨q, 0, none⟩)] (okc (cs ++ [⟨q, m, n1, v1, some w2.heap.size⟩])) (fun _ => False) rfl rfl rfl (fun _ h => h.elim) HF4.out HK4.out (Below.refl _ _) (Nat.succ_le_of_lt (blk_lt HM4.out.b3)) (by have h1 := HM4.out.len; have h2 := HJ.out; have h3 := HL.out; rw [List.length_map]; omega) ?_
            intro v3 w3 ho3 hb3 hg3 _
            obtain ⟨A2, c2, rfl⟩ := Kd.R_slice ho3
            have HN := Aside0.mk (HM4.out.next HJ.out HX4.out (HX.out HJ.out) rfl HA4.out HK4.out ho3 hg3)
            have HLN := Aside0.mk (show (cs.map (·.q) ++ [q]).length = (cs ++ [(⟨q, m, n1, v1, some w2.heap.size⟩ : Ch)]).length by simp)
            rw [HLN.out]
            clear ho3 hb3 hg3)))
      clear m1 c1 f1 hW4
      go_roundw
      case rel => exact ⟨j + 1, cs ++ [⟨q, m, n1, v1, some w2.heap.size⟩], A2, c2, HJ.out, by rw [wrn HJ.out (Nat.le_trans HL.out (by decide))], by rw [List.length_append]; rfl, HN⟩
      case measure => exact meas HJ.out (Nat.le_trans HL.out (by decide))
    · have e : j = xs.length := Nat.le_antisymm hj (Nat.not_lt.1 hlt)
      subst e
      have HS := Aside0.mk (show cs.map (fun x => (x.n, x.v)) = xs from HM.out.same.trans (List.take_length ..))
      have HLC := Aside0.mk (show cs.length ≤ 1000 from by rw [HM.out.len]; exact HL.out)
      have q1 : ¬ (xs.length : Int) < (xs.length : Int) := Int.lt_irrefl _
      have c0 := (blk_cell HM.out.b0 0).trans rfl
      have c1 := (blk_cell HM.out.b0 1).trans rfl
      have c2 := (blk_cell HM.out.b0 2).trans rfl
      have c3 := (blk_cell HM.out.b0 3).trans rfl
      have c4' := (blk_cell HM.out.b0 4).trans rfl
      have c5 := (blk_cell HM.out.b0 5).trans rfl
      have c6' := (blk_cell HM.out.b0 6).trans rfl
      clear hj hlt
      rcases pick_place n v cs with ⟨hp, hq⟩ | ⟨i, hi, hp, hq, hn⟩
      · have HP := Aside0.mk hp
        have HQ := Aside0.mk (show answer xs n v al = (E0, 0, 1) by rw [← HS.out, answer, hq])
        clear hp hq
        go_wp2_with (first
          | (go_at_call 19; go_must (
              refine (HW.out wr.heap.size n v cnd al A4 c4 en A6 c6 l4 l6 31 k _ (HSchema.blk_at _ rfl) HK.out H6.out H4.out (Kd.C_below HR4.out (below_alloc HM.out.below _)) HC4.out (Kd.C_below HR6.out (below_alloc HM.out.below _)) HC6.out).mono ?_
              rintro e w5 ⟨g, c0', d, rfl, hg, hD, hb5⟩
              have HB5 := Aside0.mk (below_step (below_alloc (Below.refl wr.heap.size wr) _) hb5)
              have HM5 := Aside0.mk (HM.out.later HB5.out)
              have HD := Aside0.mk hD
              have HC5 := Aside0.mk (Mid.charts HM5.out)
              clear hD hb5 c0 c1 c2 c3 c4' c5 c6'))
          | (go_at_call 20; go_must (
              refine (zz_calls A7 c7 cs d n v al _ HC5.out HD.out (Nat.le_trans HLC.out (by decide))).mono ?_
              rintro e w6 ⟨hb6, ha⟩
              rw [HP.out] at ha
              replace ha : e = .returned (.pointer none) := ha
              subst ha
              have HM6 := Aside0.mk (HM5.out.later hb6)
              clear hb6
              have d1 := (blk_cell HM6.out.b1 0).trans rfl
              have d2 := (blk_cell HM6.out.b2 0).trans rfl
              have d3 := (blk_cell HM6.out.b3 0).trans rfl
              have f1 := blk_frozen HM6.out.b1 0
              have f2 := blk_frozen HM6.out.b2 0
              have f3 := blk_frozen HM6.out.b3 0)))
        have HE := Aside0.mk (fin_cells (s := E0) (i := 0) (f := 1) HM6.out.b1 HM6.out.b2 HM6.out.b3)
        have HF := Aside0.mk (fin_below (s := E0) (i := 0) (f := 1) HM6.out.below (Nat.le_refl _))
        obtain ⟨W5, hW5⟩ : ∃ W5, fin w6 w.heap.size E0 0 1 = W5 := ⟨_, rfl⟩
        rw [hW5] at HE HF
        unfold fin at hW5
        rw [hW5]
        clear hW5 d1 d2 d3 f1 f2 f3
        refine leaves_cons (f := 17) (args := #[.pointer (some ⟨w.heap.size + 1, 0, none⟩), .pointer (some ⟨w.heap.size + 1 + 1, 0, none⟩), .pointer (some ⟨w.heap.size + 1 + 1 + 1, 0, none⟩)]) (by simp) (by simp [go_sem]) ?_
        refine (catch3 _ _ _ _).mono ?_
        rintro e u' w5 ⟨rfl, rfl, rfl⟩
        obtain ⟨c1, c2, c3⟩ := HE.out
        rw [HQ.out]
        simp [Leaves, settle, results, Try.results10, go_sem, c1, c2, c3]
        exact ⟨rfl, HF.out⟩
      · have HP := Aside0.mk hp
        have HQ := Aside0.mk (show answer xs n v al = (named al n, i, 0) by rw [← HS.out, answer, hq])
        have HIN := Aside0.mk hi
        have HNN := Aside0.mk hn
        clear hp hq hn
        go_wp2_with (first
          | (go_at_call 19; go_must (
              refine (HW.out wr.heap.size n v cnd al A4 c4 en A6 c6 l4 l6 31 k _ (HSchema.blk_at _ rfl) HK.out H6.out H4.out (Kd.C_below HR4.out (below_alloc HM.out.below _)) HC4.out (Kd.C_below HR6.out (below_alloc HM.out.below _)) HC6.out).mono ?_
              rintro e w5 ⟨g, c0', d, rfl, hg, hD, hb5⟩
              have HB5 := Aside0.mk (below_step (below_alloc (Below.refl wr.heap.size wr) _) hb5)
              have HM5 := Aside0.mk (HM.out.later HB5.out)
              have HD := Aside0.mk hD
              have HC5 := Aside0.mk (Mid.charts HM5.out)
              clear hD hb5 c0 c1 c2 c3 c4' c5 c6'))
          | (go_at_call 20; go_must (
              refine (zz_calls A7 c7 cs d n v al _ HC5.out HD.out (Nat.le_trans HLC.out (by decide))).mono ?_
              rintro e w6 ⟨hb6, ha⟩
              rw [HP.out] at ha
              obtain ⟨q, m, rfl, hC⟩ := ha
              rw [HNN.out] at hC
              have HM6 := Aside0.mk (HM5.out.later hb6)
              have HC6' := Aside0.mk hC
              clear hb6 hC)))
        obtain ⟨B, hB1, hB2⟩ := HM6.out.maps i HIN.out
        rw [hB1] at HC6'
        have HNQ := Aside0.mk (ne_of_blocks HC6'.out.at_q HM6.out.b1 (fun h => by injection h with _ h2; exact absurd h2 (by decide)))
        have HNB := Aside0.mk (ne_of_blocks hB2 HM6.out.b1 (fun h => by cases h))
        have e1 := (blk_cell HC6'.out.at_q 1).trans rfl
        have e2 := (blk_cell (blk_setO (p := ⟨w.heap.size + 1, 0, none⟩) HC6'.out.at_q HNQ.out (.string (named al n))) 1).trans rfl
        have l1 := look_at (blk_drew hB2)
        have l2 := as_place (i : Int)
        have l3 := look_at (blk_drew (blk_setO (p := ⟨w.heap.size + 1, 0, none⟩) hB2 HNB.out (.string (named al n))))
        have d1 := (blk_cell HM6.out.b1 0).trans rfl
        have d2 := (blk_cell HM6.out.b2 0).trans rfl
        have d3 := (blk_cell HM6.out.b3 0).trans rfl
        have f1 := blk_frozen HM6.out.b1 0
        have f2 := blk_frozen HM6.out.b2 0
        have f3 := blk_frozen HM6.out.b3 0
        clear hB2 hB1 hg
        refine wp_region_noPanic ?_
        go_region_with (go_at_call 21; go_must (refine (name0 q m (named al n) _ (some B) _ ⟨blk_drew HC6'.out.at_q, blk_drew HC6'.out.at_m⟩).mono ?_; rintro e w7 ⟨rfl, rfl⟩))
        all_goals
          refine NoPanic.normal ?_
          go_wp2_with fail
          have HE := Aside0.mk (show (fin w6 w.heap.size (named al n) i 0).drew.cell? ⟨w.heap.size + 1, 0, none⟩ = some (.string (named al n)) ∧ (fin w6 w.heap.size (named al n) i 0).drew.cell? ⟨w.heap.size + 1 + 1, 0, none⟩ = some (.int .i64 i) ∧ (fin w6 w.heap.size (named al n) i 0).drew.cell? ⟨w.heap.size + 1 + 1 + 1, 0, none⟩ = some (.int .i64 0) from fin_cells HM6.out.b1 HM6.out.b2 HM6.out.b3)
          have HF := Aside0.mk (show Below w.heap.size w (fin w6 w.heap.size (named al n) i 0).drew from below_drew (fin_below HM6.out.below (Nat.le_refl _)))
          obtain ⟨W5, hW5⟩ : ∃ W5, (fin w6 w.heap.size (named al n) i 0).drew = W5 := ⟨_, rfl⟩
          rw [hW5] at HE HF
          unfold fin at hW5
          rw [hW5]
          clear hW5 d1 d2 d3 f1 f2 f3 l1 l2 l3 e1 e2
          refine leaves_cons (f := 17) (args := #[.pointer (some ⟨w.heap.size + 1, 0, none⟩), .pointer (some ⟨w.heap.size + 1 + 1, 0, none⟩), .pointer (some ⟨w.heap.size + 1 + 1 + 1, 0, none⟩)]) (by simp) (by simp [go_sem]) ?_
          refine (catch3 _ _ _ _).mono ?_
          rintro e u' w5 ⟨rfl, rfl, rfl⟩
          obtain ⟨c1, c2, c3⟩ := HE.out
          rw [HQ.out]
          simp [Leaves, settle, results, Try.results10, go_sem, c1, c2, c3]
          exact ⟨rfl, HF.out⟩
end Go.Proofs.Ytmjecafddklbjaa.HAlias
