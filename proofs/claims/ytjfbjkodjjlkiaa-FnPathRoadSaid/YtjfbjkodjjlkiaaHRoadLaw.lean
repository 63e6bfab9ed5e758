/- FnPathRoad: for every table and path that its guards let in, the law returns true. -/
import Derived.Test.YtjfbjkodjjlkiaaHRoadI
import Derived.Test.YtjfbjkodjjlkiaaHPathLaw
namespace Go.Proofs.Ytjfbjkodjjlkiaa.HVal
open Go.RowKit Go.WideMaps Go.Maps Go.Proofs.YtjfbjkodjjlkiaaW.PrintWords Go.Proofs.YtjfbjkodjjlkiaaW.PrintLast Go.Proofs.YtjfbjkodjjlkiaaW.PrintMore Go.Proofs.Ytjfbjkodjjlkiaa.Plain Go.Proofs.Ytjfbjkodjjlkiaa.GTab Go.Proofs.Ytjfbjkodjjlkiaa.HBytes
attribute [local go_sem] run_store_flt

theorem okPath_dot {s : ByteArray} (h : okPath s = true) : s ≠ ⟨#[46]⟩ := fun e => by
  subst e
  unfold okPath at h
  rw [show namesB ⟨#[46]⟩ = [⟨#[]⟩, ⟨#[]⟩] from by kernel_rfl] at h
  exact absurd h (by simp)
/-- The three boxes of the law: the table, what was made, and what was found. -/
structure LR (w : World) (x : S26) (A5 : Option Addr) (c5 : Nat) (A6 : Option Addr) (c6 : Nat) (b : Nat) (y : S26) (B5 : Option Addr) (d5 : Nat) (B6 : Option Addr) (d6 : Nat) (P : Nat → Prop) (W : World) : Prop where
  lb : LB w x A5 c5 A6 c6 W
  at_ : W.heap[b]? = some (.cells #[.int .i64 y.f0, .bool y.f1, .int .i64 y.f2, .float .f64 y.f3, .string y.f4, .slice B5 y.f5.length d5, .slice B6 y.f6.length d6] 26 (0, 0))
  kv : KV W P y B5 d5 B6 d6
theorem LR.later {w W W2 : World} {x : S26} {A5 A6 : Option Addr} {c5 c6 b : Nat} {y : S26} {B5 B6 : Option Addr} {d5 d6 : Nat} {P : Nat → Prop} (h : LR w x A5 c5 A6 c6 b y B5 d5 B6 d6 P W) (hb : Below W.heap.size W W2) : LR w x A5 c5 A6 c6 b y B5 d5 B6 d6 P W2 :=
  ⟨h.lb.later hb, blk_below h.at_ hb, h.kv.below hb⟩
set_option maxRecDepth 100000 in
set_option maxHeartbeats 8000000 in
theorem road_law (x : S26) (A5 : Option Addr) (c5 : Nat) (A6 : Option Addr) (c6 : Nat) (s : ByteArray) (w : World) (g5 : Kd.string.C w A5 x.f5.length x.f5) (l5 : x.f5.length ≤ c5) (g6 : k26.C w A6 x.f6.length x.f6) (l6 : x.f6.length ≤ c6) (hz : Opens.Sz x) (_hs : s.size ≤ 140737488351232) :
    Calls Try.prog 7 #[agg26 x A5 c5 A6 c6, .string s] w fun e w' => e = .returned (.bool true) ∧ Below w.heap.size w w' := by
  have hv := KV.of_C l5 g5 l6 g6
  have H0 := Aside0.mk (LB.start hv)
  obtain ⟨b, hb⟩ := fits7_calls hv
  have HF := Aside0.mk hb
  have HSM := Aside0.mk (hz 50)
  clear g5 l5 g6 l6 hz hv hb
  go_enter Try.func7, Try.ntmps7
  cases b with
  | false =>
    go_wp2_with (go_at_call 11; go_must (refine (HF.out _ H0.out.below).mono ?_; rintro e w1 ⟨rfl, hb⟩; have H1 := Aside0.mk (H0.out.later hb); clear hb))
    go_ret
    exact ⟨rfl, H1.out.below⟩
  | true =>
    by_cases hbig : (2147483647 : Int) < (s.size : Int)
    · go_wp2_with (go_at_call 11; go_must (refine (HF.out _ H0.out.below).mono ?_; rintro e w1 ⟨rfl, hb⟩; have H1 := Aside0.mk (H0.out.later hb); clear hb))
      go_ret
      exact ⟨rfl, H1.out.below⟩
    · have HS := Aside0.mk (show s.size ≤ 2147483647 by omega)
      obtain ⟨t, ht⟩ : ∃ t, tbB x = t := ⟨_, rfl⟩
      have HT := Aside0.mk ht
      cases t with
      | false =>
        clear ht
        go_wp2_with (first
          | (go_at_call 11; go_must (refine (HF.out _ H0.out.below).mono ?_; rintro e w1 ⟨rfl, hb⟩; have H1 := Aside0.mk (H0.out.later hb); obtain ⟨⟨r0, r1, r2, r3, r4, r5, r6⟩, -⟩ := at7 H1.out.b0; clear hb))
          | (go_at_call 12; go_must (refine (tb_calls x A5 c5 A6 c6 _ _ H1.out.kv H1.out.pre).mono ?_; rintro e w2 ⟨rfl, hb⟩; rw [HT.out]; have H2 := Aside0.mk (H1.out.later hb); clear hb)))
        go_ret
        exact ⟨rfl, H2.out.below⟩
      | true =>
        obtain ⟨h7, hrt, hcnt⟩ := tb_true ht
        have H7 := Aside0.mk h7
        have HRT := Aside0.mk hrt
        have HCN := Aside0.mk hcnt
        clear ht h7 hrt hcnt
        obtain ⟨p, hp⟩ : ∃ p, okPath s = p := ⟨_, rfl⟩
        have HOK := Aside0.mk hp
        cases p with
        | false =>
          clear hp
          go_wp2_with (first
            | (go_at_call 11; go_must (refine (HF.out _ H0.out.below).mono ?_; rintro e w1 ⟨rfl, hb⟩; have H1 := Aside0.mk (H0.out.later hb); obtain ⟨⟨r0, r1, r2, r3, r4, r5, r6⟩, -⟩ := at7 H1.out.b0; clear hb))
            | (go_at_call 12; go_must (refine (tb_calls x A5 c5 A6 c6 _ _ H1.out.kv H1.out.pre).mono ?_; rintro e w2 ⟨rfl, hb⟩; rw [HT.out]; have H2 := Aside0.mk (H1.out.later hb); clear hb))
            | (go_at_call 23; go_must (refine (tbPath_calls s _ HS.out).mono ?_; rintro e w3 ⟨rfl, hb⟩; rw [HOK.out]; have H3 := Aside0.mk (H2.out.later hb); clear hb)))
          go_ret
          exact ⟨rfl, H3.out.below⟩
        | true =>
          obtain ⟨hs2, hne⟩ := okPath_true hp
          have HS2 := Aside0.mk hs2
          have HD := Aside0.mk (okPath_dot hp)
          clear hp hs2 hne
          obtain ⟨k, hk⟩ : ∃ k, (namesB s).length = k := ⟨_, rfl⟩
          have HKL := Aside0.mk hk
          clear hk
          by_cases hbk : (9 : Int) < (k : Int)
          · go_wp2_with (first
              | (go_at_call 11; go_must (refine (HF.out _ H0.out.below).mono ?_; rintro e w1 ⟨rfl, hb⟩; have H1 := Aside0.mk (H0.out.later hb); obtain ⟨⟨r0, r1, r2, r3, r4, r5, r6⟩, -⟩ := at7 H1.out.b0; clear hb))
              | (go_at_call 12; go_must (refine (tb_calls x A5 c5 A6 c6 _ _ H1.out.kv H1.out.pre).mono ?_; rintro e w2 ⟨rfl, hb⟩; rw [HT.out]; have H2 := Aside0.mk (H1.out.later hb); clear hb))
              | (go_at_call 23; go_must (refine (tbPath_calls s _ HS.out).mono ?_; rintro e w3 ⟨rfl, hb⟩; rw [HOK.out]; have H3 := Aside0.mk (H2.out.later hb); clear hb))
              | (go_at_call 24; go_must (refine (specNames_calls s _ HS.out).mono ?_; rintro e w4 ⟨v, rfl, hR, hb⟩; obtain ⟨A, c, rfl, hc, hC⟩ := Kd.R_reads hR; rw [HKL.out]; have H4 := Aside0.mk (H3.out.later hb); clear hb hR hc hC)))
            go_ret
            exact ⟨rfl, H4.out.below⟩
          · have HK9 := Aside0.mk (show k ≤ 9 by omega)
            have HRN := Aside0.mk (show Rt (50 + k) (pmap (namesB s) x) by rw [← HKL.out]; exact rt_pmap HRT.out _)
            have HSN := Aside0.mk (show Sm (50 + k) (pmap (namesB s) x) by rw [← HKL.out]; exact sm_pmap HSM.out _ fun t ht => Nat.le_trans (names_size ht) (Nat.le_trans HS2.out (by decide)))
            have HCC := Aside0.mk (show cnt (50 + k) (pmap (namesB s) x) ≤ 2000 by rw [← HKL.out, cnt_pmap, HKL.out]; have := HCN.out; have := HK9.out; omega)
            obtain ⟨y, hy⟩ : ∃ y, pmap (namesB s) (canon 50 x) = y := ⟨_, rfl⟩
            have HY := Aside0.mk (show canon (50 + k) (pmap (namesB s) x) = y by rw [← hy, ← HKL.out]; exact canon_pmap _)
            have HYP := Aside0.mk hy
            have HRY := Aside0.mk (show Rt (50 + k) y by rw [← HY.out]; exact rt_canon HRN.out)
            have HSY := Aside0.mk (show Sm (50 + k) y by rw [← HY.out]; exact sm_canon HRN.out HSN.out)
            have HCY := Aside0.mk (show cnt (50 + k) y ≤ 2000 by rw [← HY.out, cnt_canon HRN.out]; exact HCC.out)
            have HY7 := Aside0.mk (show y.f0 = 7 by rw [← hy]; exact pmap_7 (by rw [canon_7 H7.out]) _)
            have HRO := Aside0.mk (show road y (namesB s) = some (canon 50 x) by rw [← hy]; exact road_pmap (by rw [canon_7 H7.out]) _)
            have HDY := Aside0.mk (show Dp (50 + k) y by rw [← HY.out]; exact dp_canon HRN.out)
            have HSA := Aside0.mk (show sameB (50 + k) y (pmap (namesB s) x) = true by rw [← HY.out]; exact same_canon HRN.out)
            clear hy
            go_wp2_with (first
              | (go_at_call 11; go_must (refine (HF.out _ H0.out.below).mono ?_; rintro e w1 ⟨rfl, hb⟩; have H1 := Aside0.mk (H0.out.later hb); obtain ⟨⟨r0, r1, r2, r3, r4, r5, r6⟩, -⟩ := at7 H1.out.b0; clear hb))
              | (go_at_call 12; go_must (refine (tb_calls x A5 c5 A6 c6 _ _ H1.out.kv H1.out.pre).mono ?_; rintro e w2 ⟨rfl, hb⟩; rw [HT.out]; have H2 := Aside0.mk (H1.out.later hb); clear hb))
              | (go_at_call 23; go_must (refine (tbPath_calls s _ HS.out).mono ?_; rintro e w3 ⟨rfl, hb⟩; rw [HOK.out]; have H3 := Aside0.mk (H2.out.later hb); clear hb))
              | (go_at_call 24; go_must (refine (specNames_calls s _ HS.out).mono ?_; rintro e w4 ⟨v, rfl, hR, hb⟩; obtain ⟨A, c, rfl, hc, hC⟩ := Kd.R_reads hR; rw [HKL.out]; have H4 := Aside0.mk (H3.out.later hb); clear r0 r1 r2 r3 r4 r5 r6; obtain ⟨⟨r0, r1, r2, r3, r4, r5, r6⟩, -⟩ := at7 H4.out.b0; clear hb hR hc hC))
              | (go_at_call 25; go_must (refine (ptmi_calls x A5 c5 A6 c6 _ s _ H7.out HRT.out HSM.out H4.out.kv H4.out.pre HCN.out HS2.out HD.out).mono ?_; rw [HYP.out]; rintro e w5 ⟨hb, B5, d5, B6, d6, Q, rfl, hk, hq⟩; have hb2 := below_alloc (Below.refl w5.heap.size w5) (row26 y B5 d5 B6 d6); have H5 := Aside0.mk (⟨H4.out.later (below_step hb hb2), blk_new w5 _, hk.below hb2⟩ : LR w x A5 c5 A6 c6 w5.heap.size y B5 d5 B6 d6 Q (w5.alloc (row26 y B5 d5 B6 d6))); have HQ5 := Aside0.mk (fun j (hj : Q j) => Nat.lt_of_lt_of_le (hq j hj) hb2.size); clear hb hb2 hk hq))
              | (go_at_call 26; go_must (refine (tati_calls (50 + k) (by have := HK9.out; omega) y (canon 50 x) B5 d5 B6 d6 Q s _ HY7.out HRY.out HSY.out H5.out.kv HQ5.out HCY.out (Nat.le_trans HS2.out (by decide)) HRO.out).mono ?_; rintro e w6 ⟨m, hrm, hb, E5, e5, E6, e6, Q2, rfl, hk, -⟩; obtain ⟨z, hzz⟩ : ∃ z, canon m (canon 50 x) = z := ⟨_, rfl⟩; rw [hzz] at hk ⊢; have HZD := Aside0.mk (show Dp m z by rw [← hzz]; exact dp_canon hrm); have HZS := Aside0.mk (show sameB m z x = true by rw [← hzz, canon_again HRT.out hrm]; exact same_canon' HRT.out hrm); have hb2 := below_alloc (Below.refl w6.heap.size w6) (row26 z E5 e5 E6 e6); have H6 := Aside0.mk (H5.out.later (below_step hb hb2)); have HK6 := Aside0.mk (hk.below hb2); have HB6 := Aside0.mk (blk_new w6 (row26 z E5 e5 E6 e6)); clear hb hb2 hk hrm hzz)))
            clear r0 r1 r2 r3 r4 r5 r6
            obtain ⟨⟨r0, r1, r2, r3, r4, r5, r6⟩, -⟩ := at7 H6.out.lb.b0
            obtain ⟨⟨a0, a1, a2, a3, a4, a5, a6⟩, -⟩ := at7 H6.out.at_
            go_region_with (first
              | (go_at_call 14; go_must (refine (got_calls m z E5 e5 E6 e6 x A5 c5 A6 c6 _ _ _ HZD.out (HK6.out.below (below_drew (Below.refl _ _))) (H6.out.lb.kv.below (below_drew (Below.refl _ _)))).mono ?_; rintro e w7 ⟨rfl, hb⟩; rw [HZS.out]; have H8 := Aside0.mk (H6.out.later (Below.drew_then hb)); clear r0 r1 r2 r3 r4 r5 r6 a0 a1 a2 a3 a4 a5 a6; obtain ⟨⟨r0, r1, r2, r3, r4, r5, r6⟩, -⟩ := at7 H8.out.lb.b0; obtain ⟨⟨a0, a1, a2, a3, a4, a5, a6⟩, -⟩ := at7 H8.out.at_; clear hb))
              | (go_at_call 27; go_must (refine (pathmap_calls x A5 c5 A6 c6 _ s _ H8.out.lb.kv H8.out.lb.pre (Nat.le_trans HS2.out (by decide)) HD.out).mono ?_; rintro e w8 ⟨hb, M5, m5, M6, m6, rfl, hk⟩; have H9 := Aside0.mk (H8.out.later hb); have HK9 := Aside0.mk hk; obtain ⟨⟨b0, b1, b2, b3, b4, b5, b6⟩, -⟩ := at7 H9.out.at_; clear hb hk))
              | (go_at_call 21; go_must (refine (same_of (50 + k) y B5 d5 B6 d6 _ _ _ _ _ _ _ _ HDY.out H9.out.kv HK9.out).mono ?_; rintro e w9 ⟨rfl, hb⟩; rw [HSA.out]; have HL := Aside0.mk (H9.out.later hb).lb.below; clear hb)))
            all_goals (go_wp2_with fail; go_ret; exact ⟨rfl, HL.out⟩)
end Go.Proofs.Ytjfbjkodjjlkiaa.HVal
