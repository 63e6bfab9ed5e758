/- FnTrimNulls: for every table that its guards let in, the law returns true. -/
import Derived.Test.YtjfbjkodjjlkiaaCB
import Derived.Test.YtjfbjkodjjlkiaaHTrimW
namespace Go.Proofs.Ytjfbjkodjjlkiaa.HVal
open Go.RowKit Go.WideMaps Go.Maps Go.Proofs.YtjfbjkodjjlkiaaW.PrintWords Go.Proofs.YtjfbjkodjjlkiaaW.PrintLast Go.Proofs.YtjfbjkodjjlkiaaW.PrintMore Go.Proofs.Ytjfbjkodjjlkiaa.Plain Go.Proofs.Ytjfbjkodjjlkiaa.GTab
attribute [local go_sem] run_store_flt

/-- The three boxes of the law: the table, what was made, and what was found. -/
structure LT3 (w : World) (x : S26) (A5 : Option Addr) (c5 : Nat) (A6 : Option Addr) (c6 : Nat) (b : Nat) (y : S26) (B5 : Option Addr) (d5 : Nat) (B6 : Option Addr) (d6 : Nat) (P : Nat → Prop) (W : World) : Prop where
  lb : LB w x A5 c5 A6 c6 W
  at_ : W.heap[b]? = some (.cells #[.int .i64 y.f0, .bool y.f1, .int .i64 y.f2, .float .f64 y.f3, .string y.f4, .slice B5 y.f5.length d5, .slice B6 y.f6.length d6] 26 (0, 0))
  kv : KV W P y B5 d5 B6 d6
theorem LT3.later {w W W2 : World} {x : S26} {A5 A6 : Option Addr} {c5 c6 b : Nat} {y : S26} {B5 B6 : Option Addr} {d5 d6 : Nat} {P : Nat → Prop} (h : LT3 w x A5 c5 A6 c6 b y B5 d5 B6 d6 P W) (hb : Below W.heap.size W W2) : LT3 w x A5 c5 A6 c6 b y B5 d5 B6 d6 P W2 :=
  ⟨h.lb.later hb, blk_below h.at_ hb, h.kv.below hb⟩
/-- A text. -/
def vText : S26 := { z26 with f0 := 5 }
theorem rt_text : Rt 1 vText := rt_low (.inr (.inr (.inr rfl))) rfl rfl
theorem sm_text : Sm 1 vText := by
  unfold Sm
  exact ⟨fun s hs => (nomatch hs), fun y hy => (nomatch hy)⟩
theorem kv_text (w : World) : KV w (fun _ => False) vText none 0 none 0 := ⟨Nat.le_refl _, fun W' _ => (Kd.R_reads' (Kd.R_nil Kd.string 9 W' 0 (fun _ => True))).2.2, Nat.le_refl _, fun W' _ => (Kd.R_reads' (Kd.R_nil k26 26 W' 0 (fun _ => True))).2.2⟩
set_option maxRecDepth 100000 in
set_option maxHeartbeats 8000000 in
theorem trim_law (x : S26) (A5 : Option Addr) (c5 : Nat) (A6 : Option Addr) (c6 : Nat) (w : World) (g5 : Kd.string.C w A5 x.f5.length x.f5) (l5 : x.f5.length ≤ c5) (g6 : k26.C w A6 x.f6.length x.f6) (l6 : x.f6.length ≤ c6) (hz : Opens.Sz x) :
    Calls Try.prog 3 #[agg26 x A5 c5 A6 c6] w fun e w' => e = .returned (.bool true) ∧ Below w.heap.size w w' := by
  have hv := KV.of_C l5 g5 l6 g6
  have H0 := Aside0.mk (LB.start hv)
  obtain ⟨b, hb⟩ := fits7_calls hv
  have HF := Aside0.mk hb
  have HSM := Aside0.mk (hz 50)
  clear g5 l5 g6 l6 hz hv hb
  go_enter Try.func3, Try.ntmps3
  cases b with
  | false =>
    go_wp2_with (go_at_call 11; go_must (refine (HF.out _ H0.out.below).mono ?_; rintro e w1 ⟨rfl, hb⟩; have H1 := Aside0.mk (H0.out.later hb); clear hb))
    go_ret
    exact ⟨rfl, H1.out.below⟩
  | true =>
    obtain ⟨t, ht⟩ : ∃ t, tbB x = t := ⟨_, rfl⟩
    have HT := Aside0.mk ht
    cases t with
    | false =>
      clear ht
      go_wp2_with (first
        | (go_at_call 11; go_must (refine (HF.out _ H0.out.below).mono ?_; rintro e w1 ⟨rfl, hb⟩; have H1 := Aside0.mk (H0.out.later hb); obtain ⟨⟨r0, r1, r2, r3, r4, r5, r6⟩, -⟩ := at7 H1.out.b0; clear hb))
        | (go_at_call 12; go_must (refine (tb_calls x A5 c5 A6 c6 _ _ H1.out.kv H1.out.pre).mono ?_; rintro e w2 ⟨rfl, hb⟩; rw [HT.out]; have H2 := Aside0.mk (H1.out.later hb); clear hb)))
      go_ret
      exact ⟨rfl, H2.out.below⟩
    | true =>
      obtain ⟨h7, hrt, hcnt⟩ := tb_true ht
      have H7 := Aside0.mk h7
      have HRT := Aside0.mk hrt
      have HCN := Aside0.mk hcnt
      have HRN := Aside0.mk (rt_trim hrt h7)
      obtain ⟨y, hy⟩ : ∃ y, canon 50 (trim 50 x) = y := ⟨_, rfl⟩
      have HY := Aside0.mk hy
      have HDY := Aside0.mk (show Dp 50 y by rw [← hy]; exact dp_canon HRN.out)
      have HSA := Aside0.mk (show sameB 50 y (trim 50 x) = true by rw [← hy]; exact same_canon HRN.out)
      have HD7 := Aside0.mk (decide_eq_true h7)
      clear ht h7 hrt hcnt hy
      go_wp2_with (first
        | (go_at_call 11; go_must (refine (HF.out _ H0.out.below).mono ?_; rintro e w1 ⟨rfl, hb⟩; have H1 := Aside0.mk (H0.out.later hb); obtain ⟨⟨r0, r1, r2, r3, r4, r5, r6⟩, -⟩ := at7 H1.out.b0; clear hb))
        | (go_at_call 12; go_must (refine (tb_calls x A5 c5 A6 c6 _ _ H1.out.kv H1.out.pre).mono ?_; rintro e w2 ⟨rfl, hb⟩; rw [HT.out]; have H2 := Aside0.mk (H1.out.later hb); clear r0 r1 r2 r3 r4 r5 r6; obtain ⟨⟨r0, r1, r2, r3, r4, r5, r6⟩, -⟩ := at7 H2.out.b0; clear hb))
        | (go_at_call 13; go_must (refine (tni_calls x A5 c5 A6 c6 _ _ H7.out HRT.out HSM.out H2.out.kv H2.out.pre HCN.out).mono ?_; rw [HY.out]; rintro e w5 ⟨hb, B5, d5, B6, d6, Q, rfl, hk, hq⟩; have hb2 := below_alloc (Below.refl w5.heap.size w5) (row26 y B5 d5 B6 d6); have H5 := Aside0.mk (⟨H2.out.later (below_step hb hb2), blk_new w5 _, hk.below hb2⟩ : LT3 w x A5 c5 A6 c6 w5.heap.size y B5 d5 B6 d6 Q (w5.alloc (row26 y B5 d5 B6 d6))); clear hb hb2 hk hq)))
      clear r0 r1 r2 r3 r4 r5 r6
      obtain ⟨⟨r0, r1, r2, r3, r4, r5, r6⟩, -⟩ := at7 H5.out.lb.b0
      obtain ⟨⟨a0, a1, a2, a3, a4, a5, a6⟩, -⟩ := at7 H5.out.at_
      go_region_with (first
        | (go_at_call 15; go_must (refine (trim_of 50 x A5 c5 A6 c6 _ _ H7.out HRT.out (Nat.le_trans HCN.out (by decide)) (H5.out.lb.kv.below (below_drew (Below.refl _ _))) H5.out.lb.pre).mono ?_; rintro e w7 ⟨hb, M5, m5, M6, m6, rfl, hk⟩; have H8 := Aside0.mk (H5.out.later (Below.drew_then hb)); have HK8 := Aside0.mk hk; clear r0 r1 r2 r3 r4 r5 r6 a0 a1 a2 a3 a4 a5 a6; obtain ⟨⟨r0, r1, r2, r3, r4, r5, r6⟩, -⟩ := at7 H8.out.lb.b0; obtain ⟨⟨a0, a1, a2, a3, a4, a5, a6⟩, -⟩ := at7 H8.out.at_; clear hb hk))
        | (go_at_call 14; go_must (refine (got_calls 50 y B5 d5 B6 d6 (trim 50 x) M5 m5 M6 m6 _ _ _ HDY.out H8.out.kv HK8.out).mono ?_; rintro e w8 ⟨rfl, hb⟩; rw [HSA.out]; have H9 := Aside0.mk (H8.out.later hb); clear r0 r1 r2 r3 r4 r5 r6 a0 a1 a2 a3 a4 a5 a6; obtain ⟨⟨r0, r1, r2, r3, r4, r5, r6⟩, -⟩ := at7 H9.out.lb.b0; clear hb))
        | (go_at_call_of 16 x; refine (istab_calls 50 x A5 c5 A6 c6 _ _ HRT.out HSM.out H9.out.lb.kv H9.out.lb.pre (by decide) (Nat.le_trans HCN.out (by decide))).mono ?_; rintro e w9 ⟨rfl, hb⟩; rw [HD7.out]; have HA := Aside0.mk (H9.out.later hb).lb.below; clear hb)
        | (go_at_call 16; refine (istab_calls 1 vText none 0 none 0 _ _ rt_text sm_text (kv_text _) (fun _ h => h.elim) (by decide) (by decide)).mono ?_; rintro e w10 ⟨rfl, hb⟩; have HL := Aside0.mk (below_step HA.out hb); clear hb))
      all_goals (go_wp2_with fail; go_ret; exact ⟨rfl, HL.out⟩)
end Go.Proofs.Ytjfbjkodjjlkiaa.HVal
