/- FnPathValue: for every table and path that its guards let in, the law returns true. -/
import Derived.Test.YtjfbjkodjjlkiaaHSpecP
import Derived.Test.YtjfbjkodjjlkiaaHPM
import Derived.Test.YtjfbjkodjjlkiaaHFits
import Derived.Test.YtjfbjkodjjlkiaaHOpen
namespace Go.Proofs.Ytjfbjkodjjlkiaa.HVal
open Go.RowKit Go.WideMaps Go.Maps Go.Proofs.YtjfbjkodjjlkiaaW.PrintWords Go.Proofs.YtjfbjkodjjlkiaaW.PrintLast Go.Proofs.YtjfbjkodjjlkiaaW.PrintMore Go.Proofs.Ytjfbjkodjjlkiaa.Plain Go.Proofs.Ytjfbjkodjjlkiaa.GTab Go.Proofs.Ytjfbjkodjjlkiaa.HBytes
attribute [local go_sem] run_store_flt

theorem KV.of_C {w : World} {x : S26} {A5 A6 : Option Addr} {c5 c6 : Nat} (l5 : x.f5.length ≤ c5) (g5 : Kd.string.C w A5 x.f5.length x.f5) (l6 : x.f6.length ≤ c6) (g6 : k26.C w A6 x.f6.length x.f6) : KV w (fun k => k < w.heap.size) x A5 c5 A6 c6 :=
  ⟨l5, Kd.C_F Kd.heap_string g5, l6, Kd.C_F heap26 g6⟩
/-! ### what tbGot comes to -/
set_option maxRecDepth 100000 in
set_option maxHeartbeats 4000000 in
theorem got_calls (n : Nat) (x : S26) (A5 : Option Addr) (c5 : Nat) (A6 : Option Addr) (c6 : Nat) (y : S26) (B5 : Option Addr) (d5 : Nat) (B6 : Option Addr) (d6 : Nat) (P Q : Nat → Prop) (w : World) (hd : Dp n x) (hv : KV w P x A5 c5 A6 c6) (hw : KV w Q y B5 d5 B6 d6) :
    Calls Try.prog 14 #[agg26 x A5 c5 A6 c6, .int .i64 0, agg26 y B5 d5 B6 d6] w (SamePost w (sameB n x y)) := by
  have HB := Aside0.mk (below_alloc (below_alloc (Below.refl w.heap.size w) (row26 x A5 c5 A6 c6)) (row26 y B5 d5 B6 d6))
  have HC := Aside0.mk (same_of n x A5 c5 A6 c6 y B5 d5 B6 d6 P Q _ hd (hv.below HB.out) (hw.below HB.out))
  obtain ⟨q, hq⟩ : ∃ q, sameB n x y = q := ⟨_, rfl⟩
  rw [hq] at HC ⊢
  clear hd hv hw hq
  go_enter Try.func14, Try.ntmps14
  go_wp2_with (go_at_call 21; go_must (refine HC.out.mono ?_; rintro e w1 ⟨rfl, hb⟩; have HB2 := Aside0.mk (below_step HB.out hb); clear hb))
  go_ret
  exact ⟨rfl, HB2.out⟩
/-! ### the one fixed path -/
def v3 : S26 := { z26 with f0 := 2, f2 := 3 }
abbrev sC : ByteArray := ⟨#[99]⟩
abbrev sAB : ByteArray := ⟨#[97, 46, 98]⟩
abbrev sABC : ByteArray := ⟨#[97, 46, 98, 46, 99]⟩
theorem rt_tab {n : Nat} {x : S26} (s : ByteArray) (h : Rt n x) : Rt (n + 1) (tab1 s x) := by
  unfold Rt
  refine .inr (.inr (.inr ⟨rfl, List.pairwise_singleton _ _, rfl, fun y hy => ?_⟩))
  cases List.mem_singleton.1 hy
  exact h
theorem Rt.more : ∀ {n m : Nat} {x : S26}, Rt n x → n ≤ m → Rt m x
  | 0, _, _, h, _ => h.elim
  | n + 1, 0, _, _, hl => absurd hl (Nat.not_succ_le_zero n)
  | n + 1, m + 1, x, h, hl => by
    have hk := rt_kids h
    have hl' : n ≤ m := Nat.le_of_succ_le_succ hl
    unfold Rt at h ⊢
    rcases h with h | h | ⟨h1, h2, _⟩ | ⟨h1, h2, h3, _⟩
    · exact .inl h
    · exact .inr (.inl h)
    · exact .inr (.inr (.inl ⟨h1, h2, fun y hy => (hk y hy).more hl'⟩))
    · exact .inr (.inr (.inr ⟨h1, h2, h3, fun y hy => (hk y hy).more hl'⟩))
theorem sm_tab {n : Nat} {x : S26} {s : ByteArray} (hs : s.size ≤ maxLen) (h : Sm n x) : Sm (n + 1) (tab1 s x) := by
  unfold Sm
  refine ⟨fun t ht => ?_, fun y hy => ?_⟩
  · cases List.mem_singleton.1 ht
    exact hs
  · cases List.mem_singleton.1 hy
    exact h
theorem rt_v3 : Rt 1 v3 := by
  unfold Rt
  exact .inl ⟨.inr (.inr (.inl rfl)), rfl, rfl⟩
theorem kv_v3 (w : World) : KV w (fun _ => False) v3 none 0 none 0 := ⟨Nat.le_refl _, fun W' _ => (Kd.R_reads' (Kd.R_nil Kd.string 9 W' 0 (fun _ => True))).2.2, Nat.le_refl _, fun W' _ => (Kd.R_reads' (Kd.R_nil k26 26 W' 0 (fun _ => True))).2.2⟩
/-- The table of the fixed path. -/
def tABC : S26 := pmap (namesB sAB) (tab1 sC v3)
theorem names_ab : namesB sAB = [⟨#[97]⟩, ⟨#[98]⟩] := by kernel_rfl
theorem tabc_is : tABC = tab1 ⟨#[97]⟩ (tab1 ⟨#[98]⟩ (tab1 sC v3)) := by
  unfold tABC
  rw [names_ab]
  rfl
theorem tabc_rt : Rt 50 tABC := by
  rw [tabc_is]
  exact (rt_tab _ (rt_tab _ (rt_tab _ rt_v3))).more (by decide)
theorem tabc_sm : Sm 50 tABC := by
  rw [tabc_is]
  refine sm_tab (by decide) (sm_tab (by decide) (sm_tab (by decide) ?_))
  unfold Sm
  exact ⟨fun s hs => (nomatch hs), fun y hy => (nomatch hy)⟩
theorem tabc_cnt : cnt 50 tABC ≤ 2000 := by
  rw [tabc_is]
  decide
theorem tabc_path : pathV tABC sABC = some v3 := by kernel_rfl
theorem okPath_true {s : ByteArray} (h : okPath s = true) : s.size ≤ 200 ∧ s ≠ ⟨#[]⟩ := by
  unfold okPath at h
  rw [Bool.and_eq_true, decide_eq_true_iff] at h
  refine ⟨h.2, fun e => ?_⟩
  subst e
  rw [show namesB ⟨#[]⟩ = [⟨#[]⟩] from by kernel_rfl] at h
  exact absurd h.1 (by simp)
/-! ### the law's walk -/
theorem IPost.none' {w w' : World} {e : Ending} (h : IPost w none e w') : ∃ (z : S26) (A5 : Option Addr) (c5 : Nat) (A6 : Option Addr) (c6 : Nat) (P : Nat → Prop), e = .returned (.tuple #[agg26 z A5 c5 A6 c6, .int .i64 1]) ∧ KV w' P z A5 c5 A6 c6 ∧ Below w.heap.size w w' := by
  obtain ⟨hb, ⟨v, y, n, h1, _⟩ | ⟨_, v, rfl, A5, c5, A6, c6, P, rfl, hk, _⟩⟩ := h
  · cases h1
  · exact ⟨_, A5, c5, A6, c6, P, rfl, hk, hb⟩
theorem IPost.some' {w w' : World} {e : Ending} {y : S26} (h : IPost w (some y) e w') : ∃ (n : Nat) (A5 : Option Addr) (c5 : Nat) (A6 : Option Addr) (c6 : Nat) (P : Nat → Prop), Rt n y ∧ e = .returned (.tuple #[agg26 (canon n y) A5 c5 A6 c6, .int .i64 0]) ∧ KV w' P (canon n y) A5 c5 A6 c6 ∧ Below w.heap.size w w' := by
  obtain ⟨hb, ⟨v, y2, n, h1, hr, _, rfl, A5, c5, A6, c6, P, rfl, hk, _⟩ | ⟨h1, _⟩⟩ := h
  · cases h1
    exact ⟨n, A5, c5, A6, c6, P, hr, rfl, hk, hb⟩
  · cases h1
theorem canon_v3 {n : Nat} (h : Rt n v3) : canon n v3 = v3 := by
  cases n with
  | zero => exact h.elim
  | succ n => rw [canon_2 rfl]; rfl
theorem tabc_7 : tABC.f0 = 7 := by rw [tabc_is]; rfl
/-- The table of the fixed path is made. -/
theorem pm_fixed (W : World) (b : Nat) (hb : W.heap.size = b) : Calls Try.prog 27 #[.string sAB, agg26 (tab1 sC v3) (some ⟨b, 0, none⟩) 1 (some ⟨b + 1, 0, none⟩) 1] ((W.alloc (.cells #[.string sC] 9)).alloc (row26 v3 none 0 none 0)) fun e w' =>
    Below W.heap.size W w' ∧ ∃ (A5 : Option Addr) (c5 : Nat) (A6 : Option Addr) (c6 : Nat) (P : Nat → Prop), e = .returned (agg26 tABC A5 c5 A6 c6) ∧ KV w' P tABC A5 c5 A6 c6 ∧ ∀ k, P k → k < w'.heap.size := by
  subst hb
  have ha : ((W.alloc (.cells #[.string sC] 9)).alloc (row26 v3 none 0 none 0)).heap[W.heap.size]? = some (.cells #[.string sC] 9) := blk_alloc (blk_new W _) _
  have hc : ((W.alloc (.cells #[.string sC] 9)).alloc (row26 v3 none 0 none 0)).heap[W.heap.size + 1]? = some (row26 v3 none 0 none 0) := blk_at _ (by simp)
  have hv := (kv_tab (kv_v3 _) ha hc).bound
  refine (pathmap_calls _ _ _ _ _ _ sAB _ hv (fun k hk => hk.2) (by decide) (by decide)).mono ?_
  rintro e w' ⟨hb, A5, c5, A6, c6, rfl, hk⟩
  exact ⟨below_step (below_alloc (below_alloc (Below.refl _ _) _) _) hb, A5, c5, A6, c6, _, rfl, hk.bound, fun k hk => hk.2⟩
/-- What is found at the fixed path. -/
theorem pv_fixed {w : World} {P : Nat → Prop} {A5 A6 : Option Addr} {c5 c6 : Nat} (hv : KV w P tABC A5 c5 A6 c6) (hP : ∀ k, P k → k < w.heap.size) : Calls Try.prog 28 #[agg26 tABC A5 c5 A6 c6, .string sABC] w fun e w' =>
    Below w.heap.size w w' ∧ ∃ (A5 : Option Addr) (c5 : Nat) (A6 : Option Addr) (c6 : Nat), e = .returned (.tuple #[.agg #[.int .i64 2, .bool false, .int .i64 3, .float .f64 0, .string ⟨#[]⟩, .slice A5 0 c5, .slice A6 0 c6], .int .i64 0]) := by
  refine (pathi_calls tABC A5 c5 A6 c6 P sABC w tabc_7 tabc_rt tabc_sm hv hP tabc_cnt (by decide) (by decide)).mono ?_
  intro e w' h
  rw [tabc_path] at h
  obtain ⟨n, E5, e5, E6, e6, Q, hr, rfl, _, hb⟩ := h.some'
  rw [canon_v3 hr]
  exact ⟨hb, E5, e5, E6, e6, rfl⟩
/-- The given table in its box. -/
structure LB (w : World) (x : S26) (A5 : Option Addr) (c5 : Nat) (A6 : Option Addr) (c6 : Nat) (W : World) : Prop where
  b0 : W.heap[w.heap.size]? = some (.cells #[.int .i64 x.f0, .bool x.f1, .int .i64 x.f2, .float .f64 x.f3, .string x.f4, .slice A5 x.f5.length c5, .slice A6 x.f6.length c6] 26 (0, 0))
  kv : KV W (fun k => k < w.heap.size) x A5 c5 A6 c6
  lt : w.heap.size < W.heap.size
  below : Below w.heap.size w W
theorem LB.start {w : World} {x : S26} {A5 A6 : Option Addr} {c5 c6 : Nat} (h : KV w (fun k => k < w.heap.size) x A5 c5 A6 c6) : LB w x A5 c5 A6 c6 (w.alloc (row26 x A5 c5 A6 c6)) :=
  ⟨blk_new w _, h.below (below_alloc (Below.refl _ _) _), by simp, below_alloc (Below.refl _ _) _⟩
theorem LB.later {w W W2 : World} {x : S26} {A5 A6 : Option Addr} {c5 c6 : Nat} (h : LB w x A5 c5 A6 c6 W) (hb : Below W.heap.size W W2) : LB w x A5 c5 A6 c6 W2 :=
  ⟨blk_below h.b0 hb, h.kv.below hb, Nat.lt_of_lt_of_le h.lt hb.size, below_step h.below hb⟩
theorem LB.pre {w W : World} {x : S26} {A5 A6 : Option Addr} {c5 c6 : Nat} (h : LB w x A5 c5 A6 c6 W) : ∀ k, k < w.heap.size → k < W.heap.size := fun _ hk => Nat.lt_trans hk h.lt
set_option maxRecDepth 100000 in
set_option maxHeartbeats 8000000 in
theorem path_law (x : S26) (A5 : Option Addr) (c5 : Nat) (A6 : Option Addr) (c6 : Nat) (s : ByteArray) (w : World) (g5 : Kd.string.C w A5 x.f5.length x.f5) (l5 : x.f5.length ≤ c5) (g6 : k26.C w A6 x.f6.length x.f6) (l6 : x.f6.length ≤ c6) (hz : Opens.Sz x) (_hs : s.size ≤ 140737488351232) :
    Calls Try.prog 8 #[agg26 x A5 c5 A6 c6, .string s] w fun e w' => e = .returned (.bool true) ∧ Below w.heap.size w w' := by
  have hv := KV.of_C l5 g5 l6 g6
  have H0 := Aside0.mk (LB.start hv)
  obtain ⟨b, hb⟩ := fits7_calls hv
  have HF := Aside0.mk hb
  have HSM := Aside0.mk (hz 50)
  clear g5 l5 g6 l6 hz hv hb
  go_enter Try.func8, Try.ntmps8
  cases b with
  | false =>
    go_wp2_with (go_at_call 11; go_must (refine (HF.out _ H0.out.below).mono ?_; rintro e w1 ⟨rfl, hb⟩; have H1 := Aside0.mk (H0.out.later hb); clear hb))
    go_ret
    exact ⟨rfl, H1.out.below⟩
  | true =>
    by_cases hbig : (2147483647 : Int) < (s.size : Int)
    · go_wp2_with (go_at_call 11; go_must (refine (HF.out _ H0.out.below).mono ?_; rintro e w1 ⟨rfl, hb⟩; have H1 := Aside0.mk (H0.out.later hb); clear hb))
      go_ret
      exact ⟨rfl, H1.out.below⟩
    · have HS := Aside0.mk (show s.size ≤ 2147483647 by omega)
      obtain ⟨t, ht⟩ : ∃ t, tbB x = t := ⟨_, rfl⟩
      have HT := Aside0.mk ht
      cases t with
      | false =>
        clear ht
        go_wp2_with (first
          | (go_at_call 11; go_must (refine (HF.out _ H0.out.below).mono ?_; rintro e w1 ⟨rfl, hb⟩; have H1 := Aside0.mk (H0.out.later hb); obtain ⟨⟨r0, r1, r2, r3, r4, r5, r6⟩, -⟩ := at7 H1.out.b0; clear hb))
          | (go_at_call 12; go_must (refine (tb_calls x A5 c5 A6 c6 _ _ H1.out.kv H1.out.pre).mono ?_; rintro e w2 ⟨rfl, hb⟩; rw [HT.out]; have H2 := Aside0.mk (H1.out.later hb); clear hb)))
        go_ret
        exact ⟨rfl, H2.out.below⟩
      | true =>
        obtain ⟨h7, hrt, hcnt⟩ := tb_true ht
        have H7 := Aside0.mk h7
        have HRT := Aside0.mk hrt
        have HCN := Aside0.mk hcnt
        clear ht h7 hrt hcnt
        obtain ⟨p, hp⟩ : ∃ p, okPath s = p := ⟨_, rfl⟩
        have HOK := Aside0.mk hp
        cases p with
        | false =>
          clear hp
          go_wp2_with (first
            | (go_at_call 11; go_must (refine (HF.out _ H0.out.below).mono ?_; rintro e w1 ⟨rfl, hb⟩; have H1 := Aside0.mk (H0.out.later hb); obtain ⟨⟨r0, r1, r2, r3, r4, r5, r6⟩, -⟩ := at7 H1.out.b0; clear hb))
            | (go_at_call 12; go_must (refine (tb_calls x A5 c5 A6 c6 _ _ H1.out.kv H1.out.pre).mono ?_; rintro e w2 ⟨rfl, hb⟩; rw [HT.out]; have H2 := Aside0.mk (H1.out.later hb); clear hb))
            | (go_at_call 23; go_must (refine (tbPath_calls s _ HS.out).mono ?_; rintro e w3 ⟨rfl, hb⟩; rw [HOK.out]; have H3 := Aside0.mk (H2.out.later hb); clear hb)))
          go_ret
          exact ⟨rfl, H3.out.below⟩
        | true =>
          obtain ⟨hs2, hne⟩ := okPath_true hp
          have HS2 := Aside0.mk hs2
          have HNE := Aside0.mk hne
          clear hp hs2 hne
          have HTB := Aside0.mk (⟨H7.out, 50, HRT.out⟩ : Tb x)
          have TOK := Aside0.mk trivial
          have KV3 := Aside0.mk (fun W : World => kv_v3 W)
          cases ho : pathV x s with
          | none =>
            have HO := Aside0.mk ho
            clear ho
            go_wp2_with (first
              | (go_at_call 11; go_must (refine (HF.out _ H0.out.below).mono ?_; rintro e w1 ⟨rfl, hb⟩; have H1 := Aside0.mk (H0.out.later hb); obtain ⟨⟨r0, r1, r2, r3, r4, r5, r6⟩, -⟩ := at7 H1.out.b0; clear hb))
              | (go_at_call 12; go_must (refine (tb_calls x A5 c5 A6 c6 _ _ H1.out.kv H1.out.pre).mono ?_; rintro e w2 ⟨rfl, hb⟩; rw [HT.out]; have H2 := Aside0.mk (H1.out.later hb); clear hb))
              | (go_at_call 23; go_must (refine (tbPath_calls s _ HS.out).mono ?_; rintro e w3 ⟨rfl, hb⟩; rw [HOK.out]; have H3 := Aside0.mk (H2.out.later hb); clear r0 r1 r2 r3 r4 r5 r6; obtain ⟨⟨r0, r1, r2, r3, r4, r5, r6⟩, -⟩ := at7 H3.out.b0; clear hb))
              | (go_at_call 28; have tok := TOK.out; go_must (refine (pathi_calls x A5 c5 A6 c6 _ s _ H7.out HRT.out HSM.out H3.out.kv H3.out.pre (Nat.le_trans HCN.out (by decide)) (Nat.le_trans HS2.out (by decide)) HNE.out).mono ?_; intro e w4 hi; rw [HO.out] at hi; obtain ⟨z, E5, e5, E6, e6, Q, rfl, hk, hb⟩ := hi.none'; have H4 := Aside0.mk (H3.out.later (below_step hb (below_alloc (Below.refl _ _) (row26 z E5 e5 E6 e6)))); clear r0 r1 r2 r3 r4 r5 r6; obtain ⟨⟨r0, r1, r2, r3, r4, r5, r6⟩, -⟩ := at7 H4.out.b0; clear hb hi hk TOK tok))
              | (go_at_call 29; go_must (refine (specp_calls x A5 c5 A6 c6 _ s _ HTB.out H4.out.kv H4.out.pre (Nat.le_trans HS2.out (by decide)) HNE.out).mono ?_; rw [HO.out]; rintro e w5 ⟨hb, y, F5, k5, F6, k6, rfl, hk, -⟩; have H5 := Aside0.mk (H4.out.later (below_step hb (below_alloc (Below.refl _ _) (row26 y F5 k5 F6 k6)))); clear hb hk))
              | (go_at_call 27; go_must (refine (pm_fixed (w5.alloc (row26 y F5 k5 F6 k6)) (w5.heap.size + 1) (by simp)).mono ?_; rintro e w6 ⟨hb, M5, m5, M6, m6, Q, rfl, hk, hq⟩; have H6 := Aside0.mk (H5.out.later hb); have HK6 := Aside0.mk hk; have HQ6 := Aside0.mk hq; clear hb hk hq))
              | (go_at_call 28; go_must (refine (pv_fixed HK6.out HQ6.out).mono ?_; rintro e w7 ⟨hb, N5, n5, N6, n6, rfl⟩; have H7 := Aside0.mk (H6.out.later (below_step hb (below_alloc (Below.refl _ _) (.cells #[.int .i64 2, .bool false, .int .i64 3, .float .f64 0, .string ⟨#[]⟩, .slice N5 0 n5, .slice N6 0 n6] 26)))); clear hb)))
            go_ret
            exact ⟨rfl, H7.out.below⟩
          | some y =>
            have HO := Aside0.mk ho
            clear ho
            go_wp2_with (first
              | (go_at_call 11; go_must (refine (HF.out _ H0.out.below).mono ?_; rintro e w1 ⟨rfl, hb⟩; have H1 := Aside0.mk (H0.out.later hb); obtain ⟨⟨r0, r1, r2, r3, r4, r5, r6⟩, -⟩ := at7 H1.out.b0; clear hb))
              | (go_at_call 12; go_must (refine (tb_calls x A5 c5 A6 c6 _ _ H1.out.kv H1.out.pre).mono ?_; rintro e w2 ⟨rfl, hb⟩; rw [HT.out]; have H2 := Aside0.mk (H1.out.later hb); clear hb))
              | (go_at_call 23; go_must (refine (tbPath_calls s _ HS.out).mono ?_; rintro e w3 ⟨rfl, hb⟩; rw [HOK.out]; have H3 := Aside0.mk (H2.out.later hb); clear r0 r1 r2 r3 r4 r5 r6; obtain ⟨⟨r0, r1, r2, r3, r4, r5, r6⟩, -⟩ := at7 H3.out.b0; clear hb))
              | (go_at_call 28; have tok := TOK.out; go_must (refine (pathi_calls x A5 c5 A6 c6 _ s _ H7.out HRT.out HSM.out H3.out.kv H3.out.pre (Nat.le_trans HCN.out (by decide)) (Nat.le_trans HS2.out (by decide)) HNE.out).mono ?_; intro e w4 hi; rw [HO.out] at hi; obtain ⟨n, E5, e5, E6, e6, Q, hr, rfl, hk, hb⟩ := hi.some'; obtain ⟨z, hz⟩ : ∃ z, canon n y = z := ⟨_, rfl⟩; have HZ := Aside0.mk hz; have HRY := Aside0.mk hr; rw [hz] at hk ⊢; have HG4 := Aside0.mk (blk_new w4 (row26 z E5 e5 E6 e6)); have HK4 := Aside0.mk (hk.below (below_alloc (Below.refl _ _) (row26 z E5 e5 E6 e6))); have H4 := Aside0.mk (H3.out.later (below_step hb (below_alloc (Below.refl _ _) (row26 z E5 e5 E6 e6)))); clear r0 r1 r2 r3 r4 r5 r6; obtain ⟨⟨r0, r1, r2, r3, r4, r5, r6⟩, -⟩ := at7 H4.out.b0; clear hb hi hk hr hz TOK tok))
              | (go_at_call 29; go_must (refine (specp_calls x A5 c5 A6 c6 _ s _ HTB.out H4.out.kv H4.out.pre (Nat.le_trans HS2.out (by decide)) HNE.out).mono ?_; rw [HO.out]; rintro e w5 ⟨hb, y', F5, k5, F6, k6, rfl, hk, hy⟩; obtain rfl := hy y rfl; have hb2 := below_step hb (below_alloc (Below.refl _ _) (row26 y' F5 k5 F6 k6)); have HG5 := Aside0.mk (blk_below HG4.out hb2); have HK5 := Aside0.mk (HK4.out.below hb2); have HW5 := Aside0.mk (blk_new w5 (row26 y' F5 k5 F6 k6)); have HV5 := Aside0.mk (hk.below (below_alloc (Below.refl _ _) (row26 y' F5 k5 F6 k6))); have H5 := Aside0.mk (H4.out.later hb2); clear hb hk hb2 hy))
              | (go_at_call 27; go_must (refine (pm_fixed (w5.alloc (row26 y' F5 k5 F6 k6)) (w5.heap.size + 1) (by simp)).mono ?_; rintro e w6 ⟨hb, M5, m5, M6, m6, Q2, rfl, hk, hq⟩; have H6 := Aside0.mk (H5.out.later hb); have HG6 := Aside0.mk (blk_below HG5.out hb); have HKK6 := Aside0.mk (HK5.out.below hb); have HW6 := Aside0.mk (blk_below HW5.out hb); have HV6 := Aside0.mk (HV5.out.below hb); have HK6 := Aside0.mk hk; have HQ6 := Aside0.mk hq; clear hb hk hq))
              | (go_at_call 28; go_must (refine (pv_fixed HK6.out HQ6.out).mono ?_; rintro e w7 ⟨hb, N5, n5, N6, n6, rfl⟩; have hb2 := below_step hb (below_alloc (Below.refl _ _) (.cells #[.int .i64 2, .bool false, .int .i64 3, .float .f64 0, .string ⟨#[]⟩, .slice N5 0 n5, .slice N6 0 n6] 26)); have HG7 := Aside0.mk (blk_below HG6.out hb2); have HK7 := Aside0.mk (HKK6.out.below hb2); have HW7 := Aside0.mk (blk_below HW6.out hb2); have HV7 := Aside0.mk (HV6.out.below hb2); have H8 := Aside0.mk (H6.out.later hb2); obtain ⟨⟨a0, a1, a2, a3, a4, a5, a6⟩, -⟩ := at7 HG7.out; obtain ⟨⟨b0, b1, b2, b3, b4, b5, b6⟩, -⟩ := at7 HW7.out; clear hb hb2))
              | (go_at_call 14; go_must (refine (got_calls n z E5 e5 E6 e6 y' F5 k5 F6 k6 _ _ _ (by rw [← HZ.out]; exact dp_canon HRY.out) HK7.out HV7.out).mono ?_; rintro e w8 ⟨rfl, hb⟩; rw [← HZ.out, same_canon HRY.out]; have H9 := Aside0.mk (H8.out.later hb); clear hb)))
            go_ret
            exact ⟨rfl, H9.out.below⟩
end Go.Proofs.Ytjfbjkodjjlkiaa.HVal
