/- FnTablesAgain: for all tables that its guards let in, the law returns true. -/
import Derived.Test.YtjfbjkodjjlkiaaCF
namespace Go.Proofs.Ytjfbjkodjjlkiaa.HVal
open Go.RowKit Go.WideMaps Go.Maps Go.Proofs.YtjfbjkodjjlkiaaW.PrintWords Go.Proofs.YtjfbjkodjjlkiaaW.PrintLast Go.Proofs.YtjfbjkodjjlkiaaW.PrintMore Go.Proofs.Ytjfbjkodjjlkiaa.Plain Go.Proofs.Ytjfbjkodjjlkiaa.GTab Go.Proofs.Ytjfbjkodjjlkiaa.Opens
attribute [local go_sem] run_store_flt

/-! ### plain facts -/
theorem trimL_map {f c : S26 → S26} : ∀ (ks : List ByteArray) (xs : List S26), (∀ x ∈ xs, one f (c x) = c (one f x) ∧ (c (one f x)).f0 = (one f x).f0) → trimL f ks (xs.map c) = (trimL f ks xs).map fun p => (p.1, c p.2)
  | [], _, _ => rfl
  | _ :: _, [], _ => rfl
  | k :: ks, x :: xs, h => by
    have h0 := h x List.mem_cons_self
    rw [List.map_cons, trimL, trimL, trimL_map ks xs fun y hy => h y (List.mem_cons_of_mem _ hy), List.map_append, h0.1, h0.2]
    split <;> rfl
theorem rt_one {n : Nat} {x : S26} (h : Rt n x) : Rt n (one (trim n) x) := by
  unfold one
  split
  · rename_i h7
    exact rt_trim h h7
  · exact h
theorem canon_trim : ∀ {n : Nat} {x : S26}, Rt n x → x.f0 = 7 → trim n (canon n x) = canon n (trim n x)
  | 0, _, h, _ => h.elim
  | n + 1, x, h, h7 => by
    have key := trimL_map (f := trim n) (c := canon n) x.f5 x.f6 fun y hy => by
      have ry := rt_kids h y hy
      refine ⟨?_, canon_f0 (rt_one ry)⟩
      unfold one
      rw [canon_f0 ry]
      split
      · rename_i y7
        exact canon_trim ry y7
      · rfl
    rw [canon_7 h7]
    show ({ z26 with f0 := 7, f5 := (trimL (trim n) x.f5 (x.f6.map (canon n))).map (·.1), f6 := (trimL (trim n) x.f5 (x.f6.map (canon n))).map (·.2) } : S26) = _
    rw [key, show canon (n + 1) (trim (n + 1) x) = _ from canon_7 rfl]
    unfold trim
    simp only [List.map_map]
    rfl
theorem nn_canon : ∀ {n : Nat} {x : S26}, Rt n x → x.f0 = 7 → NN n x → NN n (canon n x)
  | 0, _, h, _, _ => h.elim
  | n + 1, x, h, h7, hn => fun t y hy => by
    rw [ent_canon h7, find_map] at hy
    cases hx : findE (entE x) t with
    | none => rw [hx] at hy; cases hy
    | some v =>
      rw [hx] at hy
      have e : canon n v = y := Option.some.inj hy
      have rv := rt_kids h _ (ent_mem hx).2
      have h1 := hn t v hx
      rw [← e, canon_f0 rv]
      exact ⟨h1.1, fun v7 => nn_canon rv v7 (h1.2 v7)⟩
theorem again_plain {c c' : Nat} {mg : Bool} {x y : S26} (hx : Tq c x) (hy : Tq c' y) (hs : sameB 50 (trim 50 x) x = true) : canon 50 (coal 50 mg (canon 50 (coal 50 mg x y)) (trim 50 y)) = canon 50 (coal 50 mg x y) := by
  have rX := rt_coal (mg := mg) hx.rt hy.rt hx.f7 hy.f7
  have X7 := coal_f0 (n := 50) (mg := mg) (s := y) hx.f7
  have rt := rt_trim hy.rt hy.f7
  have t7 : (trim 50 y).f0 = 7 := rfl
  have xc := rt_canon hx.rt
  have yc := rt_canon hy.rt
  have x7 := (canon_f0 hx.rt).trans hx.f7
  have y7 := (canon_f0 hy.rt).trans hy.f7
  rw [canon_left rX rt X7 t7, ← canon_coal rX rt X7 t7, ← canon_coal hx.rt hy.rt hx.f7 hy.f7, ← canon_trim hy.rt hy.f7]
  exact coal_again xc yc x7 y7 (nn_canon hx.rt hx.f7 (nn_of_same hx.rt hx.f7 hs)) (canon_two hy.rt)
theorem trim_tq {c : Nat} {x : S26} (hx : Tq c x) (hs : Sq 50 (trim 50 x)) : Tq c (trim 50 x) := ⟨rfl, rt_trim hx.rt hx.f7, hs, Nat.le_trans (cnt_trim 50 x) hx.cn⟩
theorem sq_trim : ∀ {n : Nat} {x : S26}, Sq n x → Sq n (trim n x)
  | 0, _, h => h
  | n + 1, x, h => by
    unfold Sq at h
    show Sq (n + 1) { z26 with f0 := 7, f5 := (trimL (trim n) x.f5 x.f6).map (·.1), f6 := (trimL (trim n) x.f5 x.f6).map (·.2) }
    unfold Sq
    refine ⟨fun s hs => ?_, fun y hy => ?_⟩
    · obtain ⟨p, hp, rfl⟩ := List.mem_map.1 hs
      obtain ⟨i, y, h1, _⟩ := mem_trimL.1 hp
      exact h.1 _ (List.mem_of_getElem? h1)
    · obtain ⟨p, hp, rfl⟩ := List.mem_map.1 hy
      obtain ⟨i, y, _, h2, h3, _⟩ := mem_trimL.1 hp
      rw [h3]
      unfold one
      split
      · exact sq_trim (h.2 _ (List.mem_of_getElem? h2))
      · exact h.2 _ (List.mem_of_getElem? h2)

/-! ### the law's walk -/
structure L2 (w : World) (x : S26) (A5 : Option Addr) (a5 : Nat) (A6 : Option Addr) (a6 : Nat) (y : S26) (B5 : Option Addr) (b5 : Nat) (B6 : Option Addr) (b6 : Nat) (W : World) : Prop where
  x : BX W w.heap.size x A5 a5 A6 a6
  y : BX W (w.heap.size + 1) y B5 b5 B6 b6
  below : Below w.heap.size w W
section
variable {w W W2 : World} {x y u : S26} {A5 A6 B5 B6 C5 C6 : Option Addr} {a5 a6 b5 b6 c5 c6 b : Nat}
theorem L2.later (h : L2 w x A5 a5 A6 a6 y B5 b5 B6 b6 W) (hb : Below W.heap.size W W2) : L2 w x A5 a5 A6 a6 y B5 b5 B6 b6 W2 := ⟨h.x.later hb, h.y.later hb, below_step h.below hb⟩
theorem L2.start (hx : KV w (fun k => k < w.heap.size) x A5 a5 A6 a6) (hy : KV w (fun k => k < w.heap.size) y B5 b5 B6 b6) : L2 w x A5 a5 A6 a6 y B5 b5 B6 b6 ((w.alloc (row26 x A5 a5 A6 a6)).alloc (row26 y B5 b5 B6 b6)) := by
  have hb := below_alloc (below_alloc (Below.refl w.heap.size w) (row26 x A5 a5 A6 a6)) (row26 y B5 b5 B6 b6)
  exact ⟨⟨blk_alloc (blk_new w _) _, _, hx.below hb, fun k hk => Nat.lt_of_lt_of_le hk hb.size⟩, ⟨blk_at _ (by simp), _, hy.below hb, fun k hk => Nat.lt_of_lt_of_le hk hb.size⟩, hb⟩
/-- A value put into a box that was made ahead of it. -/
theorem BX.put {Q : Nat → Prop} (hz : W.heap[b]? = some (.cells #[.int .i64 0, .bool false, .int .i64 0, .float .f64 0, .string ⟨#[]⟩, .slice none 0 0, .slice none 0 0] 26 (0, 0))) (hk : KV W Q u C5 c5 C6 c6) (hq : ∀ k, Q k → b < k ∧ k < W.heap.size) : BX (putV W b u C5 c5 C6 c6) b u C5 c5 C6 c6 :=
  ⟨putV_at hz u C5 c5 C6 c6, Q, hk.step (fun k hk _ => putV_far (by have := (hq k hk).1; omega) u C5 c5 C6 c6), fun k hk => by
    have h := (hq k hk).2
    have e : (putV W b u C5 c5 C6 c6).heap.size = W.heap.size := by unfold putV put26; simp
    omega⟩
theorem BX.aside {u' : S26} {D5 D6 : Option Addr} {d5 d6 b' : Nat} (h : BX W b' u' D5 d5 D6 d6) (hne : b' ≠ b) (hQ : ∃ Q, KV W Q u' D5 d5 D6 d6 ∧ ∀ k, Q k → k < b) (hb : b ≤ W.heap.size) : BX (putV W b u C5 c5 C6 c6) b' u' D5 d5 D6 d6 := by
  obtain ⟨Q, hk, hq⟩ := hQ
  have e : (putV W b u C5 c5 C6 c6).heap.size = W.heap.size := by unfold putV put26; simp
  exact ⟨(putV_far hne u C5 c5 C6 c6).trans h.at_, Q, hk.step (fun k hk _ => putV_far (by have := hq k hk; omega) u C5 c5 C6 c6), fun k hk => by have := hq k hk; omega⟩
end
section
variable {w W w4 : World} {b b1 : Nat} {u z : S26} {D5 D6 G5 G6 : Option Addr} {d5 d6 g5 g6 : Nat} {Qg : Nat → Prop}
/-- The value is put into the box that was made ahead of the call. -/
theorem fin_in (hb0 : Below w.heap.size w W) (hwb : w.heap.size ≤ b) (hz : W.heap[b]? = some (.cells #[.int .i64 0, .bool false, .int .i64 0, .float .f64 0, .string ⟨#[]⟩, .slice none 0 0, .slice none 0 0] 26 (0, 0))) (ha : W.heap[b1]? = some (box26 u D5 d5 D6 d6)) (hne : b1 ≠ b) (hQ : ∃ Q : Nat → Prop, KV W Q u D5 d5 D6 d6 ∧ ∀ k, Q k → k < b) (hb : Below W.heap.size W w4) (hk : KV w4 Qg z G5 g5 G6 g6) (hq : ∀ k, Qg k → W.heap.size ≤ k ∧ k < w4.heap.size) :
    w4.heap[b]? = some (.cells #[.int .i64 0, .bool false, .int .i64 0, .float .f64 0, .string ⟨#[]⟩, .slice none 0 0, .slice none 0 0] 26 (0, 0)) ∧ BX (putV w4 b z G5 g5 G6 g6) b z G5 g5 G6 g6 ∧ BX (putV w4 b z G5 g5 G6 g6) b1 u D5 d5 D6 d6 ∧ Below w.heap.size w (putV w4 b z G5 g5 G6 g6) := by
  have hbl := blk_lt hz
  have hz4 := blk_below hz hb
  obtain ⟨Q, k1, q1⟩ := hQ
  have k4 := k1.below hb
  have hs := hb.size
  refine ⟨hz4, BX.put hz4 hk fun k q => ⟨by have := (hq k q).1; omega, (hq k q).2⟩, BX.aside ⟨blk_below ha hb, Q, k4, fun k q => by have := q1 k q; omega⟩ hne ⟨Q, k4, q1⟩ (by omega), putV_below (below_step hb0 hb) hwb z G5 g5 G6 g6⟩
theorem fin_out (hb0 : Below w.heap.size w W) (he : BX W b1 u D5 d5 D6 d6) (hb : Below W.heap.size W w4) (hk : KV w4 Qg z G5 g5 G6 g6) (hq : ∀ k, Qg k → W.heap.size ≤ k ∧ k < w4.heap.size) :
    BX (w4.alloc (row26 z G5 g5 G6 g6)) w4.heap.size z G5 g5 G6 g6 ∧ BX (w4.alloc (row26 z G5 g5 G6 g6)) b1 u D5 d5 D6 d6 ∧ Below w.heap.size w (w4.alloc (row26 z G5 g5 G6 g6)) := by
  have hb2 := below_step hb (below_alloc (Below.refl w4.heap.size w4) (row26 z G5 g5 G6 g6))
  exact ⟨BX.made hk fun k q => (hq k q).2, he.later hb2, below_step hb0 hb2⟩
end
section
variable {W : World} {b : Nat} {x y : S26} {A5 A6 B5 B6 : Option Addr} {c5 c6 d5 d6 : Nat}
theorem trim_bx {c : Nat} (h : BX W b x A5 c5 A6 c6) (hx : Tq c x) (hc : c ≤ 1000) : Calls Try.prog 15 #[agg26 x A5 c5 A6 c6] W fun e w' => Below W.heap.size W w' ∧ ∃ M5 m5 M6 m6, ∃ Q : Nat → Prop, e = .returned (agg26 (trim 50 x) M5 m5 M6 m6) ∧ (KV w' Q (trim 50 x) M5 m5 M6 m6 ∧ ∀ k, Q k → k < w'.heap.size) := by
  obtain ⟨Q, hk, hq⟩ := h.kv
  refine (trim_of 50 x A5 c5 A6 c6 Q W hx.f7 hx.rt (Nat.le_trans hx.cn (by omega)) hk hq).mono ?_
  rintro e w' ⟨hb, M5, m5, M6, m6, rfl, hk'⟩
  have h1 := hk'.bound
  exact ⟨hb, M5, m5, M6, m6, _, rfl, h1, fun k q => q.2⟩
theorem same_kv {Q : Nat → Prop} (h : KV W Q x A5 c5 A6 c6 ∧ ∀ k, Q k → k < W.heap.size) (h' : BX W b y B5 d5 B6 d6) (hd : Dp 50 x) : Calls Try.prog 21 #[agg26 x A5 c5 A6 c6, agg26 y B5 d5 B6 d6] W (SamePost W (sameB 50 x y)) := by
  obtain ⟨Q', hk', hq'⟩ := h'.kv
  exact same_of 50 x A5 c5 A6 c6 y B5 d5 B6 d6 Q Q' W hd h.1 hk'
theorem got_bx {b' : Nat} (h : BX W b x A5 c5 A6 c6) (h' : BX W b' y B5 d5 B6 d6) (hd : Dp 50 x) : Calls Try.prog 14 #[agg26 x A5 c5 A6 c6, .int .i64 0, agg26 y B5 d5 B6 d6] W (SamePost W (sameB 50 x y)) := by
  obtain ⟨Q, hk, hq⟩ := h.kv
  obtain ⟨Q', hk', hq'⟩ := h'.kv
  exact got_calls 50 x A5 c5 A6 c6 y B5 d5 B6 d6 Q Q' W hd hk hk'
/-- impl.CoalesceTables or impl.MergeTables of a value in a box and one that is there. -/
theorem join_bx (F : Nat) (mg : Bool) (hF : (F = 17 ∧ mg = false) ∨ (F = 22 ∧ mg = true)) {c c' : Nat} {Q' : Nat → Prop} (h : BX W b x A5 c5 A6 c6) (h' : KV W Q' y B5 d5 B6 d6 ∧ ∀ k, Q' k → k < W.heap.size) (hx : Tq c x) (hy : Tq c' y) (hc : c ≤ 1000) (hc' : c' ≤ 1000) : Calls Try.prog F #[agg26 x A5 c5 A6 c6, agg26 y B5 d5 B6 d6] W (OkNew W (canon 50 (coal 50 mg x y))) := by
  obtain ⟨Q, hk, hq⟩ := h.kv
  rcases hF with ⟨rfl, rfl⟩ | ⟨rfl, rfl⟩
  · exact ctn_calls x A5 c5 A6 c6 Q y B5 d5 B6 d6 Q' W hx.f7 hx.rt hx.sq hk hq (Nat.le_trans hx.cn hc) hy.f7 hy.rt hy.sq h'.1 h'.2 (Nat.le_trans hy.cn hc')
  · exact mtn_calls x A5 c5 A6 c6 Q y B5 d5 B6 d6 Q' W hx.f7 hx.rt hx.sq hk hq (Nat.le_trans hx.cn hc) hy.f7 hy.rt hy.sq h'.1 h'.2 (Nat.le_trans hy.cn hc')
end
set_option maxRecDepth 100000 in
set_option maxHeartbeats 8000000 in
theorem again_law (x : S26) (A5 : Option Addr) (a5 : Nat) (A6 : Option Addr) (a6 : Nat) (y : S26) (B5 : Option Addr) (b5 : Nat) (B6 : Option Addr) (b6 : Nat) (mg : Bool) (w : World) (gx5 : Kd.string.C w A5 x.f5.length x.f5) (lx5 : x.f5.length ≤ a5) (gx6 : k26.C w A6 x.f6.length x.f6) (lx6 : x.f6.length ≤ a6) (zx : Szq x) (gy5 : Kd.string.C w B5 y.f5.length y.f5) (ly5 : y.f5.length ≤ b5) (gy6 : k26.C w B6 y.f6.length y.f6) (ly6 : y.f6.length ≤ b6) (zy : Szq y) :
    Calls Try.prog 6 #[agg26 x A5 a5 A6 a6, agg26 y B5 b5 B6 b6, .bool mg] w fun e w' => e = .returned (.bool true) ∧ Below w.heap.size w w' := by
  have hx := KV.of_C lx5 gx5 lx6 gx6
  have hy := KV.of_C ly5 gy5 ly6 gy6
  have H0 := Aside0.mk (L2.start hx hy)
  obtain ⟨fx, hfx⟩ := fits7_calls hx
  obtain ⟨fy, hfy⟩ := fits7_calls hy
  have Fx := Aside0.mk hfx
  have Fy := Aside0.mk hfy
  have Zx := Aside0.mk (zx 50)
  have Zy := Aside0.mk (zy 50)
  clear gx5 lx5 gx6 lx6 gy5 ly5 gy6 ly6 hx hy hfx hfy zx zy
  obtain ⟨⟨r0, r1, r2, r3, r4, r5, r6⟩, -⟩ := at7 H0.out.x.at_
  obtain ⟨⟨s0, s1, s2, s3, s4, s5, s6⟩, -⟩ := at7 H0.out.y.at_
  go_enter Try.func6, Try.ntmps6
  go_upto_region 1 with fail
  go_cut [19] from 12 to 19 (fun c wx => c = .bool (!(fx && fy)) ∧ Aside0 (L2 w x A5 a5 A6 a6 y B5 b5 B6 b6 wx))
  case first =>
    cases fx
    case false =>
      go_wp2_with (first
        | (go_at_call_of 11 x; (refine (Fx.out _ H0.out.below).mono ?_; rintro e w' ⟨rfl, hb⟩; have H1 := Aside0.mk (H0.out.later hb); clear hb; clear r0 r1 r2 r3 r4 r5 r6 s0 s1 s2 s3 s4 s5 s6; obtain ⟨⟨r0, r1, r2, r3, r4, r5, r6⟩, -⟩ := at7 H1.out.x.at_; obtain ⟨⟨s0, s1, s2, s3, s4, s5, s6⟩, -⟩ := at7 H1.out.y.at_)))
      go_meet
      exact ⟨rfl, H1⟩
    case true =>
      cases fy
      all_goals
        go_wp2_with (first
          | (go_at_call_of 11 x; (refine (Fx.out _ H0.out.below).mono ?_; rintro e w' ⟨rfl, hb⟩; have H1 := Aside0.mk (H0.out.later hb); clear hb; clear r0 r1 r2 r3 r4 r5 r6 s0 s1 s2 s3 s4 s5 s6; obtain ⟨⟨r0, r1, r2, r3, r4, r5, r6⟩, -⟩ := at7 H1.out.x.at_; obtain ⟨⟨s0, s1, s2, s3, s4, s5, s6⟩, -⟩ := at7 H1.out.y.at_))
          | (go_at_call_of 11 y; (refine (Fy.out _ H1.out.below).mono ?_; rintro e w' ⟨rfl, hb⟩; have H2 := Aside0.mk (H1.out.later hb); clear hb; clear r0 r1 r2 r3 r4 r5 r6 s0 s1 s2 s3 s4 s5 s6; obtain ⟨⟨r0, r1, r2, r3, r4, r5, r6⟩, -⟩ := at7 H2.out.x.at_; obtain ⟨⟨s0, s1, s2, s3, s4, s5, s6⟩, -⟩ := at7 H2.out.y.at_)))
        go_meet
        exact ⟨rfl, H2⟩
  case rest =>
    obtain ⟨rfl, HL⟩ := hcut
    clear H0 r0 r1 r2 r3 r4 r5 r6 s0 s1 s2 s3 s4 s5 s6 Fx Fy
    obtain ⟨q, hq⟩ : ∃ q, (!(fx && fy)) = q := ⟨_, rfl⟩
    rw [hq]
    clear hq
    cases q
    case true =>
      go_wp2
      go_ret
      exact ⟨rfl, HL.out.below⟩
    case false =>
      obtain ⟨tx, htx⟩ : ∃ t, tbB x = t := ⟨_, rfl⟩
      obtain ⟨ty, hty⟩ : ∃ t, tbB y = t := ⟨_, rfl⟩
      obtain ⟨sx, hsx⟩ : ∃ t, sameB 50 (trim 50 x) x = t := ⟨_, rfl⟩
      have Tx := Aside0.mk htx
      have Ty := Aside0.mk hty
      have SX := Aside0.mk hsx
      have QF := Aside0.mk (show ∀ (v : S26), tbB v = true → Sq 50 v → Tq 300 v from fun v hv hs => ⟨(tb_true hv).1, (tb_true hv).2.1, hs, (tb_true hv).2.2⟩)
      clear htx hty hsx
      go_upto_region 3 with fail
      go_cut [34] from 20 to 34 (fun c wx => c = .bool (!(tx && ty && sx)) ∧ Aside0 (L2 w x A5 a5 A6 a6 y B5 b5 B6 b6 wx))
      case first =>
        obtain ⟨⟨r0, r1, r2, r3, r4, r5, r6⟩, -⟩ := at7 HL.out.x.at_
        obtain ⟨⟨s0, s1, s2, s3, s4, s5, s6⟩, -⟩ := at7 HL.out.y.at_
        cases tx
        case false =>
          go_region_with (first
            | (go_at_call_of 12 x; (refine (tb_bx (HL.out.x.later (below_drew (Below.refl _ _)))).mono ?_; rintro e w1 ⟨rfl, hb⟩; rw [Tx.out]; have H1 := Aside0.mk (HL.out.later (Below.drew_then hb)); clear hb; clear r0 r1 r2 r3 r4 r5 r6 s0 s1 s2 s3 s4 s5 s6; obtain ⟨⟨r0, r1, r2, r3, r4, r5, r6⟩, -⟩ := at7 H1.out.x.at_; obtain ⟨⟨s0, s1, s2, s3, s4, s5, s6⟩, -⟩ := at7 H1.out.y.at_)))
          all_goals (go_wp2_with fail; go_meet; exact ⟨rfl, H1⟩)
        case true =>
          have Qx := Aside0.mk (QF.out x Tx.out Zx.out)
          have DX := Aside0.mk (dp_of (rt_trim Qx.out.rt Qx.out.f7))
          cases ty
          case false =>
            go_region_with (first
              | (go_at_call_of 12 x; (refine (tb_bx (HL.out.x.later (below_drew (Below.refl _ _)))).mono ?_; rintro e w1 ⟨rfl, hb⟩; rw [Tx.out]; have H1 := Aside0.mk (HL.out.later (Below.drew_then hb)); clear hb; clear r0 r1 r2 r3 r4 r5 r6 s0 s1 s2 s3 s4 s5 s6; obtain ⟨⟨r0, r1, r2, r3, r4, r5, r6⟩, -⟩ := at7 H1.out.x.at_; obtain ⟨⟨s0, s1, s2, s3, s4, s5, s6⟩, -⟩ := at7 H1.out.y.at_))
              | (go_at_call_of 12 y; (refine (tb_bx H1.out.y).mono ?_; rintro e w2 ⟨rfl, hb⟩; rw [Ty.out]; have H2 := Aside0.mk (H1.out.later hb); clear hb; clear r0 r1 r2 r3 r4 r5 r6 s0 s1 s2 s3 s4 s5 s6; obtain ⟨⟨r0, r1, r2, r3, r4, r5, r6⟩, -⟩ := at7 H2.out.x.at_; obtain ⟨⟨s0, s1, s2, s3, s4, s5, s6⟩, -⟩ := at7 H2.out.y.at_)))
            all_goals (go_wp2_with fail; go_meet; exact ⟨rfl, H2⟩)
          case true =>
            cases sx
            all_goals
              go_region_with (first
                | (go_at_call_of 12 x; (refine (tb_bx (HL.out.x.later (below_drew (Below.refl _ _)))).mono ?_; rintro e w1 ⟨rfl, hb⟩; rw [Tx.out]; have H1 := Aside0.mk (HL.out.later (Below.drew_then hb)); clear hb; clear r0 r1 r2 r3 r4 r5 r6 s0 s1 s2 s3 s4 s5 s6; obtain ⟨⟨r0, r1, r2, r3, r4, r5, r6⟩, -⟩ := at7 H1.out.x.at_; obtain ⟨⟨s0, s1, s2, s3, s4, s5, s6⟩, -⟩ := at7 H1.out.y.at_))
                | (go_at_call_of 12 y; (refine (tb_bx H1.out.y).mono ?_; rintro e w2 ⟨rfl, hb⟩; rw [Ty.out]; have H2 := Aside0.mk (H1.out.later hb); clear hb; clear r0 r1 r2 r3 r4 r5 r6 s0 s1 s2 s3 s4 s5 s6; obtain ⟨⟨r0, r1, r2, r3, r4, r5, r6⟩, -⟩ := at7 H2.out.x.at_; obtain ⟨⟨s0, s1, s2, s3, s4, s5, s6⟩, -⟩ := at7 H2.out.y.at_))
                | (go_at_call 15; go_must (refine (trim_bx H2.out.x Qx.out (by decide)).mono ?_; rintro e w3 ⟨hb, M5, m5, M6, m6, Qm, rfl, hk⟩; have H3 := Aside0.mk (H2.out.later hb); have HK3 := Aside0.mk hk; clear hb hk; clear r0 r1 r2 r3 r4 r5 r6 s0 s1 s2 s3 s4 s5 s6; obtain ⟨⟨r0, r1, r2, r3, r4, r5, r6⟩, -⟩ := at7 H3.out.x.at_; obtain ⟨⟨s0, s1, s2, s3, s4, s5, s6⟩, -⟩ := at7 H3.out.y.at_))
                | (go_at_call 21; go_must (refine (same_kv HK3.out H3.out.x DX.out).mono ?_; rintro e w4 ⟨rfl, hb⟩; rw [SX.out]; have H4 := Aside0.mk (H3.out.later hb); clear hb)))
              all_goals (go_wp2_with fail; go_meet; exact ⟨rfl, H4⟩)
      case rest =>
        obtain ⟨rfl, HM⟩ := hcut
        clear HL
        obtain ⟨q, hq⟩ : ∃ q, (!(tx && ty && sx)) = q := ⟨_, rfl⟩
        rw [hq]
        cases q
        case true =>
          go_wp2
          go_ret
          exact ⟨rfl, HM.out.below⟩
        case false =>
          have hall : tx = true ∧ ty = true ∧ sx = true := by revert hq; cases tx <;> cases ty <;> cases sx <;> simp
          have Qx := Aside0.mk (QF.out x (Tx.out.trans hall.1) Zx.out)
          have Qy := Aside0.mk (QF.out y (Ty.out.trans hall.2.1) Zy.out)
          have SX2 := Aside0.mk (SX.out.trans hall.2.2)
          clear hq hall SX
          have SX := SX2
          clear SX2
          cases mg
          case false =>
            have HSM := again_plain (mg := false) Qx.out Qy.out SX.out
            have Q1 := join_tq (mg := false) Qx.out Qy.out
            obtain ⟨u1, hu1⟩ : ∃ u, canon 50 (coal 50 false x y) = u := ⟨_, rfl⟩
            rw [hu1] at HSM Q1
            have SU := Aside0.mk (show sameB 50 u1 u1 = true by rw [← hu1]; exact same_self (rt_coal Qx.out.rt Qy.out.rt Qx.out.f7 Qy.out.f7))
            have QA := Aside0.mk Q1
            have QT := Aside0.mk (trim_tq Qy.out (sq_trim Qy.out.sq))
            have U1 := Aside0.mk hu1
            have U2 := Aside0.mk HSM
            have D7 := Aside0.mk (decide_eq_true Q1.f7)
            have DP := Aside0.mk (dp_of Q1.rt)
            clear HSM Q1 hu1
            obtain ⟨⟨r0, r1, r2, r3, r4, r5, r6⟩, -⟩ := at7 HM.out.x.at_
            obtain ⟨⟨s0, s1, s2, s3, s4, s5, s6⟩, -⟩ := at7 HM.out.y.at_
            go_upto_region 9 with (go_at_call 17; go_must (refine (join_bx 17 false (by decide) HM.out.x HM.out.y.kv.choose_spec Qx.out Qy.out (by decide) (by decide)).mono ?_; rw [U1.out]; rintro e w1 ⟨hb, D5, d5, D6, d6, Qa, rfl, hk, hq⟩; have hb3 := below_step hb (below_alloc (Below.refl w1.heap.size w1) (row26 u1 D5 d5 D6 d6)); have H1 := Aside0.mk (HM.out.later hb3); have E1 := Aside0.mk (BX.made hk (fun k q => (hq k q).2)); clear r0 r1 r2 r3 r4 r5 r6 s0 s1 s2 s3 s4 s5 s6; clear hb hb3 hk hq))
            obtain ⟨b1, hb1⟩ : ∃ b, w1.heap.size = b := ⟨_, rfl⟩
            obtain ⟨w2, hw2⟩ : ∃ W, w1.alloc (row26 u1 D5 d5 D6 d6) = W := ⟨_, rfl⟩
            have HBL := Aside0.mk (show b1 < w2.heap.size by rw [← hw2, ← hb1, World.size_alloc]; exact Nat.lt_succ_self _)
            rw [hw2] at H1 E1
            rw [hb1] at E1
            rw [hb1]
            unfold row26 at hw2
            rw [hw2]
            clear hb1 hw2
            go_cut [10, 11] (fun p q wx => ∃ (b : Nat) (G5 : Option Addr) (g5 : Nat) (G6 : Option Addr) (g6 : Nat), p = .pointer (some ⟨b, 0, none⟩) ∧ q = .int .i64 0 ∧ Aside0 (BX wx b u1 G5 g5 G6 g6) ∧ Aside0 (BX wx b1 u1 D5 d5 D6 d6) ∧ Aside0 (Below w.heap.size w wx))
            case first =>
              obtain ⟨⟨r0, r1, r2, r3, r4, r5, r6⟩, -⟩ := at7 E1.out.at_
              obtain ⟨⟨i0, i1, i2, i3, i4, i5, i6⟩, -⟩ := at7 (blk_alloc E1.out.at_ row0)
              obtain ⟨⟨s0, s1, s2, s3, s4, s5, s6⟩, -⟩ := at7 H1.out.y.at_
              obtain ⟨⟨j0, j1, j2, j3, j4, j5, j6⟩, -⟩ := at7 (blk_alloc H1.out.y.at_ row0)
              have HTR := Aside0.mk (fun W (hb : Below w2.heap.size w2 W) => trim_bx (H1.out.y.later hb) Qy.out (by decide))
              have HWB := Aside0.mk H1.out.below.size
              go_region_with (first
                | (go_at_call 15; refine (HTR.out _ ?_).mono ?_; (first
                  | (exact below_drew (Below.refl _ _); rintro e w3 ⟨hb, M5, m5, M6, m6, Qm, rfl, hk⟩; have hb2 := Below.drew_then hb; have HB3 := Aside0.mk (H1.out.later hb2).below; have E3 := Aside0.mk (E1.out.later hb2); have HCT := Aside0.mk (fun W (hb : Below w3.heap.size w3 W) => join_bx 17 false (by decide) (E3.out.later hb) ⟨hk.1.below hb, fun k q => Nat.lt_of_lt_of_le (hk.2 k q) hb.size⟩ QA.out QT.out (by decide) (by decide)); clear hb hb2 hk HTR r0 r1 r2 r3 r4 r5 r6 i0 i1 i2 i3 i4 i5 i6 s0 s1 s2 s3 s4 s5 s6 j0 j1 j2 j3 j4 j5 j6; obtain ⟨⟨r0, r1, r2, r3, r4, r5, r6⟩, -⟩ := at7 E3.out.at_; obtain ⟨⟨i0, i1, i2, i3, i4, i5, i6⟩, -⟩ := at7 (blk_alloc E3.out.at_ row0))
                  | (exact below_drew (below_alloc (Below.refl _ _) row0); rintro e w3 ⟨hb, M5, m5, M6, m6, Qm, rfl, hk⟩; have hb2 := below_step (below_drew (below_alloc (Below.refl w2.heap.size w2) row0)) hb; have HZ2 := Aside0.mk (blk_below (blk_drew (blk_new w2 row0)) hb); have HB3 := Aside0.mk (H1.out.later hb2).below; have HQ3 := Aside0.mk (show ∃ Q : Nat → Prop, KV w3 Q u1 D5 d5 D6 d6 ∧ ∀ k, Q k → k < w2.heap.size from by obtain ⟨Q, h1, h2⟩ := E1.out.kv; exact ⟨Q, h1.below hb2, h2⟩); have E3 := Aside0.mk (E1.out.later hb2); have HCT := Aside0.mk (fun W (hb : Below w3.heap.size w3 W) => join_bx 17 false (by decide) (E3.out.later hb) ⟨hk.1.below hb, fun k q => Nat.lt_of_lt_of_le (hk.2 k q) hb.size⟩ QA.out QT.out (by decide) (by decide)); clear hb hb2 hk HTR r0 r1 r2 r3 r4 r5 r6 i0 i1 i2 i3 i4 i5 i6 s0 s1 s2 s3 s4 s5 s6 j0 j1 j2 j3 j4 j5 j6; obtain ⟨⟨r0, r1, r2, r3, r4, r5, r6⟩, -⟩ := at7 E3.out.at_)))
                | (go_at_call 17; refine (HCT.out _ ?_).mono ?_; (first
                  | (exact (fun _ => Below.refl _ _) HZ2; rw [U2.out]; rintro e w4 ⟨hb, G5, g5, G6, g6, Qg, rfl, hk, hq⟩; have hf := fin_in HB3.out HWB.out HZ2.out E3.out.at_ (Nat.ne_of_lt HBL.out) HQ3.out hb hk hq; unfold putV put26 at hf; obtain ⟨⟨n0, n1, n2, n3, n4, n5, n6⟩, m0, m1, m2, m3, m4, m5', m6'⟩ := at7 hf.1; have HF := Aside0.mk hf.2.1; have EO := Aside0.mk hf.2.2.1; have HBE := Aside0.mk hf.2.2.2; clear hf hb hk hq)
                  | (exact Below.refl _ _; rw [U2.out]; rintro e w4 ⟨hb, G5, g5, G6, g6, Qg, rfl, hk, hq⟩; have hf := fin_out HB3.out E3.out hb hk hq; have HF := Aside0.mk hf.1; have EO := Aside0.mk hf.2.1; have HBE := Aside0.mk hf.2.2; clear hf hb hk hq)
                  | (exact below_alloc (Below.refl _ _) row0; rw [U2.out]; rintro e w4 ⟨hb, G5, g5, G6, g6, Qg, rfl, hk, hq⟩; have hf := fin_in (below_step HB3.out (below_alloc (Below.refl _ _) row0)) HB3.out.size (blk_new w3 row0) (blk_alloc E3.out.at_ row0) (Nat.ne_of_lt (blk_lt E3.out.at_)) (by obtain ⟨Q, h1, h2⟩ := E3.out.kv; exact ⟨Q, h1.below (below_alloc (Below.refl _ _) row0), h2⟩) hb hk hq; unfold putV put26 at hf; obtain ⟨⟨n0, n1, n2, n3, n4, n5, n6⟩, m0, m1, m2, m3, m4, m5', m6'⟩ := at7 hf.1; have HF := Aside0.mk hf.2.1; have EO := Aside0.mk hf.2.2.1; have HBE := Aside0.mk hf.2.2.2; clear hf hb hk hq))))
              all_goals (go_wp2_with fail; go_meet; exact ⟨_, _, _, _, _, rfl, rfl, HF, EO, HBE⟩)
            case rest =>
              obtain ⟨b, G5, g5, G6, g6, rfl, rfl, EZ, EO, HBE⟩ := hcut
              obtain ⟨⟨r0, r1, r2, r3, r4, r5, r6⟩, -⟩ := at7 EO.out.at_
              obtain ⟨⟨s0, s1, s2, s3, s4, s5, s6⟩, -⟩ := at7 EZ.out.at_
              go_wp2_with (first
                | (go_at_call 20; go_must (refine (is7_bx EO.out).mono ?_; rintro e w5 ⟨rfl, hb⟩; rw [D7.out]; have E25 := Aside0.mk (EZ.out.later hb); have E15 := Aside0.mk (EO.out.later hb); have HB5 := Aside0.mk (below_step HBE.out hb); clear r0 r1 r2 r3 r4 r5 r6 s0 s1 s2 s3 s4 s5 s6; obtain ⟨⟨r0, r1, r2, r3, r4, r5, r6⟩, -⟩ := at7 E15.out.at_; obtain ⟨⟨s0, s1, s2, s3, s4, s5, s6⟩, -⟩ := at7 E25.out.at_; clear hb))
                | (go_at_call 14; go_must (refine (got_bx E25.out E15.out DP.out).mono ?_; rintro e w6 ⟨rfl, hb⟩; rw [SU.out]; have HB6 := Aside0.mk (below_step HB5.out hb); clear hb)))
              go_ret
              exact ⟨rfl, HB6.out⟩
          case true =>
            have HSM := again_plain (mg := true) Qx.out Qy.out SX.out
            have Q1 := join_tq (mg := true) Qx.out Qy.out
            obtain ⟨u1, hu1⟩ : ∃ u, canon 50 (coal 50 true x y) = u := ⟨_, rfl⟩
            rw [hu1] at HSM Q1
            have SU := Aside0.mk (show sameB 50 u1 u1 = true by rw [← hu1]; exact same_self (rt_coal Qx.out.rt Qy.out.rt Qx.out.f7 Qy.out.f7))
            have QA := Aside0.mk Q1
            have QT := Aside0.mk (trim_tq Qy.out (sq_trim Qy.out.sq))
            have U1 := Aside0.mk hu1
            have U2 := Aside0.mk HSM
            have D7 := Aside0.mk (decide_eq_true Q1.f7)
            have DP := Aside0.mk (dp_of Q1.rt)
            clear HSM Q1 hu1
            obtain ⟨⟨r0, r1, r2, r3, r4, r5, r6⟩, -⟩ := at7 HM.out.x.at_
            obtain ⟨⟨s0, s1, s2, s3, s4, s5, s6⟩, -⟩ := at7 HM.out.y.at_
            go_upto_region 9 with (go_at_call 22; go_must (refine (join_bx 22 true (by decide) HM.out.x HM.out.y.kv.choose_spec Qx.out Qy.out (by decide) (by decide)).mono ?_; rw [U1.out]; rintro e w1 ⟨hb, D5, d5, D6, d6, Qa, rfl, hk, hq⟩; have hb3 := below_step hb (below_alloc (Below.refl w1.heap.size w1) (row26 u1 D5 d5 D6 d6)); have H1 := Aside0.mk (HM.out.later hb3); have E1 := Aside0.mk (BX.made hk (fun k q => (hq k q).2)); clear r0 r1 r2 r3 r4 r5 r6 s0 s1 s2 s3 s4 s5 s6; clear hb hb3 hk hq))
            obtain ⟨b1, hb1⟩ : ∃ b, w1.heap.size = b := ⟨_, rfl⟩
            obtain ⟨w2, hw2⟩ : ∃ W, w1.alloc (row26 u1 D5 d5 D6 d6) = W := ⟨_, rfl⟩
            have HBL := Aside0.mk (show b1 < w2.heap.size by rw [← hw2, ← hb1, World.size_alloc]; exact Nat.lt_succ_self _)
            rw [hw2] at H1 E1
            rw [hb1] at E1
            rw [hb1]
            unfold row26 at hw2
            rw [hw2]
            clear hb1 hw2
            go_cut [10, 11] (fun p q wx => ∃ (b : Nat) (G5 : Option Addr) (g5 : Nat) (G6 : Option Addr) (g6 : Nat), p = .pointer (some ⟨b, 0, none⟩) ∧ q = .int .i64 0 ∧ Aside0 (BX wx b u1 G5 g5 G6 g6) ∧ Aside0 (BX wx b1 u1 D5 d5 D6 d6) ∧ Aside0 (Below w.heap.size w wx))
            case first =>
              obtain ⟨⟨r0, r1, r2, r3, r4, r5, r6⟩, -⟩ := at7 E1.out.at_
              obtain ⟨⟨i0, i1, i2, i3, i4, i5, i6⟩, -⟩ := at7 (blk_alloc E1.out.at_ row0)
              obtain ⟨⟨s0, s1, s2, s3, s4, s5, s6⟩, -⟩ := at7 H1.out.y.at_
              obtain ⟨⟨j0, j1, j2, j3, j4, j5, j6⟩, -⟩ := at7 (blk_alloc H1.out.y.at_ row0)
              have HTR := Aside0.mk (fun W (hb : Below w2.heap.size w2 W) => trim_bx (H1.out.y.later hb) Qy.out (by decide))
              have HWB := Aside0.mk H1.out.below.size
              go_region_with (first
                | (go_at_call 15; refine (HTR.out _ ?_).mono ?_; (first
                  | (exact below_drew (Below.refl _ _); rintro e w3 ⟨hb, M5, m5, M6, m6, Qm, rfl, hk⟩; have hb2 := Below.drew_then hb; have HB3 := Aside0.mk (H1.out.later hb2).below; have E3 := Aside0.mk (E1.out.later hb2); have HCT := Aside0.mk (fun W (hb : Below w3.heap.size w3 W) => join_bx 22 true (by decide) (E3.out.later hb) ⟨hk.1.below hb, fun k q => Nat.lt_of_lt_of_le (hk.2 k q) hb.size⟩ QA.out QT.out (by decide) (by decide)); clear hb hb2 hk HTR r0 r1 r2 r3 r4 r5 r6 i0 i1 i2 i3 i4 i5 i6 s0 s1 s2 s3 s4 s5 s6 j0 j1 j2 j3 j4 j5 j6; obtain ⟨⟨r0, r1, r2, r3, r4, r5, r6⟩, -⟩ := at7 E3.out.at_; obtain ⟨⟨i0, i1, i2, i3, i4, i5, i6⟩, -⟩ := at7 (blk_alloc E3.out.at_ row0))
                  | (exact below_drew (below_alloc (Below.refl _ _) row0); rintro e w3 ⟨hb, M5, m5, M6, m6, Qm, rfl, hk⟩; have hb2 := below_step (below_drew (below_alloc (Below.refl w2.heap.size w2) row0)) hb; have HZ2 := Aside0.mk (blk_below (blk_drew (blk_new w2 row0)) hb); have HB3 := Aside0.mk (H1.out.later hb2).below; have HQ3 := Aside0.mk (show ∃ Q : Nat → Prop, KV w3 Q u1 D5 d5 D6 d6 ∧ ∀ k, Q k → k < w2.heap.size from by obtain ⟨Q, h1, h2⟩ := E1.out.kv; exact ⟨Q, h1.below hb2, h2⟩); have E3 := Aside0.mk (E1.out.later hb2); have HCT := Aside0.mk (fun W (hb : Below w3.heap.size w3 W) => join_bx 22 true (by decide) (E3.out.later hb) ⟨hk.1.below hb, fun k q => Nat.lt_of_lt_of_le (hk.2 k q) hb.size⟩ QA.out QT.out (by decide) (by decide)); clear hb hb2 hk HTR r0 r1 r2 r3 r4 r5 r6 i0 i1 i2 i3 i4 i5 i6 s0 s1 s2 s3 s4 s5 s6 j0 j1 j2 j3 j4 j5 j6; obtain ⟨⟨r0, r1, r2, r3, r4, r5, r6⟩, -⟩ := at7 E3.out.at_)))
                | (go_at_call 22; refine (HCT.out _ ?_).mono ?_; (first
                  | (exact (fun _ => Below.refl _ _) HZ2; rw [U2.out]; rintro e w4 ⟨hb, G5, g5, G6, g6, Qg, rfl, hk, hq⟩; have hf := fin_in HB3.out HWB.out HZ2.out E3.out.at_ (Nat.ne_of_lt HBL.out) HQ3.out hb hk hq; unfold putV put26 at hf; obtain ⟨⟨n0, n1, n2, n3, n4, n5, n6⟩, m0, m1, m2, m3, m4, m5', m6'⟩ := at7 hf.1; have HF := Aside0.mk hf.2.1; have EO := Aside0.mk hf.2.2.1; have HBE := Aside0.mk hf.2.2.2; clear hf hb hk hq)
                  | (exact Below.refl _ _; rw [U2.out]; rintro e w4 ⟨hb, G5, g5, G6, g6, Qg, rfl, hk, hq⟩; have hf := fin_out HB3.out E3.out hb hk hq; have HF := Aside0.mk hf.1; have EO := Aside0.mk hf.2.1; have HBE := Aside0.mk hf.2.2; clear hf hb hk hq)
                  | (exact below_alloc (Below.refl _ _) row0; rw [U2.out]; rintro e w4 ⟨hb, G5, g5, G6, g6, Qg, rfl, hk, hq⟩; have hf := fin_in (below_step HB3.out (below_alloc (Below.refl _ _) row0)) HB3.out.size (blk_new w3 row0) (blk_alloc E3.out.at_ row0) (Nat.ne_of_lt (blk_lt E3.out.at_)) (by obtain ⟨Q, h1, h2⟩ := E3.out.kv; exact ⟨Q, h1.below (below_alloc (Below.refl _ _) row0), h2⟩) hb hk hq; unfold putV put26 at hf; obtain ⟨⟨n0, n1, n2, n3, n4, n5, n6⟩, m0, m1, m2, m3, m4, m5', m6'⟩ := at7 hf.1; have HF := Aside0.mk hf.2.1; have EO := Aside0.mk hf.2.2.1; have HBE := Aside0.mk hf.2.2.2; clear hf hb hk hq))))
              all_goals (go_wp2_with fail; go_meet; exact ⟨_, _, _, _, _, rfl, rfl, HF, EO, HBE⟩)
            case rest =>
              obtain ⟨b, G5, g5, G6, g6, rfl, rfl, EZ, EO, HBE⟩ := hcut
              obtain ⟨⟨r0, r1, r2, r3, r4, r5, r6⟩, -⟩ := at7 EO.out.at_
              obtain ⟨⟨s0, s1, s2, s3, s4, s5, s6⟩, -⟩ := at7 EZ.out.at_
              go_wp2_with (first
                | (go_at_call 20; go_must (refine (is7_bx EO.out).mono ?_; rintro e w5 ⟨rfl, hb⟩; rw [D7.out]; have E25 := Aside0.mk (EZ.out.later hb); have E15 := Aside0.mk (EO.out.later hb); have HB5 := Aside0.mk (below_step HBE.out hb); clear r0 r1 r2 r3 r4 r5 r6 s0 s1 s2 s3 s4 s5 s6; obtain ⟨⟨r0, r1, r2, r3, r4, r5, r6⟩, -⟩ := at7 E15.out.at_; obtain ⟨⟨s0, s1, s2, s3, s4, s5, s6⟩, -⟩ := at7 E25.out.at_; clear hb))
                | (go_at_call 14; go_must (refine (got_bx E25.out E15.out DP.out).mono ?_; rintro e w6 ⟨rfl, hb⟩; rw [SU.out]; have HB6 := Aside0.mk (below_step HB5.out hb); clear hb)))
              go_ret
              exact ⟨rfl, HB6.out⟩
end Go.Proofs.Ytjfbjkodjjlkiaa.HVal
