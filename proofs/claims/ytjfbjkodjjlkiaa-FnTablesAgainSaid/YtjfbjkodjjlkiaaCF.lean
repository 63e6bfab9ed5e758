/- What laws.tbLike comes to. FnTablesOrder: for all tables that its guards let in, the law returns true. -/
import Derived.Test.YtjfbjkodjjlkiaaHTrimW
import Derived.Test.YtjfbjkodjjlkiaaCD
import Derived.Test.YtjfbjkodjjlkiaaCE
import Derived.Deep.QuietTactic
import Derived.BigQuiet
/-! What laws.tbLike comes to. -/
namespace Go.Proofs.Ytjfbjkodjjlkiaa.HVal
open Go.RowKit Go.WideMaps Go.Maps Go.Proofs.YtjfbjkodjjlkiaaW.PrintWords Go.Proofs.YtjfbjkodjjlkiaaW.PrintLast Go.Proofs.YtjfbjkodjjlkiaaW.PrintMore Go.Proofs.Ytjfbjkodjjlkiaa.Plain Go.Proofs.Ytjfbjkodjjlkiaa.GTab
attribute [local go_sem] run_store_flt
/-- What an operation that has not been made yields: no truth value. -/
theorem match_undef : Go.yielded.match_1 (fun _ => Option Bool) (some undef) (fun b => some b) (fun _ => none) = none := rfl
attribute [local go_sem] match_undef

/-! ### the plain function -/
def badL (f : S26 → S26 → Bool) (x : S26) : Option S26 → Bool
  | none => false
  | some y => (decide (x.f0 = 7) != decide (y.f0 = 7)) || (decide (y.f0 = 7) && !f x y)
def likeL (f : S26 → S26 → Bool) (b : S26) : List ByteArray → List S26 → Bool
  | k :: ks, x :: xs => !badL f x (find b.f5 b.f6 k) && likeL f b ks xs
  | _, _ => true
noncomputable def likeB : Nat → S26 → S26 → Bool
  | 0, _, _ => false
  | n + 1, a, b => (sameB (n + 1) (trim (n + 1) a) a && sameB (n + 1) (trim (n + 1) b) b) && likeL (likeB n) b a.f5 a.f6
theorem likeL_find {f : S26 → S26 → Bool} {b : S26} {t : ByteArray} {x : S26} : ∀ (ks : List ByteArray) (xs : List S26), likeL f b ks xs = true → findE (ks.zip xs) t = some x → badL f x (find b.f5 b.f6 t) = false
  | [], _, _, h => by cases h
  | _ :: _, [], _, h => by cases h
  | k :: ks, y :: xs, h, hf => by
    rw [likeL, Bool.and_eq_true] at h
    rw [List.zip_cons_cons, findE] at hf
    by_cases e : k = t
    · rw [if_pos e] at hf
      cases hf
      subst e
      simpa using h.1
    · rw [if_neg e] at hf
      exact likeL_find ks xs h.2 hf
theorem like_true : ∀ {n : Nat} {a b : S26}, Rt n a → Rt n b → a.f0 = 7 → b.f0 = 7 → likeB n a b = true → NN n a ∧ NN n b ∧ Alike n a b
  | 0, _, _, h, _, _, _, _ => h.elim
  | n + 1, a, b, ha, hb, a7, b7, h => by
    rw [likeB, Bool.and_eq_true, Bool.and_eq_true] at h
    refine ⟨nn_of_same ha a7 h.1.1, nn_of_same hb b7 h.1.2, fun t x y hx hy => ?_⟩
    have h1 := likeL_find (f := likeB n) (b := b) (t := t) a.f5 a.f6 h.2 hx
    rw [← find_ent] at h1
    have hy' : findE (b.f5.zip b.f6) t = some y := hy
    rw [hy', badL, Bool.or_eq_false_iff] at h1
    have e : decide (x.f0 = 7) = decide (y.f0 = 7) := by simpa using h1.1
    have e2 : x.f0 = 7 ↔ y.f0 = 7 := by simpa using e
    refine ⟨e2, fun x7 => ?_⟩
    have y7 := e2.1 x7
    have h2 := h1.2
    rw [decide_eq_true y7, Bool.true_and] at h2
    exact (like_true (rt_kids ha _ (ent_mem hx).2) (rt_kids hb _ (ent_mem hy).2) x7 y7 (by simpa using h2)).2.2
theorem likeL_step {f : S26 → S26 → Bool} {b : S26} {ks : List ByteArray} {xs : List S26} {j : Nat} (h1 : j < ks.length) (h2 : j < xs.length) : likeL f b (ks.drop j) (xs.drop j) = (!badL f xs[j] (find b.f5 b.f6 ks[j]) && likeL f b (ks.drop (j + 1)) (xs.drop (j + 1))) := by
  rw [List.drop_eq_getElem_cons h1, List.drop_eq_getElem_cons h2, likeL]
theorem likeL_stop {f : S26 → S26 → Bool} {b : S26} {ks : List ByteArray} {xs : List S26} : likeL f b (ks.drop ks.length) xs = true := by
  rw [List.drop_length]
  cases xs <;> rfl

/-! ### the walk -/
/-- A world in which all that was there is as it was. -/
def Later (w : World) : Type := { W : World // Below w.heap.size w W }
instance {w : World} : Nonempty (Later w) := ⟨⟨w, Below.refl _ _⟩⟩
theorem later_calls {w : World} {f : FuncId} {args : Array Value} {v : Value} (h : Later w) (hc : Calls Try.prog f args h.val fun e w' => e = .returned v ∧ Below h.val.heap.size h.val w') : Calls Try.prog f args h.val fun e w' => e = .returned v ∧ ∃ k : Later w, w' = k.val :=
  hc.mono fun _ w' ⟨he, hb⟩ => ⟨he, ⟨w', below_step h.property hb⟩, rfl⟩
theorem wp_region_later {id : Nat} {Q : Exit → Act → World → Prop} {a : Act} {w : World} {l : List Oper} (hB : Region.lexB .any l.toArray = true)
    (h : wpQuiet Try.prog l.toArray (fun w' => ∃ k : Later w, w' = k.val) (fun a' => ∀ w', (∃ k : Later w, w' = k.val) → Q .normal a' w') l a) : (Code.region id l.toArray true).wp Try.prog Q a w :=
  wp_region_quiet (C := fun w' => ∃ k : Later w, w' = k.val) (by kernel_rfl) hB ⟨⟨{ w with drawn := w.drawn + 1 }, ⟨rfl, rfl, rfl, Nat.le_refl _, fun _ _ => rfl⟩⟩, rfl⟩ (by simpa using h)
/-- Two tables in their boxes. -/
structure LB2 (w : World) (P Q : Nat → Prop) (x : S26) (A5 : Option Addr) (c5 : Nat) (A6 : Option Addr) (c6 : Nat) (y : S26) (B5 : Option Addr) (d5 : Nat) (B6 : Option Addr) (d6 : Nat) (W : World) : Prop where
  b0 : W.heap[w.heap.size]? = some (box26 x A5 c5 A6 c6)
  b1 : W.heap[w.heap.size + 1]? = some (box26 y B5 d5 B6 d6)
  kx : KV W P x A5 c5 A6 c6
  ky : KV W Q y B5 d5 B6 d6
  below : Below w.heap.size w W
section
variable {w W W2 : World} {P Q : Nat → Prop} {x y u z : S26} {A5 A6 B5 B6 E5 E6 Z5 Z6 : Option Addr} {c5 c6 d5 d6 e5 e6 z5 z6 : Nat}
theorem LB2.later (h : LB2 w P Q x A5 c5 A6 c6 y B5 d5 B6 d6 W) (hb : Below W.heap.size W W2) : LB2 w P Q x A5 c5 A6 c6 y B5 d5 B6 d6 W2 := ⟨blk_below h.b0 hb, blk_below h.b1 hb, h.kx.below hb, h.ky.below hb, below_step h.below hb⟩
theorem LB2.start (hx : KV w P x A5 c5 A6 c6) (hy : KV w Q y B5 d5 B6 d6) : LB2 w P Q x A5 c5 A6 c6 y B5 d5 B6 d6 ((w.alloc (row26 x A5 c5 A6 c6)).alloc (row26 y B5 d5 B6 d6)) :=
  have hb := below_alloc (below_alloc (Below.refl w.heap.size w) (row26 x A5 c5 A6 c6)) (row26 y B5 d5 B6 d6)
  ⟨blk_alloc (blk_new w _) _, blk_at _ (by simp), hx.below hb, hy.below hb, hb⟩
theorem LB2.pre (h : LB2 w P Q x A5 c5 A6 c6 y B5 d5 B6 d6 W) {R : Nat → Prop} (hR : ∀ k, R k → k < w.heap.size) : ∀ k, R k → k < W.heap.size := fun k hk => Nat.lt_of_lt_of_le (hR k hk) h.below.size
/-- The cells of an element of a row. -/
def C7 (W : World) (a : Addr) (u : S26) (E5 : Option Addr) (e5 : Nat) (E6 : Option Addr) (e6 : Nat) : Prop := W.cell? a = some (.int .i64 u.f0) ∧ W.cell? ⟨a.block, a.off + 1, none⟩ = some (.bool u.f1) ∧ W.cell? ⟨a.block, a.off + 2, none⟩ = some (.int .i64 u.f2) ∧ W.cell? ⟨a.block, a.off + 3, none⟩ = some (.float .f64 u.f3) ∧ W.cell? ⟨a.block, a.off + 4, none⟩ = some (.string u.f4) ∧ W.cell? ⟨a.block, a.off + 5, none⟩ = some (.slice E5 u.f5.length e5) ∧ W.cell? ⟨a.block, a.off + 6, none⟩ = some (.slice E6 u.f6.length e6)
theorem C7.later {a : Addr} (h : C7 W a u E5 e5 E6 e6) (hb : Below W.heap.size W W2) : C7 W2 a u E5 e5 E6 e6 := ⟨keep_cell h.1 hb, keep_cell h.2.1 hb, keep_cell h.2.2.1 hb, keep_cell h.2.2.2.1 hb, keep_cell h.2.2.2.2.1 hb, keep_cell h.2.2.2.2.2.1 hb, keep_cell h.2.2.2.2.2.2 hb⟩
structure RM (w : World) (P Q : Nat → Prop) (x : S26) (A5 : Option Addr) (c5 : Nat) (A6 : Option Addr) (c6 : Nat) (y : S26) (B5 : Option Addr) (d5 : Nat) (B6 : Option Addr) (d6 : Nat) (a : Addr) (u : S26) (E5 : Option Addr) (e5 : Nat) (E6 : Option Addr) (e6 : Nat) (b : Nat) (z : S26) (Z5 : Option Addr) (z5 : Nat) (Z6 : Option Addr) (z6 : Nat) (W : World) : Prop where
  lb : LB2 w P Q x A5 c5 A6 c6 y B5 d5 B6 d6 W
  uc : C7 W a u E5 e5 E6 e6
  ku : KV W P u E5 e5 E6 e6
  zb : W.heap[b]? = some (box26 z Z5 z5 Z6 z6)
  kz : KV W Q z Z5 z5 Z6 z6
theorem RM.later {a : Addr} {b : Nat} (h : RM w P Q x A5 c5 A6 c6 y B5 d5 B6 d6 a u E5 e5 E6 e6 b z Z5 z5 Z6 z6 W) (hb : Below W.heap.size W W2) : RM w P Q x A5 c5 A6 c6 y B5 d5 B6 d6 a u E5 e5 E6 e6 b z Z5 z5 Z6 z6 W2 := ⟨h.lb.later hb, h.uc.later hb, h.ku.below hb, blk_below h.zb hb, h.kz.below hb⟩
end
def LikeC (n : Nat) : Prop := ∀ (x : S26) (A5 : Option Addr) (c5 : Nat) (A6 : Option Addr) (c6 : Nat) (y : S26) (B5 : Option Addr) (d5 : Nat) (B6 : Option Addr) (d6 : Nat) (P Q : Nat → Prop) (w : World), Rt n x → Rt n y → x.f0 = 7 → y.f0 = 7 → cnt n x ≤ 2000 → cnt n y ≤ 2000 → KV w P x A5 c5 A6 c6 → KV w Q y B5 d5 B6 d6 → (∀ k, P k → k < w.heap.size) → (∀ k, Q k → k < w.heap.size) →
  Calls Try.prog 19 #[agg26 x A5 c5 A6 c6, agg26 y B5 d5 B6 d6] w (SamePost w (likeB n x y))
set_option maxRecDepth 100000 in
set_option maxHeartbeats 8000000 in
theorem like_step (n : Nat) (ih : LikeC n) : LikeC (n + 1) := fun x A5 c5 A6 c6 y B5 d5 B6 d6 P Q w xr yr x7 y7 xc yc xv yv xP yP => by
  have H0 := Aside0.mk (LB2.start xv yv)
  have XR := Aside0.mk xr
  have YR := Aside0.mk yr
  have X7 := Aside0.mk x7
  have Y7 := Aside0.mk y7
  have XC := Aside0.mk xc
  have YC := Aside0.mk yc
  have XP := Aside0.mk xP
  have YP := Aside0.mk yP
  have LL5 := Aside0.mk xv.len5
  have XL := Aside0.mk (rt_rise xr x7).2
  have YL := Aside0.mk (rt_rise yr y7).2
  have XK := Aside0.mk (rt_kids xr)
  have YK := Aside0.mk (rt_kids yr)
  have IH := Aside0.mk ih
  obtain ⟨q1, hq1⟩ : ∃ q, sameB (n + 1) (trim (n + 1) x) x = q := ⟨_, rfl⟩
  obtain ⟨q2, hq2⟩ : ∃ q, sameB (n + 1) (trim (n + 1) y) y = q := ⟨_, rfl⟩
  have HQ1 := Aside0.mk hq1
  have HQ2 := Aside0.mk hq2
  have HLK := Aside0.mk (show likeB (n + 1) x y = ((q1 && q2) && likeL (likeB n) y x.f5 x.f6) by rw [likeB, hq1, hq2])
  have DX := Aside0.mk (dp_of (rt_trim xr x7))
  have DY := Aside0.mk (dp_of (rt_trim yr y7))
  obtain ⟨⟨r0, r1, r2, r3, r4, r5, r6⟩, -⟩ := at7 H0.out.b0
  obtain ⟨⟨s0, s1, s2, s3, s4, s5, s6⟩, -⟩ := at7 H0.out.b1
  clear xr yr x7 y7 xc yc xv yv xP yP ih hq1 hq2
  go_enter Try.func19, Try.ntmps19
  go_upto_region 1 with fail
  go_cut [20] from 9 to 20 (fun c wx => c = .bool (!(q1 && q2)) ∧ Aside0 (LB2 w P Q x A5 c5 A6 c6 y B5 d5 B6 d6 wx))
  case first =>
    cases q1
    case false =>
      go_region_with (first
        | (go_at_call_of 15 x; (refine (trim_of (n + 1) x A5 c5 A6 c6 P _ X7.out XR.out XC.out (H0.out.kx.below (below_drew (Below.refl _ _))) (H0.out.pre XP.out)).mono ?_; rintro e w1 ⟨hb, M5, m5, M6, m6, rfl, hk⟩; have H1 := Aside0.mk (H0.out.later (Below.drew_then hb)); have HK1 := Aside0.mk hk; clear r0 r1 r2 r3 r4 r5 r6; obtain ⟨⟨r0, r1, r2, r3, r4, r5, r6⟩, -⟩ := at7 H1.out.b0; clear hb hk))
        | (go_at_call 21; go_must (refine (same_of (n + 1) (trim (n + 1) x) M5 m5 M6 m6 x A5 c5 A6 c6 _ _ _ DX.out HK1.out H1.out.kx).mono ?_; rintro e w2 ⟨rfl, hb⟩; rw [HQ1.out]; have HZ := Aside0.mk (H1.out.later hb); clear hb)))
      all_goals (go_wp2_with fail; go_meet; exact ⟨rfl, HZ⟩)
    case true =>
      cases q2
      all_goals
        go_region_with (first
          | (go_at_call_of 15 x; (refine (trim_of (n + 1) x A5 c5 A6 c6 P _ X7.out XR.out XC.out (H0.out.kx.below (below_drew (Below.refl _ _))) (H0.out.pre XP.out)).mono ?_; rintro e w1 ⟨hb, M5, m5, M6, m6, rfl, hk⟩; have H1 := Aside0.mk (H0.out.later (Below.drew_then hb)); have HK1 := Aside0.mk hk; clear r0 r1 r2 r3 r4 r5 r6 s0 s1 s2 s3 s4 s5 s6; obtain ⟨⟨r0, r1, r2, r3, r4, r5, r6⟩, -⟩ := at7 H1.out.b0; clear hb hk))
          | (go_at_call_of 21 x; (refine (same_of (n + 1) (trim (n + 1) x) M5 m5 M6 m6 x A5 c5 A6 c6 _ _ _ DX.out HK1.out H1.out.kx).mono ?_; rintro e w2 ⟨rfl, hb⟩; rw [HQ1.out]; have H2 := Aside0.mk (H1.out.later hb); obtain ⟨⟨s0, s1, s2, s3, s4, s5, s6⟩, -⟩ := at7 H2.out.b1; clear hb r0 r1 r2 r3 r4 r5 r6))
          | (go_at_call_of 15 y; (refine (trim_of (n + 1) y B5 d5 B6 d6 Q _ Y7.out YR.out YC.out H2.out.ky (H2.out.pre YP.out)).mono ?_; rintro e w3 ⟨hb, N5, n5, N6, n6, rfl, hk⟩; have H3 := Aside0.mk (H2.out.later hb); have HK3 := Aside0.mk hk; clear s0 s1 s2 s3 s4 s5 s6; obtain ⟨⟨s0, s1, s2, s3, s4, s5, s6⟩, -⟩ := at7 H3.out.b1; clear hb hk))
          | (go_at_call_of 21 y; (refine (same_of (n + 1) (trim (n + 1) y) N5 n5 N6 n6 y B5 d5 B6 d6 _ _ _ DY.out HK3.out H3.out.ky).mono ?_; rintro e w4 ⟨rfl, hb⟩; rw [HQ2.out]; have HZ := Aside0.mk (H3.out.later hb); clear hb)))
        all_goals (go_wp2_with fail; go_meet; exact ⟨rfl, HZ⟩)
  case rest =>
    obtain ⟨rfl, HL⟩ := hcut
    clear r0 r1 r2 r3 r4 r5 r6 s0 s1 s2 s3 s4 s5 s6 H0
    cases q1
    case false =>
      go_wp2
      go_ret
      exact ⟨by rw [HLK.out]; rfl, HL.out.below⟩
    case true =>
      cases q2
      case false =>
        go_wp2
        go_ret
        exact ⟨by rw [HLK.out]; rfl, HL.out.below⟩
      case true =>
        obtain ⟨⟨r0, r1, r2, r3, r4, r5, r6⟩, -⟩ := at7 HL.out.b0
        go_wp2
        clear r0 r1 r2 r3 r4 r5 r6
        go_loopw [24] (fun i wr => ∃ j : Nat, j ≤ x.f5.length ∧ i = .int .i64 j ∧ Aside0 (likeB (n + 1) x y = likeL (likeB n) y (x.f5.drop j) (x.f6.drop j)) ∧ Aside0 (LB2 w P Q x A5 c5 A6 c6 y B5 d5 B6 d6 wr)) (fun i _ => x.f5.length - (intOf i).toNat)
        case atStart => exact ⟨0, Nat.zero_le _, rfl, ⟨HLK.out⟩, HL⟩
        case round =>
          obtain ⟨j, hj, rfl, HT, HI⟩ := hrel
          clear HL
          by_cases hlt : j < x.f5.length
          · have HJ := Aside0.mk hlt
            have hlt2 : j < x.f6.length := XL.out ▸ hlt
            obtain ⟨ad, hA, k0⟩ := HI.out.kx.key j hlt
            subst hA
            obtain ⟨ad2, E5, e5, E6, e6, hA2, hv2, y0, y1, y2, y3, y4, y5, y6⟩ := HI.out.kx.el7 j hlt2
            subst hA2
            have p0 : 0 ≤ (j : Int) := Int.natCast_nonneg j
            have q0 : (j : Int) < (x.f5.length : Int) := Int.ofNat_lt.2 hlt
            have q3 : (j : Int) < (x.f6.length : Int) := Int.ofNat_lt.2 hlt2
            have HT2 := Aside0.mk (HT.out.trans (likeL_step hlt hlt2))
            have HUM := Aside0.mk (List.getElem_mem hlt2)
            obtain ⟨t, ht⟩ : ∃ t, x.f5[j] = t := ⟨_, rfl⟩
            obtain ⟨u, hu⟩ : ∃ u, x.f6[j] = u := ⟨_, rfl⟩
            rw [ht] at k0 HT2
            rw [hu] at y0 y1 y2 y3 y4 y5 y6 hv2 HT2 HUM
            have HV2 := Aside0.mk hv2
            have HC7 := Aside0.mk (show C7 wr (ad2.add (j * 7)) u E5 e5 E6 e6 from ⟨y0, y1, y2, y3, y4, y5, y6⟩)
            obtain ⟨o, ho⟩ : ∃ o, find y.f5 y.f6 t = o := ⟨_, rfl⟩
            rw [ho] at HT2
            have HO := Aside0.mk ho
            obtain ⟨⟨s0, s1, s2, s3, s4, s5, s6⟩, -⟩ := at7 HI.out.b1
            clear hlt hlt2 ht hu hv2 hj HT ho y0 y1 y2 y3 y4 y5 y6
            go_upto_region 7 with (go_at_call 39; go_must (refine (at_calls y B5 d5 B6 d6 Q t _ Y7.out YL.out HI.out.ky (HI.out.pre YP.out)).mono ?_; rw [HO.out]; rintro e w1 ⟨hb, z, Z5, z5, Z6, z6, rfl, hkz, hz⟩; have hb2 := below_alloc (Below.refl w1.heap.size w1) (row26 z Z5 z5 Z6 z6); have hb3 := below_step hb hb2; have HM := Aside0.mk (⟨HI.out.later hb3, HC7.out.later hb3, HV2.out.below hb3, blk_new w1 _, hkz.below hb2⟩ : RM w P Q x (some ad) c5 (some ad2) c6 y B5 d5 B6 d6 (ad2.add (j * 7)) u E5 e5 E6 e6 w1.heap.size z Z5 z5 Z6 z6 (w1.alloc (row26 z Z5 z5 Z6 z6))); have HZ := Aside0.mk hz; clear hb hkz hz hb2 hb3))
            clear s0 s1 s2 s3 s4 s5 s6 k0
            obtain ⟨b7, hb7⟩ : ∃ b, w1.heap.size = b := ⟨_, rfl⟩
            obtain ⟨w2, hw2⟩ : ∃ W, w1.alloc (row26 z Z5 z5 Z6 z6) = W := ⟨_, rfl⟩
            rw [hb7, hw2] at HM
            rw [hb7]
            unfold row26 at hw2
            rw [hw2]
            clear hb7 hw2
            go_cut [60] from 35 to 60 (fun c wx => c = .bool (badL (likeB n) u o) ∧ Aside0 (LB2 w P Q x (some ad) c5 (some ad2) c6 y B5 d5 B6 d6 wx))
            case first =>
              have v0 := fun k : Later w2 => (at7 (HM.out.later k.property).zb).1.1
              have g0 := fun k : Later w2 => (at7 (HM.out.later k.property).lb.b0).1.1
              have y0 := fun k : Later w2 => (HM.out.later k.property).uc.1
              have v1 := fun k : Later w2 => (at7 (HM.out.later k.property).zb).1.2.1
              have g1 := fun k : Later w2 => (at7 (HM.out.later k.property).lb.b0).1.2.1
              have y1 := fun k : Later w2 => (HM.out.later k.property).uc.2.1
              have v2 := fun k : Later w2 => (at7 (HM.out.later k.property).zb).1.2.2.1
              have g2 := fun k : Later w2 => (at7 (HM.out.later k.property).lb.b0).1.2.2.1
              have y2 := fun k : Later w2 => (HM.out.later k.property).uc.2.2.1
              have v3 := fun k : Later w2 => (at7 (HM.out.later k.property).zb).1.2.2.2.1
              have g3 := fun k : Later w2 => (at7 (HM.out.later k.property).lb.b0).1.2.2.2.1
              have y3 := fun k : Later w2 => (HM.out.later k.property).uc.2.2.2.1
              have v4 := fun k : Later w2 => (at7 (HM.out.later k.property).zb).1.2.2.2.2.1
              have g4 := fun k : Later w2 => (at7 (HM.out.later k.property).lb.b0).1.2.2.2.2.1
              have y4 := fun k : Later w2 => (HM.out.later k.property).uc.2.2.2.2.1
              have v5 := fun k : Later w2 => (at7 (HM.out.later k.property).zb).1.2.2.2.2.2.1
              have g5 := fun k : Later w2 => (at7 (HM.out.later k.property).lb.b0).1.2.2.2.2.2.1
              have y5 := fun k : Later w2 => (HM.out.later k.property).uc.2.2.2.2.2.1
              have v6 := fun k : Later w2 => (at7 (HM.out.later k.property).zb).1.2.2.2.2.2.2
              have g6 := fun k : Later w2 => (at7 (HM.out.later k.property).lb.b0).1.2.2.2.2.2.2
              have y6 := fun k : Later w2 => (HM.out.later k.property).uc.2.2.2.2.2.2
              cases o with
              | none =>
                rw [Option.isSome_none]
                refine wp_region_later (by kernel_rfl) ?_
                repeat (go_big_quiet_step (fail))
                refine wpQuiet_nil ?_
                intro _ hw'
                obtain ⟨kq, hkq⟩ := hw'
                subst hkq
                go_wp2
                go_meet
                exact ⟨rfl, ⟨HM.out.lb.later kq.property⟩⟩
              | some z' =>
                have ez : z' = z := HZ.out
                subst ez
                obtain ⟨qu, hqu⟩ : ∃ q, decide (u.f0 = 7) = q := ⟨_, rfl⟩
                obtain ⟨qz, hqz⟩ : ∃ q, decide (z'.f0 = 7) = q := ⟨_, rfl⟩
                obtain ⟨ql, hql⟩ : ∃ q, likeB n u z' = q := ⟨_, rfl⟩
                have HBD := Aside0.mk (show badL (likeB n) u (some z') = ((qu != qz) || (qz && !ql)) by rw [badL, hqu, hqz, hql])
                have HZM := (ent_mem (x := y) (t := t) (y := z') ((find_ent y.f5 y.f6).trans HO.out)).2
                have CU := Aside0.mk (fun k : Later w2 => show Calls Try.prog 20 #[agg26 u E5 e5 E6 e6] k.val fun e w' => e = .returned (.bool qu) ∧ Below k.val.heap.size k.val w' from by rw [← hqu]; exact is7_calls (HM.out.later k.property).ku)
                have CZ := Aside0.mk (fun k : Later w2 => show Calls Try.prog 20 #[agg26 z' Z5 z5 Z6 z6] k.val fun e w' => e = .returned (.bool qz) ∧ Below k.val.heap.size k.val w' from by rw [← hqz]; exact is7_calls (HM.out.later k.property).kz)
                have CL := Aside0.mk (fun (a7 : u.f0 = 7) (b7 : z'.f0 = 7) (k : Later w2) => show Calls Try.prog 19 #[agg26 u E5 e5 E6 e6, agg26 z' Z5 z5 Z6 z6] k.val fun e w' => e = .returned (.bool ql) ∧ Below k.val.heap.size k.val w' from by
                  rw [← hql]
                  have hM := HM.out.later k.property
                  exact IH.out u E5 e5 E6 e6 z' Z5 z5 Z6 z6 P Q k.val (XK.out u HUM.out) (YK.out z' HZM) a7 b7 (cnt_mem2 XC.out HUM.out) (cnt_mem2 YC.out HZM) hM.ku hM.kz (hM.lb.pre XP.out) (hM.lb.pre YP.out))
                have HU7 := Aside0.mk hqu
                have HZ7 := Aside0.mk hqz
                rw [Option.isSome_some]
                clear hqu hqz hql HZM
                cases qu
                case false =>
                  cases qz
                  all_goals
                    refine wp_region_later (by kernel_rfl) ?_
                    repeat (go_big_quiet_step (first
                      | (go_at_call_of 20 u; exact later_calls _ (CU.out _))
                      | (go_at_call_of 20 z'; exact later_calls _ (CZ.out _))))
                    refine wpQuiet_nil ?_
                    intro _ hw'
                    obtain ⟨kq, hkq⟩ := hw'
                    subst hkq
                    go_wp2
                    go_meet
                    exact ⟨by rw [HBD.out]; rfl, ⟨HM.out.lb.later kq.property⟩⟩
                case true =>
                  cases qz
                  case false =>
                    refine wp_region_later (by kernel_rfl) ?_
                    repeat (go_big_quiet_step (first
                      | (go_at_call_of 20 u; exact later_calls _ (CU.out _))
                      | (go_at_call_of 20 z'; exact later_calls _ (CZ.out _))))
                    refine wpQuiet_nil ?_
                    intro _ hw'
                    obtain ⟨kq, hkq⟩ := hw'
                    subst hkq
                    go_wp2
                    go_meet
                    exact ⟨by rw [HBD.out]; rfl, ⟨HM.out.lb.later kq.property⟩⟩
                  case true =>
                    have CL2 := Aside0.mk (CL.out (of_decide_eq_true HU7.out) (of_decide_eq_true HZ7.out))
                    cases ql
                    all_goals
                      refine wp_region_later (by kernel_rfl) ?_
                      repeat (go_big_quiet_step (first
                        | (go_at_call_of 20 u; exact later_calls _ (CU.out _))
                        | (go_at_call_of 20 z'; exact later_calls _ (CZ.out _))
                        | (go_at_call 19; exact later_calls _ (CL2.out _))))
                      refine wpQuiet_nil ?_
                      intro _ hw'
                      obtain ⟨kq, hkq⟩ := hw'
                      subst hkq
                      go_wp2
                      go_meet
                      exact ⟨by rw [HBD.out]; rfl, ⟨HM.out.lb.later kq.property⟩⟩
            case rest =>
              obtain ⟨rfl, HL⟩ := hcut
              obtain ⟨qb, hqb⟩ : ∃ q, badL (likeB n) u o = q := ⟨_, rfl⟩
              have HT3 := HT2.out
              rw [hqb] at HT3
              rw [hqb]
              have HT4 := Aside0.mk HT3
              clear hqb HT3 HT2
              cases qb with
              | false =>
                go_wp2
                go_roundw
                case rel => exact ⟨_, _, _, _, _, _, _, _, _, _, _, _, _, _, _, _, _, _, _, _, _, _, _, _, _, _, _, _, _, _, _, _, _, _, _, _, _, _, _, _, _, _, _, ⟨j + 1, HJ.out, congrArg (Value.int IntKind.i64) (next63 HJ.out LL5.out), ⟨HT4.out.trans (by rw [Bool.not_false, Bool.true_and])⟩, HL⟩, rfl⟩
                case measure => exact meas26 HJ.out LL5.out
              | true =>
                go_wp2
                go_ret
                exact ⟨by rw [HT4.out]; rfl, HL.out.below⟩
          · have e : j = x.f5.length := Nat.le_antisymm hj (Nat.not_lt.1 hlt)
            subst e
            have q1 : ¬ (x.f5.length : Int) < (x.f5.length : Int) := Int.lt_irrefl _
            have HE := Aside0.mk (HT.out.trans likeL_stop)
            clear hlt hj
            go_wp2
            go_ret
            exact ⟨by rw [HE.out]; rfl, HI.out.below⟩
theorem like_of : ∀ n, LikeC n
  | 0 => fun _ _ _ _ _ _ _ _ _ _ _ _ _ h => h.elim
  | n + 1 => like_step n (like_of n)
end Go.Proofs.Ytjfbjkodjjlkiaa.HVal
/-! FnTablesOrder: for all tables that its guards let in, the law returns true. -/
namespace Go.Proofs.Ytjfbjkodjjlkiaa.HVal
open Go.RowKit Go.WideMaps Go.Maps Go.Proofs.YtjfbjkodjjlkiaaW.PrintWords Go.Proofs.YtjfbjkodjjlkiaaW.PrintLast Go.Proofs.YtjfbjkodjjlkiaaW.PrintMore Go.Proofs.Ytjfbjkodjjlkiaa.Plain Go.Proofs.Ytjfbjkodjjlkiaa.GTab Go.Proofs.Ytjfbjkodjjlkiaa.Opens
attribute [local go_sem] run_store_flt

/-! ### a value in its box -/
structure BX (W : World) (b : Nat) (u : S26) (A5 : Option Addr) (c5 : Nat) (A6 : Option Addr) (c6 : Nat) : Prop where
  at_ : W.heap[b]? = some (box26 u A5 c5 A6 c6)
  kv : ∃ Q, KV W Q u A5 c5 A6 c6 ∧ ∀ k, Q k → k < W.heap.size
section
variable {W W2 : World} {b b' : Nat} {x y : S26} {A5 A6 B5 B6 : Option Addr} {c5 c6 d5 d6 : Nat}
theorem BX.later (h : BX W b x A5 c5 A6 c6) (hb : Below W.heap.size W W2) : BX W2 b x A5 c5 A6 c6 := by
  obtain ⟨Q, hk, hq⟩ := h.kv
  exact ⟨blk_below h.at_ hb, Q, hk.below hb, fun k hk => Nat.lt_of_lt_of_le (hq k hk) hb.size⟩
theorem BX.made {Q : Nat → Prop} (h : KV W Q x A5 c5 A6 c6) (hq : ∀ k, Q k → k < W.heap.size) : BX (W.alloc (row26 x A5 c5 A6 c6)) W.heap.size x A5 c5 A6 c6 :=
  ⟨blk_new W _, Q, h.below (below_alloc (Below.refl _ _) _), fun k hk => by rw [World.size_alloc]; exact Nat.lt_succ_of_lt (hq k hk)⟩
theorem tb_bx (h : BX W b x A5 c5 A6 c6) : Calls Try.prog 12 #[agg26 x A5 c5 A6 c6] W fun e w' => e = .returned (.bool (tbB x)) ∧ Below W.heap.size W w' := by
  obtain ⟨Q, hk, hq⟩ := h.kv
  exact tb_calls x A5 c5 A6 c6 Q W hk hq
theorem is7_bx (h : BX W b x A5 c5 A6 c6) : Calls Try.prog 20 #[agg26 x A5 c5 A6 c6] W fun e w' => e = .returned (.bool (decide (x.f0 = 7))) ∧ Below W.heap.size W w' := by
  obtain ⟨Q, hk, _⟩ := h.kv
  exact is7_calls hk
theorem same_bx (h : BX W b x A5 c5 A6 c6) (h' : BX W b' y B5 d5 B6 d6) (hd : Dp 50 x) : Calls Try.prog 21 #[agg26 x A5 c5 A6 c6, agg26 y B5 d5 B6 d6] W (SamePost W (sameB 50 x y)) := by
  obtain ⟨Q, hk, hq⟩ := h.kv
  obtain ⟨Q', hk', hq'⟩ := h'.kv
  exact same_of 50 x A5 c5 A6 c6 y B5 d5 B6 d6 Q Q' W hd hk hk'
/-- What is known of a table. -/
structure Tq (c : Nat) (x : S26) : Prop where
  f7 : x.f0 = 7
  rt : Rt 50 x
  sq : Sq 50 x
  cn : cnt 50 x ≤ c
theorem like_bx {c : Nat} (h : BX W b x A5 c5 A6 c6) (h' : BX W b' y B5 d5 B6 d6) (hx : Tq c x) (hy : Tq c y) (hc : c ≤ 1000) : Calls Try.prog 19 #[agg26 x A5 c5 A6 c6, agg26 y B5 d5 B6 d6] W (SamePost W (likeB 50 x y)) := by
  obtain ⟨Q, hk, hq⟩ := h.kv
  obtain ⟨Q', hk', hq'⟩ := h'.kv
  exact like_of 50 x A5 c5 A6 c6 y B5 d5 B6 d6 Q Q' W hx.rt hy.rt hx.f7 hy.f7 (Nat.le_trans hx.cn (by omega)) (Nat.le_trans hy.cn (by omega)) hk hk' hq hq'
theorem cti_bx {c c' : Nat} (h : BX W b x A5 c5 A6 c6) (h' : BX W b' y B5 d5 B6 d6) (hx : Tq c x) (hy : Tq c' y) (hc : c ≤ 1000) (hc' : c' ≤ 1000) : Calls Try.prog 17 #[agg26 x A5 c5 A6 c6, agg26 y B5 d5 B6 d6] W (OkPost W (canon 50 (coal 50 false x y))) := by
  obtain ⟨Q, hk, hq⟩ := h.kv
  obtain ⟨Q', hk', hq'⟩ := h'.kv
  exact cti_calls x A5 c5 A6 c6 Q y B5 d5 B6 d6 Q' W hx.f7 hx.rt hx.sq hk hq (Nat.le_trans hx.cn hc) hy.f7 hy.rt hy.sq hk' hq' (Nat.le_trans hy.cn hc')
theorem mti_bx {c c' : Nat} (h : BX W b x A5 c5 A6 c6) (h' : BX W b' y B5 d5 B6 d6) (hx : Tq c x) (hy : Tq c' y) (hc : c ≤ 1000) (hc' : c' ≤ 1000) : Calls Try.prog 22 #[agg26 x A5 c5 A6 c6, agg26 y B5 d5 B6 d6] W (OkPost W (canon 50 (coal 50 true x y))) := by
  obtain ⟨Q, hk, hq⟩ := h.kv
  obtain ⟨Q', hk', hq'⟩ := h'.kv
  exact mti_calls x A5 c5 A6 c6 Q y B5 d5 B6 d6 Q' W hx.f7 hx.rt hx.sq hk hq (Nat.le_trans hx.cn hc) hy.f7 hy.rt hy.sq hk' hq' (Nat.le_trans hy.cn hc')
end
theorem join_tq {c c' : Nat} {mg : Bool} {x y : S26} (hx : Tq c x) (hy : Tq c' y) : Tq (c + c') (canon 50 (coal 50 mg x y)) := by
  have hr := rt_coal (mg := mg) hx.rt hy.rt hx.f7 hy.f7
  refine ⟨(canon_f0 hr).trans (coal_f0 hx.f7), rt_canon hr, sq_canon hr (sq_coal hx.rt hy.rt hx.f7 hy.f7 hx.sq hy.sq), ?_⟩
  rw [cnt_canon hr]
  exact Nat.le_trans (cnt_coal hx.rt hy.rt hx.f7 hy.f7) (Nat.add_le_add hx.cn hy.cn)
theorem canon_two {x : S26} (h : Rt 50 x) : canon 50 (canon 50 x) = canon 50 x := canon_again h (rt_canon h)
theorem same_self {x : S26} (h : Rt 50 x) : sameB 50 (canon 50 x) (canon 50 x) = true := by
  have := same_canon (rt_canon h)
  rwa [canon_two h] at this
theorem canon_left {mg : Bool} {x y : S26} (xr : Rt 50 x) (yr : Rt 50 y) (x7 : x.f0 = 7) (y7 : y.f0 = 7) : canon 50 (coal 50 mg (canon 50 x) y) = canon 50 (coal 50 mg x y) := by
  rw [← canon_coal (rt_canon xr) yr ((canon_f0 xr).trans x7) y7, canon_two xr, canon_coal xr yr x7 y7]
theorem canon_right {mg : Bool} {x y : S26} (xr : Rt 50 x) (yr : Rt 50 y) (x7 : x.f0 = 7) (y7 : y.f0 = 7) : canon 50 (coal 50 mg x (canon 50 y)) = canon 50 (coal 50 mg x y) := by
  rw [← canon_coal xr (rt_canon yr) x7 ((canon_f0 yr).trans y7), canon_two yr, canon_coal xr yr x7 y7]
theorem order_plain {c : Nat} {x y z : S26} (hx : Tq c x) (hy : Tq c y) (hz : Tq c z) (h1 : likeB 50 x y = true) (h2 : likeB 50 y z = true) (h3 : likeB 50 x z = true) :
    sameB 50 (canon 50 (coal 50 false (canon 50 (coal 50 false x y)) z)) (canon 50 (coal 50 false x (canon 50 (coal 50 false y z)))) = true := by
  have rxy := rt_coal (mg := false) hx.rt hy.rt hx.f7 hy.f7
  have ryz := rt_coal (mg := false) hy.rt hz.rt hy.f7 hz.f7
  have a := like_true hx.rt hy.rt hx.f7 hy.f7 h1
  have b := like_true hy.rt hz.rt hy.f7 hz.f7 h2
  have d := like_true hx.rt hz.rt hx.f7 hz.f7 h3
  rw [canon_left rxy hz.rt (coal_f0 hx.f7) hz.f7, canon_right hx.rt ryz hx.f7 (coal_f0 hy.f7), coal_assoc hx.rt hy.rt hz.rt hx.f7 hy.f7 hz.f7 a.1 b.1 b.2.1 a.2.2 b.2.2 d.2.2]
  exact same_self (rt_coal hx.rt ryz hx.f7 (coal_f0 hy.f7))

/-! ### the law's walk -/
/-- The three tables in their boxes. -/
structure L3 (w : World) (x : S26) (A5 : Option Addr) (a5 : Nat) (A6 : Option Addr) (a6 : Nat) (y : S26) (B5 : Option Addr) (b5 : Nat) (B6 : Option Addr) (b6 : Nat) (z : S26) (C5 : Option Addr) (c5 : Nat) (C6 : Option Addr) (c6 : Nat) (W : World) : Prop where
  x : BX W w.heap.size x A5 a5 A6 a6
  y : BX W (w.heap.size + 1) y B5 b5 B6 b6
  z : BX W (w.heap.size + 2) z C5 c5 C6 c6
  below : Below w.heap.size w W
section
variable {w W W2 : World} {x y z : S26} {A5 A6 B5 B6 C5 C6 : Option Addr} {a5 a6 b5 b6 c5 c6 : Nat}
theorem L3.later (h : L3 w x A5 a5 A6 a6 y B5 b5 B6 b6 z C5 c5 C6 c6 W) (hb : Below W.heap.size W W2) : L3 w x A5 a5 A6 a6 y B5 b5 B6 b6 z C5 c5 C6 c6 W2 := ⟨h.x.later hb, h.y.later hb, h.z.later hb, below_step h.below hb⟩
theorem L3.start (hx : KV w (fun k => k < w.heap.size) x A5 a5 A6 a6) (hy : KV w (fun k => k < w.heap.size) y B5 b5 B6 b6) (hz : KV w (fun k => k < w.heap.size) z C5 c5 C6 c6) : L3 w x A5 a5 A6 a6 y B5 b5 B6 b6 z C5 c5 C6 c6 (((w.alloc (row26 x A5 a5 A6 a6)).alloc (row26 y B5 b5 B6 b6)).alloc (row26 z C5 c5 C6 c6)) := by
  have hb := below_alloc (below_alloc (below_alloc (Below.refl w.heap.size w) (row26 x A5 a5 A6 a6)) (row26 y B5 b5 B6 b6)) (row26 z C5 c5 C6 c6)
  refine ⟨⟨blk_alloc (blk_alloc (blk_new w _) _) _, _, hx.below hb, fun k hk => Nat.lt_of_lt_of_le hk hb.size⟩, ⟨blk_alloc (blk_at _ (by simp)) _, _, hy.below hb, fun k hk => Nat.lt_of_lt_of_le hk hb.size⟩, ⟨blk_at _ (by simp), _, hz.below hb, fun k hk => Nat.lt_of_lt_of_le hk hb.size⟩, hb⟩
end
set_option maxRecDepth 100000 in
set_option maxHeartbeats 8000000 in
theorem order_law (x : S26) (A5 : Option Addr) (a5 : Nat) (A6 : Option Addr) (a6 : Nat) (y : S26) (B5 : Option Addr) (b5 : Nat) (B6 : Option Addr) (b6 : Nat) (z : S26) (C5 : Option Addr) (c5 : Nat) (C6 : Option Addr) (c6 : Nat) (w : World) (gx5 : Kd.string.C w A5 x.f5.length x.f5) (lx5 : x.f5.length ≤ a5) (gx6 : k26.C w A6 x.f6.length x.f6) (lx6 : x.f6.length ≤ a6) (gy5 : Kd.string.C w B5 y.f5.length y.f5) (ly5 : y.f5.length ≤ b5) (gy6 : k26.C w B6 y.f6.length y.f6) (ly6 : y.f6.length ≤ b6) (gz5 : Kd.string.C w C5 z.f5.length z.f5) (lz5 : z.f5.length ≤ c5) (gz6 : k26.C w C6 z.f6.length z.f6) (lz6 : z.f6.length ≤ c6) (zx : Szq x) (zy : Szq y) (zz : Szq z) :
    Calls Try.prog 5 #[agg26 x A5 a5 A6 a6, agg26 y B5 b5 B6 b6, agg26 z C5 c5 C6 c6] w fun e w' => e = .returned (.bool true) ∧ Below w.heap.size w w' := by
  have hx := KV.of_C lx5 gx5 lx6 gx6
  have hy := KV.of_C ly5 gy5 ly6 gy6
  have hz := KV.of_C lz5 gz5 lz6 gz6
  have H0 := Aside0.mk (L3.start hx hy hz)
  obtain ⟨fx, hfx⟩ := fits7_calls hx
  obtain ⟨fy, hfy⟩ := fits7_calls hy
  obtain ⟨fz, hfz⟩ := fits7_calls hz
  have Fx := Aside0.mk hfx
  have Fy := Aside0.mk hfy
  have Fz := Aside0.mk hfz
  have Zx := Aside0.mk (zx 50)
  have Zy := Aside0.mk (zy 50)
  have Zz := Aside0.mk (zz 50)
  clear gx5 lx5 gx6 lx6 gy5 ly5 gy6 ly6 gz5 lz5 gz6 lz6 hx hy hz hfx hfy hfz zx zy zz
  obtain ⟨⟨r0, r1, r2, r3, r4, r5, r6⟩, -⟩ := at7 H0.out.x.at_
  obtain ⟨⟨s0, s1, s2, s3, s4, s5, s6⟩, -⟩ := at7 H0.out.y.at_
  obtain ⟨⟨t0, t1, t2, t3, t4, t5, t6⟩, -⟩ := at7 H0.out.z.at_
  go_enter Try.func5, Try.ntmps5
  go_upto_region 1 with fail
  go_cut [27] from 15 to 27 (fun c wx => c = .bool (!(fx && fy && fz)) ∧ Aside0 (L3 w x A5 a5 A6 a6 y B5 b5 B6 b6 z C5 c5 C6 c6 wx))
  case first =>
    cases fx
    case false =>
      go_wp2_with (first
        | (go_at_call_of 11 x; (refine (Fx.out _ H0.out.below).mono ?_; rintro e w' ⟨rfl, hb⟩; have H1 := Aside0.mk (H0.out.later hb); clear hb; clear r0 r1 r2 r3 r4 r5 r6 s0 s1 s2 s3 s4 s5 s6 t0 t1 t2 t3 t4 t5 t6; obtain ⟨⟨r0, r1, r2, r3, r4, r5, r6⟩, -⟩ := at7 H1.out.x.at_; obtain ⟨⟨s0, s1, s2, s3, s4, s5, s6⟩, -⟩ := at7 H1.out.y.at_; obtain ⟨⟨t0, t1, t2, t3, t4, t5, t6⟩, -⟩ := at7 H1.out.z.at_)))
      go_meet
      exact ⟨rfl, H1⟩
    case true =>
      cases fy
      case false =>
        go_wp2_with (first
          | (go_at_call_of 11 x; (refine (Fx.out _ H0.out.below).mono ?_; rintro e w' ⟨rfl, hb⟩; have H1 := Aside0.mk (H0.out.later hb); clear hb; clear r0 r1 r2 r3 r4 r5 r6 s0 s1 s2 s3 s4 s5 s6 t0 t1 t2 t3 t4 t5 t6; obtain ⟨⟨r0, r1, r2, r3, r4, r5, r6⟩, -⟩ := at7 H1.out.x.at_; obtain ⟨⟨s0, s1, s2, s3, s4, s5, s6⟩, -⟩ := at7 H1.out.y.at_; obtain ⟨⟨t0, t1, t2, t3, t4, t5, t6⟩, -⟩ := at7 H1.out.z.at_))
          | (go_at_call_of 11 y; (refine (Fy.out _ H1.out.below).mono ?_; rintro e w' ⟨rfl, hb⟩; have H2 := Aside0.mk (H1.out.later hb); clear hb; clear r0 r1 r2 r3 r4 r5 r6 s0 s1 s2 s3 s4 s5 s6 t0 t1 t2 t3 t4 t5 t6; obtain ⟨⟨r0, r1, r2, r3, r4, r5, r6⟩, -⟩ := at7 H2.out.x.at_; obtain ⟨⟨s0, s1, s2, s3, s4, s5, s6⟩, -⟩ := at7 H2.out.y.at_; obtain ⟨⟨t0, t1, t2, t3, t4, t5, t6⟩, -⟩ := at7 H2.out.z.at_)))
        go_meet
        exact ⟨rfl, H2⟩
      case true =>
        cases fz
        all_goals
          go_wp2_with (first
            | (go_at_call_of 11 x; (refine (Fx.out _ H0.out.below).mono ?_; rintro e w' ⟨rfl, hb⟩; have H1 := Aside0.mk (H0.out.later hb); clear hb; clear r0 r1 r2 r3 r4 r5 r6 s0 s1 s2 s3 s4 s5 s6 t0 t1 t2 t3 t4 t5 t6; obtain ⟨⟨r0, r1, r2, r3, r4, r5, r6⟩, -⟩ := at7 H1.out.x.at_; obtain ⟨⟨s0, s1, s2, s3, s4, s5, s6⟩, -⟩ := at7 H1.out.y.at_; obtain ⟨⟨t0, t1, t2, t3, t4, t5, t6⟩, -⟩ := at7 H1.out.z.at_))
            | (go_at_call_of 11 y; (refine (Fy.out _ H1.out.below).mono ?_; rintro e w' ⟨rfl, hb⟩; have H2 := Aside0.mk (H1.out.later hb); clear hb; clear r0 r1 r2 r3 r4 r5 r6 s0 s1 s2 s3 s4 s5 s6 t0 t1 t2 t3 t4 t5 t6; obtain ⟨⟨r0, r1, r2, r3, r4, r5, r6⟩, -⟩ := at7 H2.out.x.at_; obtain ⟨⟨s0, s1, s2, s3, s4, s5, s6⟩, -⟩ := at7 H2.out.y.at_; obtain ⟨⟨t0, t1, t2, t3, t4, t5, t6⟩, -⟩ := at7 H2.out.z.at_))
            | (go_at_call_of 11 z; (refine (Fz.out _ H2.out.below).mono ?_; rintro e w' ⟨rfl, hb⟩; have H3 := Aside0.mk (H2.out.later hb); clear hb; clear r0 r1 r2 r3 r4 r5 r6 s0 s1 s2 s3 s4 s5 s6 t0 t1 t2 t3 t4 t5 t6; obtain ⟨⟨r0, r1, r2, r3, r4, r5, r6⟩, -⟩ := at7 H3.out.x.at_; obtain ⟨⟨s0, s1, s2, s3, s4, s5, s6⟩, -⟩ := at7 H3.out.y.at_; obtain ⟨⟨t0, t1, t2, t3, t4, t5, t6⟩, -⟩ := at7 H3.out.z.at_)))
          go_meet
          exact ⟨rfl, H3⟩
  case rest =>
    obtain ⟨rfl, HL⟩ := hcut
    clear H0 r0 r1 r2 r3 r4 r5 r6 s0 s1 s2 s3 s4 s5 s6 t0 t1 t2 t3 t4 t5 t6 Fx Fy Fz
    obtain ⟨q, hq⟩ : ∃ q, (!(fx && fy && fz)) = q := ⟨_, rfl⟩
    rw [hq]
    clear hq
    cases q
    case true =>
      go_wp2
      go_ret
      exact ⟨rfl, HL.out.below⟩
    case false =>
      obtain ⟨tx, htx⟩ : ∃ t, tbB x = t := ⟨_, rfl⟩
      obtain ⟨ty, hty⟩ : ∃ t, tbB y = t := ⟨_, rfl⟩
      obtain ⟨tz, htz⟩ : ∃ t, tbB z = t := ⟨_, rfl⟩
      obtain ⟨k1, hk1⟩ : ∃ t, likeB 50 x y = t := ⟨_, rfl⟩
      obtain ⟨k2, hk2⟩ : ∃ t, likeB 50 y z = t := ⟨_, rfl⟩
      obtain ⟨k3, hk3⟩ : ∃ t, likeB 50 x z = t := ⟨_, rfl⟩
      have Tx := Aside0.mk htx
      have Ty := Aside0.mk hty
      have Tz := Aside0.mk htz
      have K1 := Aside0.mk hk1
      have K2 := Aside0.mk hk2
      have K3 := Aside0.mk hk3
      have QF := Aside0.mk (show ∀ (v : S26), tbB v = true → Sq 50 v → Tq 300 v from fun v hv hs => ⟨(tb_true hv).1, (tb_true hv).2.1, hs, (tb_true hv).2.2⟩)
      clear htx hty htz hk1 hk2 hk3
      go_upto_region 3 with fail
      go_cut [58] from 28 to 58 (fun c wx => c = .bool (!(tx && ty && tz && k1 && k2 && k3)) ∧ Aside0 (L3 w x A5 a5 A6 a6 y B5 b5 B6 b6 z C5 c5 C6 c6 wx))
      case first =>
        obtain ⟨⟨r0, r1, r2, r3, r4, r5, r6⟩, -⟩ := at7 HL.out.x.at_
        obtain ⟨⟨s0, s1, s2, s3, s4, s5, s6⟩, -⟩ := at7 HL.out.y.at_
        obtain ⟨⟨t0, t1, t2, t3, t4, t5, t6⟩, -⟩ := at7 HL.out.z.at_
        cases tx
        case false =>
          go_wp2_with (first
            | (go_at_call_of 12 x; (refine (tb_bx HL.out.x).mono ?_; rintro e w' ⟨rfl, hb⟩; rw [Tx.out]; have H1 := Aside0.mk (HL.out.later hb); clear hb; clear r0 r1 r2 r3 r4 r5 r6 s0 s1 s2 s3 s4 s5 s6 t0 t1 t2 t3 t4 t5 t6; obtain ⟨⟨r0, r1, r2, r3, r4, r5, r6⟩, -⟩ := at7 H1.out.x.at_; obtain ⟨⟨s0, s1, s2, s3, s4, s5, s6⟩, -⟩ := at7 H1.out.y.at_; obtain ⟨⟨t0, t1, t2, t3, t4, t5, t6⟩, -⟩ := at7 H1.out.z.at_)))
          go_meet
          exact ⟨rfl, H1⟩
        case true =>
          have Qx := Aside0.mk (QF.out x Tx.out Zx.out)
          cases ty
          case false =>
            go_wp2_with (first
              | (go_at_call_of 12 x; (refine (tb_bx HL.out.x).mono ?_; rintro e w' ⟨rfl, hb⟩; rw [Tx.out]; have H1 := Aside0.mk (HL.out.later hb); clear hb; clear r0 r1 r2 r3 r4 r5 r6 s0 s1 s2 s3 s4 s5 s6 t0 t1 t2 t3 t4 t5 t6; obtain ⟨⟨r0, r1, r2, r3, r4, r5, r6⟩, -⟩ := at7 H1.out.x.at_; obtain ⟨⟨s0, s1, s2, s3, s4, s5, s6⟩, -⟩ := at7 H1.out.y.at_; obtain ⟨⟨t0, t1, t2, t3, t4, t5, t6⟩, -⟩ := at7 H1.out.z.at_))
              | (go_at_call_of 12 y; (refine (tb_bx H1.out.y).mono ?_; rintro e w' ⟨rfl, hb⟩; rw [Ty.out]; have H2 := Aside0.mk (H1.out.later hb); clear hb; clear r0 r1 r2 r3 r4 r5 r6 s0 s1 s2 s3 s4 s5 s6 t0 t1 t2 t3 t4 t5 t6; obtain ⟨⟨r0, r1, r2, r3, r4, r5, r6⟩, -⟩ := at7 H2.out.x.at_; obtain ⟨⟨s0, s1, s2, s3, s4, s5, s6⟩, -⟩ := at7 H2.out.y.at_; obtain ⟨⟨t0, t1, t2, t3, t4, t5, t6⟩, -⟩ := at7 H2.out.z.at_)))
            go_meet
            exact ⟨rfl, H2⟩
          case true =>
            have Qy := Aside0.mk (QF.out y Ty.out Zy.out)
            cases tz
            case false =>
              go_wp2_with (first
                | (go_at_call_of 12 x; (refine (tb_bx HL.out.x).mono ?_; rintro e w' ⟨rfl, hb⟩; rw [Tx.out]; have H1 := Aside0.mk (HL.out.later hb); clear hb; clear r0 r1 r2 r3 r4 r5 r6 s0 s1 s2 s3 s4 s5 s6 t0 t1 t2 t3 t4 t5 t6; obtain ⟨⟨r0, r1, r2, r3, r4, r5, r6⟩, -⟩ := at7 H1.out.x.at_; obtain ⟨⟨s0, s1, s2, s3, s4, s5, s6⟩, -⟩ := at7 H1.out.y.at_; obtain ⟨⟨t0, t1, t2, t3, t4, t5, t6⟩, -⟩ := at7 H1.out.z.at_))
                | (go_at_call_of 12 y; (refine (tb_bx H1.out.y).mono ?_; rintro e w' ⟨rfl, hb⟩; rw [Ty.out]; have H2 := Aside0.mk (H1.out.later hb); clear hb; clear r0 r1 r2 r3 r4 r5 r6 s0 s1 s2 s3 s4 s5 s6 t0 t1 t2 t3 t4 t5 t6; obtain ⟨⟨r0, r1, r2, r3, r4, r5, r6⟩, -⟩ := at7 H2.out.x.at_; obtain ⟨⟨s0, s1, s2, s3, s4, s5, s6⟩, -⟩ := at7 H2.out.y.at_; obtain ⟨⟨t0, t1, t2, t3, t4, t5, t6⟩, -⟩ := at7 H2.out.z.at_))
                | (go_at_call_of 12 z; (refine (tb_bx H2.out.z).mono ?_; rintro e w' ⟨rfl, hb⟩; rw [Tz.out]; have H3 := Aside0.mk (H2.out.later hb); clear hb; clear r0 r1 r2 r3 r4 r5 r6 s0 s1 s2 s3 s4 s5 s6 t0 t1 t2 t3 t4 t5 t6; obtain ⟨⟨r0, r1, r2, r3, r4, r5, r6⟩, -⟩ := at7 H3.out.x.at_; obtain ⟨⟨s0, s1, s2, s3, s4, s5, s6⟩, -⟩ := at7 H3.out.y.at_; obtain ⟨⟨t0, t1, t2, t3, t4, t5, t6⟩, -⟩ := at7 H3.out.z.at_)))
              go_meet
              exact ⟨rfl, H3⟩
            case true =>
              have Qz := Aside0.mk (QF.out z Tz.out Zz.out)
              cases k1
              case false =>
                go_wp2_with (first
                  | (go_at_call_of 12 x; (refine (tb_bx HL.out.x).mono ?_; rintro e w' ⟨rfl, hb⟩; rw [Tx.out]; have H1 := Aside0.mk (HL.out.later hb); clear hb; clear r0 r1 r2 r3 r4 r5 r6 s0 s1 s2 s3 s4 s5 s6 t0 t1 t2 t3 t4 t5 t6; obtain ⟨⟨r0, r1, r2, r3, r4, r5, r6⟩, -⟩ := at7 H1.out.x.at_; obtain ⟨⟨s0, s1, s2, s3, s4, s5, s6⟩, -⟩ := at7 H1.out.y.at_; obtain ⟨⟨t0, t1, t2, t3, t4, t5, t6⟩, -⟩ := at7 H1.out.z.at_))
                  | (go_at_call_of 12 y; (refine (tb_bx H1.out.y).mono ?_; rintro e w' ⟨rfl, hb⟩; rw [Ty.out]; have H2 := Aside0.mk (H1.out.later hb); clear hb; clear r0 r1 r2 r3 r4 r5 r6 s0 s1 s2 s3 s4 s5 s6 t0 t1 t2 t3 t4 t5 t6; obtain ⟨⟨r0, r1, r2, r3, r4, r5, r6⟩, -⟩ := at7 H2.out.x.at_; obtain ⟨⟨s0, s1, s2, s3, s4, s5, s6⟩, -⟩ := at7 H2.out.y.at_; obtain ⟨⟨t0, t1, t2, t3, t4, t5, t6⟩, -⟩ := at7 H2.out.z.at_))
                  | (go_at_call_of 12 z; (refine (tb_bx H2.out.z).mono ?_; rintro e w' ⟨rfl, hb⟩; rw [Tz.out]; have H3 := Aside0.mk (H2.out.later hb); clear hb; clear r0 r1 r2 r3 r4 r5 r6 s0 s1 s2 s3 s4 s5 s6 t0 t1 t2 t3 t4 t5 t6; obtain ⟨⟨r0, r1, r2, r3, r4, r5, r6⟩, -⟩ := at7 H3.out.x.at_; obtain ⟨⟨s0, s1, s2, s3, s4, s5, s6⟩, -⟩ := at7 H3.out.y.at_; obtain ⟨⟨t0, t1, t2, t3, t4, t5, t6⟩, -⟩ := at7 H3.out.z.at_))
                  | (go_at_call_of 19 x; go_at_call_of 19 y; (refine (like_bx H3.out.x H3.out.y Qx.out Qy.out (by decide)).mono ?_; rintro e w' ⟨rfl, hb⟩; rw [K1.out]; have H4 := Aside0.mk (H3.out.later hb); clear hb; clear r0 r1 r2 r3 r4 r5 r6 s0 s1 s2 s3 s4 s5 s6 t0 t1 t2 t3 t4 t5 t6; obtain ⟨⟨r0, r1, r2, r3, r4, r5, r6⟩, -⟩ := at7 H4.out.x.at_; obtain ⟨⟨s0, s1, s2, s3, s4, s5, s6⟩, -⟩ := at7 H4.out.y.at_; obtain ⟨⟨t0, t1, t2, t3, t4, t5, t6⟩, -⟩ := at7 H4.out.z.at_)))
                go_meet
                exact ⟨rfl, H4⟩
              case true =>
                cases k2
                case false =>
                  go_wp2_with (first
                    | (go_at_call_of 12 x; (refine (tb_bx HL.out.x).mono ?_; rintro e w' ⟨rfl, hb⟩; rw [Tx.out]; have H1 := Aside0.mk (HL.out.later hb); clear hb; clear r0 r1 r2 r3 r4 r5 r6 s0 s1 s2 s3 s4 s5 s6 t0 t1 t2 t3 t4 t5 t6; obtain ⟨⟨r0, r1, r2, r3, r4, r5, r6⟩, -⟩ := at7 H1.out.x.at_; obtain ⟨⟨s0, s1, s2, s3, s4, s5, s6⟩, -⟩ := at7 H1.out.y.at_; obtain ⟨⟨t0, t1, t2, t3, t4, t5, t6⟩, -⟩ := at7 H1.out.z.at_))
                    | (go_at_call_of 12 y; (refine (tb_bx H1.out.y).mono ?_; rintro e w' ⟨rfl, hb⟩; rw [Ty.out]; have H2 := Aside0.mk (H1.out.later hb); clear hb; clear r0 r1 r2 r3 r4 r5 r6 s0 s1 s2 s3 s4 s5 s6 t0 t1 t2 t3 t4 t5 t6; obtain ⟨⟨r0, r1, r2, r3, r4, r5, r6⟩, -⟩ := at7 H2.out.x.at_; obtain ⟨⟨s0, s1, s2, s3, s4, s5, s6⟩, -⟩ := at7 H2.out.y.at_; obtain ⟨⟨t0, t1, t2, t3, t4, t5, t6⟩, -⟩ := at7 H2.out.z.at_))
                    | (go_at_call_of 12 z; (refine (tb_bx H2.out.z).mono ?_; rintro e w' ⟨rfl, hb⟩; rw [Tz.out]; have H3 := Aside0.mk (H2.out.later hb); clear hb; clear r0 r1 r2 r3 r4 r5 r6 s0 s1 s2 s3 s4 s5 s6 t0 t1 t2 t3 t4 t5 t6; obtain ⟨⟨r0, r1, r2, r3, r4, r5, r6⟩, -⟩ := at7 H3.out.x.at_; obtain ⟨⟨s0, s1, s2, s3, s4, s5, s6⟩, -⟩ := at7 H3.out.y.at_; obtain ⟨⟨t0, t1, t2, t3, t4, t5, t6⟩, -⟩ := at7 H3.out.z.at_))
                    | (go_at_call_of 19 x; go_at_call_of 19 y; (refine (like_bx H3.out.x H3.out.y Qx.out Qy.out (by decide)).mono ?_; rintro e w' ⟨rfl, hb⟩; rw [K1.out]; have H4 := Aside0.mk (H3.out.later hb); clear hb; clear r0 r1 r2 r3 r4 r5 r6 s0 s1 s2 s3 s4 s5 s6 t0 t1 t2 t3 t4 t5 t6; obtain ⟨⟨r0, r1, r2, r3, r4, r5, r6⟩, -⟩ := at7 H4.out.x.at_; obtain ⟨⟨s0, s1, s2, s3, s4, s5, s6⟩, -⟩ := at7 H4.out.y.at_; obtain ⟨⟨t0, t1, t2, t3, t4, t5, t6⟩, -⟩ := at7 H4.out.z.at_))
                    | (go_at_call_of 19 y; go_at_call_of 19 z; (refine (like_bx H4.out.y H4.out.z Qy.out Qz.out (by decide)).mono ?_; rintro e w' ⟨rfl, hb⟩; rw [K2.out]; have H5 := Aside0.mk (H4.out.later hb); clear hb; clear r0 r1 r2 r3 r4 r5 r6 s0 s1 s2 s3 s4 s5 s6 t0 t1 t2 t3 t4 t5 t6; obtain ⟨⟨r0, r1, r2, r3, r4, r5, r6⟩, -⟩ := at7 H5.out.x.at_; obtain ⟨⟨s0, s1, s2, s3, s4, s5, s6⟩, -⟩ := at7 H5.out.y.at_; obtain ⟨⟨t0, t1, t2, t3, t4, t5, t6⟩, -⟩ := at7 H5.out.z.at_)))
                  go_meet
                  exact ⟨rfl, H5⟩
                case true =>
                  cases k3
                  all_goals
                    go_wp2_with (first
                      | (go_at_call_of 12 x; (refine (tb_bx HL.out.x).mono ?_; rintro e w' ⟨rfl, hb⟩; rw [Tx.out]; have H1 := Aside0.mk (HL.out.later hb); clear hb; clear r0 r1 r2 r3 r4 r5 r6 s0 s1 s2 s3 s4 s5 s6 t0 t1 t2 t3 t4 t5 t6; obtain ⟨⟨r0, r1, r2, r3, r4, r5, r6⟩, -⟩ := at7 H1.out.x.at_; obtain ⟨⟨s0, s1, s2, s3, s4, s5, s6⟩, -⟩ := at7 H1.out.y.at_; obtain ⟨⟨t0, t1, t2, t3, t4, t5, t6⟩, -⟩ := at7 H1.out.z.at_))
                      | (go_at_call_of 12 y; (refine (tb_bx H1.out.y).mono ?_; rintro e w' ⟨rfl, hb⟩; rw [Ty.out]; have H2 := Aside0.mk (H1.out.later hb); clear hb; clear r0 r1 r2 r3 r4 r5 r6 s0 s1 s2 s3 s4 s5 s6 t0 t1 t2 t3 t4 t5 t6; obtain ⟨⟨r0, r1, r2, r3, r4, r5, r6⟩, -⟩ := at7 H2.out.x.at_; obtain ⟨⟨s0, s1, s2, s3, s4, s5, s6⟩, -⟩ := at7 H2.out.y.at_; obtain ⟨⟨t0, t1, t2, t3, t4, t5, t6⟩, -⟩ := at7 H2.out.z.at_))
                      | (go_at_call_of 12 z; (refine (tb_bx H2.out.z).mono ?_; rintro e w' ⟨rfl, hb⟩; rw [Tz.out]; have H3 := Aside0.mk (H2.out.later hb); clear hb; clear r0 r1 r2 r3 r4 r5 r6 s0 s1 s2 s3 s4 s5 s6 t0 t1 t2 t3 t4 t5 t6; obtain ⟨⟨r0, r1, r2, r3, r4, r5, r6⟩, -⟩ := at7 H3.out.x.at_; obtain ⟨⟨s0, s1, s2, s3, s4, s5, s6⟩, -⟩ := at7 H3.out.y.at_; obtain ⟨⟨t0, t1, t2, t3, t4, t5, t6⟩, -⟩ := at7 H3.out.z.at_))
                      | (go_at_call_of 19 x; go_at_call_of 19 y; (refine (like_bx H3.out.x H3.out.y Qx.out Qy.out (by decide)).mono ?_; rintro e w' ⟨rfl, hb⟩; rw [K1.out]; have H4 := Aside0.mk (H3.out.later hb); clear hb; clear r0 r1 r2 r3 r4 r5 r6 s0 s1 s2 s3 s4 s5 s6 t0 t1 t2 t3 t4 t5 t6; obtain ⟨⟨r0, r1, r2, r3, r4, r5, r6⟩, -⟩ := at7 H4.out.x.at_; obtain ⟨⟨s0, s1, s2, s3, s4, s5, s6⟩, -⟩ := at7 H4.out.y.at_; obtain ⟨⟨t0, t1, t2, t3, t4, t5, t6⟩, -⟩ := at7 H4.out.z.at_))
                      | (go_at_call_of 19 y; go_at_call_of 19 z; (refine (like_bx H4.out.y H4.out.z Qy.out Qz.out (by decide)).mono ?_; rintro e w' ⟨rfl, hb⟩; rw [K2.out]; have H5 := Aside0.mk (H4.out.later hb); clear hb; clear r0 r1 r2 r3 r4 r5 r6 s0 s1 s2 s3 s4 s5 s6 t0 t1 t2 t3 t4 t5 t6; obtain ⟨⟨r0, r1, r2, r3, r4, r5, r6⟩, -⟩ := at7 H5.out.x.at_; obtain ⟨⟨s0, s1, s2, s3, s4, s5, s6⟩, -⟩ := at7 H5.out.y.at_; obtain ⟨⟨t0, t1, t2, t3, t4, t5, t6⟩, -⟩ := at7 H5.out.z.at_))
                      | (go_at_call_of 19 x; go_at_call_of 19 z; (refine (like_bx H5.out.x H5.out.z Qx.out Qz.out (by decide)).mono ?_; rintro e w' ⟨rfl, hb⟩; rw [K3.out]; have H6 := Aside0.mk (H5.out.later hb); clear hb; clear r0 r1 r2 r3 r4 r5 r6 s0 s1 s2 s3 s4 s5 s6 t0 t1 t2 t3 t4 t5 t6; obtain ⟨⟨r0, r1, r2, r3, r4, r5, r6⟩, -⟩ := at7 H6.out.x.at_; obtain ⟨⟨s0, s1, s2, s3, s4, s5, s6⟩, -⟩ := at7 H6.out.y.at_; obtain ⟨⟨t0, t1, t2, t3, t4, t5, t6⟩, -⟩ := at7 H6.out.z.at_)))
                    go_meet
                    exact ⟨rfl, H6⟩
      case rest =>
        obtain ⟨rfl, HM⟩ := hcut
        clear HL
        obtain ⟨q, hq⟩ : ∃ q, (!(tx && ty && tz && k1 && k2 && k3)) = q := ⟨_, rfl⟩
        rw [hq]
        cases q
        case true =>
          go_wp2
          go_ret
          exact ⟨rfl, HM.out.below⟩
        case false =>
          have hall : tx = true ∧ ty = true ∧ tz = true ∧ k1 = true ∧ k2 = true ∧ k3 = true := by revert hq; cases tx <;> cases ty <;> cases tz <;> cases k1 <;> cases k2 <;> cases k3 <;> simp
          have Qx := Aside0.mk (QF.out x (Tx.out.trans hall.1) Zx.out)
          have Qy := Aside0.mk (QF.out y (Ty.out.trans hall.2.1) Zy.out)
          have Qz := Aside0.mk (QF.out z (Tz.out.trans hall.2.2.1) Zz.out)
          have HSM := order_plain Qx.out Qy.out Qz.out (K1.out.trans hall.2.2.2.1) (K2.out.trans hall.2.2.2.2.1) (K3.out.trans hall.2.2.2.2.2)
          have Q1 := join_tq (mg := false) Qx.out Qy.out
          obtain ⟨u1, hu1⟩ : ∃ u, canon 50 (coal 50 false x y) = u := ⟨_, rfl⟩
          rw [hu1] at HSM Q1
          have Q2 := join_tq (mg := false) Q1 Qz.out
          obtain ⟨u2, hu2⟩ : ∃ u, canon 50 (coal 50 false u1 z) = u := ⟨_, rfl⟩
          rw [hu2] at HSM Q2
          have Q3 := join_tq (mg := false) Qy.out Qz.out
          obtain ⟨u3, hu3⟩ : ∃ u, canon 50 (coal 50 false y z) = u := ⟨_, rfl⟩
          rw [hu3] at HSM Q3
          obtain ⟨u4, hu4⟩ : ∃ u, canon 50 (coal 50 false x u3) = u := ⟨_, rfl⟩
          rw [hu4] at HSM
          have QA := Aside0.mk Q1
          have QB := Aside0.mk Q2
          have QC := Aside0.mk Q3
          have U1 := Aside0.mk hu1
          have U2 := Aside0.mk hu2
          have U3 := Aside0.mk hu3
          have U4 := Aside0.mk hu4
          have SM := Aside0.mk HSM
          have D7 := Aside0.mk (decide_eq_true Q2.f7)
          have DP := Aside0.mk (dp_of Q2.rt)
          clear hq hall Q1 Q2 Q3 hu1 hu2 hu3 hu4 HSM
          obtain ⟨⟨r0, r1, r2, r3, r4, r5, r6⟩, -⟩ := at7 HM.out.x.at_
          obtain ⟨⟨s0, s1, s2, s3, s4, s5, s6⟩, -⟩ := at7 HM.out.y.at_
          obtain ⟨⟨t0, t1, t2, t3, t4, t5, t6⟩, -⟩ := at7 HM.out.z.at_
          go_wp2_with (first
            | (go_at_call_of 17 x; go_at_call_of 17 y; (refine (cti_bx HM.out.x HM.out.y Qx.out Qy.out (by decide) (by decide)).mono ?_; rw [U1.out]; rintro e w1 ⟨hb, D5, d5, D6, d6, Qa, rfl, hk, hq⟩; have hb3 := below_step hb (below_alloc (Below.refl w1.heap.size w1) (row26 u1 D5 d5 D6 d6)); have H1 := Aside0.mk (HM.out.later hb3); have E1 := Aside0.mk (BX.made hk hq); clear r0 r1 r2 r3 r4 r5 r6 s0 s1 s2 s3 s4 s5 s6 t0 t1 t2 t3 t4 t5 t6; obtain ⟨⟨r0, r1, r2, r3, r4, r5, r6⟩, -⟩ := at7 H1.out.x.at_; obtain ⟨⟨s0, s1, s2, s3, s4, s5, s6⟩, -⟩ := at7 H1.out.y.at_; obtain ⟨⟨t0, t1, t2, t3, t4, t5, t6⟩, -⟩ := at7 H1.out.z.at_; obtain ⟨⟨p0, p1, p2, p3, p4, p5, p6⟩, -⟩ := at7 E1.out.at_; clear hb hb3 hk hq))
            | (go_at_call_of 17 u1; go_at_call_of 17 z; (refine (cti_bx E1.out H1.out.z QA.out Qz.out (by decide) (by decide)).mono ?_; rw [U2.out]; rintro e w2 ⟨hb, F5, f5, F6, f6, Qb, rfl, hk, hq⟩; have hb3 := below_step hb (below_alloc (Below.refl w2.heap.size w2) (row26 u2 F5 f5 F6 f6)); have H2 := Aside0.mk (H1.out.later hb3); have E2 := Aside0.mk (BX.made hk hq); clear r0 r1 r2 r3 r4 r5 r6 s0 s1 s2 s3 s4 s5 s6 t0 t1 t2 t3 t4 t5 t6; clear p0 p1 p2 p3 p4 p5 p6; obtain ⟨⟨r0, r1, r2, r3, r4, r5, r6⟩, -⟩ := at7 H2.out.x.at_; obtain ⟨⟨s0, s1, s2, s3, s4, s5, s6⟩, -⟩ := at7 H2.out.y.at_; obtain ⟨⟨t0, t1, t2, t3, t4, t5, t6⟩, -⟩ := at7 H2.out.z.at_; clear hb hb3 hk hq))
            | (go_at_call_of 17 y; go_at_call_of 17 z; (refine (cti_bx H2.out.y H2.out.z Qy.out Qz.out (by decide) (by decide)).mono ?_; rw [U3.out]; rintro e w3 ⟨hb, G5, g5, G6, g6, Qc, rfl, hk, hq⟩; have hb3 := below_step hb (below_alloc (Below.refl w3.heap.size w3) (row26 u3 G5 g5 G6 g6)); have H3 := Aside0.mk (H2.out.later hb3); have E23 := Aside0.mk (E2.out.later hb3); have E3 := Aside0.mk (BX.made hk hq); clear r0 r1 r2 r3 r4 r5 r6 s0 s1 s2 s3 s4 s5 s6 t0 t1 t2 t3 t4 t5 t6; obtain ⟨⟨r0, r1, r2, r3, r4, r5, r6⟩, -⟩ := at7 H3.out.x.at_; obtain ⟨⟨p0, p1, p2, p3, p4, p5, p6⟩, -⟩ := at7 E3.out.at_; clear hb hb3 hk hq))
            | (go_at_call_of 17 x; go_at_call_of 17 u3; (refine (cti_bx H3.out.x E3.out Qx.out QC.out (by decide) (by decide)).mono ?_; rw [U4.out]; rintro e w4 ⟨hb, I5, i5, I6, i6, Qd, rfl, hk, hq⟩; have hb3 := below_step hb (below_alloc (Below.refl w4.heap.size w4) (row26 u4 I5 i5 I6 i6)); have H4 := Aside0.mk (H3.out.later hb3); have E24 := Aside0.mk (E23.out.later hb3); have E4 := Aside0.mk (BX.made hk hq); clear r0 r1 r2 r3 r4 r5 r6; clear p0 p1 p2 p3 p4 p5 p6; obtain ⟨⟨r0, r1, r2, r3, r4, r5, r6⟩, -⟩ := at7 E24.out.at_; obtain ⟨⟨s0, s1, s2, s3, s4, s5, s6⟩, -⟩ := at7 E4.out.at_; clear hb hb3 hk hq))
            | (go_at_call 20; go_must (refine (is7_bx E24.out).mono ?_; rintro e w5 ⟨rfl, hb⟩; rw [D7.out]; have H5 := Aside0.mk (H4.out.later hb); have E25 := Aside0.mk (E24.out.later hb); have E45 := Aside0.mk (E4.out.later hb); clear r0 r1 r2 r3 r4 r5 r6 s0 s1 s2 s3 s4 s5 s6; obtain ⟨⟨r0, r1, r2, r3, r4, r5, r6⟩, -⟩ := at7 E25.out.at_; obtain ⟨⟨s0, s1, s2, s3, s4, s5, s6⟩, -⟩ := at7 E45.out.at_; clear hb))
            | (go_at_call 21; go_must (refine (same_bx E25.out E45.out DP.out).mono ?_; rintro e w6 ⟨rfl, hb⟩; rw [SM.out]; have H6 := Aside0.mk (H5.out.later hb); clear hb)))
          go_ret
          exact ⟨rfl, H6.out.below⟩
end Go.Proofs.Ytjfbjkodjjlkiaa.HVal
