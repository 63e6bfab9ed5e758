/- What spec.tbRight comes to for lists and tables, and for numbers with points. What tbTable comes to, for any value; and what is known where it tells a table. What spec.Same tells of two values, as a function. What spec.Same comes to, for values whose first one has at most so many levels. A value and its canonical form are the same to spec.Same; what tbGot comes to. -/
import Derived.Test.YtjfbjkodjjlkiaaBB
import Derived.IntWalk
import Derived.Test.YtjfbjkodjjlkiaaBA
import Derived.StillTailTactics
/-! What spec.tbRight comes to for lists and tables, and for numbers with points. -/
namespace Go.Proofs.Ytjfbjkodjjlkiaa.HVal
open Go.RowKit Go.WideMaps Go.Maps Go.Proofs.YtjfbjkodjjlkiaaW.PrintWords Go.Proofs.YtjfbjkodjjlkiaaW.PrintLast Go.Proofs.YtjfbjkodjjlkiaaW.PrintMore Go.Proofs.Ytjfbjkodjjlkiaa.Plain Go.Proofs.Ytjfbjkodjjlkiaa.GTab
attribute [local go_sem] run_store_flt

theorem sub_run {x r : Nat} {P : Program} {w : World} (h : FloatKind.f64.format.sub x x = some r) : (binOp .sub 22 (.float .f64 x) (.float .f64 x)).run P w = .ok (.float .f64 r) w := by
  simp [binOp, Op.floatArith, h]
theorem eql_run {x y : Nat} {P : Program} {w : World} : (binOp .eql 22 (.float .f64 x) (.float .f64 y)).run P w = .ok (.bool (FloatKind.f64.format.order x y == some .eq)) w := by
  simp [binOp, Op.floatCmp]
theorem nan_read (t : Nat) : ∃ s f, FloatKind.f64.format.read ((t % 2) * 2 ^ 63 + 0x7ff0000000000000 + 1 + (t / 2) % (2 ^ 52 - 1)) = .nan s f := by
  have e1 : FloatKind.f64.format.signWeight = 9223372036854775808 := by decide
  have e2 : FloatKind.f64.format.binade = 4503599627370496 := by decide
  have e3 : FloatKind.f64.format.infRung = 9218868437227405312 := by decide
  have hr : ((t % 2) * 2 ^ 63 + 0x7ff0000000000000 + 1 + (t / 2) % (2 ^ 52 - 1)) % 9223372036854775808 = 9218868437227405312 + 1 + (t / 2) % 4503599627370495 := by omega
  unfold Ieee.Format.read
  rw [e1, e2, e3, hr]
  simp only
  rw [if_neg (by omega), if_neg (by omega), if_neg (by omega)]
  exact ⟨_, _, rfl⟩
theorem sub_nan {x : Nat} {P : Program} {w : World} (h : FloatKind.f64.format.sub x x = none) : ∃ b, (binOp .sub 22 (.float .f64 x) (.float .f64 x)).run P w = .ok (.float .f64 b) w.drew ∧ (FloatKind.f64.format.order b 0 == some .eq) = false := by
  refine ⟨Question.cut (.nanBits .f64 x x) (w.tape w.drawn (.nanBits .f64 x x)), ?_, ?_⟩
  · simp [binOp, Op.floatArith, h, Question.forced]
  · generalize w.tape w.drawn (.nanBits .f64 x x) = t
    obtain ⟨s, f, e⟩ := nan_read t
    have e2 : FloatKind.f64.format.read (Question.cut (.nanBits .f64 x x) t) = .nan s f := e
    unfold Ieee.Format.order
    rw [e2]
    rfl
set_option maxRecDepth 100000 in
set_option maxHeartbeats 8000000 in
theorem right_float (n : Nat) (x : S26) (A5 : Option Addr) (c5 : Nat) (A6 : Option Addr) (c6 : Nat) (l : Int) (g : Nat) (w : World) (h0 : 0 ≤ l - 1) (h1 : l ≤ 100000) (hg : w.heap[g]? = some (.cells #[.int .i64 l] 3 (0, 0)))
    (a : x.f0 = 4) (b : x.f6.length = 0) (c : x.f5.length = 0) :
    Calls Try.prog 72 #[agg26 x A5 c5 A6 c6, .int .i64 ((n + 1 : Nat) : Int), .pointer (some ⟨g, 0, none⟩)] w (RightPost w g (rightF (n + 1) x l)) := by
  have HG := Aside0.mk hg
  have g0 : w.cell? ⟨g, 0, none⟩ = some (.int .i64 l) := (blk_cell hg 0).trans rfl
  have f0 := blk_frozen hg 0
  have n0 : w.heap.size ≠ g := World.new_ne w _ g0
  have lg : g < w.heap.size := blk_lt hg
  have hn : ¬ ((n + 1 : Nat) : Int) < 1 := by omega
  have hl : ¬ l - 1 < 0 := by omega
  obtain ⟨m, hm⟩ : ∃ m : Int, ((n + 1 : Nat) : Int) = m := ⟨_, rfl⟩
  rw [hm] at hn ⊢
  clear hg hm
  have HR := Aside0.mk (rf_float (n := n) (l := l) h0 a b c)
  have b2 : x.f6 = [] := List.length_eq_zero_iff.1 b
  have c2 : x.f5 = [] := List.length_eq_zero_iff.1 c
  clear b c
  cases hs : FloatKind.f64.format.sub x.f3 x.f3 with
  | none =>
    have HF := Aside0.mk (show finB x.f3 = false by unfold finB; rw [hs])
    obtain ⟨b, hb, hc⟩ := sub_nan (x := x.f3) (P := Try.prog) (w := (w.setCell ⟨g, 0, none⟩ (.int .i64 (l - 1))).alloc (.cells #[.int .i64 4, .bool x.f1, .int .i64 x.f2, .float .f64 x.f3, .string x.f4, .slice A5 0 c5, .slice A6 0 c6] 26)) hs
    have he := @eql_run b 0 Try.prog
    clear hs
    go_enter Try.func72, Try.ntmps72
    go_wp2
    go_ret
    have hq := right_end (o := .cells #[.int .i64 4, .bool x.f1, .int .i64 x.f2, .float .f64 x.f3, .string x.f4, .slice A5 0 c5, .slice A6 0 c6] 26) HG.out (HR.out.trans (by rw [HF.out]))
    exact ⟨hq.1, blk_drew hq.2.1, ⟨hq.2.2.os, hq.2.2.tape, hq.2.2.output, hq.2.2.size, hq.2.2.block⟩⟩
  | some r =>
    have HF := Aside0.mk (show finB x.f3 = (FloatKind.f64.format.order r 0 == some .eq) by unfold finB; rw [hs])
    have hb := fun w => @sub_run x.f3 r Try.prog w hs
    clear hs
    go_enter Try.func72, Try.ntmps72
    go_wp2
    go_ret
    exact right_end HG.out (HR.out.trans (by rw [HF.out]))

/-- The state of the rounds over the values. -/
structure RI (x : S26) (w : World) (g : Nat) (l : Int) (P : Nat → Prop) (A5 : Option Addr) (c5 : Nat) (A6 : Option Addr) (c6 : Nat) (lj : Int) (wr : World) : Prop where
  box : wr.heap[w.heap.size]? = some (.cells #[.int .i64 x.f0, .bool x.f1, .int .i64 x.f2, .float .f64 x.f3, .string x.f4, .slice A5 x.f5.length c5, .slice A6 x.f6.length c6] 26 (0, 0))
  ctr : wr.heap[g]? = some (.cells #[.int .i64 lj] 3 (0, 0))
  grown : w.grownBy wr (some g)
  kv : KV wr P x A5 c5 A6 c6
  lo : 0 ≤ lj
  hi : lj ≤ l
theorem RI.start {x : S26} {w : World} {g : Nat} {l : Int} {P : Nat → Prop} {A5 : Option Addr} {c5 : Nat} {A6 : Option Addr} {c6 : Nat} (hg : w.heap[g]? = some (.cells #[.int .i64 l] 3 (0, 0))) (hv : KV w P x A5 c5 A6 c6) (hP : ∀ k, P k → k ≠ g ∧ k < w.heap.size) (h0 : 0 ≤ l - 1) :
    RI x w g l P A5 c5 A6 c6 (l - 1) ((w.setCell ⟨g, 0, none⟩ (.int .i64 (l - 1))).alloc (.cells #[.int .i64 x.f0, .bool x.f1, .int .i64 x.f2, .float .f64 x.f3, .string x.f4, .slice A5 x.f5.length c5, .slice A6 x.f6.length c6] 26)) := by
  have hgr := grown_alloc (grown_put (g := g) (grown_refl w _) (.int .i64 (l - 1))) (.cells #[.int .i64 x.f0, .bool x.f1, .int .i64 x.f2, .float .f64 x.f3, .string x.f4, .slice A5 x.f5.length c5, .slice A6 x.f6.length c6] 26)
  refine ⟨?_, blk_alloc (blk_put hg 0 (.int .i64 (l - 1)) rfl) _, hgr, hv.grown hgr (fun k hk => (hP k hk).1), h0, by omega⟩
  have := blk_new (w.setCell ⟨g, 0, none⟩ (.int .i64 (l - 1))) (.cells #[.int .i64 x.f0, .bool x.f1, .int .i64 x.f2, .float .f64 x.f3, .string x.f4, .slice A5 x.f5.length c5, .slice A6 x.f6.length c6] 26)
  rwa [World.size_setCell] at this
theorem RI.drewN {x : S26} {w : World} {g : Nat} {l : Int} {P : Nat → Prop} {A5 : Option Addr} {c5 : Nat} {A6 : Option Addr} {c6 : Nat} {lj : Int} {wr : World} (h : RI x w g l P A5 c5 A6 c6 lj wr) (k : Nat) : RI x w g l P A5 c5 A6 c6 lj (wr.drewN k) :=
  ⟨h.box, h.ctr, ⟨h.grown.os, h.grown.tape, h.grown.output, h.grown.size, h.grown.block⟩, h.kv.step (fun _ _ _ => rfl), h.lo, h.hi⟩
/-- The call of a round: its variable's box is made ahead of it. -/
theorem RI.next {x : S26} {w : World} {g : Nat} {l : Int} {P : Nat → Prop} {A5 : Option Addr} {c5 : Nat} {A6 : Option Addr} {c6 : Nat} {lj : Int} {wr W2 : World} {o : Obj} {l2 : Int} (h : RI x w g l P A5 c5 A6 c6 lj wr) (hgw : g < w.heap.size) (hP : ∀ k, P k → k ≠ g ∧ k < w.heap.size) (hc : W2.heap[g]? = some (.cells #[.int .i64 l2] 3 (0, 0))) (hgr : (wr.alloc o).grownBy W2 (some g)) (h0 : 0 ≤ l2) (h1 : l2 ≤ lj) :
    RI x w g l P A5 c5 A6 c6 l2 W2 := by
  have g1 : wr.grownBy (wr.alloc o) (some g) := grown_alloc (grown_refl wr _) o
  have g2 : wr.grownBy W2 (some g) := grown_trans g1 hgr (fun j hj => .inr hj)
  refine ⟨(g2.block _ (blk_lt h.box) (by simp; omega)).trans h.box, hc, grown_trans h.grown g2 (fun j hj => .inr hj), h.kv.grown g2 (fun k hk => (hP k hk).1), h0, Int.le_trans h1 h.hi⟩
theorem RI.cells {x : S26} {w : World} {g : Nat} {l : Int} {P : Nat → Prop} {A5 : Option Addr} {c5 : Nat} {A6 : Option Addr} {c6 : Nat} {lj : Int} {wr : World} (h : RI x w g l P A5 c5 A6 c6 lj wr) :
    wr.cell? ⟨w.heap.size, 5, none⟩ = some (.slice A5 x.f5.length c5) ∧ wr.cell? ⟨w.heap.size, 6, none⟩ = some (.slice A6 x.f6.length c6) ∧ wr.cell? ⟨g, 0, none⟩ = some (.int .i64 lj) := ⟨(blk_cell h.box 5).trans rfl, (blk_cell h.box 6).trans rfl, (blk_cell h.ctr 0).trans rfl⟩
theorem RI.done {x : S26} {w : World} {g : Nat} {l : Int} {P : Nat → Prop} {A5 : Option Addr} {c5 : Nat} {A6 : Option Addr} {c6 : Nat} {lj : Int} {wr : World} {r : Bool × Int} {b : Bool} (h : RI x w g l P A5 c5 A6 c6 lj wr) (hr : r = (b, lj)) : RightPost w g r (.returned (.bool b)) wr := by
  subst hr
  exact ⟨rfl, h.ctr, h.grown⟩
theorem far_lt {a b c : Nat} (h : a < b) (h2 : b ≤ c) {o : Obj} {wr : World} (e : wr.heap.size = c := by rfl) : a < (wr.alloc o).heap.size := by
  rw [World.size_alloc]
  omega
theorem meas26 {L j : Nat} (h : j < L) (hL : L ≤ 9223372036854775807) : L - (intOf (.int .i64 (wrap64 ((j : Int) + 1)))).toNat < L - (intOf (.int .i64 (j : Int))).toNat := by
  rw [wrap_nat (by omega)]
  simp only [intOf]
  omega
theorem next63 {L j : Nat} (h : j < L) (hL : L ≤ 9223372036854775807) : wrap64 ((j : Int) + 1) = ((j + 1 : Nat) : Int) := wrap_nat (by omega)
theorem KV.len6 {w : World} {P : Nat → Prop} {x : S26} {A5 A6 : Option Addr} {c5 c6 : Nat} (h : KV w P x A5 c5 A6 c6) : x.f6.length ≤ 9223372036854775807 := (Kd.F_now h.g6).2.1
theorem KV.len5 {w : World} {P : Nat → Prop} {x : S26} {A5 A6 : Option Addr} {c5 c6 : Nat} (h : KV w P x A5 c5 A6 c6) : x.f5.length ≤ 9223372036854775807 := (Kd.F_now h.g5).2.1
theorem rights_bound {f : S26 → Int → Bool × Int} (hf : ∀ y l, 0 ≤ l → (f y l).1 = true → 0 ≤ (f y l).2 ∧ (f y l).2 ≤ l) : ∀ (xs : List S26) (l : Int), 0 ≤ l → (rights f xs l).1 = true → 0 ≤ (rights f xs l).2 ∧ (rights f xs l).2 ≤ l
  | [], l, hl, _ => ⟨hl, Int.le_refl _⟩
  | y :: r, l, hl, h => by
    unfold rights at h ⊢
    by_cases h1 : (f y l).1 = true
    · rw [if_pos h1] at h ⊢
      obtain ⟨a1, a2⟩ := hf y l hl h1
      obtain ⟨b1, b2⟩ := rights_bound hf r _ a1 h
      exact ⟨b1, Int.le_trans b2 a2⟩
    · rw [if_neg h1] at h
      cases h
theorem right_bound (n : Nat) (x : S26) (l : Int) (hl : 0 ≤ l) (h : (rightF n x l).1 = true) : 0 ≤ (rightF n x l).2 ∧ (rightF n x l).2 ≤ l := by
  obtain ⟨_, a, b⟩ := right_true n x l hl h
  exact ⟨a, by omega⟩
set_option maxRecDepth 100000 in
set_option maxHeartbeats 8000000 in
theorem right_list (n : Nat) (hn1 : n ≤ 1000) (ih : RightC n) (x : S26) (A5 : Option Addr) (c5 : Nat) (A6 : Option Addr) (c6 : Nat) (P : Nat → Prop) (l : Int) (g : Nat) (w : World) (hv : KV w P x A5 c5 A6 c6) (hP : ∀ k, P k → k ≠ g ∧ k < w.heap.size) (h0 : 0 ≤ l - 1) (h1 : l ≤ 100000) (hg : w.heap[g]? = some (.cells #[.int .i64 l] 3 (0, 0))) (a : x.f0 = 6) (c : x.f5.length = 0) :
    Calls Try.prog 72 #[agg26 x A5 c5 A6 c6, .int .i64 ((n + 1 : Nat) : Int), .pointer (some ⟨g, 0, none⟩)] w (RightPost w g (rightF (n + 1) x l)) := by
  have HG := Aside0.mk hg
  have HP := Aside0.mk hP
  have IH := Aside0.mk ih
  have HL1 := Aside0.mk h1
  have g0 : w.cell? ⟨g, 0, none⟩ = some (.int .i64 l) := (blk_cell hg 0).trans rfl
  have f0 := blk_frozen hg 0
  have n0 : w.heap.size ≠ g := World.new_ne w _ g0
  have lg : g < w.heap.size := blk_lt hg
  have LG := Aside0.mk lg
  have HS := Aside0.mk (RI.start hg hv hP h0)
  have LL6 := Aside0.mk hv.len6
  have LL5 := Aside0.mk hv.len5
  have hn : ¬ ((n + 1 : Nat) : Int) < 1 := by omega
  have hl : ¬ l - 1 < 0 := by omega
  have hw9 : wrap64 (n : Int) = (n : Int) := wrap_id (by omega) (by omega)
  clear hg hP ih hv hn1
  have HR := Aside0.mk (show rightF (n + 1) x l = rights (rightF n) (x.f6.drop 0) (l - 1) from rf_list h0 a c)
  have c2 : x.f5 = [] := List.length_eq_zero_iff.1 c
  clear c
  rw [a, c2] at HS
  simp only [List.length_nil] at HS
  focus
    go_enter Try.func72, Try.ntmps72
    go_wp2
    go_loopw [93] (fun i wr => ∃ (j : Nat) (lj : Int), j ≤ x.f6.length ∧ i = .int .i64 j ∧ Aside0 (rightF (n + 1) x l = rights (rightF n) (x.f6.drop j) lj) ∧ Aside0 (RI x w g l P A5 c5 A6 c6 lj wr)) (fun i _ => x.f6.length - (intOf i).toNat)
    case atStart => exact ⟨0, l - 1, Nat.zero_le _, rfl, HR, HS⟩
    case round =>
      obtain ⟨j, lj, hj, rfl, HE, HI⟩ := hrel
      clear HR HS
      by_cases hlt : j < x.f6.length
      · have HJ := Aside0.mk hlt
        obtain ⟨ad, B5, b5, B6, b6, rfl, hv, z0, z1, z2, z3, z4, z5, z6⟩ := HI.out.kv.el7 j hlt
        have HV2 := Aside0.mk hv
        have p0 : 0 ≤ (j : Int) := Int.natCast_nonneg j
        have q0 : (j : Int) < (x.f6.length : Int) := Int.ofNat_lt.2 hlt
        obtain ⟨y, hy⟩ : ∃ y, x.f6[j] = y := ⟨_, rfl⟩
        have hit := fun h => HE.out.trans (rights_hit (f := rightF n) (l := lj) hlt h)
        have fall := fun h => HE.out.trans (rights_fall (f := rightF n) (l := lj) hlt h)
        rw [hy] at hit fall z0 z1 z2 z3 z4 z5 z6 HV2
        have HHIT := Aside0.mk hit
        have HFALL := Aside0.mk fall
        obtain ⟨⟨b, l2⟩, hr⟩ : ∃ r, rightF n y lj = r := ⟨_, rfl⟩
        have HRY := Aside0.mk hr
        clear hit fall hv hr hy hlt
        have hc : Calls Try.prog 72 #[agg26 y B5 b5 B6 b6, .int .i64 n, .pointer (some ⟨g, 0, none⟩)] (wr.alloc (.cells #[.int .i64 y.f0, .bool y.f1, .int .i64 y.f2, .float .f64 y.f3, .string y.f4, .slice B5 y.f5.length b5, .slice B6 y.f6.length b6] 26)) (RightPost (wr.alloc (.cells #[.int .i64 y.f0, .bool y.f1, .int .i64 y.f2, .float .f64 y.f3, .string y.f4, .slice B5 y.f5.length b5, .slice B6 y.f6.length b6] 26)) g (b, l2)) := by
          have h := IH.out y B5 b5 B6 b6 P lj g (wr.alloc (.cells #[.int .i64 y.f0, .bool y.f1, .int .i64 y.f2, .float .f64 y.f3, .string y.f4, .slice B5 y.f5.length b5, .slice B6 y.f6.length b6] 26)) (HV2.out.below (below_alloc (Below.refl _ _) _)) (fun k hk => ⟨(HP.out k hk).1, far_lt (HP.out k hk).2 HI.out.grown.size⟩) HI.out.lo (Int.le_trans HI.out.hi HL1.out) (blk_alloc HI.out.ctr _)
          rwa [HRY.out] at h
        have HC := Aside0.mk hc
        clear hc
        cases b with
        | true =>
          have hb := right_bound n y lj
          rw [HRY.out] at hb
          have HB := Aside0.mk (hb HI.out.lo rfl)
          clear hb
          go_wp2_with (go_at_call 72; go_must (refine HC.out.mono ?_; rintro e W2 ⟨rfl, hc2, hg2⟩; have HN := Aside0.mk (HI.out.next LG.out HP.out hc2 hg2 HB.out.1 HB.out.2); clear hc2 hg2))
          go_roundw
          case rel => exact ⟨j + 1, l2, HJ.out, by rw [next63 HJ.out LL6.out], ⟨by have h := HHIT.out (by rw [HRY.out]); rw [HRY.out] at h; exact h⟩, HN⟩
          case measure => exact meas26 HJ.out LL6.out
        | false =>
          go_wp2_with (go_at_call 72; go_must (refine HC.out.mono ?_; rintro e W2 ⟨rfl, hc2, hg2⟩; have HN := Aside0.mk (show RightPost w g (false, l2) (.returned (.bool false)) W2 from ⟨rfl, hc2, grown_trans (grown_trans HI.out.grown (grown_alloc (grown_refl wr _) _) (fun j hj => .inr hj)) hg2 (fun j hj => .inr hj)⟩); clear hc2 hg2))
          go_ret
          have h := HFALL.out (by rw [HRY.out])
          rw [HRY.out] at h
          rw [h]
          exact HN.out
      · have e : j = x.f6.length := Nat.le_antisymm hj (Nat.not_lt.1 hlt)
        subst e
        have q1 : ¬ (x.f6.length : Int) < (x.f6.length : Int) := Int.lt_irrefl _
        clear hlt hj
        go_wp2
        go_ret
        exact HI.out.done (HE.out.trans rights_end)
theorem pos_succ {i : Nat} (h : 0 < i) : ∃ m, i = m + 1 := ⟨i - 1, by omega⟩
theorem add_succ_cell {w : World} {a : Addr} {m : Nat} {v : Value} (h : w.cell? (a.add (m + 1)) = some v) : w.cell? ⟨a.block, a.off + (m + 1), none⟩ = some v := by simpa [Addr.add] using h
theorem not_lt_int {a b : Nat} (h : ¬ a < b) : ¬ (a : Int) < (b : Int) := by omega
theorem rise_one {l : List ByteArray} : RiseTo l 1 := fun k hk _ hki => by omega
theorem idx_facts {m L : Nat} (h : m + 1 < L) (hL : L ≤ 9223372036854775807) : IntKind.i64.wrap ((m : Int) + 1 - 1) = (m : Int) ∧ IntKind.i64.wrap (m : Int) = (m : Int) ∧ wrap64 (m : Int) = (m : Int) ∧ 0 ≤ (m : Int) ∧ 0 ≤ (m : Int) + 1 ∧ (m : Int) < (L : Int) ∧ (m : Int) + 1 < (L : Int) ∧ ((m : Int) + 1).toNat = m + 1 := by
  have wb : (-9223372036854775808 : Int) ≤ (m : Int) ∧ (m : Int) ≤ 9223372036854775807 := by omega
  refine ⟨by rw [Int.add_sub_cancel]; exact IntWalk.i64_in _ wb, IntWalk.i64_in _ wb, wrap_id wb.1 wb.2, ?_, ?_, ?_, ?_, ?_⟩ <;> omega
set_option maxRecDepth 100000 in
set_option maxHeartbeats 8000000 in
theorem right_table (n : Nat) (hn1 : n ≤ 1000) (ih : RightC n) (x : S26) (A5 : Option Addr) (c5 : Nat) (A6 : Option Addr) (c6 : Nat) (P : Nat → Prop) (l : Int) (g : Nat) (w : World) (hv : KV w P x A5 c5 A6 c6) (hP : ∀ k, P k → k ≠ g ∧ k < w.heap.size) (h0 : 0 ≤ l - 1) (h1 : l ≤ 100000) (hg : w.heap[g]? = some (.cells #[.int .i64 l] 3 (0, 0))) (a : x.f0 = 7) :
    Calls Try.prog 72 #[agg26 x A5 c5 A6 c6, .int .i64 ((n + 1 : Nat) : Int), .pointer (some ⟨g, 0, none⟩)] w (RightPost w g (rightF (n + 1) x l)) := by
  have HG := Aside0.mk hg
  have HP := Aside0.mk hP
  have IH := Aside0.mk ih
  have HL1 := Aside0.mk h1
  have g0 : w.cell? ⟨g, 0, none⟩ = some (.int .i64 l) := (blk_cell hg 0).trans rfl
  have f0 := blk_frozen hg 0
  have n0 : w.heap.size ≠ g := World.new_ne w _ g0
  have lg : g < w.heap.size := blk_lt hg
  have LG := Aside0.mk lg
  have HS := Aside0.mk (RI.start hg hv hP h0)
  have LL6 := Aside0.mk hv.len6
  have LL5 := Aside0.mk hv.len5
  have hn : ¬ ((n + 1 : Nat) : Int) < 1 := by omega
  have hl : ¬ l - 1 < 0 := by omega
  have hw9 : wrap64 (n : Int) = (n : Int) := wrap_id (by omega) (by omega)
  clear hg hP ih hv hn1
  have b0 : (x.f0 == 0) = false := by rw [a]; rfl
  rw [a] at HS
  focus
    go_enter Try.func72, Try.ntmps72
    go_wp2
    go_loopw [7] (fun i wr => ∃ (i0 k : Nat), 0 < i0 ∧ i = .int .i64 i0 ∧ (i0 = 1 ∨ i0 ≤ x.f5.length) ∧ Aside0 (RiseTo x.f5 i0) ∧ Aside0 (wr = ((w.setCell ⟨g, 0, none⟩ (.int .i64 (l - 1))).alloc (.cells #[.int .i64 7, .bool x.f1, .int .i64 x.f2, .float .f64 x.f3, .string x.f4, .slice A5 x.f5.length c5, .slice A6 x.f6.length c6] 26)).drewN k)) (fun i _ => x.f5.length - (intOf i).toNat)
    case atStart => exact ⟨1, 0, Nat.one_pos, rfl, .inl rfl, ⟨rise_one⟩, ⟨rfl⟩⟩
    case round =>
      obtain ⟨i0, k, hi0, rfl, hi1, HRT, HWR⟩ := hrel
      have HI := Aside0.mk (by rw [HWR.out]; exact HS.out.drewN k : RI x w g l P A5 c5 A6 c6 (l - 1) wr)
      obtain ⟨e5, e6, e0⟩ := HI.out.cells
      by_cases hlt : i0 < x.f5.length
      · obtain ⟨m, rfl⟩ := pos_succ hi0
        obtain ⟨ad, hA, y0⟩ := HI.out.kv.key m (Nat.lt_of_succ_lt hlt)
        obtain ⟨ad2, hA2, y1⟩ := HI.out.kv.key (m + 1) hlt
        rw [hA] at hA2
        cases hA2
        subst hA
        have HJ := Aside0.mk hlt
        obtain ⟨w1, w3, w2, p0, p1, q0, q1, t1⟩ := idx_facts hlt LL5.out
        have y2 := add_succ_cell y1
        cases hb : Op.bytesLess (x.f5[m]'(Nat.lt_of_succ_lt hlt)).toList x.f5[m + 1].toList with
        | true =>
          have HRN := Aside0.mk (rise_next HRT.out hlt hi0 hb)
          clear hi1 HRT
          go_wp2
          go_region
          go_wp2
          go_roundw
          case rel => exact ⟨m + 1 + 1, k + 1, Nat.succ_pos _, congrArg (Value.int IntKind.i64) (next63 (j := m + 1) HJ.out LL5.out), .inr HJ.out, HRN, ⟨by rw [HWR.out]; rfl⟩⟩
          case measure => exact meas26 (j := m + 1) HJ.out LL5.out
        | false =>
          have HNO := Aside0.mk (rf_table_no (n := n) (l := l) h0 a (fun hh => by have := hh.1 (m + 1) (Nat.succ_pos _) hlt hlt; simp only [Nat.add_sub_cancel] at this; rw [hb] at this; cases this))
          clear hi1 HRT
          go_wp2
          go_region
          go_wp2
          go_ret
          exact (HI.out.drewN 1).done HNO.out
      · have HRR := Aside0.mk (show RiseTo x.f5 x.f5.length from fun k hk hkl hki => HRT.out k hk hkl (Nat.lt_of_lt_of_le hki (Nat.not_lt.1 hlt)))
        have q1 := not_lt_int hlt
        have HI := Aside0.mk HI.out
        clear hi1 HRT hlt hi0
        cases hL : (x.f5.length == x.f6.length) with
        | false =>
          have HNO := Aside0.mk (rf_table_no (n := n) (l := l) h0 a (fun hh => by rw [hh.2] at hL; simp at hL))
          have ne : ¬ (x.f5.length : Int) = (x.f6.length : Int) := fun e => by rw [Int.ofNat.inj e] at hL; simp at hL
          have ne2 : ¬ x.f5.length = x.f6.length := fun e => by rw [e] at hL; simp at hL
          go_wp2
          go_ret
          exact HI.out.done HNO.out
        | true =>
          have eqL : x.f5.length = x.f6.length := by simpa using hL
          have HR := Aside0.mk (show rightF (n + 1) x l = rights (rightF n) (x.f6.drop 0) (l - 1) from rf_table h0 a HRR.out eqL)
          have HS2 := Aside0.mk (show RI x w g l P A5 c5 A6 c6 (l - 1) wr from HI.out)
          clear HS HI HWR HRR hL
          go_wp2
          clear e5 e6 e0
          go_loopw [93] (fun i wr => ∃ (j : Nat) (lj : Int), j ≤ x.f6.length ∧ i = .int .i64 j ∧ Aside0 (rightF (n + 1) x l = rights (rightF n) (x.f6.drop j) lj) ∧ Aside0 (RI x w g l P A5 c5 A6 c6 lj wr)) (fun i _ => x.f6.length - (intOf i).toNat)
          case atStart => exact ⟨0, l - 1, Nat.zero_le _, rfl, HR, HS2⟩
          case round =>
            obtain ⟨j, lj, hj, rfl, HE, HI⟩ := hrel
            clear HR HS2
            by_cases hlt : j < x.f6.length
            · have HJ := Aside0.mk hlt
              obtain ⟨ad, B5, b5, B6, b6, rfl, hv, z0, z1, z2, z3, z4, z5, z6⟩ := HI.out.kv.el7 j hlt
              have HV2 := Aside0.mk hv
              have p0 : 0 ≤ (j : Int) := Int.natCast_nonneg j
              have q0 : (j : Int) < (x.f6.length : Int) := Int.ofNat_lt.2 hlt
              obtain ⟨y, hy⟩ : ∃ y, x.f6[j] = y := ⟨_, rfl⟩
              have hit := fun h => HE.out.trans (rights_hit (f := rightF n) (l := lj) hlt h)
              have fall := fun h => HE.out.trans (rights_fall (f := rightF n) (l := lj) hlt h)
              rw [hy] at hit fall z0 z1 z2 z3 z4 z5 z6 HV2
              have HHIT := Aside0.mk hit
              have HFALL := Aside0.mk fall
              obtain ⟨⟨b, l2⟩, hr⟩ : ∃ r, rightF n y lj = r := ⟨_, rfl⟩
              have HRY := Aside0.mk hr
              clear hit fall hv hr hy hlt
              have hc : Calls Try.prog 72 #[agg26 y B5 b5 B6 b6, .int .i64 n, .pointer (some ⟨g, 0, none⟩)] (wr.alloc (.cells #[.int .i64 y.f0, .bool y.f1, .int .i64 y.f2, .float .f64 y.f3, .string y.f4, .slice B5 y.f5.length b5, .slice B6 y.f6.length b6] 26)) (RightPost (wr.alloc (.cells #[.int .i64 y.f0, .bool y.f1, .int .i64 y.f2, .float .f64 y.f3, .string y.f4, .slice B5 y.f5.length b5, .slice B6 y.f6.length b6] 26)) g (b, l2)) := by
                have h := IH.out y B5 b5 B6 b6 P lj g (wr.alloc (.cells #[.int .i64 y.f0, .bool y.f1, .int .i64 y.f2, .float .f64 y.f3, .string y.f4, .slice B5 y.f5.length b5, .slice B6 y.f6.length b6] 26)) (HV2.out.below (below_alloc (Below.refl _ _) _)) (fun k hk => ⟨(HP.out k hk).1, far_lt (HP.out k hk).2 HI.out.grown.size⟩) HI.out.lo (Int.le_trans HI.out.hi HL1.out) (blk_alloc HI.out.ctr _)
                rwa [HRY.out] at h
              have HC := Aside0.mk hc
              clear hc
              cases b with
              | true =>
                have hb := right_bound n y lj
                rw [HRY.out] at hb
                have HB := Aside0.mk (hb HI.out.lo rfl)
                clear hb
                go_wp2_with (go_at_call 72; go_must (refine HC.out.mono ?_; rintro e W2 ⟨rfl, hc2, hg2⟩; have HN := Aside0.mk (HI.out.next LG.out HP.out hc2 hg2 HB.out.1 HB.out.2); clear hc2 hg2))
                go_roundw
                case rel => exact ⟨j + 1, l2, HJ.out, by rw [next63 HJ.out LL6.out], ⟨by have h := HHIT.out (by rw [HRY.out]); rw [HRY.out] at h; exact h⟩, HN⟩
                case measure => exact meas26 HJ.out LL6.out
              | false =>
                go_wp2_with (go_at_call 72; go_must (refine HC.out.mono ?_; rintro e W2 ⟨rfl, hc2, hg2⟩; have HN := Aside0.mk (show RightPost w g (false, l2) (.returned (.bool false)) W2 from ⟨rfl, hc2, grown_trans (grown_trans HI.out.grown (grown_alloc (grown_refl wr _) _) (fun j hj => .inr hj)) hg2 (fun j hj => .inr hj)⟩); clear hc2 hg2))
                go_ret
                have h := HFALL.out (by rw [HRY.out])
                rw [HRY.out] at h
                rw [h]
                exact HN.out
            · have e : j = x.f6.length := Nat.le_antisymm hj (Nat.not_lt.1 hlt)
              subst e
              have q1 : ¬ (x.f6.length : Int) < (x.f6.length : Int) := Int.lt_irrefl _
              clear hlt hj
              go_wp2
              go_ret
              exact HI.out.done (HE.out.trans rights_end)
end Go.Proofs.Ytjfbjkodjjlkiaa.HVal
/-! What tbTable comes to, for any value; and what is known where it tells a table. -/
namespace Go.Proofs.Ytjfbjkodjjlkiaa.HVal
open Go.RowKit Go.WideMaps Go.Maps Go.Proofs.YtjfbjkodjjlkiaaW.PrintWords Go.Proofs.YtjfbjkodjjlkiaaW.PrintLast Go.Proofs.YtjfbjkodjjlkiaaW.PrintMore Go.Proofs.Ytjfbjkodjjlkiaa.Plain Go.Proofs.Ytjfbjkodjjlkiaa.GTab
attribute [local go_sem] run_store_flt

theorem right_of : ∀ n, n ≤ 1000 → RightC n
  | 0, _ => fun x A5 c5 A6 c6 _ l g w _ _ h0 h1 hg => right_zero 0 x A5 c5 A6 c6 l g w h0 h1 hg (.inr rfl)
  | n + 1, hn => fun x A5 c5 A6 c6 P l g w hv hP h0 h1 hg => by
    by_cases hl : l - 1 < 0
    · exact right_zero (n + 1) x A5 c5 A6 c6 l g w h0 h1 hg (.inl hl)
    have hl0 : 0 ≤ l - 1 := by omega
    by_cases q6 : x.f0 < 6 ∧ 0 < x.f6.length
    · exact right_one n x A5 c5 A6 c6 l g w hl0 h1 hg (.inl q6)
    have e6 : x.f0 < 6 → x.f6.length = 0 := fun h => by
      rcases Nat.eq_zero_or_pos x.f6.length with e | e
      · exact e
      · exact absurd ⟨h, e⟩ q6
    by_cases k7 : x.f0 = 7
    · exact right_table n (by omega) (right_of n (by omega)) x A5 c5 A6 c6 P l g w hv hP hl0 h1 hg k7
    by_cases q5 : 0 < x.f5.length
    · exact right_one n x A5 c5 A6 c6 l g w hl0 h1 hg (.inr (.inl ⟨k7, e6, q5⟩))
    have e5 : x.f5.length = 0 := by omega
    by_cases k6 : x.f0 = 6
    · exact right_list n (by omega) (right_of n (by omega)) x A5 c5 A6 c6 P l g w hv hP hl0 h1 hg k6 e5
    by_cases k4 : x.f0 = 4
    · exact right_float n x A5 c5 A6 c6 l g w hl0 h1 hg k4 (e6 (by omega)) e5
    by_cases ks : x.f0 = 0 ∨ x.f0 = 1 ∨ x.f0 = 2 ∨ x.f0 = 5
    · exact right_one n x A5 c5 A6 c6 l g w hl0 h1 hg (.inr (.inr (.inl ⟨ks, e6 (by omega), e5⟩)))
    · exact right_one n x A5 c5 A6 c6 l g w hl0 h1 hg (.inr (.inr (.inr ⟨by omega, e6, e5⟩)))

set_option maxHeartbeats 2000000 in
theorem right_calls (x : S26) (A5 : Option Addr) (c5 : Nat) (A6 : Option Addr) (c6 : Nat) (P : Nat → Prop) (w : World) (hv : KV w P x A5 c5 A6 c6) (hP : ∀ k, P k → k < w.heap.size) :
    Calls Try.prog 43 #[agg26 x A5 c5 A6 c6, .int .i64 300] w fun e w' => e = .returned (.bool (rightF 50 x 300).1) ∧ Below w.heap.size w w' := by
  have HC := Aside0.mk (right_of 50 (by decide) x A5 c5 A6 c6 P 300 (w.heap.size + 1) ((w.alloc (.cells #[.int .i64 x.f0, .bool x.f1, .int .i64 x.f2, .float .f64 x.f3, .string x.f4, .slice A5 x.f5.length c5, .slice A6 x.f6.length c6] 26)).alloc (.cells #[.int .i64 300] 3))
    (hv.below (below_alloc (below_alloc (Below.refl _ _) _) _)) (fun k hk => by have := hP k hk; simp only [World.size_alloc]; omega) (by decide) (by decide) (by have := blk_new (w.alloc (.cells #[.int .i64 x.f0, .bool x.f1, .int .i64 x.f2, .float .f64 x.f3, .string x.f4, .slice A5 x.f5.length c5, .slice A6 x.f6.length c6] 26)) (.cells #[.int .i64 300] 3); rwa [World.size_alloc] at this))
  clear hv hP
  go_enter Try.func43, Try.ntmps43
  go_wp2_with (go_at_call 72; go_must (refine HC.out.mono ?_; rintro e w1 ⟨rfl, _, hg⟩; have HB := Aside0.mk (below_grown (below_alloc (below_alloc (Below.refl _ w) _) _) hg (Nat.le_succ _)); clear hg))
  go_ret
  exact ⟨rfl, HB.out⟩
/-- A table of at most 300 values that can be given. -/
noncomputable def tbB (x : S26) : Bool := decide (x.f0 = 7) && (rightF 50 x 300).1
set_option maxHeartbeats 2000000 in
theorem tb_calls (x : S26) (A5 : Option Addr) (c5 : Nat) (A6 : Option Addr) (c6 : Nat) (P : Nat → Prop) (w : World) (hv : KV w P x A5 c5 A6 c6) (hP : ∀ k, P k → k < w.heap.size) :
    Calls Try.prog 12 #[agg26 x A5 c5 A6 c6] w fun e w' => e = .returned (.bool (tbB x)) ∧ Below w.heap.size w w' := by
  have HV := Aside0.mk hv
  have HP := Aside0.mk hP
  have HF := Aside0.mk (show spec_IsTable.f x.f0 x.f1 x.f2 x.f3 x.f4 x.f5 x.f6 = some (decide (x.f0 = 7)) from rfl)
  have o := Kd.F_now hv.g5
  have o2 := Kd.F_now hv.g6
  have HC5 := Aside0.mk o
  have HC6 := Aside0.mk o2
  have HL5 := Aside0.mk hv.l5
  have HL6 := Aside0.mk hv.l6
  have HT := Aside0.mk (show tbB x = (decide (x.f0 = 7) && (rightF 50 x 300).1) from rfl)
  clear hv hP o o2
  obtain ⟨z, hz⟩ : ∃ z, decide (x.f0 = 7) = z := ⟨_, rfl⟩
  rw [hz] at HF HT
  clear hz
  go_enter Try.func12, Try.ntmps12
  cases z with
  | false =>
    go_wp2_with (go_at_call 20; go_must (refine (spec_IsTable.calls _ _ _ _ _ _ _ _ _ _ _ false _ (Kd.C_below HC5.out (below_alloc (Below.refl _ _) _)) HL5.out (Kd.C_below HC6.out (below_alloc (Below.refl _ _) _)) HL6.out HF.out).mono ?_; rintro e w1 ⟨rfl, hb⟩; have HB := Aside0.mk (below_step (below_alloc (Below.refl _ w) _) hb); clear hb))
    go_ret
    exact ⟨by rw [HT.out]; rfl, HB.out⟩
  | true =>
    go_wp2_with (first
      | (go_at_call 20; go_must (refine (spec_IsTable.calls _ _ _ _ _ _ _ _ _ _ _ true _ (Kd.C_below HC5.out (below_alloc (Below.refl _ _) _)) HL5.out (Kd.C_below HC6.out (below_alloc (Below.refl _ _) _)) HL6.out HF.out).mono ?_; rintro e w1 ⟨rfl, hb⟩; have HB := Aside0.mk (below_step (below_alloc (Below.refl _ w) _) hb); have BX := Aside0.mk (blk_below (blk_new w _) hb); have e0 := (blk_cell BX.out 0).trans rfl; have e1 := (blk_cell BX.out 1).trans rfl; have e2 := (blk_cell BX.out 2).trans rfl; have e3 := (blk_cell BX.out 3).trans rfl; have e4 := (blk_cell BX.out 4).trans rfl; have e5 := (blk_cell BX.out 5).trans rfl; have e6 := (blk_cell BX.out 6).trans rfl; clear hb))
      | (go_at_call 43; go_must (refine (right_calls x A5 c5 A6 c6 P _ (HV.out.below HB.out) (fun k hk => Nat.lt_of_lt_of_le (HP.out k hk) HB.out.size)).mono ?_; rintro e w2 ⟨rfl, hb⟩; have HB2 := Aside0.mk (below_step HB.out hb); clear hb)))
    go_ret
    exact ⟨by rw [HT.out]; rfl, HB2.out⟩
theorem tb_true {x : S26} (h : tbB x = true) : x.f0 = 7 ∧ Rt 50 x ∧ cnt 50 x ≤ 300 := by
  unfold tbB at h
  rw [Bool.and_eq_true, decide_eq_true_iff] at h
  obtain ⟨a, b, c⟩ := right_true 50 x 300 (by decide) h.2
  exact ⟨h.1, a, by omega⟩
end Go.Proofs.Ytjfbjkodjjlkiaa.HVal
/-! What spec.Same tells of two values, as a function. -/
namespace Go.Proofs.Ytjfbjkodjjlkiaa.HVal
open Go.RowKit Go.WideMaps Go.Maps Go.Proofs.YtjfbjkodjjlkiaaW.PrintWords Go.Proofs.YtjfbjkodjjlkiaaW.PrintLast Go.Proofs.YtjfbjkodjjlkiaaW.PrintMore Go.Proofs.Ytjfbjkodjjlkiaa.Plain Go.Proofs.Ytjfbjkodjjlkiaa.GTab
attribute [local go_sem] run_store_flt

/-- Two lists' values, one by one. -/
def all2 (f : S26 → S26 → Bool) : List S26 → List S26 → Bool
  | x :: xs, y :: ys => f x y && all2 f xs ys
  | _, _ => true
open Classical in
noncomputable def sameB : Nat → S26 → S26 → Bool
  | 0, _, _ => false
  | n + 1, a, b =>
    if a.f0 ≠ b.f0 ∨ (6 ≤ a.f0 ∧ a.f6.length ≠ b.f6.length) then false
    else if a.f0 = 1 then (a.f1 == b.f1)
    else if a.f0 = 2 then (a.f2 == b.f2)
    else if a.f0 = 4 then (FloatKind.f64.format.order a.f3 b.f3 == some .eq)
    else if a.f0 = 5 then (a.f4.toList == b.f4.toList)
    else if a.f0 = 7 ∧ a.f5 ≠ b.f5 then false
    else if 6 ≤ a.f0 then all2 (sameB n) a.f6 b.f6
    else true
/-- Values of at most n levels. -/
def Dp : Nat → S26 → Prop
  | 0, _ => False
  | n + 1, x => ∀ y ∈ x.f6, Dp n y
theorem dp_of : ∀ {n : Nat} {x : S26}, Rt n x → Dp n x
  | 0, _, h => h.elim
  | n + 1, x, h => by
    unfold Rt at h
    rcases h with ⟨_, _, h⟩ | ⟨_, _, _, h⟩ | ⟨_, _, h⟩ | ⟨_, _, _, h⟩
    · intro y hy
      rw [h] at hy
      cases hy
    · intro y hy
      rw [h] at hy
      cases hy
    · exact fun y hy => dp_of (h y hy)
    · exact fun y hy => dp_of (h y hy)
section
variable {n : Nat} {a b : S26}
theorem sb_kind (h : a.f0 ≠ b.f0) : sameB (n + 1) a b = false := by unfold sameB; rw [if_pos (.inl h)]
theorem sb_len (h : 6 ≤ a.f0) (h2 : a.f6.length ≠ b.f6.length) : sameB (n + 1) a b = false := by unfold sameB; rw [if_pos (.inr ⟨h, h2⟩)]
theorem sb_ok (h : a.f0 = b.f0) (h2 : 6 ≤ a.f0 → a.f6.length = b.f6.length) : ¬ (a.f0 ≠ b.f0 ∨ (6 ≤ a.f0 ∧ a.f6.length ≠ b.f6.length)) := by
  rintro (h3 | ⟨h3, h4⟩)
  · exact h3 h
  · exact h4 (h2 h3)
theorem sb_bool (h : a.f0 = b.f0) (h1 : a.f0 = 1) : sameB (n + 1) a b = (a.f1 == b.f1) := by unfold sameB; rw [if_neg (sb_ok h (fun _ => by omega)), if_pos h1]
theorem sb_int (h : a.f0 = b.f0) (h1 : a.f0 = 2) : sameB (n + 1) a b = (a.f2 == b.f2) := by unfold sameB; rw [if_neg (sb_ok h (fun _ => by omega)), if_neg (by omega), if_pos h1]
theorem sb_flt (h : a.f0 = b.f0) (h1 : a.f0 = 4) : sameB (n + 1) a b = (FloatKind.f64.format.order a.f3 b.f3 == some .eq) := by unfold sameB; rw [if_neg (sb_ok h (fun _ => by omega)), if_neg (by omega), if_neg (by omega), if_pos h1]
theorem sb_str (h : a.f0 = b.f0) (h1 : a.f0 = 5) : sameB (n + 1) a b = (a.f4.toList == b.f4.toList) := by unfold sameB; rw [if_neg (sb_ok h (fun _ => by omega)), if_neg (by omega), if_neg (by omega), if_neg (by omega), if_pos h1]
theorem sb_one (h : a.f0 = b.f0) (h1 : a.f0 < 6) (h2 : a.f0 ≠ 1 ∧ a.f0 ≠ 2 ∧ a.f0 ≠ 4 ∧ a.f0 ≠ 5) : sameB (n + 1) a b = true := by unfold sameB; rw [if_neg (sb_ok h (fun _ => by omega)), if_neg (by omega), if_neg (by omega), if_neg (by omega), if_neg (by omega), if_neg (by omega), if_neg (by omega)]
theorem sb_keys (h : a.f0 = b.f0) (h1 : a.f0 = 7) (h2 : a.f6.length = b.f6.length) (h3 : a.f5 ≠ b.f5) : sameB (n + 1) a b = false := by unfold sameB; rw [if_neg (sb_ok h (fun _ => h2)), if_neg (by omega), if_neg (by omega), if_neg (by omega), if_neg (by omega), if_pos ⟨h1, h3⟩]
theorem sb_all (h : a.f0 = b.f0) (h1 : 6 ≤ a.f0) (h2 : a.f6.length = b.f6.length) (h3 : a.f0 = 7 → a.f5 = b.f5) : sameB (n + 1) a b = all2 (sameB n) (a.f6.drop 0) (b.f6.drop 0) := by
  unfold sameB
  rw [if_neg (sb_ok h (fun _ => h2)), if_neg (by omega), if_neg (by omega), if_neg (by omega), if_neg (by omega), if_neg (fun e => e.2 (h3 e.1)), if_pos h1]
  rfl
end
theorem all2_next {f : S26 → S26 → Bool} {xs ys : List S26} {j : Nat} (h1 : j < xs.length) (h2 : j < ys.length) : all2 f (xs.drop j) (ys.drop j) = (f xs[j] ys[j] && all2 f (xs.drop (j + 1)) (ys.drop (j + 1))) := by
  rw [drop_next h1, drop_next h2]
  rfl
theorem all2_end {f : S26 → S26 → Bool} {xs ys : List S26} : all2 f (xs.drop xs.length) ys = true := by
  rw [List.drop_length]
  rfl

/-- Two values' boxes. -/
structure SI (x y : S26) (A5 : Option Addr) (c5 : Nat) (A6 : Option Addr) (c6 : Nat) (B5 : Option Addr) (d5 : Nat) (B6 : Option Addr) (d6 : Nat) (w wr : World) : Prop where
  bx : wr.heap[w.heap.size]? = some (.cells #[.int .i64 x.f0, .bool x.f1, .int .i64 x.f2, .float .f64 x.f3, .string x.f4, .slice A5 x.f5.length c5, .slice A6 x.f6.length c6] 26 (0, 0))
  by_ : wr.heap[w.heap.size + 1]? = some (.cells #[.int .i64 y.f0, .bool y.f1, .int .i64 y.f2, .float .f64 y.f3, .string y.f4, .slice B5 y.f5.length d5, .slice B6 y.f6.length d6] 26 (0, 0))
  below : Below w.heap.size w wr
section
variable {x y : S26} {A5 : Option Addr} {c5 : Nat} {A6 : Option Addr} {c6 : Nat} {B5 : Option Addr} {d5 : Nat} {B6 : Option Addr} {d6 : Nat} {w wr : World}
theorem SI.start : SI x y A5 c5 A6 c6 B5 d5 B6 d6 w ((w.alloc (.cells #[.int .i64 x.f0, .bool x.f1, .int .i64 x.f2, .float .f64 x.f3, .string x.f4, .slice A5 x.f5.length c5, .slice A6 x.f6.length c6] 26)).alloc (.cells #[.int .i64 y.f0, .bool y.f1, .int .i64 y.f2, .float .f64 y.f3, .string y.f4, .slice B5 y.f5.length d5, .slice B6 y.f6.length d6] 26)) := by
  refine ⟨blk_alloc (blk_new w _) _, ?_, below_alloc (below_alloc (Below.refl _ _) _) _⟩
  have := blk_new (w.alloc (.cells #[.int .i64 x.f0, .bool x.f1, .int .i64 x.f2, .float .f64 x.f3, .string x.f4, .slice A5 x.f5.length c5, .slice A6 x.f6.length c6] 26)) (.cells #[.int .i64 y.f0, .bool y.f1, .int .i64 y.f2, .float .f64 y.f3, .string y.f4, .slice B5 y.f5.length d5, .slice B6 y.f6.length d6] 26)
  rwa [World.size_alloc] at this
theorem SI.later {W : World} (h : SI x y A5 c5 A6 c6 B5 d5 B6 d6 w wr) (hb : Below wr.heap.size wr W) : SI x y A5 c5 A6 c6 B5 d5 B6 d6 w W := ⟨blk_below h.bx hb, blk_below h.by_ hb, below_step h.below hb⟩
theorem SI.cells (h : SI x y A5 c5 A6 c6 B5 d5 B6 d6 w wr) : wr.cell? ⟨w.heap.size, 0, none⟩ = some (.int .i64 x.f0) ∧ wr.cell? ⟨w.heap.size, 5, none⟩ = some (.slice A5 x.f5.length c5) ∧ wr.cell? ⟨w.heap.size, 6, none⟩ = some (.slice A6 x.f6.length c6) ∧
    wr.cell? ⟨w.heap.size + 1, 5, none⟩ = some (.slice B5 y.f5.length d5) ∧ wr.cell? ⟨w.heap.size + 1, 6, none⟩ = some (.slice B6 y.f6.length d6) :=
  ⟨(blk_cell h.bx 0).trans rfl, (blk_cell h.bx 5).trans rfl, (blk_cell h.bx 6).trans rfl, (blk_cell h.by_ 5).trans rfl, (blk_cell h.by_ 6).trans rfl⟩
end
def SamePost (w : World) (b : Bool) (e : Ending) (w' : World) : Prop := e = .returned (.bool b) ∧ Below w.heap.size w w'
def SameC (n : Nat) : Prop := ∀ (x : S26) (A5 : Option Addr) (c5 : Nat) (A6 : Option Addr) (c6 : Nat) (y : S26) (B5 : Option Addr) (d5 : Nat) (B6 : Option Addr) (d6 : Nat) (P Q : Nat → Prop) (w : World), Dp n x → KV w P x A5 c5 A6 c6 → KV w Q y B5 d5 B6 d6 →
  Calls Try.prog 21 #[agg26 x A5 c5 A6 c6, agg26 y B5 d5 B6 d6] w (SamePost w (sameB n x y))
set_option maxRecDepth 100000 in
set_option maxHeartbeats 8000000 in
theorem same_one (n : Nat) (x : S26) (A5 : Option Addr) (c5 : Nat) (A6 : Option Addr) (c6 : Nat) (y : S26) (B5 : Option Addr) (d5 : Nat) (B6 : Option Addr) (d6 : Nat) (w : World)
    (hc : x.f0 ≠ y.f0 ∨ (x.f0 = y.f0 ∧ 6 ≤ x.f0 ∧ x.f6.length ≠ y.f6.length) ∨ (x.f0 = y.f0 ∧ x.f0 < 6)) :
    Calls Try.prog 21 #[agg26 x A5 c5 A6 c6, agg26 y B5 d5 B6 d6] w (SamePost w (sameB (n + 1) x y)) := by
  rcases hc with h | ⟨h, h6, hl⟩ | ⟨h, h6⟩
  · have HR := Aside0.mk (sb_kind (n := n) h)
    have b0 : (x.f0 != y.f0) = true := bne_iff_ne.2 h
    have b1 : (x.f0 == y.f0) = false := beq_eq_false_iff_ne.2 h
    go_enter Try.func21, Try.ntmps21
    go_wp2
    go_ret
    exact ⟨by rw [HR.out]; rfl, below_alloc (below_alloc (Below.refl _ _) _) _⟩
  · have HR := Aside0.mk (sb_len (n := n) h6 hl)
    have b4 : ((x.f6.length : Int) != (y.f6.length : Int)) = true := bne_iff_ne.2 (fun e => hl (Int.ofNat.inj e))
    have b5 : 6 ≤ y.f0 := h ▸ h6
    clear hl h6
    go_enter Try.func21, Try.ntmps21
    go_wp2
    go_ret
    exact ⟨by rw [HR.out]; rfl, below_alloc (below_alloc (Below.refl _ _) _) _⟩
  · by_cases k1 : x.f0 = 1
    · have HR := Aside0.mk (sb_bool (n := n) h k1)
      have k2 : y.f0 = 1 := h ▸ k1
      clear h h6
      go_enter Try.func21, Try.ntmps21
      go_wp2
      all_goals go_ret
      all_goals exact ⟨by rw [HR.out]; rfl, below_alloc (below_alloc (Below.refl _ _) _) _⟩
    by_cases k2 : x.f0 = 2
    · have HR := Aside0.mk (sb_int (n := n) h k2)
      have k3 : y.f0 = 2 := h ▸ k2
      clear h h6 k1
      go_enter Try.func21, Try.ntmps21
      go_wp2
      all_goals go_ret
      all_goals exact ⟨by rw [HR.out]; rfl, below_alloc (below_alloc (Below.refl _ _) _) _⟩
    by_cases k4 : x.f0 = 4
    · have HR := Aside0.mk (sb_flt (n := n) h k4)
      have k5 : y.f0 = 4 := h ▸ k4
      clear h h6 k1 k2
      go_enter Try.func21, Try.ntmps21
      go_wp2
      all_goals go_ret
      all_goals exact ⟨by rw [HR.out]; rfl, below_alloc (below_alloc (Below.refl _ _) _) _⟩
    by_cases k5 : x.f0 = 5
    · have HR := Aside0.mk (sb_str (n := n) h k5)
      have k6 : y.f0 = 5 := h ▸ k5
      clear h h6 k1 k2 k4
      go_enter Try.func21, Try.ntmps21
      go_wp2
      all_goals go_ret
      all_goals exact ⟨by rw [HR.out]; rfl, below_alloc (below_alloc (Below.refl _ _) _) _⟩
    have HR := Aside0.mk (sb_one (n := n) h h6 ⟨k1, k2, k4, k5⟩)
    have b1 : (y.f0 == 1) = false := beq_eq_false_iff_ne.2 (h ▸ k1)
    have b2 : (y.f0 == 2) = false := beq_eq_false_iff_ne.2 (h ▸ k2)
    have b4 : (y.f0 == 4) = false := beq_eq_false_iff_ne.2 (h ▸ k4)
    have b5 : (y.f0 == 5) = false := beq_eq_false_iff_ne.2 (h ▸ k5)
    have b7 : (y.f0 == 7) = false := beq_eq_false_iff_ne.2 (by omega)
    have b6 : ¬ 6 ≤ y.f0 := by omega
    clear h6 k1 k2 k4 k5
    go_enter Try.func21, Try.ntmps21
    go_wp2
    all_goals
      go_loopw [7] (fun i wr => i = .int .i64 0 ∧ Aside0 (Below w.heap.size w wr) ∧ wr.cell? ⟨w.heap.size, 0, none⟩ = some (.int .i64 y.f0)) (fun _ _ => 0)
      case atStart => exact ⟨rfl, ⟨below_alloc (below_alloc (Below.refl _ _) _) _⟩, (blk_cell (blk_alloc (blk_new w _) _) 0).trans rfl⟩
      case round =>
        obtain ⟨rfl, HB, hz⟩ := hrel
        go_wp2
        go_ret
        exact ⟨by rw [HR.out]; rfl, HB.out⟩
end Go.Proofs.Ytjfbjkodjjlkiaa.HVal
/-! What spec.Same comes to, for values whose first one has at most so many levels. -/
namespace Go.Proofs.Ytjfbjkodjjlkiaa.HVal
open Go.RowKit Go.WideMaps Go.Maps Go.Proofs.YtjfbjkodjjlkiaaW.PrintWords Go.Proofs.YtjfbjkodjjlkiaaW.PrintLast Go.Proofs.YtjfbjkodjjlkiaaW.PrintMore Go.Proofs.Ytjfbjkodjjlkiaa.Plain Go.Proofs.Ytjfbjkodjjlkiaa.GTab
attribute [local go_sem] run_store_flt

theorem Below.drew_then {w W : World} (h : Below w.drew.heap.size w.drew W) : Below w.heap.size w W := ⟨h.os, h.tape, h.output, h.size, h.block⟩
theorem take_eq_next {l m : List ByteArray} {j : Nat} (h1 : j < l.length) (h2 : j < m.length) (h : l.take j = m.take j) (e : l[j] = m[j]) : l.take (j + 1) = m.take (j + 1) := by rw [take_next h1, take_next h2, h, e]
theorem ne_of_at {l m : List ByteArray} {j : Nat} (h1 : j < l.length) (h2 : j < m.length) (e : l[j] ≠ m[j]) : l ≠ m := fun h => e (by subst h; rfl)
theorem ne_of_len {l m : List ByteArray} (e : l.length ≠ m.length) : l ≠ m := fun h => e (by rw [h])
theorem eq_of_take {l m : List ByteArray} (h : l.take l.length = m.take l.length) (e : l.length = m.length) : l = m := by
  rw [List.take_length] at h
  rw [h, e, List.take_length]
set_option maxRecDepth 100000 in
set_option maxHeartbeats 8000000 in
theorem same_many (n : Nat) (ih : SameC n) (x : S26) (A5 : Option Addr) (c5 : Nat) (A6 : Option Addr) (c6 : Nat) (y : S26) (B5 : Option Addr) (d5 : Nat) (B6 : Option Addr) (d6 : Nat) (P Q : Nat → Prop) (w : World) (hd : Dp (n + 1) x) (hv : KV w P x A5 c5 A6 c6) (hw : KV w Q y B5 d5 B6 d6)
    (h : x.f0 = y.f0) (h6 : 6 ≤ x.f0) (hl : x.f6.length = y.f6.length) :
    Calls Try.prog 21 #[agg26 x A5 c5 A6 c6, agg26 y B5 d5 B6 d6] w (SamePost w (sameB (n + 1) x y)) := by
  have IH := Aside0.mk ih
  have HD := Aside0.mk (show ∀ u ∈ x.f6, Dp n u from hd)
  have HV := Aside0.mk hv
  have HW := Aside0.mk hw
  have HLN := Aside0.mk hl
  have LL6 := Aside0.mk hv.len6
  have LL5 := Aside0.mk hv.len5
  have b0 : (x.f0 != y.f0) = false := by simp [h]
  have bl : ((x.f6.length : Int) != (y.f6.length : Int)) = false := by simp [hl]
  have b1 : (x.f0 == 1) = false := beq_eq_false_iff_ne.2 (by omega)
  have b2 : (x.f0 == 2) = false := beq_eq_false_iff_ne.2 (by omega)
  have b4 : (x.f0 == 4) = false := beq_eq_false_iff_ne.2 (by omega)
  have b5 : (x.f0 == 5) = false := beq_eq_false_iff_ne.2 (by omega)
  have HS := Aside0.mk (SI.start (x := x) (y := y) (A5 := A5) (c5 := c5) (A6 := A6) (c6 := c6) (B5 := B5) (d5 := d5) (B6 := B6) (d6 := d6) (w := w))
  by_cases k7 : x.f0 = 7
  · have b7 : (x.f0 == 7) = true := by simp [k7]
    by_cases kl : x.f5.length = y.f5.length
    · have bk : ((x.f5.length : Int) != (y.f5.length : Int)) = false := by simp [kl]
      have hkeys := fun (h5 : x.f5 ≠ y.f5) => sb_keys (n := n) h k7 hl h5
      have hall := fun (h5 : x.f5 = y.f5) => sb_all (n := n) h h6 hl (fun _ => h5)
      have HKEYS := Aside0.mk hkeys
      have HALL := Aside0.mk hall
      have HKL := Aside0.mk kl
      clear hkeys hall kl k7 h hl ih hd hv hw
      go_enter Try.func21, Try.ntmps21
      go_wp2
      go_loopw [69] (fun i wr => ∃ j : Nat, j ≤ x.f5.length ∧ i = .int .i64 j ∧ Aside0 (x.f5.take j = y.f5.take j) ∧ Aside0 (SI x y A5 c5 A6 c6 B5 d5 B6 d6 w wr)) (fun i _ => x.f5.length - (intOf i).toNat)
      case atStart => exact ⟨0, Nat.zero_le _, rfl, ⟨rfl⟩, HS⟩
      case round =>
        obtain ⟨j, hj, rfl, HT, HI⟩ := hrel
        clear HS
        obtain ⟨s0, s5, s6, r5, r6⟩ := HI.out.cells
        by_cases hlt : j < x.f5.length
        · have HJ := Aside0.mk hlt
          have hlt2 : j < y.f5.length := HKL.out ▸ hlt
          obtain ⟨ad, hA, z0⟩ := (HV.out.below HI.out.below).key j hlt
          obtain ⟨ad2, hA2, y0⟩ := (HW.out.below HI.out.below).key j hlt2
          subst hA hA2
          have p0 : 0 ≤ (j : Int) := Int.natCast_nonneg j
          have q0 : (j : Int) < (x.f5.length : Int) := Int.ofNat_lt.2 hlt
          have q2 : (j : Int) < (y.f5.length : Int) := Int.ofNat_lt.2 hlt2
          by_cases he : x.f5[j] = y.f5[j]
          · have HN := Aside0.mk (take_eq_next hlt hlt2 HT.out he)
            have hq : (x.f5[j].toList == y.f5[j].toList) = true := by rw [he]; simp
            clear he
            go_wp2
            go_roundw
            case rel => exact ⟨j + 1, HJ.out, congrArg (Value.int IntKind.i64) (next63 HJ.out LL5.out), HN, HI⟩
            case measure => exact meas26 HJ.out LL5.out
          · have HN := Aside0.mk (HKEYS.out (ne_of_at hlt hlt2 he))
            have hq : (x.f5[j].toList == y.f5[j].toList) = false := by rw [beq_toList]; exact decide_eq_false he
            clear he
            go_wp2
            go_ret
            exact ⟨by rw [HN.out]; rfl, HI.out.below⟩
        · have e : j = x.f5.length := Nat.le_antisymm hj (Nat.not_lt.1 hlt)
          subst e
          have q1 : ¬ (x.f5.length : Int) < (x.f5.length : Int) := Int.lt_irrefl _
          have HR := Aside0.mk (HALL.out (eq_of_take HT.out HKL.out))
          have HS := Aside0.mk HI.out
          clear hlt hj HT HALL HKEYS HI
          go_wp2
          clear s0 s5 s6 r5 r6
          go_loopw [7] (fun i wr => ∃ j : Nat, j ≤ x.f6.length ∧ i = .int .i64 j ∧ Aside0 (sameB (n + 1) x y = all2 (sameB n) (x.f6.drop j) (y.f6.drop j)) ∧ Aside0 (SI x y A5 c5 A6 c6 B5 d5 B6 d6 w wr)) (fun i _ => x.f6.length - (intOf i).toNat)
          case atStart => exact ⟨0, Nat.zero_le _, rfl, HR, HS⟩
          case round =>
            obtain ⟨j, hj, rfl, HE, HI⟩ := hrel
            clear HR HS
            obtain ⟨s0, s5, s6, r5, r6⟩ := HI.out.cells
            by_cases hlt : j < x.f6.length
            · have HJ := Aside0.mk hlt
              have hlt2 : j < y.f6.length := HLN.out ▸ hlt
              obtain ⟨ad, E5, e5, E6, e6, hA, hv, z0, z1, z2, z3, z4, z5, z6⟩ := (HV.out.below HI.out.below).el7 j hlt
              obtain ⟨ad2, F5, k5, F6, k6, hA2, hv2, y0, y1, y2, y3, y4, y5, y6⟩ := (HW.out.below HI.out.below).el7 j hlt2
              subst hA hA2
              have HE2 := Aside0.mk (HE.out.trans (all2_next (f := sameB n) hlt hlt2))
              have HDY := Aside0.mk (HD.out _ (List.getElem_mem hlt))
              have p0 : 0 ≤ (j : Int) := Int.natCast_nonneg j
              have q0 : (j : Int) < (x.f6.length : Int) := Int.ofNat_lt.2 hlt
              have q2 : (j : Int) < (y.f6.length : Int) := Int.ofNat_lt.2 hlt2
              obtain ⟨u, hu⟩ : ∃ u, x.f6[j] = u := ⟨_, rfl⟩
              obtain ⟨t, ht⟩ : ∃ t, y.f6[j] = t := ⟨_, rfl⟩
              rw [hu] at z0 z1 z2 z3 z4 z5 z6 hv HE2 HDY
              rw [ht] at y0 y1 y2 y3 y4 y5 y6 hv2 HE2
              have HC := Aside0.mk (IH.out u E5 e5 E6 e6 t F5 k5 F6 k6 P Q wr.drew HDY.out (hv.step (fun _ _ _ => rfl)) (hv2.step (fun _ _ _ => rfl)))
              clear hu ht hv hv2 hlt hlt2
              go_wp2
              go_still_tail 10, (by kernel_rfl)
              repeat still_step
              try refine wpStill_nil ?_
              change wpList _ _ _ _ _ wr.drew
              clear z0 z1 z2 z3 z4 z5 z6 y0 y1 y2 y3 y4 y5 y6 s0 s5 s6 r5 r6
              obtain ⟨b, hb⟩ : ∃ b, sameB n u t = b := ⟨_, rfl⟩
              rw [hb] at HC HE2
              clear hb
              cases b with
              | true =>
                go_wp2_with (go_at_call 21; go_must (refine HC.out.mono ?_; rintro e W2 ⟨rfl, hb2⟩; have HN := Aside0.mk (HI.out.later (Below.drew_then hb2)); clear hb2))
                go_roundw
                case rel => exact ⟨j + 1, HJ.out, congrArg (Value.int IntKind.i64) (next63 HJ.out LL6.out), HE2, HN⟩
                case measure => exact meas26 HJ.out LL6.out
              | false =>
                go_wp2_with (go_at_call 21; go_must (refine HC.out.mono ?_; rintro e W2 ⟨rfl, hb2⟩; have HN := Aside0.mk (HI.out.later (Below.drew_then hb2)); clear hb2))
                go_ret
                exact ⟨by rw [HE2.out]; rfl, HN.out.below⟩
            · have e : j = x.f6.length := Nat.le_antisymm hj (Nat.not_lt.1 hlt)
              subst e
              have q1 : ¬ (x.f6.length : Int) < (x.f6.length : Int) := Int.lt_irrefl _
              clear hlt hj
              go_wp2
              go_ret
              exact ⟨by rw [HE.out, all2_end]; rfl, HI.out.below⟩
    · have HR := Aside0.mk (sb_keys (n := n) h k7 hl (ne_of_len kl))
      have bk : ((x.f5.length : Int) != (y.f5.length : Int)) = true := bne_iff_ne.2 (fun e => kl (Int.ofNat.inj e))
      clear kl k7 h hl ih hd hv hw HS
      go_enter Try.func21, Try.ntmps21
      go_wp2
      go_ret
      exact ⟨by rw [HR.out]; rfl, below_alloc (below_alloc (Below.refl _ _) _) _⟩
  · have b7 : (x.f0 == 7) = false := beq_eq_false_iff_ne.2 k7
    have HR := Aside0.mk (sb_all (n := n) h h6 hl (fun e => absurd e k7))
    clear k7 h hl ih hd hv hw
    go_enter Try.func21, Try.ntmps21
    go_wp2
    go_loopw [7] (fun i wr => ∃ j : Nat, j ≤ x.f6.length ∧ i = .int .i64 j ∧ Aside0 (sameB (n + 1) x y = all2 (sameB n) (x.f6.drop j) (y.f6.drop j)) ∧ Aside0 (SI x y A5 c5 A6 c6 B5 d5 B6 d6 w wr)) (fun i _ => x.f6.length - (intOf i).toNat)
    case atStart => exact ⟨0, Nat.zero_le _, rfl, HR, HS⟩
    case round =>
      obtain ⟨j, hj, rfl, HE, HI⟩ := hrel
      clear HR HS
      obtain ⟨s0, s5, s6, r5, r6⟩ := HI.out.cells
      by_cases hlt : j < x.f6.length
      · have HJ := Aside0.mk hlt
        have hlt2 : j < y.f6.length := HLN.out ▸ hlt
        obtain ⟨ad, E5, e5, E6, e6, hA, hv, z0, z1, z2, z3, z4, z5, z6⟩ := (HV.out.below HI.out.below).el7 j hlt
        obtain ⟨ad2, F5, k5, F6, k6, hA2, hv2, y0, y1, y2, y3, y4, y5, y6⟩ := (HW.out.below HI.out.below).el7 j hlt2
        subst hA hA2
        have HE2 := Aside0.mk (HE.out.trans (all2_next (f := sameB n) hlt hlt2))
        have HDY := Aside0.mk (HD.out _ (List.getElem_mem hlt))
        have p0 : 0 ≤ (j : Int) := Int.natCast_nonneg j
        have q0 : (j : Int) < (x.f6.length : Int) := Int.ofNat_lt.2 hlt
        have q2 : (j : Int) < (y.f6.length : Int) := Int.ofNat_lt.2 hlt2
        obtain ⟨u, hu⟩ : ∃ u, x.f6[j] = u := ⟨_, rfl⟩
        obtain ⟨t, ht⟩ : ∃ t, y.f6[j] = t := ⟨_, rfl⟩
        rw [hu] at z0 z1 z2 z3 z4 z5 z6 hv HE2 HDY
        rw [ht] at y0 y1 y2 y3 y4 y5 y6 hv2 HE2
        have HC := Aside0.mk (IH.out u E5 e5 E6 e6 t F5 k5 F6 k6 P Q wr.drew HDY.out (hv.step (fun _ _ _ => rfl)) (hv2.step (fun _ _ _ => rfl)))
        clear hu ht hv hv2 hlt hlt2
        go_wp2
        go_still_tail 10, (by kernel_rfl)
        repeat still_step
        try refine wpStill_nil ?_
        change wpList _ _ _ _ _ wr.drew
        clear z0 z1 z2 z3 z4 z5 z6 y0 y1 y2 y3 y4 y5 y6 s0 s5 s6 r5 r6
        obtain ⟨b, hb⟩ : ∃ b, sameB n u t = b := ⟨_, rfl⟩
        rw [hb] at HC HE2
        clear hb
        cases b with
        | true =>
          go_wp2_with (go_at_call 21; go_must (refine HC.out.mono ?_; rintro e W2 ⟨rfl, hb2⟩; have HN := Aside0.mk (HI.out.later (Below.drew_then hb2)); clear hb2))
          go_roundw
          case rel => exact ⟨j + 1, HJ.out, congrArg (Value.int IntKind.i64) (next63 HJ.out LL6.out), HE2, HN⟩
          case measure => exact meas26 HJ.out LL6.out
        | false =>
          go_wp2_with (go_at_call 21; go_must (refine HC.out.mono ?_; rintro e W2 ⟨rfl, hb2⟩; have HN := Aside0.mk (HI.out.later (Below.drew_then hb2)); clear hb2))
          go_ret
          exact ⟨by rw [HE2.out]; rfl, HN.out.below⟩
      · have e : j = x.f6.length := Nat.le_antisymm hj (Nat.not_lt.1 hlt)
        subst e
        have q1 : ¬ (x.f6.length : Int) < (x.f6.length : Int) := Int.lt_irrefl _
        clear hlt hj
        go_wp2
        go_ret
        exact ⟨by rw [HE.out, all2_end]; rfl, HI.out.below⟩
theorem same_of : ∀ n, SameC n
  | 0 => fun _ _ _ _ _ _ _ _ _ _ _ _ _ hd => hd.elim
  | n + 1 => fun x A5 c5 A6 c6 y B5 d5 B6 d6 P Q w hd hv hw => by
    by_cases h : x.f0 = y.f0
    · by_cases h6 : 6 ≤ x.f0
      · by_cases hl : x.f6.length = y.f6.length
        · exact same_many n (same_of n) x A5 c5 A6 c6 y B5 d5 B6 d6 P Q w hd hv hw h h6 hl
        · exact same_one n x A5 c5 A6 c6 y B5 d5 B6 d6 w (.inr (.inl ⟨h, h6, hl⟩))
      · exact same_one n x A5 c5 A6 c6 y B5 d5 B6 d6 w (.inr (.inr ⟨h, by omega⟩))
    · exact same_one n x A5 c5 A6 c6 y B5 d5 B6 d6 w (.inl h)
end Go.Proofs.Ytjfbjkodjjlkiaa.HVal
/-! A value and its canonical form are the same to spec.Same; what tbGot comes to. -/
namespace Go.Proofs.Ytjfbjkodjjlkiaa.HVal
open Go.RowKit Go.WideMaps Go.Maps Go.Proofs.YtjfbjkodjjlkiaaW.PrintWords Go.Proofs.YtjfbjkodjjlkiaaW.PrintLast Go.Proofs.YtjfbjkodjjlkiaaW.PrintMore Go.Proofs.Ytjfbjkodjjlkiaa.Plain Go.Proofs.Ytjfbjkodjjlkiaa.GTab
attribute [local go_sem] run_store_flt

theorem rt_kids {n : Nat} {x : S26} (h : Rt (n + 1) x) : ∀ y ∈ x.f6, Rt n y := by
  unfold Rt at h
  rcases h with ⟨_, _, h⟩ | ⟨_, _, _, h⟩ | ⟨_, _, h⟩ | ⟨_, _, _, h⟩
  · intro y hy
    rw [h] at hy
    cases hy
  · intro y hy
    rw [h] at hy
    cases hy
  · exact h
  · exact h
section
variable {n : Nat} {x : S26}
theorem canon_0 (h : x.f0 = 0) : canon (n + 1) x = z26 := by unfold canon; rw [h]; rfl
theorem canon_1 (h : x.f0 = 1) : canon (n + 1) x = { z26 with f0 := 1, f1 := x.f1 } := by unfold canon; rw [h]; rfl
theorem canon_2 (h : x.f0 = 2) : canon (n + 1) x = { z26 with f0 := 2, f2 := x.f2 } := by unfold canon; rw [h]; rfl
theorem canon_4 (h : x.f0 = 4) : canon (n + 1) x = { z26 with f0 := 4, f3 := x.f3 } := by unfold canon; rw [h]; rfl
theorem canon_5 (h : x.f0 = 5) : canon (n + 1) x = { z26 with f0 := 5, f4 := x.f4 } := by unfold canon; rw [h]; rfl
theorem canon_6 (h : x.f0 = 6) : canon (n + 1) x = { z26 with f0 := 6, f6 := x.f6.map (canon n) } := by unfold canon; rw [h]; rfl
theorem canon_7 (h : x.f0 = 7) : canon (n + 1) x = { z26 with f0 := 7, f5 := x.f5, f6 := x.f6.map (canon n) } := by unfold canon; rw [h]; rfl
/-- The kinds of a value that is right. -/
theorem rt_cases (h : Rt (n + 1) x) : x.f0 = 0 ∨ x.f0 = 1 ∨ x.f0 = 2 ∨ x.f0 = 5 ∨ (x.f0 = 4 ∧ fin x.f3 = true) ∨ x.f0 = 6 ∨ x.f0 = 7 := by
  unfold Rt at h
  rcases h with ⟨h | h | h | h, _⟩ | ⟨h, h2, _⟩ | ⟨h, _⟩ | ⟨h, _⟩
  · exact .inl h
  · exact .inr (.inl h)
  · exact .inr (.inr (.inl h))
  · exact .inr (.inr (.inr (.inl h)))
  · exact .inr (.inr (.inr (.inr (.inl ⟨h, h2⟩))))
  · exact .inr (.inr (.inr (.inr (.inr (.inl h)))))
  · exact .inr (.inr (.inr (.inr (.inr (.inr h)))))
end
theorem dp_canon : ∀ {n : Nat} {x : S26}, Rt n x → Dp n (canon n x)
  | 0, _, h => h.elim
  | n + 1, x, h => by
    have hk := rt_kids h
    have hm : ∀ z ∈ x.f6.map (canon n), Dp n z := fun z hz => by
      obtain ⟨y, hy, rfl⟩ := List.mem_map.1 hz
      exact dp_canon (hk y hy)
    rcases rt_cases h with h0 | h0 | h0 | h0 | ⟨h0, _⟩ | h0 | h0
    · rw [canon_0 h0]
      exact fun z hz => nomatch hz
    · rw [canon_1 h0]
      exact fun z hz => nomatch hz
    · rw [canon_2 h0]
      exact fun z hz => nomatch hz
    · rw [canon_5 h0]
      exact fun z hz => nomatch hz
    · rw [canon_4 h0]
      exact fun z hz => nomatch hz
    · rw [canon_6 h0]
      exact hm
    · rw [canon_7 h0]
      exact hm
theorem all2_map {f : S26 → S26 → Bool} {g : S26 → S26} : ∀ (l : List S26), (∀ y ∈ l, f (g y) y = true) → all2 f (l.map g) l = true
  | [], _ => rfl
  | y :: r, h => by
    rw [List.map_cons, all2, h y List.mem_cons_self, Bool.true_and]
    exact all2_map r fun z hz => h z (List.mem_cons_of_mem _ hz)
theorem same_canon : ∀ {n : Nat} {x : S26}, Rt n x → sameB n (canon n x) x = true
  | 0, _, h => h.elim
  | n + 1, x, h => by
    have hk := rt_kids h
    have hm : all2 (sameB n) (x.f6.map (canon n)) x.f6 = true := all2_map _ fun y hy => same_canon (hk y hy)
    rcases rt_cases h with h0 | h0 | h0 | h0 | ⟨h0, hf⟩ | h0 | h0
    · rw [canon_0 h0]
      exact sb_one (Eq.trans (b := 0) rfl h0.symm) (by decide) ⟨by decide, by decide, by decide, by decide⟩
    · rw [canon_1 h0, sb_bool (Eq.trans (b := 1) rfl h0.symm) rfl]
      exact beq_self_eq_true _
    · rw [canon_2 h0, sb_int (Eq.trans (b := 2) rfl h0.symm) rfl]
      exact beq_self_eq_true _
    · rw [canon_5 h0, sb_str (Eq.trans (b := 5) rfl h0.symm) rfl]
      exact beq_self_eq_true _
    · rw [canon_4 h0, sb_flt (Eq.trans (b := 4) rfl h0.symm) rfl]
      exact hf
    · obtain ⟨u, hu⟩ : ∃ u, canon (n + 1) x = u := ⟨_, rfl⟩
      have e0 : u.f0 = 6 := by rw [← hu, canon_6 h0]
      have e6 : u.f6 = x.f6.map (canon n) := by rw [← hu, canon_6 h0]
      rw [hu, sb_all (by rw [e0, h0]) (by omega) (by rw [e6]; simp) (fun e => by omega), e6]
      exact hm
    · obtain ⟨u, hu⟩ : ∃ u, canon (n + 1) x = u := ⟨_, rfl⟩
      have e0 : u.f0 = 7 := by rw [← hu, canon_7 h0]
      have e5 : u.f5 = x.f5 := by rw [← hu, canon_7 h0]
      have e6 : u.f6 = x.f6.map (canon n) := by rw [← hu, canon_7 h0]
      rw [hu, sb_all (by rw [e0, h0]) (by omega) (by rw [e6]; simp) (fun _ => e5), e6]
      exact hm
end Go.Proofs.Ytjfbjkodjjlkiaa.HVal
