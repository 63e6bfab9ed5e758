/- What impl.PathValue comes to. What spec.IsTable and spec.At come to. -/
import Derived.Test.YtjfbjkodjjlkiaaHPathV
import Derived.Test.YtjfbjkodjjlkiaaBD
import Derived.Defers
import Derived.Recover
import Derived.Test.YtjfbjkodjjlkiaaBC
/-! What impl.PathValue comes to. -/
namespace Go.Proofs.Ytjfbjkodjjlkiaa.HVal
open Go.RowKit Go.WideMaps Go.Maps Go.Proofs.YtjfbjkodjjlkiaaW.PrintWords Go.Proofs.YtjfbjkodjjlkiaaW.PrintLast Go.Proofs.YtjfbjkodjjlkiaaW.PrintMore Go.Proofs.Ytjfbjkodjjlkiaa.Plain Go.Proofs.Ytjfbjkodjjlkiaa.GTab Go.Proofs.Ytjfbjkodjjlkiaa.HBytes
attribute [local go_sem] run_store_flt

/-- A plain value that is given back. -/
def Val26 (w : World) (v : Value) (x : S26) : Prop := ∃ A5 c5 A6 c6, ∃ P : Nat → Prop, v = agg26 x A5 c5 A6 c6 ∧ KV w P x A5 c5 A6 c6 ∧ ∀ k, P k → k < w.heap.size
theorem Val26.of {n : Nat} {w w' : World} {x : S26} {e : Ending} (h : ValPost n w x e w') : ∃ A5 c5 A6 c6, ∃ P : Nat → Prop, e = .returned (agg26 (canon n x) A5 c5 A6 c6) ∧ KV w' P (canon n x) A5 c5 A6 c6 ∧ (∀ k, P k → w.heap.size ≤ k ∧ k < w'.heap.size) ∧ Below w.heap.size w w' := by
  obtain ⟨v5, v6, rfl, hm, hb⟩ := h
  obtain ⟨A5, c5, A6, c6, e, hv⟩ := kv_of (Kd.FK_of_M (k26.M_bound hm))
  simp only [List.cons.injEq, and_true, true_and] at e
  obtain ⟨rfl, rfl⟩ := e
  exact ⟨A5, c5, A6, c6, _, rfl, hv, fun k hk => ⟨hk.2.1, hk.2.2.1⟩, hb⟩
theorem blk_at {w : World} {b : Nat} (o : Obj) (h : w.heap.size = b) : (w.alloc o).heap[b]? = some o := by subst h; exact blk_new w o
theorem blk_setO {w : World} {b : Nat} {o : Obj} (h : w.heap[b]? = some o) {p : Addr} (hne : b ≠ p.block) (v : Value) : (w.setCell p v).heap[b]? = some o := (Below.heap_setCell w p v b hne).trans h
theorem catch28 (p1 p2 : Value) (w : World) : CallsD Try.prog 59 #[p1, p2] .returning w fun e u' w' => e = .returned (.tuple #[]) ∧ u' = .returning ∧ w' = w := by
  refine callsD_of_wpS Try.func59 rfl fun c₀ cs hu => ?_
  apply wpS_seq
  apply wpS_region
  simp [wpOpsS, go_sem, recoverD, hu, Try.ntmps59, Exit.thenS]
  refine wpS_cond (t := false) (by simp [Act.eval, Array.replicate]) ?_
  simp only [Bool.false_eq_true, if_false]
  refine wpS_of_wp (wp_skip ?_)
  cases c₀
  simp_all [bodyPostS, results, Try.results59]
/-- The two results' blocks, as made. -/
structure Res (w : World) (b : Nat) (W : World) : Prop where
  b1 : W.heap[b]? = some (.cells #[.int .i64 0, .bool false, .int .i64 0, .float .f64 0, .string ⟨#[]⟩, .slice none 0 0, .slice none 0 0] 26 (0, 0))
  b2 : W.heap[b + 1]? = some (.cells #[.int .i64 0] 3 (0, 0))
  below : Below w.heap.size w W
theorem Res.later {w W W2 : World} {b : Nat} (h : Res w b W) (hb : Below W.heap.size W W2) : Res w b W2 := ⟨blk_below h.b1 hb, blk_below h.b2 hb, below_step h.below hb⟩
theorem Res.start (w : World) (cs : Array Value) : Res w (w.heap.size + 1) (((w.alloc (.cells cs 26)).alloc (.cells #[.int .i64 0, .bool false, .int .i64 0, .float .f64 0, .string ⟨#[]⟩, .slice none 0 0, .slice none 0 0] 26)).alloc (.cells #[.int .i64 0] 3)) :=
  ⟨blk_alloc (blk_at _ (by simp)) _, blk_at _ (by simp), below_alloc (below_alloc (below_alloc (Below.refl _ _) _) _) _⟩
theorem Res.cells {w W : World} {b : Nat} (h : Res w b W) : (W.cell? ⟨b, 0, none⟩ = some (.int .i64 0) ∧ W.cell? ⟨b, 1, none⟩ = some (.bool false) ∧ W.cell? ⟨b, 2, none⟩ = some (.int .i64 0) ∧ W.cell? ⟨b, 3, none⟩ = some (.float .f64 0) ∧ W.cell? ⟨b, 4, none⟩ = some (.string ⟨#[]⟩) ∧ W.cell? ⟨b, 5, none⟩ = some (.slice none 0 0) ∧ W.cell? ⟨b, 6, none⟩ = some (.slice none 0 0) ∧ W.cell? ⟨b + 1, 0, none⟩ = some (.int .i64 0)) ∧
    W.frozen? ⟨b, 0, none⟩ = false ∧ W.frozen? ⟨b, 1, none⟩ = false ∧ W.frozen? ⟨b, 2, none⟩ = false ∧ W.frozen? ⟨b, 3, none⟩ = false ∧ W.frozen? ⟨b, 4, none⟩ = false ∧ W.frozen? ⟨b, 5, none⟩ = false ∧ W.frozen? ⟨b, 6, none⟩ = false ∧ W.frozen? ⟨b + 1, 0, none⟩ = false :=
  ⟨⟨(blk_cell h.b1 0).trans rfl, (blk_cell h.b1 1).trans rfl, (blk_cell h.b1 2).trans rfl, (blk_cell h.b1 3).trans rfl, (blk_cell h.b1 4).trans rfl, (blk_cell h.b1 5).trans rfl, (blk_cell h.b1 6).trans rfl, (blk_cell h.b2 0).trans rfl⟩, blk_frozen h.b1 0, blk_frozen h.b1 1, blk_frozen h.b1 2, blk_frozen h.b1 3, blk_frozen h.b1 4, blk_frozen h.b1 5, blk_frozen h.b1 6, blk_frozen h.b2 0⟩
/-- What table gives of a table. -/
theorem table_tv (x : S26) (A5 : Option Addr) (c5 : Nat) (A6 : Option Addr) (c6 : Nat) (P : Nat → Prop) (w : World) (h7 : x.f0 = 7) (hr : Rt 50 x) (hsm : Sm 50 x) (hv : KV w P x A5 c5 A6 c6) (hP : ∀ k, P k → k < w.heap.size) (hc : cnt 50 x ≤ 2000) :
    Calls Try.prog 45 #[agg26 x A5 c5 A6 c6] w fun e w' => ∃ b, e = .returned (.tuple #[.map (some b), .bool true]) ∧ TV 50 w' w'.heap.size (.iface 58 (.map (some b))) x ∧ Below w.heap.size w w' := by
  refine (table_calls 50 x A5 c5 A6 c6 P w hr hsm hv hP (by decide) hc).mono ?_
  rintro e w' ⟨m, rfl, hb, _, h⟩
  obtain ⟨fp, hrep, _, hlt⟩ := h h7
  have hk : ∃ b, m = some b := by
    rcases hrep.kind with ⟨_, e⟩ | ⟨_, e⟩ | ⟨_, e⟩ | ⟨_, e⟩ | ⟨_, e⟩ | ⟨_, _, e⟩ | ⟨_, b, e⟩
    all_goals try cases e
    exact ⟨b, rfl⟩
  obtain ⟨b, rfl⟩ := hk
  exact ⟨b, by rw [decide_eq_true h7, Bool.true_or], ⟨fp, hrep, hr, hsm, hc, fun k hk => (hlt k hk).2⟩, hb⟩
/-- The results laid: a plain value, and a number. -/
def fin26 (W : World) (b : Nat) (v0 v1 v2 v3 v4 v5 v6 k : Value) : World :=
  ((((((((W.setCell ⟨b, 0, none⟩ v0).setCell ⟨b, 1, none⟩ v1).setCell ⟨b, 2, none⟩ v2).setCell ⟨b, 3, none⟩ v3).setCell ⟨b, 4, none⟩ v4).setCell ⟨b, 5, none⟩ v5).setCell ⟨b, 6, none⟩ v6).setCell ⟨b + 1, 0, none⟩ k)
theorem fin26_cells {w W : World} {b : Nat} (h : Res w b W) (v0 v1 v2 v3 v4 v5 v6 k : Value) : (fin26 W b v0 v1 v2 v3 v4 v5 v6 k).cell? ⟨b, 0, none⟩ = some v0 ∧ (fin26 W b v0 v1 v2 v3 v4 v5 v6 k).cell? ⟨b, 1, none⟩ = some v1 ∧ (fin26 W b v0 v1 v2 v3 v4 v5 v6 k).cell? ⟨b, 2, none⟩ = some v2 ∧
    (fin26 W b v0 v1 v2 v3 v4 v5 v6 k).cell? ⟨b, 3, none⟩ = some v3 ∧ (fin26 W b v0 v1 v2 v3 v4 v5 v6 k).cell? ⟨b, 4, none⟩ = some v4 ∧ (fin26 W b v0 v1 v2 v3 v4 v5 v6 k).cell? ⟨b, 5, none⟩ = some v5 ∧ (fin26 W b v0 v1 v2 v3 v4 v5 v6 k).cell? ⟨b, 6, none⟩ = some v6 ∧ (fin26 W b v0 v1 v2 v3 v4 v5 v6 k).cell? ⟨b + 1, 0, none⟩ = some k := by
  have h1 : (fin26 W b v0 v1 v2 v3 v4 v5 v6 k).heap[b]? = some (.cells #[v0, v1, v2, v3, v4, v5, v6] 26 (0, 0)) :=
    blk_setO (blk_put (blk_put (blk_put (blk_put (blk_put (blk_put (blk_put h.b1 0 v0 rfl) 1 v1 rfl) 2 v2 rfl) 3 v3 rfl) 4 v4 rfl) 5 v5 rfl) 6 v6 rfl) (by simp only; omega) k
  have h2 : (fin26 W b v0 v1 v2 v3 v4 v5 v6 k).heap[b + 1]? = some (.cells #[k] 3 (0, 0)) :=
    blk_put (blk_setO (blk_setO (blk_setO (blk_setO (blk_setO (blk_setO (blk_setO h.b2 (by simp only; omega) v0) (by simp only; omega) v1) (by simp only; omega) v2) (by simp only; omega) v3) (by simp only; omega) v4) (by simp only; omega) v5) (by simp only; omega) v6) 0 k rfl
  exact ⟨(blk_cell h1 0).trans rfl, (blk_cell h1 1).trans rfl, (blk_cell h1 2).trans rfl, (blk_cell h1 3).trans rfl, (blk_cell h1 4).trans rfl, (blk_cell h1 5).trans rfl, (blk_cell h1 6).trans rfl, (blk_cell h2 0).trans rfl⟩
theorem fin26_below {w W : World} {b : Nat} (h : Res w b W) (hb : w.heap.size ≤ b) (v0 v1 v2 v3 v4 v5 v6 k : Value) : Below w.heap.size w (fin26 W b v0 v1 v2 v3 v4 v5 v6 k) :=
  (((((((h.below.setCell (p := ⟨b, 0, none⟩) hb v0).setCell (p := ⟨b, 1, none⟩) hb v1).setCell (p := ⟨b, 2, none⟩) hb v2).setCell (p := ⟨b, 3, none⟩) hb v3).setCell (p := ⟨b, 4, none⟩) hb v4).setCell (p := ⟨b, 5, none⟩) hb v5).setCell (p := ⟨b, 6, none⟩) hb v6).setCell (p := ⟨b + 1, 0, none⟩) (Nat.le_succ_of_le hb) k
theorem fin26_far {W : World} {b j : Nat} (h1 : j ≠ b) (h2 : j ≠ b + 1) (v0 v1 v2 v3 v4 v5 v6 k : Value) : (fin26 W b v0 v1 v2 v3 v4 v5 v6 k).heap[j]? = W.heap[j]? :=
  (Below.heap_setCell _ ⟨b + 1, 0, none⟩ k j h2).trans ((Below.heap_setCell _ ⟨b, 6, none⟩ v6 j h1).trans ((Below.heap_setCell _ ⟨b, 5, none⟩ v5 j h1).trans ((Below.heap_setCell _ ⟨b, 4, none⟩ v4 j h1).trans ((Below.heap_setCell _ ⟨b, 3, none⟩ v3 j h1).trans ((Below.heap_setCell _ ⟨b, 2, none⟩ v2 j h1).trans ((Below.heap_setCell _ ⟨b, 1, none⟩ v1 j h1).trans (Below.heap_setCell _ ⟨b, 0, none⟩ v0 j h1)))))))
theorem fin26_size {W : World} {b : Nat} (v0 v1 v2 v3 v4 v5 v6 k : Value) : (fin26 W b v0 v1 v2 v3 v4 v5 v6 k).heap.size = W.heap.size := by
  unfold fin26
  simp
theorem kv_z26 (w : World) : KV w (fun _ => False) z26 none 0 none 0 := ⟨Nat.le_refl _, fun W' _ => (Kd.R_reads' (Kd.R_nil Kd.string 9 W' 0 (fun _ => True))).2.2, Nat.le_refl _, fun W' _ => (Kd.R_reads' (Kd.R_nil k26 26 W' 0 (fun _ => True))).2.2⟩
/-- A plain value laid as a result. -/
abbrev finV (W : World) (b : Nat) (y : S26) (A5 : Option Addr) (c5 : Nat) (A6 : Option Addr) (c6 : Nat) (k : Int) : World :=
  fin26 W b (.int .i64 y.f0) (.bool y.f1) (.int .i64 y.f2) (.float .f64 y.f3) (.string y.f4) (.slice A5 y.f5.length c5) (.slice A6 y.f6.length c6) (.int .i64 k)
structure Fin (w : World) (b : Nat) (y : S26) (A5 : Option Addr) (c5 : Nat) (A6 : Option Addr) (c6 : Nat) (k : Int) (W : World) : Prop where
  cells : W.cell? ⟨b, 0, none⟩ = some (.int .i64 y.f0) ∧ W.cell? ⟨b, 1, none⟩ = some (.bool y.f1) ∧ W.cell? ⟨b, 2, none⟩ = some (.int .i64 y.f2) ∧ W.cell? ⟨b, 3, none⟩ = some (.float .f64 y.f3) ∧ W.cell? ⟨b, 4, none⟩ = some (.string y.f4) ∧
    W.cell? ⟨b, 5, none⟩ = some (.slice A5 y.f5.length c5) ∧ W.cell? ⟨b, 6, none⟩ = some (.slice A6 y.f6.length c6) ∧ W.cell? ⟨b + 1, 0, none⟩ = some (.int .i64 k)
  below : Below w.heap.size w W
  val : Val26 W (agg26 y A5 c5 A6 c6) y
theorem finV_all {w W : World} {b : Nat} (h : Res w b W) (hb : w.heap.size ≤ b) {y : S26} {A5 : Option Addr} {c5 : Nat} {A6 : Option Addr} {c6 : Nat} {Q : Nat → Prop} (hv : KV W Q y A5 c5 A6 c6) (hQ : ∀ k, Q k → k ≠ b ∧ k ≠ b + 1 ∧ k < W.heap.size) (k : Int) :
    Fin w b y A5 c5 A6 c6 k (finV W b y A5 c5 A6 c6 k) :=
  ⟨fin26_cells h _ _ _ _ _ _ _ _, fin26_below h hb _ _ _ _ _ _ _ _, A5, c5, A6, c6, Q, rfl, hv.step (fun j hj _ => fin26_far (hQ j hj).1 (hQ j hj).2.1 _ _ _ _ _ _ _ _), fun j hj => by rw [fin26_size]; exact (hQ j hj).2.2⟩
/-- What impl.PathValue gives. -/
def IPost (w : World) (o : Option S26) (e : Ending) (w' : World) : Prop :=
  Below w.heap.size w w' ∧ ((∃ v y n, o = some y ∧ Rt n y ∧ y.f0 ≠ 7 ∧ e = .returned (.tuple #[v, .int .i64 0]) ∧ Val26 w' v (canon n y)) ∨ (o = none ∧ ∃ v, e = .returned (.tuple #[v, .int .i64 1]) ∧ Val26 w' v z26))
set_option maxHeartbeats 4000000 in
theorem pathi_calls (x : S26) (A5 : Option Addr) (c5 : Nat) (A6 : Option Addr) (c6 : Nat) (P : Nat → Prop) (s : ByteArray) (w : World) (h7 : x.f0 = 7) (hr : Rt 50 x) (hsm : Sm 50 x) (hv : KV w P x A5 c5 A6 c6) (hP : ∀ k, P k → k < w.heap.size) (hc : cnt 50 x ≤ 2000) (hs : s.size ≤ 90000) (h0 : s ≠ ⟨#[]⟩) :
    Calls Try.prog 28 #[agg26 x A5 c5 A6 c6, .string s] w (IPost w (pathV x s)) := by
  have hmf : ∀ (fn : Fn) (first cap : Array Value) (w : World), (Instr.makeFunc fn first cap).run Try.prog w = .ok (.func fn first cap) w := fun _ _ _ _ => rfl
  have H7 := Aside0.mk h7
  have RT := Aside0.mk hr
  have SM := Aside0.mk hsm
  have HV := Aside0.mk hv
  have HP := Aside0.mk hP
  have HC := Aside0.mk hc
  have HS := Aside0.mk hs
  have H0 := Aside0.mk h0
  clear h7 hr hsm hv hP hc hs h0
  go_enter_defers Try.func28, Try.ntmps28
  have HR0 := Aside0.mk (Res.start w #[.int .i64 x.f0, .bool x.f1, .int .i64 x.f2, .float .f64 x.f3, .string x.f4, .slice A5 x.f5.length c5, .slice A6 x.f6.length c6])
  go_wp2_with (first
    | (go_at_call 45; go_must (
        refine (table_tv x A5 c5 A6 c6 P _ H7.out RT.out SM.out (HV.out.below HR0.out.below) (fun k hk => Nat.lt_of_lt_of_le (HP.out k hk) HR0.out.below.size) HC.out).mono ?_
        rintro e w2 ⟨b, rfl, ht, hb⟩
        have HR2 := Aside0.mk (HR0.out.later hb)
        have HT := Aside0.mk ht
        clear ht hb))
    | (go_at_call 60; go_must (
        refine (pathv_calls 50 b x s w2 HS.out H0.out HT.out).mono ?_
        rintro e w3 ⟨hb, he⟩
        have HR3 := Aside0.mk (HR2.out.later hb)
        obtain ⟨⟨c0, c1, c2, c3, c4, c5', c6', c7⟩, f0, f1, f2, f3, f4, f5, f6, f7⟩ := HR3.out.cells
        have HE := Aside0.mk he
        clear hb he
        rcases HE.out with ⟨v, y, n, e1, rfl, e2, e3⟩ | ⟨e1, v, t, u, rfl⟩))
    | (go_at_call 46; go_must (
        have E1 := Aside0.mk e1
        have E2 := Aside0.mk e2
        have E3 := Aside0.mk e3
        clear e1 e2 e3
        obtain ⟨fp, r1, r2, r3, r4, r5⟩ := E3.out
        have HRT := Aside0.mk r2
        refine (val_of n y v fp w3 r1 r2 r3 r4 r5).mono ?_
        intro e w4 hvp
        obtain ⟨B5, d5, B6, d6, Q, rfl, hv4, hQ, hb4⟩ := Val26.of hvp
        have HR4 := Aside0.mk (HR3.out.later hb4)
        have HV4 := Aside0.mk hv4
        have HQ := Aside0.mk hQ
        obtain ⟨⟨c0, c1, c2, c3, c4, c5', c6', c7⟩, f0, f1, f2, f3, f4, f5, f6, f7⟩ := HR4.out.cells
        clear r1 r2 r3 r4 r5 hvp hv4 hQ hb4)))
  · have HF := Aside0.mk (finV_all HR4.out (Nat.le_succ _) HV4.out (fun k hk => by
      have h1 := HQ.out k hk
      have h2 := blk_lt HR3.out.b2
      omega) 0)
    obtain ⟨W5, hW5⟩ : ∃ W5, finV w4 (w.heap.size + 1) (canon n y) B5 d5 B6 d6 0 = W5 := ⟨_, rfl⟩
    rw [hW5] at HF
    unfold finV fin26 at hW5
    rw [hW5]
    clear hW5
    refine leaves_cons (f := 59) (args := #[.pointer (some ⟨w.heap.size + 1, 0, none⟩), .pointer (some ⟨w.heap.size + 1 + 1, 0, none⟩)]) (by simp) (by simp [go_sem]) ?_
    refine (catch28 _ _ _).mono ?_
    rintro e u' w5 ⟨rfl, rfl, rfl⟩
    obtain ⟨g0, g1, g2, g3, g4, g5, g6, g7⟩ := HF.out.cells
    simp [Leaves, settle, results, Try.results28, go_sem, g0, g1, g2, g3, g4, g5, g6, g7]
    exact ⟨HF.out.below, .inl ⟨_, y, n, E1.out, HRT.out, E2.out, rfl, HF.out.val⟩⟩
  · have E1 := Aside0.mk e1
    have HF := Aside0.mk (show Fin w (w.heap.size + 1) z26 none 0 none 0 1 (fin26 w3 (w.heap.size + 1) (.int .i64 0) (.bool false) (.int .i64 0) (.float .f64 0) (.string ⟨#[]⟩) (.slice none 0 0) (.slice none 0 0) (.int .i64 1)) from finV_all HR3.out (Nat.le_succ _) (kv_z26 w3) (fun k hk => hk.elim) 1)
    obtain ⟨W5, hW5⟩ : ∃ W5, fin26 w3 (w.heap.size + 1) (.int .i64 0) (.bool false) (.int .i64 0) (.float .f64 0) (.string ⟨#[]⟩) (.slice none 0 0) (.slice none 0 0) (.int .i64 1) = W5 := ⟨_, rfl⟩
    rw [hW5] at HF
    unfold fin26 at hW5
    rw [hW5]
    clear hW5
    refine leaves_cons (f := 59) (args := #[.pointer (some ⟨w.heap.size + 1, 0, none⟩), .pointer (some ⟨w.heap.size + 1 + 1, 0, none⟩)]) (by simp) (by simp [go_sem]) ?_
    refine (catch28 _ _ _).mono ?_
    rintro e u' w5 ⟨rfl, rfl, rfl⟩
    obtain ⟨g0, g1, g2, g3, g4, g5, g6, g7⟩ := HF.out.cells
    simp [Leaves, settle, results, Try.results28, go_sem, g0, g1, g2, g3, g4, g5, g6, g7]
    exact ⟨HF.out.below, .inr ⟨E1.out, _, rfl, HF.out.val⟩⟩
end Go.Proofs.Ytjfbjkodjjlkiaa.HVal
/-! What spec.IsTable and spec.At come to. -/
namespace Go.Proofs.Ytjfbjkodjjlkiaa.HVal
open Go.RowKit Go.WideMaps Go.Maps Go.Proofs.YtjfbjkodjjlkiaaW.PrintWords Go.Proofs.YtjfbjkodjjlkiaaW.PrintLast Go.Proofs.YtjfbjkodjjlkiaaW.PrintMore Go.Proofs.Ytjfbjkodjjlkiaa.Plain Go.Proofs.Ytjfbjkodjjlkiaa.GTab Go.Proofs.Ytjfbjkodjjlkiaa.HBytes
attribute [local go_sem] run_store_flt

theorem is7_calls {w : World} {P : Nat → Prop} {x : S26} {A5 A6 : Option Addr} {c5 c6 : Nat} (hv : KV w P x A5 c5 A6 c6) : Calls Try.prog 20 #[agg26 x A5 c5 A6 c6] w fun e w' => e = .returned (.bool (decide (x.f0 = 7))) ∧ Below w.heap.size w w' :=
  spec_IsTable.calls _ _ _ _ _ _ _ _ _ _ _ _ _ (Kd.F_now hv.g5) hv.l5 (Kd.F_now hv.g6) hv.l6 rfl
/-! ### a plain value stored into a box -/
def put26 (W : World) (b : Nat) (v0 v1 v2 v3 v4 v5 v6 : Value) : World :=
  (((((((W.setCell ⟨b, 0, none⟩ v0).setCell ⟨b, 1, none⟩ v1).setCell ⟨b, 2, none⟩ v2).setCell ⟨b, 3, none⟩ v3).setCell ⟨b, 4, none⟩ v4).setCell ⟨b, 5, none⟩ v5).setCell ⟨b, 6, none⟩ v6)
theorem put26_at {W : World} {b : Nat} {a0 a1 a2 a3 a4 a5 a6 : Value} (h : W.heap[b]? = some (.cells #[a0, a1, a2, a3, a4, a5, a6] 26 (0, 0))) (v0 v1 v2 v3 v4 v5 v6 : Value) : (put26 W b v0 v1 v2 v3 v4 v5 v6).heap[b]? = some (.cells #[v0, v1, v2, v3, v4, v5, v6] 26 (0, 0)) :=
by
  have h0 := blk_put (cs' := #[v0, a1, a2, a3, a4, a5, a6]) h 0 v0 rfl
  have h1 := blk_put (cs' := #[v0, v1, a2, a3, a4, a5, a6]) h0 1 v1 rfl
  have h2 := blk_put (cs' := #[v0, v1, v2, a3, a4, a5, a6]) h1 2 v2 rfl
  have h3 := blk_put (cs' := #[v0, v1, v2, v3, a4, a5, a6]) h2 3 v3 rfl
  have h4 := blk_put (cs' := #[v0, v1, v2, v3, v4, a5, a6]) h3 4 v4 rfl
  have h5 := blk_put (cs' := #[v0, v1, v2, v3, v4, v5, a6]) h4 5 v5 rfl
  exact blk_put (cs' := #[v0, v1, v2, v3, v4, v5, v6]) h5 6 v6 rfl
theorem put26_far {W : World} {b j : Nat} (h1 : j ≠ b) (v0 v1 v2 v3 v4 v5 v6 : Value) : (put26 W b v0 v1 v2 v3 v4 v5 v6).heap[j]? = W.heap[j]? :=
  (Below.heap_setCell _ ⟨b, 6, none⟩ v6 j h1).trans ((Below.heap_setCell _ ⟨b, 5, none⟩ v5 j h1).trans ((Below.heap_setCell _ ⟨b, 4, none⟩ v4 j h1).trans ((Below.heap_setCell _ ⟨b, 3, none⟩ v3 j h1).trans ((Below.heap_setCell _ ⟨b, 2, none⟩ v2 j h1).trans ((Below.heap_setCell _ ⟨b, 1, none⟩ v1 j h1).trans (Below.heap_setCell _ ⟨b, 0, none⟩ v0 j h1))))))
theorem put26_size {W : World} {b : Nat} (v0 v1 v2 v3 v4 v5 v6 : Value) : (put26 W b v0 v1 v2 v3 v4 v5 v6).heap.size = W.heap.size := by
  unfold put26
  simp
theorem put26_below {B : Nat} {w W : World} {b : Nat} (h : Below B w W) (hb : B ≤ b) (v0 v1 v2 v3 v4 v5 v6 : Value) : Below B w (put26 W b v0 v1 v2 v3 v4 v5 v6) :=
  ((((((h.setCell (p := ⟨b, 0, none⟩) hb v0).setCell (p := ⟨b, 1, none⟩) hb v1).setCell (p := ⟨b, 2, none⟩) hb v2).setCell (p := ⟨b, 3, none⟩) hb v3).setCell (p := ⟨b, 4, none⟩) hb v4).setCell (p := ⟨b, 5, none⟩) hb v5).setCell (p := ⟨b, 6, none⟩) hb v6
theorem at7 {W : World} {b : Nat} {a0 a1 a2 a3 a4 a5 a6 : Value} (h : W.heap[b]? = some (.cells #[a0, a1, a2, a3, a4, a5, a6] 26 (0, 0))) :
    (W.cell? ⟨b, 0, none⟩ = some a0 ∧ W.cell? ⟨b, 1, none⟩ = some a1 ∧ W.cell? ⟨b, 2, none⟩ = some a2 ∧ W.cell? ⟨b, 3, none⟩ = some a3 ∧ W.cell? ⟨b, 4, none⟩ = some a4 ∧ W.cell? ⟨b, 5, none⟩ = some a5 ∧ W.cell? ⟨b, 6, none⟩ = some a6) ∧
    W.frozen? ⟨b, 0, none⟩ = false ∧ W.frozen? ⟨b, 1, none⟩ = false ∧ W.frozen? ⟨b, 2, none⟩ = false ∧ W.frozen? ⟨b, 3, none⟩ = false ∧ W.frozen? ⟨b, 4, none⟩ = false ∧ W.frozen? ⟨b, 5, none⟩ = false ∧ W.frozen? ⟨b, 6, none⟩ = false :=
  ⟨⟨(blk_cell h 0).trans rfl, (blk_cell h 1).trans rfl, (blk_cell h 2).trans rfl, (blk_cell h 3).trans rfl, (blk_cell h 4).trans rfl, (blk_cell h 5).trans rfl, (blk_cell h 6).trans rfl⟩, blk_frozen h 0, blk_frozen h 1, blk_frozen h 2, blk_frozen h 3, blk_frozen h 4, blk_frozen h 5, blk_frozen h 6⟩
/-- The cells of a plain value. -/
abbrev row26 (x : S26) (A5 : Option Addr) (c5 : Nat) (A6 : Option Addr) (c6 : Nat) : Obj := .cells #[.int .i64 x.f0, .bool x.f1, .int .i64 x.f2, .float .f64 x.f3, .string x.f4, .slice A5 x.f5.length c5, .slice A6 x.f6.length c6] 26
abbrev row0 : Obj := .cells #[.int .i64 0, .bool false, .int .i64 0, .float .f64 0, .string ⟨#[]⟩, .slice none 0 0, .slice none 0 0] 26

theorem keep_cell {w w' : World} {a : Addr} {v : Value} (h : w.cell? a = some v) (hb : Below w.heap.size w w') : w'.cell? a = some v := by
  rw [World.cell?_of_block (hb.block _ (World.block_lt_of_cell? w a h))]
  exact h
/-- A value stored into a box: what is there, and that it is read. -/
abbrev putV (W : World) (b : Nat) (y : S26) (A5 : Option Addr) (c5 : Nat) (A6 : Option Addr) (c6 : Nat) : World :=
  put26 W b (.int .i64 y.f0) (.bool y.f1) (.int .i64 y.f2) (.float .f64 y.f3) (.string y.f4) (.slice A5 y.f5.length c5) (.slice A6 y.f6.length c6)
theorem putV_at {W : World} {b : Nat} {a0 a1 a2 a3 a4 a5 a6 : Value} (h : W.heap[b]? = some (.cells #[a0, a1, a2, a3, a4, a5, a6] 26 (0, 0))) (y : S26) (A5 : Option Addr) (c5 : Nat) (A6 : Option Addr) (c6 : Nat) :
    (putV W b y A5 c5 A6 c6).heap[b]? = some (.cells #[.int .i64 y.f0, .bool y.f1, .int .i64 y.f2, .float .f64 y.f3, .string y.f4, .slice A5 y.f5.length c5, .slice A6 y.f6.length c6] 26 (0, 0)) := put26_at h _ _ _ _ _ _ _
theorem putV_below {B : Nat} {w W : World} {b : Nat} (h : Below B w W) (hb : B ≤ b) (y : S26) (A5 : Option Addr) (c5 : Nat) (A6 : Option Addr) (c6 : Nat) : Below B w (putV W b y A5 c5 A6 c6) := put26_below h hb _ _ _ _ _ _ _
theorem putV_far {W : World} {b j : Nat} (h1 : j ≠ b) (y : S26) (A5 : Option Addr) (c5 : Nat) (A6 : Option Addr) (c6 : Nat) : (putV W b y A5 c5 A6 c6).heap[j]? = W.heap[j]? := put26_far h1 _ _ _ _ _ _ _
/-! ### At -/
theorem find_next {ks : List ByteArray} {xs : List S26} {j : Nat} (h1 : j < ks.length) (h2 : j < xs.length) (s : ByteArray) : find (ks.drop j) (xs.drop j) s = if ks[j] = s then some xs[j] else find (ks.drop (j + 1)) (xs.drop (j + 1)) s := by
  rw [List.drop_eq_getElem_cons h1, List.drop_eq_getElem_cons h2, find]
theorem find_stop {ks : List ByteArray} {xs : List S26} (s : ByteArray) : find (ks.drop ks.length) xs s = none := by
  rw [List.drop_length]
  cases xs <;> rfl
def AtPost (w : World) (P : Nat → Prop) (o : Option S26) (e : Ending) (w' : World) : Prop :=
  Below w.heap.size w w' ∧ ∃ y A5 c5 A6 c6, e = .returned (.tuple #[agg26 y A5 c5 A6 c6, .bool o.isSome]) ∧ KV w' P y A5 c5 A6 c6 ∧ o.getD z26 = y
structure AtI (x : S26) (A5 : Option Addr) (c5 : Nat) (A6 : Option Addr) (c6 : Nat) (w W : World) : Prop where
  b0 : W.heap[w.heap.size]? = some (.cells #[.int .i64 x.f0, .bool x.f1, .int .i64 x.f2, .float .f64 x.f3, .string x.f4, .slice A5 x.f5.length c5, .slice A6 x.f6.length c6] 26 (0, 0))
  b1 : W.heap[w.heap.size + 1]? = some (.cells #[.int .i64 0, .bool false, .int .i64 0, .float .f64 0, .string ⟨#[]⟩, .slice none 0 0, .slice none 0 0] 26 (0, 0))
  below : Below w.heap.size w W
theorem AtI.later {x : S26} {A5 : Option Addr} {c5 : Nat} {A6 : Option Addr} {c6 : Nat} {w W W2 : World} (h : AtI x A5 c5 A6 c6 w W) (hb : Below W.heap.size W W2) : AtI x A5 c5 A6 c6 w W2 := ⟨blk_below h.b0 hb, blk_below h.b1 hb, below_step h.below hb⟩
theorem AtI.start {x : S26} {A5 : Option Addr} {c5 : Nat} {A6 : Option Addr} {c6 : Nat} {w : World} : AtI x A5 c5 A6 c6 w ((w.alloc (row26 x A5 c5 A6 c6)).alloc row0) :=
  ⟨blk_alloc (blk_new w _) _, blk_at _ (by simp), below_alloc (below_alloc (Below.refl _ _) _) _⟩
set_option maxRecDepth 100000 in
set_option maxHeartbeats 4000000 in
theorem at_calls (x : S26) (A5 : Option Addr) (c5 : Nat) (A6 : Option Addr) (c6 : Nat) (P : Nat → Prop) (s : ByteArray) (w : World) (h7 : x.f0 = 7) (hl : x.f5.length = x.f6.length) (hv : KV w P x A5 c5 A6 c6) (hP : ∀ k, P k → k < w.heap.size) :
    Calls Try.prog 39 #[agg26 x A5 c5 A6 c6, .string s] w (AtPost w P (find x.f5 x.f6 s)) := by
  have HV := Aside0.mk hv
  have HP := Aside0.mk hP
  have HLN := Aside0.mk hl
  have H7 := Aside0.mk (decide_eq_true h7)
  have LL5 := Aside0.mk hv.len5
  have HS := Aside0.mk (AtI.start (x := x) (A5 := A5) (c5 := c5) (A6 := A6) (c6 := c6) (w := w))
  clear h7 hl hv hP
  go_enter Try.func39, Try.ntmps39
  go_wp2
  go_loopw [11] (fun i wr => ∃ j : Nat, j ≤ x.f5.length ∧ i = .int .i64 j ∧ Aside0 (find x.f5 x.f6 s = find (x.f5.drop j) (x.f6.drop j) s) ∧ Aside0 (AtI x A5 c5 A6 c6 w wr)) (fun i _ => x.f5.length - (intOf i).toNat)
  case atStart => exact ⟨0, Nat.zero_le _, rfl, ⟨rfl⟩, HS⟩
  case round =>
    obtain ⟨j, hj, rfl, HT, HI⟩ := hrel
    clear HS
    obtain ⟨⟨r0, r1, r2, r3, r4, r5, r6⟩, -⟩ := at7 HI.out.b0
    by_cases hlt : j < x.f5.length
    · have HJ := Aside0.mk hlt
      have hlt2 : j < x.f6.length := HLN.out ▸ hlt
      obtain ⟨ad, hA, z0⟩ := (HV.out.below HI.out.below).key j hlt
      subst hA
      have p0 : 0 ≤ (j : Int) := Int.natCast_nonneg j
      have q0 : (j : Int) < (x.f5.length : Int) := Int.ofNat_lt.2 hlt
      have hn := find_next hlt hlt2 s
      by_cases he : x.f5[j] = s
      · have hq : (x.f5[j].toList == s.toList) = true := by rw [he]; simp
        rw [if_pos he] at hn
        have HN := Aside0.mk (HT.out.trans hn)
        obtain ⟨ad2, E5, e5, E6, e6, hA2, hv2, y0, y1, y2, y3, y4, y5, y6⟩ := (HV.out.below HI.out.below).el7 j hlt2
        subst hA2
        have q2 : (j : Int) < (x.f6.length : Int) := Int.ofNat_lt.2 hlt2
        obtain ⟨y, hy⟩ : ∃ y, x.f6[j] = y := ⟨_, rfl⟩
        rw [hy] at HN hv2 y0 y1 y2 y3 y4 y5 y6
        have HV2 := Aside0.mk hv2
        clear hn he hy hv2
        go_wp2_with (go_at_call 20; go_must (refine (is7_calls (HV.out.below HI.out.below)).mono ?_; rintro e w1 ⟨rfl, hb⟩; rw [H7.out]; have HI1 := Aside0.mk (HI.out.later hb); have HV3 := Aside0.mk (HV2.out.below hb); obtain ⟨⟨t0, t1, t2, t3, t4, t5, t6⟩, -⟩ := at7 HI1.out.b0; obtain ⟨⟨s0, s1, s2, s3, s4, s5, s6⟩, f0, f1, f2, f3, f4, f5, f6⟩ := at7 HI1.out.b1; have z0 := keep_cell y0 hb; have z1 := keep_cell y1 hb; have z2 := keep_cell y2 hb; have z3 := keep_cell y3 hb; have z4 := keep_cell y4 hb; have z5 := keep_cell y5 hb; have z6 := keep_cell y6 hb; clear hb y0 y1 y2 y3 y4 y5 y6 r0 r1 r2 r3 r4 r5 r6))
        have HP1 := Aside0.mk (putV_at HI1.out.b1 y E5 e5 E6 e6)
        have HB1 := Aside0.mk (putV_below HI1.out.below (Nat.le_succ _) y E5 e5 E6 e6)
        have HV4 := Aside0.mk (HV3.out.step (w1 := putV w1 (w.heap.size + 1) y E5 e5 E6 e6) (fun k hk _ => putV_far (by have := HP.out k hk; omega) y E5 e5 E6 e6))
        obtain ⟨W5, hW5⟩ : ∃ W5, putV w1 (w.heap.size + 1) y E5 e5 E6 e6 = W5 := ⟨_, rfl⟩
        rw [hW5] at HP1 HB1 HV4
        unfold putV put26 at hW5
        rw [hW5]
        clear hW5 s0 s1 s2 s3 s4 s5 s6 f0 f1 f2 f3 f4 f5 f6 t0 t1 t2 t3 t4 t5 t6 z1 z2 z3 z4 z5 z6
        obtain ⟨⟨g0, g1, g2, g3, g4, g5, g6⟩, -⟩ := at7 HP1.out
        refine bodyPost_ret (v := .tuple #[agg26 y E5 e5 E6 e6, .bool true]) (by simp [results, Try.results39, go_sem, g0, g1, g2, g3, g4, g5, g6]) rfl ?_
        exact ⟨HB1.out, y, _, _, _, _, by rw [HN.out]; rfl, HV4.out, by rw [HN.out]; rfl⟩
      · have hq : (x.f5[j].toList == s.toList) = false := by rw [beq_toList]; exact decide_eq_false he
        rw [if_neg he] at hn
        have HN := Aside0.mk (HT.out.trans hn)
        clear hn he
        go_wp2_with (go_at_call 20; go_must (refine (is7_calls (HV.out.below HI.out.below)).mono ?_; rintro e w1 ⟨rfl, hb⟩; rw [H7.out]; have HI1 := Aside0.mk (HI.out.later hb); clear hb))
        go_roundw
        case rel => exact ⟨j + 1, HJ.out, congrArg (Value.int IntKind.i64) (next63 HJ.out LL5.out), HN, HI1⟩
        case measure => exact meas26 HJ.out LL5.out
    · have e : j = x.f5.length := Nat.le_antisymm hj (Nat.not_lt.1 hlt)
      subst e
      have q1 : ¬ (x.f5.length : Int) < (x.f5.length : Int) := Int.lt_irrefl _
      have HE := Aside0.mk (HT.out.trans (find_stop s))
      have hB := HI.out.b1
      obtain ⟨⟨s0, s1, s2, s3, s4, s5, s6⟩, f0, f1, f2, f3, f4, f5, f6⟩ := at7 hB
      clear hlt hj hB
      go_wp2
      have HP1 := Aside0.mk (put26_at HI.out.b1 (.int .i64 0) (.bool false) (.int .i64 0) (.float .f64 0) (.string ⟨#[]⟩) (.slice none 0 0) (.slice none 0 0))
      have HB1 := Aside0.mk (put26_below HI.out.below (Nat.le_succ _) (.int .i64 0) (.bool false) (.int .i64 0) (.float .f64 0) (.string ⟨#[]⟩) (.slice none 0 0) (.slice none 0 0))
      obtain ⟨W5, hW5⟩ : ∃ W5, put26 wr (w.heap.size + 1) (.int .i64 0) (.bool false) (.int .i64 0) (.float .f64 0) (.string ⟨#[]⟩) (.slice none 0 0) (.slice none 0 0) = W5 := ⟨_, rfl⟩
      rw [hW5] at HP1 HB1
      unfold put26 at hW5
      rw [hW5]
      clear hW5 s0 s1 s2 s3 s4 s5 s6 f0 f1 f2 f3 f4 f5 f6 r0 r1 r2 r3 r4 r5 r6
      obtain ⟨⟨g0, g1, g2, g3, g4, g5, g6⟩, -⟩ := at7 HP1.out
      refine bodyPost_ret (v := .tuple #[agg26 z26 none 0 none 0, .bool false]) (by simp [results, Try.results39, go_sem, g0, g1, g2, g3, g4, g5, g6, z26]) rfl ?_
      exact ⟨HB1.out, z26, none, 0, none, 0, by rw [HE.out]; rfl, (kv_z26 _).mono (fun _ h => h.elim), by rw [HE.out]; rfl⟩
end Go.Proofs.Ytjfbjkodjjlkiaa.HVal
