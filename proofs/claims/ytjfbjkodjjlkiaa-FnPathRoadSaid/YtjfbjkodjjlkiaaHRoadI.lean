/- What impl.PathToMap and impl.TableAt come to. -/
import Derived.Test.YtjfbjkodjjlkiaaHSet
import Derived.Test.YtjfbjkodjjlkiaaHRoadP
namespace Go.Proofs.Ytjfbjkodjjlkiaa.HVal
open Go.RowKit Go.WideMaps Go.Maps Go.Proofs.YtjfbjkodjjlkiaaW.PrintWords Go.Proofs.YtjfbjkodjjlkiaaW.PrintLast Go.Proofs.YtjfbjkodjjlkiaaW.PrintMore Go.Proofs.Ytjfbjkodjjlkiaa.Plain Go.Proofs.Ytjfbjkodjjlkiaa.GTab Go.Proofs.Ytjfbjkodjjlkiaa.HBytes
attribute [local go_sem] run_store_flt

theorem catch55 (p1 p2 : Value) (w : World) : CallsD Try.prog 55 #[p1, p2] .returning w fun e u' w' => e = .returned (.tuple #[]) ∧ u' = .returning ∧ w' = w := by
  refine callsD_of_wpS Try.func55 rfl fun c₀ cs hu => ?_
  apply wpS_seq
  apply wpS_region
  simp [wpOpsS, go_sem, recoverD, hu, Try.ntmps55, Exit.thenS]
  refine wpS_cond (t := false) (by simp [Act.eval, Array.replicate]) ?_
  simp only [Bool.false_eq_true, if_false]
  refine wpS_of_wp (wp_skip ?_)
  cases c₀
  simp_all [bodyPostS, results, Try.results55]
theorem catch57 (p1 p2 : Value) (w : World) : CallsD Try.prog 57 #[p1, p2] .returning w fun e u' w' => e = .returned (.tuple #[]) ∧ u' = .returning ∧ w' = w := by
  refine callsD_of_wpS Try.func57 rfl fun c₀ cs hu => ?_
  apply wpS_seq
  apply wpS_region
  simp [wpOpsS, go_sem, recoverD, hu, Try.ntmps57, Exit.thenS]
  refine wpS_cond (t := false) (by simp [Act.eval, Array.replicate]) ?_
  simp only [Bool.false_eq_true, if_false]
  refine wpS_of_wp (wp_skip ?_)
  cases c₀
  simp_all [bodyPostS, results, Try.results57]
/-- What table gives of a table. -/
theorem table_tvn (n : Nat) (hn : n ≤ 61) (x : S26) (A5 : Option Addr) (c5 : Nat) (A6 : Option Addr) (c6 : Nat) (P : Nat → Prop) (w : World) (h7 : x.f0 = 7) (hr : Rt n x) (hsm : Sm n x) (hv : KV w P x A5 c5 A6 c6) (hP : ∀ k, P k → k < w.heap.size) (hc : cnt n x ≤ 2000) :
    Calls Try.prog 45 #[agg26 x A5 c5 A6 c6] w fun e w' => ∃ b, e = .returned (.tuple #[.map (some b), .bool true]) ∧ TV n w' w'.heap.size (.iface 58 (.map (some b))) x ∧ Below w.heap.size w w' := by
  refine (table_calls n x A5 c5 A6 c6 P w hr hsm hv hP hn hc).mono ?_
  rintro e w' ⟨m, rfl, hb, _, h⟩
  obtain ⟨fp, hrep, _, hlt⟩ := h h7
  have hk : ∃ b, m = some b := by
    rcases hrep.kind with ⟨_, e⟩ | ⟨_, e⟩ | ⟨_, e⟩ | ⟨_, e⟩ | ⟨_, e⟩ | ⟨_, _, e⟩ | ⟨_, b, e⟩
    all_goals try cases e
    exact ⟨b, rfl⟩
  obtain ⟨b, rfl⟩ := hk
  exact ⟨b, by rw [decide_eq_true h7, Bool.true_or], ⟨fp, hrep, hr, hsm, hc, fun k hk => (hlt k hk).2⟩, hb⟩
/-- A value given back without a fault. -/
def OkPost (w : World) (z : S26) (e : Ending) (w' : World) : Prop :=
  Below w.heap.size w w' ∧ ∃ (A5 : Option Addr) (c5 : Nat) (A6 : Option Addr) (c6 : Nat) (P : Nat → Prop), e = .returned (.tuple #[agg26 z A5 c5 A6 c6, .int .i64 0]) ∧ KV w' P z A5 c5 A6 c6 ∧ ∀ k, P k → k < w'.heap.size
theorem OkPost.of {w w' : World} {z : S26} {v : Value} (hb : Below w.heap.size w w') (h : Val26 w' v z) : OkPost w z (.returned (.tuple #[v, .int .i64 0])) w' := by
  obtain ⟨A5, c5, A6, c6, P, rfl, hk, hP⟩ := h
  exact ⟨hb, A5, c5, A6, c6, P, rfl, hk, hP⟩
set_option maxHeartbeats 4000000 in
theorem ptmi_calls (x : S26) (A5 : Option Addr) (c5 : Nat) (A6 : Option Addr) (c6 : Nat) (P : Nat → Prop) (s : ByteArray) (w : World) (h7 : x.f0 = 7) (hr : Rt 50 x) (hsm : Sm 50 x) (hv : KV w P x A5 c5 A6 c6) (hP : ∀ k, P k → k < w.heap.size) (hc : cnt 50 x ≤ 300) (hs : s.size ≤ 200) (h0 : s ≠ ⟨#[46]⟩) :
    Calls Try.prog 25 #[.string s, agg26 x A5 c5 A6 c6] w (OkPost w (pmap (namesB s) (canon 50 x))) := by
  have hmf : ∀ (fn : Fn) (first cap : Array Value) (w : World), (Instr.makeFunc fn first cap).run Try.prog w = .ok (.func fn first cap) w := fun _ _ _ _ => rfl
  have H7 := Aside0.mk h7
  have RT := Aside0.mk hr
  have SM := Aside0.mk hsm
  have HV := Aside0.mk hv
  have HP := Aside0.mk hP
  have HC := Aside0.mk hc
  have HS := Aside0.mk hs
  have H0 := Aside0.mk h0
  have q2 : ¬ (2000 : Int) < (s.size : Int) := by omega
  have RTN := Aside0.mk (rt_pmap hr (namesB s))
  have SMN := Aside0.mk (sm_pmap hsm (namesB s) fun t ht => Nat.le_trans (names_size ht) (Nat.le_trans hs (by decide)))
  have CN := Aside0.mk (show cnt (50 + (namesB s).length) (pmap (namesB s) x) ≤ 2000 by rw [cnt_pmap]; have := (names_init (s := s)).2; omega)
  have HCP := Aside0.mk (canon_pmap (n := 50) (x := x) (namesB s))
  clear h7 hr hsm hv hP hc hs h0
  rw [← HCP.out]
  go_enter_defers Try.func25, Try.ntmps25
  have HR0 := Aside0.mk (Res.start w #[.int .i64 x.f0, .bool x.f1, .int .i64 x.f2, .float .f64 x.f3, .string x.f4, .slice A5 x.f5.length c5, .slice A6 x.f6.length c6])
  go_wp2_with (first
    | (go_at_call 45; go_must (
        refine (table_tvn 50 (by decide) x A5 c5 A6 c6 P _ H7.out RT.out SM.out (HV.out.below HR0.out.below) (fun k hk => Nat.lt_of_lt_of_le (HP.out k hk) HR0.out.below.size) (Nat.le_trans HC.out (by decide))).mono ?_
        rintro e w2 ⟨b, rfl, ⟨fp, t1, _, _, _, t2⟩, hb⟩
        have HR2 := Aside0.mk (HR0.out.later hb)
        have HT := Aside0.mk (⟨fp, t1, t2⟩ : Rp 50 w2 (.iface 58 (.map (some b))) x)
        clear t1 t2 hb))
    | (go_at_call 56; go_must (
        refine (zptm_calls 50 b x s w2 (Nat.le_trans HS.out (by decide)) H0.out HT.out).mono ?_
        rintro e w3 ⟨hb, b', rfl, hrp⟩
        have HR3 := Aside0.mk (HR2.out.later hb)
        have HRP := Aside0.mk hrp
        clear hb hrp))
    | (go_at_call 46; go_must (
        obtain ⟨fp, r1, r2⟩ := HRP.out
        refine (val_of (50 + (namesB s).length) (pmap (namesB s) x) _ fp w3 r1 RTN.out SMN.out CN.out r2).mono ?_
        intro e w4 hvp
        obtain ⟨B5, d5, B6, d6, Q, rfl, hv4, hQ, hb4⟩ := Val26.of hvp
        have HR4 := Aside0.mk (HR3.out.later hb4)
        have HV4 := Aside0.mk hv4
        have HQ := Aside0.mk hQ
        obtain ⟨⟨c0, c1, c2, c3, c4, c5', c6', c7⟩, f0, f1, f2, f3, f4, f5, f6, f7⟩ := HR4.out.cells
        clear r1 r2 hvp hv4 hQ hb4)))
  obtain ⟨z, hz⟩ : ∃ z, canon (50 + (namesB s).length) (pmap (namesB s) x) = z := ⟨_, rfl⟩
  rw [hz] at HV4 ⊢
  have HF := Aside0.mk (finV_all HR4.out (Nat.le_succ _) HV4.out (fun k hk => by
    have h1 := HQ.out k hk
    have h2 := blk_lt HR3.out.b2
    omega) 0)
  obtain ⟨W5, hW5⟩ : ∃ W5, finV w4 (w.heap.size + 1) z B5 d5 B6 d6 0 = W5 := ⟨_, rfl⟩
  rw [hW5] at HF
  unfold finV fin26 at hW5
  rw [hW5]
  clear hW5
  refine leaves_cons (f := 55) (args := #[.pointer (some ⟨w.heap.size + 1, 0, none⟩), .pointer (some ⟨w.heap.size + 1 + 1, 0, none⟩)]) (by simp) (by simp [go_sem]) ?_
  refine (catch55 _ _ _).mono ?_
  rintro e u' w5 ⟨rfl, rfl, rfl⟩
  obtain ⟨g0, g1, g2, g3, g4, g5, g6, g7⟩ := HF.out.cells
  simp [Leaves, settle, results, Try.results25, go_sem, g0, g1, g2, g3, g4, g5, g6, g7]
  exact OkPost.of HF.out.below HF.out.val
set_option maxHeartbeats 4000000 in
theorem tati_calls (n : Nat) (hn : n ≤ 61) (x y : S26) (A5 : Option Addr) (c5 : Nat) (A6 : Option Addr) (c6 : Nat) (P : Nat → Prop) (s : ByteArray) (w : World) (h7 : x.f0 = 7) (hr : Rt n x) (hsm : Sm n x) (hv : KV w P x A5 c5 A6 c6) (hP : ∀ k, P k → k < w.heap.size) (hc : cnt n x ≤ 2000) (hs : s.size ≤ 90000) (ho : road x (namesB s) = some y) :
    Calls Try.prog 26 #[agg26 x A5 c5 A6 c6, .string s] w fun e w' => ∃ m, Rt m y ∧ OkPost w (canon m y) e w' := by
  have hmf : ∀ (fn : Fn) (first cap : Array Value) (w : World), (Instr.makeFunc fn first cap).run Try.prog w = .ok (.func fn first cap) w := fun _ _ _ _ => rfl
  have HN := Aside0.mk hn
  have H7 := Aside0.mk h7
  have RT := Aside0.mk hr
  have SM := Aside0.mk hsm
  have HV := Aside0.mk hv
  have HP := Aside0.mk hP
  have HC := Aside0.mk hc
  have HS := Aside0.mk hs
  have HO := Aside0.mk ho
  clear hn h7 hr hsm hv hP hc hs ho
  go_enter_defers Try.func26, Try.ntmps26
  have HR0 := Aside0.mk (Res.start w #[.int .i64 x.f0, .bool x.f1, .int .i64 x.f2, .float .f64 x.f3, .string x.f4, .slice A5 x.f5.length c5, .slice A6 x.f6.length c6])
  go_wp2_with (first
    | (go_at_call 45; go_must (
        refine (table_tvn n HN.out x A5 c5 A6 c6 P _ H7.out RT.out SM.out (HV.out.below HR0.out.below) (fun k hk => Nat.lt_of_lt_of_le (HP.out k hk) HR0.out.below.size) HC.out).mono ?_
        rintro e w2 ⟨b, rfl, ht, hb⟩
        have HR2 := Aside0.mk (HR0.out.later hb)
        have HT := Aside0.mk ht
        clear ht hb))
    | (go_at_call 58; go_must (
        refine (table_road n b x s w2 (Nat.le_trans HS.out (by decide)) HT.out).mono ?_
        rintro e w3 ⟨hb, he⟩
        have HR3 := Aside0.mk (HR2.out.later hb)
        have HE := Aside0.mk (he.resolve_right (fun h => by rw [HO.out] at h; cases h.1))
        clear he
        obtain ⟨b', y', m, e1, rfl, htv⟩ := HE.out
        rw [HO.out] at e1
        cases e1
        have HT3 := Aside0.mk (htv.mono hb.size)
        clear htv hb))
    | (go_at_call 46; go_must (
        obtain ⟨fp, r1, r2, r3, r4, r5⟩ := HT3.out
        have HRT := Aside0.mk r2
        refine (val_of m y _ fp w3 r1 r2 r3 r4 r5).mono ?_
        intro e w4 hvp
        obtain ⟨B5, d5, B6, d6, Q, rfl, hv4, hQ, hb4⟩ := Val26.of hvp
        have HR4 := Aside0.mk (HR3.out.later hb4)
        have HV4 := Aside0.mk hv4
        have HQ := Aside0.mk hQ
        obtain ⟨⟨c0, c1, c2, c3, c4, c5', c6', c7⟩, f0, f1, f2, f3, f4, f5, f6, f7⟩ := HR4.out.cells
        clear r1 r2 r3 r4 r5 hvp hv4 hQ hb4)))
  have HF := Aside0.mk (finV_all HR4.out (Nat.le_succ _) HV4.out (fun k hk => by
    have h1 := HQ.out k hk
    have h2 := blk_lt HR3.out.b2
    omega) 0)
  obtain ⟨W5, hW5⟩ : ∃ W5, finV w4 (w.heap.size + 1) (canon m y) B5 d5 B6 d6 0 = W5 := ⟨_, rfl⟩
  rw [hW5] at HF
  unfold finV fin26 at hW5
  rw [hW5]
  clear hW5
  refine leaves_cons (f := 57) (args := #[.pointer (some ⟨w.heap.size + 1, 0, none⟩), .pointer (some ⟨w.heap.size + 1 + 1, 0, none⟩)]) (by simp) (by simp [go_sem]) ?_
  refine (catch57 _ _ _).mono ?_
  rintro e u' w5 ⟨rfl, rfl, rfl⟩
  obtain ⟨g0, g1, g2, g3, g4, g5, g6, g7⟩ := HF.out.cells
  simp [Leaves, settle, results, Try.results26, go_sem, g0, g1, g2, g3, g4, g5, g6, g7]
  exact ⟨m, HRT.out, OkPost.of HF.out.below HF.out.val⟩
end Go.Proofs.Ytjfbjkodjjlkiaa.HVal
