/- What spec.PathMap comes to. -/
import Derived.Test.YtjfbjkodjjlkiaaHNames
import Derived.Test.YtjfbjkodjjlkiaaHTab1
import Derived.Deep.RegionWith
namespace Go.Proofs.Ytjfbjkodjjlkiaa.HVal
open Go.RowKit Go.WideMaps Go.Maps Go.Proofs.YtjfbjkodjjlkiaaW.PrintWords Go.Proofs.YtjfbjkodjjlkiaaW.PrintLast Go.Proofs.YtjfbjkodjjlkiaaW.PrintMore Go.Proofs.Ytjfbjkodjjlkiaa.Plain Go.Proofs.Ytjfbjkodjjlkiaa.GTab Go.Proofs.Ytjfbjkodjjlkiaa.HBytes
attribute [local go_sem] run_store_flt

structure PM (w : World) (P : Nat → Prop) (l : List ByteArray) (A : Option Addr) (n : Nat) (y : S26) (A5 : Option Addr) (c5 : Nat) (A6 : Option Addr) (c6 : Nat) (W : World) : Prop where
  b0 : W.heap[w.heap.size]? = some (.cells #[.int .i64 y.f0, .bool y.f1, .int .i64 y.f2, .float .f64 y.f3, .string y.f4, .slice A5 y.f5.length c5, .slice A6 y.f6.length c6] 26 (0, 0))
  b1 : W.heap[w.heap.size + 1]? = some (.cells #[.int .i64 0, .bool false, .int .i64 0, .float .f64 0, .string ⟨#[]⟩, .slice none 0 0, .slice none 0 0] 26 (0, 0))
  nm : Kd.F Kd.string W (fun k => w.heap.size + 2 ≤ k) A n l
  kv : KV W (fun k => P k ∨ w.heap.size + 2 ≤ k) y A5 c5 A6 c6
  below : Below w.heap.size w W
section
variable {w : World} {P : Nat → Prop} {l : List ByteArray} {A : Option Addr} {n : Nat} {y : S26} {A5 A6 : Option Addr} {c5 c6 : Nat} {W W2 : World}
theorem PM.later (h : PM w P l A n y A5 c5 A6 c6 W) (hb : Below W.heap.size W W2) : PM w P l A n y A5 c5 A6 c6 W2 :=
  ⟨blk_below h.b0 hb, blk_below h.b1 hb, Kd.F_below h.nm hb, h.kv.below hb, below_step h.below hb⟩
theorem PM.start {c : Nat} (hv : KV w P y A5 c5 A6 c6) (hR : Kd.R Kd.string 9 W ((w.alloc (row26 y A5 c5 A6 c6)).alloc row0).heap.size (fun _ => True) (.slice A n c) l) (hb : Below ((w.alloc (row26 y A5 c5 A6 c6)).alloc row0).heap.size ((w.alloc (row26 y A5 c5 A6 c6)).alloc row0) W) : PM w P l A n y A5 c5 A6 c6 W :=
  ⟨blk_below (blk_alloc (blk_new w _) _) hb, blk_below (blk_at _ (by simp)) hb, Kd.F_mono (Kd.R_F (Kd.R_bound hR)) (fun k hk => by have := hk.2.1; simp only [World.size_alloc] at this; omega),
    ((hv.below (below_alloc (below_alloc (Below.refl _ _) _) _)).below hb).mono (fun _ hk => .inl hk), below_step (below_alloc (below_alloc (Below.refl _ _) _) _) hb⟩
theorem PM.cell (h : PM w P l A n y A5 c5 A6 c6 W) (hn : l.length = n) {j : Nat} (hj : j < l.length) : ∃ ad, A = some ad ∧ W.cell? (ad.add j) = some (.string l[j]) := by
  subst hn
  exact names_cell (Kd.F_now h.nm) hj
/-- The round: two new rows, and the value stored. -/
theorem PM.put (h : PM w P l A n y A5 c5 A6 c6 W) (hP : ∀ k, P k → k < w.heap.size) {a c : Nat} {t : ByteArray} {q1 q2 : Nat} (hba : w.heap.size + 2 ≤ a) (hbc : w.heap.size + 2 ≤ c) (ha : W.heap[a]? = some (.cells #[.string t] q1 (0, 0)))
    (hc : W.heap[c]? = some (.cells #[.int .i64 y.f0, .bool y.f1, .int .i64 y.f2, .float .f64 y.f3, .string y.f4, .slice A5 y.f5.length c5, .slice A6 y.f6.length c6] q2 (0, 0))) :
    PM w P l A n (tab1 t y) (some ⟨a, 0, none⟩) 1 (some ⟨c, 0, none⟩) 1 (putV W w.heap.size (tab1 t y) (some ⟨a, 0, none⟩) 1 (some ⟨c, 0, none⟩) 1) :=
  ⟨putV_at h.b0 (tab1 t y) _ _ _ _, (putV_far (by omega) (tab1 t y) _ _ _ _).trans h.b1, Kd.F_step h.nm (fun k hk _ => putV_far (by omega) (tab1 t y) _ _ _ _),
    ((kv_tab h.kv ha hc).mono (fun k hk => by
      rcases hk with hk | rfl | rfl
      · exact hk
      · exact .inr hba
      · exact .inr hbc)).step (fun k hk _ => putV_far (by rcases hk with hk | hk; (have := hP k hk; omega); omega) (tab1 t y) _ _ _ _),
    putV_below h.below (Nat.le_refl _) (tab1 t y) _ _ _ _⟩
/-- The same, with the cells as they are met, behind a draw. -/
theorem PM.put26 (h : PM w P l A n y A5 c5 A6 c6 W) (hP : ∀ k, P k → k < w.heap.size) {a c : Nat} {t : ByteArray} {q1 q2 : Nat} (hba : w.heap.size + 2 ≤ a) (hbc : w.heap.size + 2 ≤ c) (ha : W.heap[a]? = some (.cells #[.string t] q1 (0, 0)))
    (hc : W.heap[c]? = some (.cells #[.int .i64 y.f0, .bool y.f1, .int .i64 y.f2, .float .f64 y.f3, .string y.f4, .slice A5 y.f5.length c5, .slice A6 y.f6.length c6] q2 (0, 0))) :
    PM w P l A n (tab1 t y) (some ⟨a, 0, none⟩) 1 (some ⟨c, 0, none⟩) 1 (HVal.put26 W w.heap.size (.int .i64 7) (.bool false) (.int .i64 0) (.float .f64 0) (.string ⟨#[]⟩) (.slice (some ⟨a, 0, none⟩) 1 1) (.slice (some ⟨c, 0, none⟩) 1 1)).drew :=
  PM.later (h.put hP hba hbc ha hc) (below_drew (Below.refl _ _))
/-- What is given back is stored. -/
theorem PM.fin (h : PM w P l A n y A5 c5 A6 c6 W) (hP : ∀ k, P k → k < w.heap.size) : (putV W (w.heap.size + 1) y A5 c5 A6 c6).heap[w.heap.size + 1]? = some (.cells #[.int .i64 y.f0, .bool y.f1, .int .i64 y.f2, .float .f64 y.f3, .string y.f4, .slice A5 y.f5.length c5, .slice A6 y.f6.length c6] 26 (0, 0)) ∧
    KV (putV W (w.heap.size + 1) y A5 c5 A6 c6) (fun k => P k ∨ w.heap.size ≤ k) y A5 c5 A6 c6 ∧ Below w.heap.size w (putV W (w.heap.size + 1) y A5 c5 A6 c6) :=
  ⟨putV_at h.b1 y A5 c5 A6 c6, (h.kv.step (fun k hk _ => putV_far (by rcases hk with hk | hk; (have := hP k hk; omega); omega) y A5 c5 A6 c6)).mono (fun k hk => hk.imp id (fun h => by omega)), putV_below h.below (Nat.le_succ _) y A5 c5 A6 c6⟩
end
theorem wrap_down {k : Nat} (h : k + 1 ≤ 1000000000) : wrap64 ((k : Int) - 1) = (k : Int) - 1 := by
  unfold wrap64
  omega
theorem le_size {W : World} {b : Nat} {o : Obj} (h : W.heap[b + 1]? = some o) : b + 2 ≤ W.heap.size := blk_lt h
theorem meas_down {j : Nat} (h : j + 1 ≤ 1000000000) : (intOf (.int .i64 (wrap64 ((j : Int) - 1))) + 1).toNat < (intOf (.int .i64 (j : Int)) + 1).toNat := by
  rw [wrap_down h]
  show ((j : Int) - 1 + 1).toNat < ((j : Int) + 1).toNat
  omega
theorem wrap_self' {k : Nat} (h : k + 1 ≤ 1000000000) : wrap64 (k : Int) = (k : Int) := by
  unfold wrap64
  omega
/-- What spec.PathMap gives. -/
def MapPost (w : World) (P : Nat → Prop) (y : S26) (e : Ending) (w' : World) : Prop :=
  Below w.heap.size w w' ∧ ∃ A5 c5 A6 c6, e = .returned (agg26 y A5 c5 A6 c6) ∧ KV w' (fun k => P k ∨ w.heap.size ≤ k) y A5 c5 A6 c6
set_option maxRecDepth 100000 in
set_option maxHeartbeats 4000000 in
theorem pathmap_calls (x : S26) (A5 : Option Addr) (c5 : Nat) (A6 : Option Addr) (c6 : Nat) (P : Nat → Prop) (s : ByteArray) (w : World) (hv : KV w P x A5 c5 A6 c6) (hP : ∀ k, P k → k < w.heap.size) (hs : s.size ≤ 100000) (h0 : s ≠ ⟨#[46]⟩) :
    Calls Try.prog 27 #[.string s, agg26 x A5 c5 A6 c6] w (MapPost w P (pmap (namesB s) x)) := by
  have HV := Aside0.mk hv
  have HP := Aside0.mk hP
  have hq : (s.toList == (ByteArray.mk #[46]).toList) = false := by rw [beq_toList]; exact decide_eq_false h0
  have hq2 : ¬ s.toList = [46] := fun e => by rw [show (ByteArray.mk #[46]).toList = [46] from by kernel_rfl, e] at hq; cases hq
  have hq3 : (s.toList == [46]) = false := by simpa using hq2
  obtain ⟨k, hk⟩ : ∃ k, (namesB s).length = k + 1 := ⟨(namesB s).length - 1, by have := List.length_pos_iff.2 (namesB_ne s); omega⟩
  have HK := Aside0.mk (show k + 1 ≤ 1000000 by have := (names_init (s := s)).2; omega)
  obtain ⟨l, hl⟩ : ∃ l, namesB s = l := ⟨_, rfl⟩
  have HN := Aside0.mk (specNames_calls s ((w.alloc (row26 x A5 c5 A6 c6)).alloc row0) (Nat.le_trans hs (by decide)))
  rw [hl] at hk ⊢
  have HL := Aside0.mk hl
  have HKL := Aside0.mk hk
  have q1 := wrap_self' (Nat.le_trans HK.out (by decide))
  clear hv hP hs h0 hk hl
  go_enter Try.func27, Try.ntmps27
  go_wp2_with (go_at_call 24; go_must (refine HN.out.mono ?_; rintro e w1 ⟨v, rfl, hR, hb⟩; rw [HL.out] at hR; obtain ⟨A, c, rfl, hc, hC⟩ := Kd.R_reads hR; rw [HKL.out] at hR hc ⊢; have HC := Aside0.mk hc; have HI := Aside0.mk (PM.start HV.out hR hb); clear hR hb hC hc HN))
  have Q1 := Aside0.mk q1
  clear q1 hq hq2 hq3
  go_loopw [6] (fun i wr => ∃ (j : Nat) (y : S26) (B5 : Option Addr) (d5 : Nat) (B6 : Option Addr) (d6 : Nat), j ≤ k + 1 ∧ i = .int .i64 ((j : Int) - 1) ∧ Aside0 (y = pmap (l.drop j) x) ∧ Aside0 (PM w P l A (k + 1) y B5 d5 B6 d6 wr)) (fun i _ => (intOf i + 1).toNat)
  case atStart => exact ⟨k + 1, x, A5, c5, A6, c6, Nat.le_refl _, congrArg (Value.int IntKind.i64) (Q1.out.trans (by omega)), ⟨by rw [← HKL.out, List.drop_length]; rfl⟩, HI⟩
  case round =>
    obtain ⟨j, y, B5, d5, B6, d6, hj, rfl, HO1, HI1⟩ := hrel
    clear HI
    cases j with
    | zero =>
      have HE := Aside0.mk (show y = pmap l x from HO1.out)
      obtain ⟨⟨r0, r1, r2, r3, r4, r5, r6⟩, -⟩ := at7 HI1.out.b0
      obtain ⟨⟨s0, s1, s2, s3, s4, s5, s6⟩, f0, f1, f2, f3, f4, f5, f6⟩ := at7 HI1.out.b1
      go_wp2
      have HF := PM.fin HI1.out HP.out
      obtain ⟨⟨g0, g1, g2, g3, g4, g5, g6⟩, -⟩ := at7 HF.1
      have HF2 := Aside0.mk HF.2
      clear HF
      unfold putV put26 at g0 g1 g2 g3 g4 g5 g6
      refine bodyPost_ret (v := agg26 y B5 d5 B6 d6) (by simp [results, Try.results27, go_sem, g0, g1, g2, g3, g4, g5, g6]) rfl ?_
      rw [← HE.out]
      exact ⟨HF2.out.2, _, _, _, _, rfl, HF2.out.1⟩
    | succ j =>
      have e : ((j + 1 : Nat) : Int) - 1 = (j : Int) := by omega
      rw [e]
      have HJ := Aside0.mk (show j + 1 ≤ k + 1 from hj)
      have hjl : j < l.length := by rw [HKL.out]; omega
      obtain ⟨ad, hA, z0⟩ := HI1.out.cell HKL.out hjl
      subst hA
      have q0 : (j : Int) < (k : Int) + 1 := by omega
      have p2 : 0 ≤ (j : Int) := Int.natCast_nonneg j
      have HO2 := Aside0.mk (pmap_drop (x := x) hjl)
      rw [← HO1.out] at HO2
      obtain ⟨t, ht⟩ : ∃ t, l[j] = t := ⟨_, rfl⟩
      rw [ht] at z0 HO2
      clear ht hjl hj e
      obtain ⟨⟨r0, r1, r2, r3, r4, r5, r6⟩, -⟩ := at7 HI1.out.b0
      go_wp2
      have z1 := keep_cell z0 (below_alloc (Below.refl _ _) (row26 y B5 d5 B6 d6))
      obtain ⟨⟨i0, i1, i2, i3, i4, i5, i6⟩, -⟩ := at7 (blk_alloc HI1.out.b0 (.cells #[.string t] 9))
      obtain ⟨⟨j0, j1, j2, j3, j4, j5, j6⟩, f0, f1, f2, f3, f4, f5, f6⟩ := at7 (blk_alloc (blk_alloc HI1.out.b0 (.cells #[.string t] 9)) (row26 y B5 d5 B6 d6))
      obtain ⟨⟨k0, k1, k2, k3, k4, k5, k6⟩, m0, m1, m2, m3, m4, m5, m6⟩ := at7 (blk_alloc (blk_alloc HI1.out.b0 (row26 y B5 d5 B6 d6)) (.cells #[.string t] 9))
      have HA := Aside0.mk (PM.put26 (t := t) (q1 := 9) (q2 := 26) (HI1.out.later (below_alloc (below_alloc (Below.refl _ _) (.cells #[.string t] 9)) (row26 y B5 d5 B6 d6))) HP.out (a := wr.heap.size) (c := wr.heap.size + 1) (le_size HI1.out.b1) (Nat.le_succ_of_le (le_size HI1.out.b1)) (blk_alloc (blk_new wr _) _) (blk_at _ (by simp)))
      have HB := Aside0.mk (PM.put26 (t := t) (q1 := 9) (q2 := 26) (HI1.out.later (below_alloc (below_alloc (Below.refl _ _) (row26 y B5 d5 B6 d6)) (.cells #[.string t] 9))) HP.out (a := wr.heap.size + 1) (c := wr.heap.size) (Nat.le_succ_of_le (le_size HI1.out.b1)) (le_size HI1.out.b1) (blk_at _ (by simp)) (blk_alloc (blk_new wr _) _))
      unfold put26 at HA HB
      go_region_with fail
      all_goals (clear r0 r1 r2 r3 r4 r5 r6 i0 i1 i2 i3 i4 i5 i6 j0 j1 j2 j3 j4 j5 j6 k0 k1 k2 k3 k4 k5 k6 f0 f1 f2 f3 f4 f5 f6 m0 m1 m2 m3 m4 m5 m6 z0 z1)
      all_goals (go_wp2; go_roundw)
      all_goals first
        | exact meas_down (Nat.le_trans HJ.out (Nat.le_trans HK.out (by decide)))
        | (refine ⟨j, tab1 t y, some ⟨wr.heap.size, 0, none⟩, 1, some ⟨wr.heap.size + 1, 0, none⟩, 1, Nat.le_trans (Nat.le_succ _) HJ.out, congrArg (Value.int IntKind.i64) (wrap_down (Nat.le_trans HJ.out (Nat.le_trans HK.out (by decide)))), ⟨HO2.out.symm⟩, ?_⟩; with_reducible exact HA)
        | (refine ⟨j, tab1 t y, some ⟨wr.heap.size + 1, 0, none⟩, 1, some ⟨wr.heap.size, 0, none⟩, 1, Nat.le_trans (Nat.le_succ _) HJ.out, congrArg (Value.int IntKind.i64) (wrap_down (Nat.le_trans HJ.out (Nat.le_trans HK.out (by decide)))), ⟨HO2.out.symm⟩, ?_⟩; with_reducible exact HB)
end Go.Proofs.Ytjfbjkodjjlkiaa.HVal
