/- What spec.Trimmed comes to: the walk. -/
import Derived.Test.YtjfbjkodjjlkiaaHTrimR
namespace Go.Proofs.Ytjfbjkodjjlkiaa.HVal
open Go.RowKit Go.WideMaps Go.Maps Go.Proofs.YtjfbjkodjjlkiaaW.PrintWords Go.Proofs.YtjfbjkodjjlkiaaW.PrintLast Go.Proofs.YtjfbjkodjjlkiaaW.PrintMore Go.Proofs.Ytjfbjkodjjlkiaa.Plain Go.Proofs.Ytjfbjkodjjlkiaa.GTab Go.Proofs.Ytjfbjkodjjlkiaa.HBytes
attribute [local go_sem] run_store_flt

def LT (n : Nat) (x : S26) (j : Nat) : List (ByteArray × S26) := trimL (trim n) (x.f5.take j) (x.f6.take j)
theorem T9.made {w : World} {P : Nat → Prop} {x : S26} {A5 A6 : Option Addr} {c5 c6 : Nat} {ks : List ByteArray} {ys : List S26} {raws : List Value} {vA vB : Value} {wr W : World} {y : S26} {B5 B6 : Option Addr} {d5 d6 : Nat} (HI : TS w P x A5 c5 A6 c6 ks ys raws vA vB wr) (HP : ∀ k, P k → k < w.heap.size) (hb : Below wr.heap.size wr W)
    (hat : W.heap[wr.heap.size]? = some (.cells #[.int .i64 y.f0, .bool y.f1, .int .i64 y.f2, .float .f64 y.f3, .string y.f4, .slice B5 y.f5.length d5, .slice B6 y.f6.length d6] 26 (0, 0))) (hk : KV W (fun k => P k ∨ wr.heap.size < k) y B5 d5 B6 d6) : T9 w P x A5 c5 A6 c6 ks ys raws vA vB wr.heap.size y B5 d5 B6 d6 W := by
  have hlt := HI.lt
  refine ⟨HI.later hb, hat, hk.mono fun k hk => ?_, hlt, fun e => ?_, fun e => ?_⟩
  · rcases hk with hk | hk
    · have := HP k hk
      exact ⟨.inl hk, fun e => by have := (row_own HI.ra k e).1; omega, fun e => by have := (row_own HI.rb k e).1; omega⟩
    · exact ⟨.inr (by omega), fun e => by have := (row_own HI.ra k e).2; omega, fun e => by have := (row_own HI.rb k e).2; omega⟩
  · have := (row_own HI.ra _ e).2
    omega
  · have := (row_own HI.rb _ e).2
    omega
theorem pB_kept {w : World} {P : Nat → Prop} {x : S26} {A5 A6 : Option Addr} {c5 c6 : Nat} {ks : List ByteArray} {ys : List S26} {raws : List Value} {vA vB : Value} {wc Wc W4 : World} {b p : Nat} {y : S26} {B5 B6 : Option Addr} {d5 d6 : Nat} {o : Obj} (H : T9 w P x A5 c5 A6 c6 ks ys raws vA vB b y B5 d5 B6 d6 wc) (hg : Wc.grownBy W4 vA.ownBlock) (hp : Wc.heap[p]? = some o) (hle : wc.heap.size ≤ p) : W4.heap[p]? = some o :=
  (hg.block p (blk_lt hp) (fun e => by have := (row_own H.ts.ra p e.symm).2; omega)).trans hp
theorem lt_full {n : Nat} {x : S26} (h : x.f5.length = x.f6.length) : ({ z26 with f0 := 7, f5 := (LT n x x.f5.length).map (·.1), f6 := (LT n x x.f5.length).map (·.2) } : S26) = trim (n + 1) x := by
  unfold LT
  rw [List.take_length, List.take_of_length_le (by omega : x.f6.length ≤ x.f5.length)]
  rfl
theorem trim_agg {n m : Nat} {x : S26} {A : Option Addr} {a : Nat} {B : Option Addr} {b : Nat} (h : x.f5.length = x.f6.length) (hm : (LT n x x.f5.length).length = m) : (.agg #[.int .i64 7, .bool false, .int .i64 0, .float .f64 0, .string ⟨#[]⟩, .slice A m a, .slice B m b] : Value) = agg26 (trim (n + 1) x) A a B b := by
  rw [← lt_full h]
  show _ = Value.agg #[.int .i64 7, .bool false, .int .i64 0, .float .f64 0, .string ⟨#[]⟩, .slice A ((LT n x x.f5.length).map (·.1)).length a, .slice B ((LT n x x.f5.length).map (·.2)).length b]
  rw [List.length_map, List.length_map, hm]
theorem trimmed_of_zero : TrimC 0 := fun _ _ _ _ _ _ _ _ h => h.elim
theorem lt_len {n : Nat} {x : S26} {j : Nat} (h : x.f6.length ≤ 2000) : (LT n x j).length ≤ 2000 := by
  have := trimL_len (f := trim n) (x.f5.take j) (x.f6.take j)
  rw [List.length_take] at this
  unfold LT
  omega
set_option maxRecDepth 100000 in
set_option maxHeartbeats 8000000 in
theorem trimmed_step (n : Nat) (ih : TrimC n) (x : S26) (A5 : Option Addr) (c5 : Nat) (A6 : Option Addr) (c6 : Nat) (P : Nat → Prop) (w : World) (h7 : x.f0 = 7) (hr : Rt (n + 1) x) (hc : cnt (n + 1) x ≤ 2000) (hv : KV w P x A5 c5 A6 c6) (hP : ∀ k, P k → k < w.heap.size) :
    Calls Try.prog 15 #[agg26 x A5 c5 A6 c6] w (TrimPost w P (trim (n + 1) x)) := by
  have HL := Aside0.mk (hr.lens h7)
  have HK := Aside0.mk (rt_kids hr)
  have LL : x.f6.length ≤ 2000 := by have := len_le (rt_kids hr); unfold cnt at hc; omega
  have HLL := Aside0.mk LL
  have IH := Aside0.mk ih
  have HC := Aside0.mk hc
  have HP := Aside0.mk hP
  have HS := Aside0.mk (TS.start hv)
  clear ih h7 hr hc hv hP LL
  go_enter Try.func15, Try.ntmps15
  go_wp2
  go_loopw [11] (fun i wr => ∃ (j : Nat) (raws : List Value) (vA vB : Value), j ≤ x.f5.length ∧ i = .int .i64 j ∧ Aside0 (TS w P x A5 c5 A6 c6 ((LT n x j).map (·.1)) ((LT n x j).map (·.2)) raws vA vB wr)) (fun i _ => x.f5.length - (intOf i).toNat)
  case atStart => exact ⟨0, [], _, _, Nat.zero_le _, rfl, HS⟩
  case round =>
    obtain ⟨j, raws, vA, vB, hj, rfl, HI⟩ := hrel
    clear HS
    by_cases hlt : j < x.f5.length
    · have HJ := Aside0.mk hlt
      obtain ⟨⟨r0, r1, r2, r3, r4, r5, r6⟩, -⟩ := at7 HI.out.b0
      have hlt2 : j < x.f6.length := HL.out ▸ hlt
      obtain ⟨ad, hA, z0⟩ := HI.out.kv.key j hlt
      subst hA
      obtain ⟨ad2, E5, e5, E6, e6, hA2, hv2, y0, y1, y2, y3, y4, y5, y6⟩ := HI.out.kv.el7 j hlt2
      subst hA2
      have p0 : 0 ≤ (j : Int) := Int.natCast_nonneg j
      have q0 : (j : Int) < (x.f5.length : Int) := Int.ofNat_lt.2 hlt
      have q2 : (j : Int) < (x.f6.length : Int) := Int.ofNat_lt.2 hlt2
      have HT := Aside0.mk (trimL_take (f := trim n) HL.out hlt2)
      have HRK := Aside0.mk (HK.out _ (List.getElem_mem hlt2))
      have HCK := Aside0.mk (show cnt n x.f6[j] ≤ 2000 by have := sum_le n x.f6 j hlt2; have := HC.out; unfold cnt at this; omega)
      obtain ⟨t, ht⟩ : ∃ t, x.f5[j] = t := ⟨_, rfl⟩
      obtain ⟨u, hu⟩ : ∃ u, x.f6[j] = u := ⟨_, rfl⟩
      rw [ht] at z0 HT
      rw [hu] at y0 y1 y2 y3 y4 y5 y6 hv2 HT HRK HCK
      have HV2 := Aside0.mk hv2
      clear hlt hlt2 ht hu hv2 hj
      have HB6 := Aside0.mk (below_alloc (Below.refl wr.heap.size wr) (row26 u E5 e5 E6 e6))
      go_upto_if 22 with (go_at_call 20; go_must (refine (is7_calls (HV2.out.below HB6.out)).mono ?_; rintro e w3 ⟨rfl, hb⟩; have HB3 := Aside0.mk (below_step HB6.out hb); have HA3 := Aside0.mk (blk_below (blk_new wr (row26 u E5 e5 E6 e6)) hb); clear hb))
      have HLA := Aside0.mk (show ((LT n x j).map (·.1)).length ≤ 2000 by rw [List.length_map]; exact lt_len HLL.out)
      have HLB := Aside0.mk (show ((LT n x j).map (·.2)).length ≤ 2000 by rw [List.length_map]; exact lt_len HLL.out)
      obtain ⟨ks, hks⟩ : ∃ ks, (LT n x j).map (·.1) = ks := ⟨_, rfl⟩
      obtain ⟨ys, hys⟩ : ∃ ys, (LT n x j).map (·.2) = ys := ⟨_, rfl⟩
      rw [hks, hys] at HI
      rw [hks] at HLA
      rw [hys] at HLB
      have HKS := Aside0.mk hks
      have HYS := Aside0.mk hys
      clear hks hys r0 r1 r2 r3 r4 r5 r6 z0 y0 y1 y2 y3 y4 y5 y6
      go_cut [11] from 12 to 40 (fun i wx => ∃ (y : S26) (F5 : Option Addr) (f5 : Nat) (F6 : Option Addr) (f6 : Nat), i = .int .i64 j ∧ Aside0 (one (trim n) u = y) ∧ Aside0 (T9 w P x (some ad) c5 (some ad2) c6 ks ys raws vA vB wr.heap.size y F5 f5 F6 f6 wx))
      case first =>
        obtain ⟨⟨n0, n1, n2, n3, n4, n5, n6⟩, m0, m1, m2, m3, m4, m5, m6⟩ := at7 HA3.out
        by_cases h7 : u.f0 = 7
        · have HO := Aside0.mk (show one (trim n) u = trim n u by unfold one; rw [if_pos h7])
          have HIH := Aside0.mk (IH.out u E5 e5 E6 e6 P w3 h7 HRK.out HCK.out (HV2.out.below HB3.out) (fun k hk => Nat.lt_of_lt_of_le (Nat.lt_of_lt_of_le (HP.out k hk) HI.out.below.size) HB3.out.size))
          rw [decide_eq_true h7]
          clear h7
          go_wp2_with (go_at_call 15; go_must (refine HIH.out.mono ?_; rintro e w4 ⟨hb, F5, f5, F6, f6, rfl, hk⟩; have HB4 := Aside0.mk (below_step HB3.out hb); have HA4 := Aside0.mk (blk_below HA3.out hb); have HK4 := Aside0.mk hk; clear n0 n1 n2 n3 n4 n5 n6 m0 m1 m2 m3 m4 m5 m6; obtain ⟨⟨n0, n1, n2, n3, n4, n5, n6⟩, m0, m1, m2, m3, m4, m5, m6⟩ := at7 HA4.out; clear hb hk))
          have HW3 := Aside0.mk (show wr.heap.size < w3.heap.size from blk_lt HA3.out)
          obtain ⟨z, hz⟩ : ∃ z, trim n u = z := ⟨_, rfl⟩
          rw [hz] at HO HK4 ⊢
          clear hz
          have HE := Aside0.mk (T9.made HI.out HP.out (putV_below HB4.out (Nat.le_refl _) z F5 f5 F6 f6) (putV_at HA4.out z F5 f5 F6 f6) ((HK4.out.step (w1 := putV w4 wr.heap.size z F5 f5 F6 f6) (fun k hk _ => putV_far (by have h1 := HW3.out; have h2 := HI.out.lt; rcases hk with hk | hk; (have := HP.out k hk; omega); omega) z F5 f5 F6 f6)).mono (fun k hk => hk.imp id fun h => Nat.lt_of_lt_of_le HW3.out h)))
          go_meet
          exact ⟨z, F5, f5, F6, f6, rfl, HO, HE⟩
        · have HO := Aside0.mk (show one (trim n) u = u by unfold one; rw [if_neg h7])
          rw [decide_eq_false h7]
          clear h7
          go_wp2
          go_meet
          exact ⟨u, E5, e5, E6, e6, rfl, HO, ⟨T9.made HI.out HP.out HB3.out HA3.out ((HV2.out.below HB3.out).mono (fun _ hk => .inl hk))⟩⟩
      case rest =>
        obtain ⟨y, F5, f5, F6, f6, rfl, HY, H9⟩ := hcut
        rw [HY.out] at HT
        have HT1 := Aside0.mk (show LT n x (j + 1) = LT n x j ++ (if y.f0 = 0 then [] else [(t, y)]) from HT.out)
        obtain ⟨⟨n0, n1, n2, n3, n4, n5, n6⟩, -⟩ := at7 H9.out.at_
        by_cases h0 : y.f0 = 0
        · have hT2 := HT1.out
          rw [if_pos h0, List.append_nil] at hT2
          have HT2 := Aside0.mk hT2
          clear hT2
          have g0 : (y.f0 != 0) = false := by rw [h0]; rfl
          rw [h0] at n0
          clear h0
          go_wp2
          go_roundw
          case rel => exact ⟨j + 1, raws, vA, vB, HJ.out, congrArg (Value.int IntKind.i64) (next63 HJ.out (by rw [HL.out]; exact Nat.le_trans HLL.out (by decide))), ⟨by rw [HT2.out, HKS.out, HYS.out]; exact H9.out.ts⟩⟩
          case measure => exact meas26 HJ.out (by rw [HL.out]; exact Nat.le_trans HLL.out (by decide))
        · have hT2 := HT1.out
          rw [if_neg h0] at hT2
          have HK2 := Aside0.mk (show (LT n x (j + 1)).map (·.1) = ks ++ [t] by rw [hT2, List.map_append, HKS.out]; rfl)
          have HY2 := Aside0.mk (show (LT n x (j + 1)).map (·.2) = ys ++ [y] by rw [hT2, List.map_append, HYS.out]; rfl)
          have g0 : (y.f0 != 0) = true := by simpa using h0
          clear hT2 h0
          have c5b : ∀ o1 o2, ((wc.alloc o1).alloc o2).cell? ⟨w.heap.size + 1 + 1, 5, none⟩ = some vA := fun o1 o2 => (blk_cell (blk_alloc (blk_alloc H9.out.ts.b2 o1) o2) 5).trans rfl
          have c6b : ∀ o1 o2, ((wc.alloc o1).alloc o2).cell? ⟨w.heap.size + 1 + 1, 6, none⟩ = some vB := fun o1 o2 => (blk_cell (blk_alloc (blk_alloc H9.out.ts.b2 o1) o2) 6).trans rfl
          have c5a : ∀ o1, (wc.alloc o1).cell? ⟨w.heap.size + 1 + 1, 5, none⟩ = some vA := fun o1 => (blk_cell (blk_alloc H9.out.ts.b2 o1) 5).trans rfl
          have c6a : ∀ o1, (wc.alloc o1).cell? ⟨w.heap.size + 1 + 1, 6, none⟩ = some vB := fun o1 => (blk_cell (blk_alloc H9.out.ts.b2 o1) 6).trans rfl
          have c50 : wc.cell? ⟨w.heap.size + 1 + 1, 5, none⟩ = some vA := (blk_cell H9.out.ts.b2 5).trans rfl
          have c60 : wc.cell? ⟨w.heap.size + 1 + 1, 6, none⟩ = some vB := (blk_cell H9.out.ts.b2 6).trans rfl
          obtain ⟨⟨k0, k1, k2, k3, k4, k5, k6⟩, -⟩ := at7 (blk_alloc H9.out.at_ (.cells #[.string t] 9))
          go_wp2
          go_region_law (first
            | (refine stepA (t := t) H9.out ?_ ?_ HLA.out rfl rfl rfl rfl ?_;
               (first
                 | (exact below_drew (below_alloc (Below.refl _ _) _); exact blk_drew (blk_new wc _); intro g cap W4 HM hg; have HMa := Aside0.mk HM)
                 | (exact below_drew (below_alloc (below_alloc (Below.refl _ _) _) _); exact blk_drew (blk_alloc (blk_new wc _) _); intro g cap W4 HM hg; have HMa := Aside0.mk HM; have HPB := Aside0.mk (pB_kept H9.out hg (p := wc.heap.size + 1) (blk_drew (blk_at _ (by simp))) (Nat.le_succ _)))
                 | (exact below_drew (below_alloc (below_alloc (Below.refl _ _) _) _); exact blk_drew (blk_at _ (by simp)); intro g cap W4 HM hg; have HMa := Aside0.mk HM; have HPB := Aside0.mk (pB_kept H9.out hg (p := wc.heap.size) (blk_drew (blk_alloc (blk_new wc _) _)) (Nat.le_refl _))))
               obtain ⟨⟨u0, u1, u2, u3, u4, u5, u6⟩, -⟩ := at7 HM.at_
               have d6a : W4.cell? ⟨w.heap.size + 1 + 1, 6, none⟩ = some vB := (blk_cell HM.b2 6).trans rfl
               have d6b := keep_cell d6a (below_alloc (Below.refl _ _) (row26 y F5 f5 F6 f6))
               clear HM hg)
            | ((first
                 | (refine stepB HP.out (HMa.out.later (below_alloc (Below.refl _ _) (row26 y F5 f5 F6 f6))) ?_ HLB.out rfl rfl rfl rfl ?_; exact blk_new W4 _)
                 | refine stepB HP.out HMa.out HPB.out HLB.out rfl rfl rfl rfl ?_)
               intro g2 cap2 W5 hts hb2 hat5
               have HN := Aside0.mk hts
               have e5c : W5.cell? ⟨w.heap.size + 1 + 1, 5, none⟩ = some vA := (blk_cell hb2 5).trans rfl
               have e6c : W5.cell? ⟨w.heap.size + 1 + 1, 6, none⟩ = some vB := (blk_cell hb2 6).trans rfl
               have e5f : W5.frozen? ⟨w.heap.size + 1 + 1, 5, none⟩ = false := blk_frozen hb2 5
               have e6f : W5.frozen? ⟨w.heap.size + 1 + 1, 6, none⟩ = false := blk_frozen hb2 6
               clear hts hb2 hat5))
          all_goals
            clear e5c e6c e5f e6f u0 u1 u2 u3 u4 u5 u6 d6a d6b HMa
            go_wp2_with fail
            go_roundw
            case measure => exact meas26 HJ.out (by rw [HL.out]; exact Nat.le_trans HLL.out (by decide))
            case rel =>
              refine ⟨j + 1, raws ++ cells26 y F5 f5 F6 f6, .slice (some ⟨g, 0, none⟩) (ks.length + 1) cap, .slice (some ⟨g2, 0, none⟩) (ys.length + 1) cap2, HJ.out, congrArg (Value.int IntKind.i64) (next63 HJ.out (by rw [HL.out]; exact Nat.le_trans HLL.out (by decide))), ?_⟩
              rw [HK2.out, HY2.out]
              exact HN
    · have e : j = x.f5.length := Nat.le_antisymm hj (Nat.not_lt.1 hlt)
      subst e
      have q1 : ¬ (x.f5.length : Int) < (x.f5.length : Int) := Int.lt_irrefl _
      have HZ := Aside0.mk (lt_full (n := n) HL.out)
      obtain ⟨A, a, B, b, rfl, rfl, hk⟩ := HI.out.out
      rw [HZ.out] at hk
      have HKV := Aside0.mk hk
      obtain ⟨m, hm⟩ : ∃ m, (LT n x x.f5.length).length = m := ⟨_, rfl⟩
      have HG := Aside0.mk (trim_agg (A := A) (a := a) (B := B) (b := b) HL.out hm)
      obtain ⟨⟨s0, s1, s2, s3, s4, s5, s6⟩, f0, f1, f2, f3, f4, f5, f6⟩ := at7 HI.out.b1
      have hb2 := HI.out.b2
      rw [List.length_map, List.length_map, hm] at hb2
      obtain ⟨⟨n0, n1, n2, n3, n4, n5, n6⟩, -⟩ := at7 (b := w.heap.size + 1 + 1) hb2
      clear hlt hj hk hm hb2
      go_wp2
      have HP2 := Aside0.mk (put26_at HI.out.b1 (.int .i64 7) (.bool false) (.int .i64 0) (.float .f64 0) (.string ⟨#[]⟩) (.slice A m a) (.slice B m b))
      have HB2 := Aside0.mk (put26_below HI.out.below (Nat.le_succ _) (.int .i64 7) (.bool false) (.int .i64 0) (.float .f64 0) (.string ⟨#[]⟩) (.slice A m a) (.slice B m b))
      have HK2 := Aside0.mk ((HKV.out.step (w1 := put26 wr (w.heap.size + 1) (.int .i64 7) (.bool false) (.int .i64 0) (.float .f64 0) (.string ⟨#[]⟩) (.slice A m a) (.slice B m b)) (fun k hk _ => put26_far (by rcases hk with hk | hk; (have := HP.out k hk; omega); omega) (.int .i64 7) (.bool false) (.int .i64 0) (.float .f64 0) (.string ⟨#[]⟩) (.slice A m a) (.slice B m b))).mono (P' := fun k => P k ∨ w.heap.size ≤ k) (fun k hk => hk.imp id fun h => by omega))
      obtain ⟨W5, hW5⟩ : ∃ W5, put26 wr (w.heap.size + 1) (.int .i64 7) (.bool false) (.int .i64 0) (.float .f64 0) (.string ⟨#[]⟩) (.slice A m a) (.slice B m b) = W5 := ⟨_, rfl⟩
      rw [hW5] at HP2 HB2 HK2
      unfold put26 at hW5
      rw [hW5]
      clear hW5 s0 s1 s2 s3 s4 s5 s6 f0 f1 f2 f3 f4 f5 f6 n0 n1 n2 n3 n4 n5 n6
      obtain ⟨⟨g0, g1, g2, g3, g4, g5, g6⟩, -⟩ := at7 HP2.out
      refine bodyPost_ret (v := .agg #[.int .i64 7, .bool false, .int .i64 0, .float .f64 0, .string ⟨#[]⟩, .slice A m a, .slice B m b]) (by simp [results, Try.results15, go_sem, g0, g1, g2, g3, g4, g5, g6]) rfl ?_
      exact ⟨HB2.out, A, a, B, b, by rw [HG.out], HK2.out⟩
theorem trim_of : ∀ n, TrimC n
  | 0 => trimmed_of_zero
  | n + 1 => fun x A5 c5 A6 c6 P w h7 hr hc hv hP => trimmed_step n (trim_of n) x A5 c5 A6 c6 P w h7 hr hc hv hP
end Go.Proofs.Ytjfbjkodjjlkiaa.HVal
