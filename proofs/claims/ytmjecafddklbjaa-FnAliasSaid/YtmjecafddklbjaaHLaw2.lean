/- FnAlias: the walk through the charts, and behind them. -/
import Derived.Test.YtmjecafddklbjaaHLaw1
namespace Go.Proofs.Ytmjecafddklbjaa.HAlias
open Go.RowKit Go.WideMaps Go.Maps Go.Proofs.YtmjecafddklbjaaW.PrintWords Go.Proofs.YtmjecafddklbjaaW.PrintLast Go.Proofs.YtmjecafddklbjaaW.PrintMore Go.Proofs.Ytmjecafddklbjaa.HMapI Go.Proofs.Ytmjecafddklbjaa.HSchema Go.Proofs.Ytmjecafddklbjaa.Plain Go.Proofs.Ytmjecafddklbjaa.GWants Go.Proofs.Ytmjecafddklbjaa.HFits

theorem info42 : (Try.prog.info? 42).map (fun i => (i.zero, i.size, i.bytes)) = some (some (cv E0 E0), 11, 176) := by kernel_rfl
attribute [local go_sem] run_store_flt
theorem meas3 {L j : Nat} (h : j < L) (hL : L ≤ 1000000) : L - (intOf (.int .i64 (wrap64 ((j : Int) + 1)))).toNat < L - (intOf (.int .i64 (j : Int))).toNat := meas h hL
theorem bytes_c {xs : List (ByteArray × ByteArray)} {j : Nat} (h : xs.length = j) (hj : j < 20) : (xs.length + 1) * 176 ≤ 140737488355328 := by omega
/-- What the loop over names and versions has come to. -/
structure Round (l0 l1 : List ByteArray) (wc : Array Value) (j : Nat) (A7 : Option Addr) (c7 : Nat) (w W : World) : Prop where
  lw : Lw (pairs l0 l1 j) wc A7 c7 w W
  le0 : j ≤ l0.length
  le1 : j ≤ l1.length
  le : j ≤ 20
  plain : ∀ (i : Nat) (h : i < (pairs l0 l1 j).length), ∃ k, impl_plain.f k (pairs l0 l1 j)[i].2 = some true
theorem Round.next {l0 l1 : List ByteArray} {wc : Array Value} {j : Nat} {A7 A1 : Option Addr} {c7 c1 : Nat} {w W W1 : World} (h : Round l0 l1 wc j A7 c7 w W) (h0 : j < l0.length) (h1 : j < l1.length) (h2 : j < 20) (hp : ∃ k, impl_plain.f k l1[j] = some true)
    (hL : Lw (pairs l0 l1 j ++ [(l0[j], l1[j])]) wc A1 c1 w W1) : Round l0 l1 wc (j + 1) A1 c1 w W1 := by
  refine ⟨by rw [pairs_next h0 h1]; exact hL, h0, h1, h2, fun i hi => ?_⟩
  have hl := pairs_len (Nat.le_of_lt h0) (Nat.le_of_lt h1)
  by_cases hij : i < j
  · obtain ⟨k, hk⟩ := h.plain i (by omega)
    refine ⟨k, ?_⟩
    have e : (pairs l0 l1 (j + 1))[i] = (pairs l0 l1 j)[i]'(by omega) := by
      simp only [pairs_next h0 h1]
      rw [List.getElem_append_left (by omega)]
    rw [e]
    exact hk
  · have e0 : i = j := by
      rw [pairs_next h0 h1, List.length_append, List.length_singleton] at hi
      omega
    subst e0
    obtain ⟨k, hk⟩ := hp
    refine ⟨k, ?_⟩
    have e : (pairs l0 l1 (i + 1))[i] = (l0[i], l1[i]) := by
      simp only [pairs_next h0 h1]
      rw [List.getElem_append_right (by omega)]
      simp [hl]
    rw [e]
    exact hk
theorem Round.start {l0 l1 : List ByteArray} {wc : Array Value} {w W : World} (h : Lw [] wc none 0 w W) : Round l0 l1 wc 0 none 0 w W :=
  ⟨h, Nat.zero_le _, Nat.zero_le _, Nat.zero_le _, fun i hi => by simp [pairs] at hi⟩
theorem Round.later {l0 l1 : List ByteArray} {wc : Array Value} {j : Nat} {A7 : Option Addr} {c7 : Nat} {w W W1 : World} (h : Round l0 l1 wc j A7 c7 w W) (hb : Below W.heap.size W W1) : Round l0 l1 wc j A7 c7 w W1 := ⟨h.lw.later hb, h.le0, h.le1, h.le, h.plain⟩
set_option maxRecDepth 100000 in
set_option maxHeartbeats 8000000 in
theorem law_main (A0 A1 A4 A6 : Option Addr) (c0 c1 c4 c6 : Nat) (l0 l1 l4 : List ByteArray) (l6 : List S60) (n v cnd al : ByteArray) (en : Bool) (w : World) (k0 k1 k3 : Nat)
    (hr0 : Kd.C Kd.string w A0 l0.length l0) (hc0 : l0.length ≤ c0) (h0 : laws_zzFits4.f k0 l0 = some true)
    (hr1 : Kd.C Kd.string w A1 l1.length l1) (hc1 : l1.length ≤ c1) (h1 : laws_zzFits4.f k1 l1 = some true) (hz1 : ∀ x ∈ l1, x.size ≤ 2147483647) (hL0 : l0.length ≤ 2147483647) (hL1 : l1.length ≤ 2147483647)
    (hr4 : Kd.C Kd.string w A4 l4.length l4) (hc4 : l4.length ≤ c4) (hr6 : Kd.C k60 w A6 l6.length l6) (hc6 : l6.length ≤ c6) (h3 : laws_zzFits3.f k3 n v cnd al l4 en l6 = some true)
    (hw : ∃ b k, laws_chWants.f k [⟨n, v, cnd, al, l4, en, l6⟩] = some b ∧ (b = true → (∃ k, impl_plain.f k v = some true) ∧ l4.length ≤ 10 ∧ l6.length ≤ 10)) :
    Calls Try.prog 4 #[.slice A0 l0.length c0, .slice A1 l1.length c1, .agg (wcells n v cnd al A4 l4 c4 en A6 l6 c6)] w (True3 w) := by
  have HR0 := Aside0.mk hr0
  have HC0 := Aside0.mk hc0
  have H0 := Aside0.mk h0
  have HR1 := Aside0.mk hr1
  have HC1 := Aside0.mk hc1
  have H1 := Aside0.mk h1
  have HZ1 := Aside0.mk hz1
  have HL0 := Aside0.mk hL0
  have HL1 := Aside0.mk hL1
  have HR4 := Aside0.mk hr4
  have HC4 := Aside0.mk hc4
  have HR6 := Aside0.mk hr6
  have HC6 := Aside0.mk hc6
  have H3 := Aside0.mk h3
  have HW := Aside0.mk hw
  have tok : Aside0 (0 = 0) := ⟨rfl⟩
  clear hr0 hc0 h0 hr1 hc1 h1 hr4 hc4 hr6 hc6 h3 hz1 hL0 hL1 hw
  go_enter Try.func4, Try.ntmps4
  go_wp2_with (first
    | (go_at_call 6; clear tok; refine (laws_zzFits4.calls k0 A0 c0 l0 true _ (Kd.C_below HR0.out (below_alloc (Below.refl _ _) _)) HC0.out H0.out).mono ?_; rintro e w1 ⟨rfl, hd⟩; have HLW := Aside0.mk (Lw.start.later (below_drawn hd)); have HB := Aside0.mk HLW.out.below; clear hd)
    | (go_at_call 6; refine (laws_zzFits4.calls k1 A1 c1 l1 true _ (Kd.C_below HR1.out HB.out) HC1.out H1.out).mono ?_; rintro e w2 ⟨rfl, hd⟩; have HB2 := Aside0.mk (below_step HB.out (below_drawn hd)); have HW2 := Aside0.mk (HLW.out.later (below_drawn hd)); obtain ⟨d0, d1, d2, d3, d4, d5, d6⟩ := HW2.out.cells; clear hd)
    | (go_at_call 7; refine (laws_zzFits3.calls k3 n v cnd al A4 c4 l4 en A6 c6 l6 true _ (Kd.C_below HR4.out HB2.out) HC4.out (Kd.C_below HR6.out HB2.out) HC6.out H3.out).mono ?_; rintro e w3 ⟨rfl, hb⟩; have HS3 := Aside0.mk (Round.start (l0 := l0) (l1 := l1) (HW2.out.later hb)); clear hb d0 d1 d2 d3 d4 d5 d6))
  go_loopw [7, 8] (fun o i wr => ∃ (j : Nat) (A7 : Option Addr) (c7 : Nat), i = .int .i64 j ∧ o = .slice A7 (pairs l0 l1 j).length c7 ∧ Aside0 (Round l0 l1 (wcells n v cnd al A4 l4 c4 en A6 l6 c6) j A7 c7 w wr)) (fun _o i _w => 20 - (intOf i).toNat)
  case atStart => exact ⟨0, none, 0, rfl, rfl, HS3⟩
  case round =>
    obtain ⟨j, A7, c7, rfl, rfl, HM⟩ := hrel
    clear HS3 HLW HB HB2 HW2 H0 H1 H3
    by_cases hin : j < l0.length ∧ j < l1.length ∧ j < 20
    · obtain ⟨j0, j1, j2⟩ := hin
      focus
        · have J0 := Aside0.mk j0
          have J1 := Aside0.mk j1
          have J2 := Aside0.mk j2
          obtain ⟨ad0, e0, hx0⟩ := text_at HR0.out j j0
          obtain ⟨ad1, e1, hx1⟩ := text_at HR1.out j j1
          subst e0 e1
          have HZ := Aside0.mk (HZ1.out _ (List.getElem_mem j1))
          have hnx : ∀ {A1' : Option Addr} {c1' : Nat} {W W1 : World}, Round l0 l1 (wcells n v cnd al A4 l4 c4 en A6 l6 c6) j A7 c7 w W → (∃ k, impl_plain.f k l1[j] = some true) → Lw (pairs l0 l1 j ++ [(l0[j], l1[j])]) (wcells n v cnd al A4 l4 c4 en A6 l6 c6) A1' c1' w W1 → Round l0 l1 (wcells n v cnd al A4 l4 c4 en A6 l6 c6) (j + 1) A1' c1' w W1 := fun h hp hL => h.next j0 j1 j2 hp hL
          have hlen : (pairs l0 l1 (j + 1)).length = (pairs l0 l1 j ++ [(l0[j], l1[j])]).length := by rw [pairs_next j0 j1]
          obtain ⟨s0, hs0⟩ : ∃ s, l0[j] = s := ⟨_, rfl⟩
          obtain ⟨s1, hs1⟩ : ∃ s, l1[j] = s := ⟨_, rfl⟩
          rw [hs0] at hx0 hnx hlen
          rw [hs1] at hx1 hnx hlen HZ
          have HX0 := Aside0.mk hx0
          have HX1 := Aside0.mk hx1
          have HNX := Aside0.mk @hnx
          have HLN := Aside0.mk hlen
          obtain ⟨b, ev, hpl⟩ := HVer.version_plain s1 HZ.out
          obtain ⟨kv, hkv⟩ := ev.rounds
          have HKV := Aside0.mk hkv
          have HPL := Aside0.mk (fun h => (hpl h).rounds)
          have y1 := HX1.out wr HM.out.lw.below
          have p0 : 0 ≤ (j : Int) := Int.natCast_nonneg j
          have q0 : (j : Int) < (l0.length : Int) := Int.ofNat_lt.2 j0
          have q1 : (j : Int) < (l1.length : Int) := Int.ofNat_lt.2 j1
          have q2 : (j : Int) < 20 := by omega
          clear hx0 hx1 hnx hlen hs0 hs1 ev hpl hkv j0 j1 j2
          cases b with
          | false =>
            go_wp2_with (go_at_call 8; go_must (refine (spec_Version.calls kv s1 false _ HKV.out).mono ?_; rintro e w5 ⟨rfl, hb⟩; have HB5 := Aside0.mk (below_step HM.out.lw.below hb); clear hb))
            go_ret
            exact ⟨rfl, HB5.out⟩
          | true =>
            by_cases hs : 100 < (s0.size : Int)
            · go_wp2_with (go_at_call 8; go_must (refine (spec_Version.calls kv s1 true _ HKV.out).mono ?_; rintro e w5 ⟨rfl, hb⟩; have HB5 := Aside0.mk (below_step HM.out.lw.below hb); have y0 := HX0.out w5 HB5.out; clear hb))
              go_ret
              exact ⟨rfl, HB5.out⟩
            · go_wp2_with (go_at_call 8; go_must (refine (spec_Version.calls kv s1 true _ HKV.out).mono ?_; rintro e w5 ⟨rfl, hb⟩; have HM5 := Aside0.mk (HM.out.later hb); have y0 := HX0.out w5 HM5.out.lw.below; clear hb y1))
              have HMD := Aside0.mk (HM5.out.later (below_drew (Below.refl _ _)))
              have y1 := HX1.out w5 HM5.out.lw.below
              have HBY := Aside0.mk (bytes_c (pairs_len HM5.out.le0 HM5.out.le1) J2.out)
              have HBS := Aside0.mk (show w.heap.size + 1 ≤ w5.drew.heap.size from blk_lt HMD.out.lw.box)
              have HQ5 := Aside0.mk (HX0.out _ HMD.out.lw.below)
              have HQ6 := Aside0.mk (HX1.out _ HMD.out.lw.below)
              have HQ7 := Aside0.mk (HX0.out _ (below_alloc HMD.out.lw.below (Obj.cells (chCells (s0, s1)).toArray 42)))
              have HQ8 := Aside0.mk (HX1.out _ (below_alloc HMD.out.lw.below (Obj.cells (chCells (s0, s1)).toArray 42)))
              go_region_held3 (fun w' => w'.cell? (ad0.add j) = some (.string s0) ∧ w'.cell? (ad1.add j) = some (.string s1))
                (first
                  | exact ⟨HQ5.out, HQ6.out⟩
                  | exact ⟨HQ7.out, HQ8.out⟩
                  | exact ⟨HQ9.out, HQ10.out⟩)
                (first
                  | (refine Kd.R_append_step kCh (w0 := w5.drew) (w.heap.size + 1) (by rfl) (.tmp 61) (.tmp 71) 34 42 (cv E0 E0) 176 rfl Try.underlying34 info42 rfl (by decide) (by decide) (.slice A7 (pairs l0 l1 j).length c7) (pairs l0 l1 j) (s0, s1) (chCells (s0, s1)) (fun _ => True) (fun _ => False) (by first | rfl | (go_simp; done)) (by first | rfl | (go_simp; done)) rfl (fun _ h => h.elim) (fun _ _ => trivial) HMD.out.lw.row (Below.refl _ _) HBS.out HBY.out ?_
                     intro v7 w7 ho7 hb7 hg7 _
                     obtain ⟨A9, c9, rfl⟩ := Kd.R_slice ho7
                     have HN := Aside0.mk (HNX.out HMD.out (HPL.out trivial) (HMD.out.lw.next ho7 hg7))
                     have HQ9 := Aside0.mk (HX0.out w7 HN.out.lw.below)
                     have HQ10 := Aside0.mk (HX1.out w7 HN.out.lw.below)
                     rw [← HLN.out]
                     clear ho7 hb7 hg7))
              all_goals
                go_wp2_with fail
                go_roundw
                case rel => exact ⟨j + 1, A9, c9, rfl, rfl, HN⟩
                case measure => exact meas2 J2.out
    · have hex : (¬ (j : Int) < (l0.length : Int)) ∨ ((j : Int) < (l0.length : Int) ∧ ¬ (j : Int) < (l1.length : Int)) ∨ ((j : Int) < (l0.length : Int) ∧ (j : Int) < (l1.length : Int) ∧ ¬ (j : Int) < 20) := by omega
      clear hin
      obtain ⟨b, k9, h9, hP⟩ := HW.out
      obtain ⟨xs, hxs⟩ : ∃ xs, pairs l0 l1 j = xs := ⟨_, rfl⟩
      have HE := Aside0.mk (show xs.length ≤ 20 by rw [← hxs, pairs_len HM.out.le0 HM.out.le1]; exact HM.out.le)
      have HP1 := Aside0.mk (show ∀ (i : Nat) (h : i < xs.length), ∃ k, impl_plain.f k xs[i].2 = some true by subst hxs; exact HM.out.plain)
      have HLW := Aside0.mk (show Lw xs (wcells n v cnd al A4 l4 c4 en A6 l6 c6) A7 c7 w wr by subst hxs; exact HM.out.lw)
      have H9 := Aside0.mk h9
      have HPP := Aside0.mk hP
      rw [hxs]
      clear h9 hP HW
      cases b with
      | false =>
        have d0 := HLW.out.cells.1
        have d1 := HLW.out.cells.2.1
        have d2 := HLW.out.cells.2.2.1
        have d3 := HLW.out.cells.2.2.2.1
        have d4 := HLW.out.cells.2.2.2.2.1
        have d5 := HLW.out.cells.2.2.2.2.2.1
        have d6 := HLW.out.cells.2.2.2.2.2.2
        rcases hex with p0 | ⟨p0, p1⟩ | ⟨p0, p1, p2⟩
        all_goals
          go_wp2_with (go_at_call 9; go_must (refine (laws_chWants.calls k9 (some ⟨wr.heap.size, 0, none⟩) 1 [⟨n, v, cnd, al, l4, en, l6⟩] false _ (C_one (HSchema.blk_at _ rfl) (k31_mk _ ⟨n, v, cnd, al, l4, en, l6⟩ HC4.out (Kd.C_below HR4.out (below_alloc HLW.out.below _)) HC6.out (Kd.C_below HR6.out (below_alloc HLW.out.below _)))) (Nat.le_refl _) H9.out).mono ?_; rintro e w5 ⟨rfl, hb⟩; have HB5 := Aside0.mk (below_step (below_alloc HLW.out.below _) hb); clear hb))
          go_ret
          exact ⟨rfl, HB5.out⟩
      | true =>
        obtain ⟨⟨kp, hkp⟩, hl4, hl6⟩ := HPP.out rfl
        have HKP := Aside0.mk hkp
        have HL4 := Aside0.mk (Nat.le_trans hl4 (show 10 ≤ 1000000 by decide))
        have HL6 := Aside0.mk (Nat.le_trans hl6 (show 10 ≤ 20 by decide))
        obtain ⟨⟨rn, ri, rf⟩, hr⟩ : ∃ r, answer xs n v al = r := ⟨_, rfl⟩
        have HR := Aside0.mk hr
        have HX20 := Aside0.mk (Nat.le_trans HE.out (show 20 ≤ 1000 by decide))
        have d0 := HLW.out.cells.1
        have d1 := HLW.out.cells.2.1
        have d2 := HLW.out.cells.2.2.1
        have d3 := HLW.out.cells.2.2.2.1
        have d4 := HLW.out.cells.2.2.2.2.1
        have d5 := HLW.out.cells.2.2.2.2.2.1
        have d6 := HLW.out.cells.2.2.2.2.2.2
        have tok2 : Aside0 (1 = 1) := ⟨rfl⟩
        have qa : ((⟨#[97]⟩ : ByteArray).toList == (⟨#[97]⟩ : ByteArray).toList) = true := by simp
        have hal : ∃ z : Bool, (al.toList == ([] : List UInt8)) = z ∧ named al n = if z then n else al := by
          by_cases h : al = E0
          · exact ⟨true, by rw [h, ByteArray.toList_eq]; rfl, by unfold named; rw [if_pos h, if_pos rfl]⟩
          · refine ⟨false, ?_, by unfold named; rw [if_neg h, if_neg (by decide)]⟩
            have : al.toList ≠ [] := fun e => h (toList_inj.1 (e.trans (by rw [ByteArray.toList_eq])))
            simpa using this
        obtain ⟨z, hz, hna⟩ := hal
        have HNA := Aside0.mk hna
        clear hkp hl4 hl6 hr hna hxs
        rcases hex with p0 | ⟨p0, p1⟩ | ⟨p0, p1, p2⟩ <;> cases z
        all_goals
          have HNB := Aside0.mk HNA.out
          simp only [if_true, if_false, Bool.false_eq_true] at HNB
          clear HNA
          go_wp2_with (first
            | (go_at_call 9; go_must (
                refine (laws_chWants.calls k9 (some ⟨wr.heap.size, 0, none⟩) 1 [⟨n, v, cnd, al, l4, en, l6⟩] true _ (C_one (HSchema.blk_at _ rfl) (k31_mk _ ⟨n, v, cnd, al, l4, en, l6⟩ HC4.out (Kd.C_below HR4.out (below_alloc HLW.out.below _)) HC6.out (Kd.C_below HR6.out (below_alloc HLW.out.below _)))) (Nat.le_refl _) H9.out).mono ?_
                rintro e w5 ⟨rfl, hb⟩
                have HW5 := Aside0.mk (HLW.out.later (below_step (below_alloc (Below.refl _ _) _) hb))
                clear hb d0 d1 d2 d3 d4 d5 d6
                obtain ⟨d0, d1, d2, d3, d4, d5, d6⟩ := HW5.out.cells))
            | (go_at_call 10; clear tok2; go_must (
                refine (alias_named A7 c7 xs n v cnd al A4 c4 en A6 c6 l4 l6 kp _ (Kd.R_reads' HW5.out.row).2.2 HP1.out HX20.out HKP.out HL6.out HL4.out (Kd.C_below HR4.out HW5.out.below) HC4.out (Kd.C_below HR6.out HW5.out.below) HC6.out rn ri rf HR.out).mono ?_
                rintro e w6 ⟨rfl, hb⟩
                have HW6 := Aside0.mk (HW5.out.later hb)
                clear hb d0 d1 d2 d3 d4 d5 d6
                obtain ⟨d0, d1, d2, d3, d4, d5, d6⟩ := HW6.out.cells))
            | (go_at_call 10; go_must (
                refine (alias_fixed _).mono ?_
                rintro e w7 ⟨rfl, hb⟩
                have HW7 := Aside0.mk (HW6.out.later hb)
                clear hb d0 d1 d2 d3 d4 d5 d6)))
          have HSC := Aside0.mk (Scan.start (n := n) (v := v) (xs := xs))
          clear HM HE HLW H9 HW5 HW6 HPP
          go_loopw [110] (fun i wx => ∃ r : Nat, r ≤ xs.length ∧ i = .int .i64 r ∧ Aside0 (Scan n v xs r) ∧ Aside0 (Lw xs (wcells n v cnd al A4 l4 c4 en A6 l6 c6) A7 c7 w wx)) (fun i _w => xs.length - (intOf i).toNat)
          case atStart => exact ⟨0, Nat.zero_le _, rfl, HSC, HW7⟩
          case round =>
            obtain ⟨r, hr, rfl, HS, HX⟩ := hrel
            clear HSC HW7
            by_cases hlt : r < xs.length
            · obtain ⟨ad, e0, x0, x1, x2, x3, x4, x5, x6, x7, x8, x9, x10⟩ := at_cells (Kd.R_reads' HX.out.row).2.2 r hlt hlt
              subst e0
              have hitT := fun h => HS.out.hit (al := al) hlt h
              have nextT := fun h => HS.out.next hlt h
              obtain ⟨⟨n1, v1⟩, hp⟩ : ∃ p, xs[r] = p := ⟨_, rfl⟩
              rw [hp] at x0 x1 hitT nextT
              dsimp only at x0 x1 hitT nextT
              have HHIT := Aside0.mk hitT
              have HNEXT := Aside0.mk nextT
              have HJ := Aside0.mk hlt
              have r0 : 0 ≤ (r : Int) := Int.natCast_nonneg r
              have r1 : (r : Int) < (xs.length : Int) := Int.ofNat_lt.2 hlt
              have d0 := HX.out.cells.1
              have d1 := HX.out.cells.2.1
              have HX8 := Aside0.mk (HX.out.later (below_alloc (Below.refl _ _) (Obj.cells (chCells (n1, v1)).toArray 42)))
              have nr1 : w.heap.size ≠ wr.heap.size := Nat.ne_of_lt (blk_lt HX.out.box)
              have nr2 : w.heap.size < wr.heap.size := blk_lt HX.out.box
              clear hp hlt hitT nextT
              by_cases h1 : n1 = n
              · have b1 : (n1.toList == n.toList) = true := by rw [h1]; simp
                by_cases h2 : v1 = v
                · have b2 : (v1.toList == v.toList) = true := by rw [h2]; simp
                  have hh := HR.out.symm.trans (HHIT.out ⟨h1, h2⟩)
                  rw [HNB.out] at hh
                  obtain ⟨e1, e2, e3⟩ : rn = _ ∧ ri = r ∧ rf = 0 := by injection hh with e1 e2; injection e2 with e2 e3; exact ⟨e1, e2, e3⟩
                  clear HR HHIT HNEXT h1 h2 hh
                  subst e1 e2 e3
                  have b3 : (rn.toList == rn.toList) = true := by simp
                  go_wp2
                  go_ret
                  exact ⟨rfl, HX8.out.below⟩
                · have b2 : (v1.toList == v.toList) = false := by rw [beq_toList]; exact decide_eq_false h2
                  have HN9 := Aside0.mk (HNEXT.out (fun h => h2 h.2))
                  clear h1 h2 HHIT HNEXT
                  go_wp2
                  go_roundw
                  case rel => exact ⟨r + 1, HJ.out, by rw [wrn HJ.out (Nat.le_trans HX20.out (by decide))], HN9, HX8⟩
                  case measure => exact meas HJ.out (Nat.le_trans HX20.out (by decide))
              · have b1 : (n1.toList == n.toList) = false := by rw [beq_toList]; exact decide_eq_false h1
                have HN9 := Aside0.mk (HNEXT.out (fun h => h1 h.1))
                clear h1 HHIT HNEXT
                go_wp2
                go_roundw
                case rel => exact ⟨r + 1, HJ.out, by rw [wrn HJ.out (Nat.le_trans HX20.out (by decide))], HN9, HX8⟩
                case measure => exact meas HJ.out (Nat.le_trans HX20.out (by decide))
            · have e : r = xs.length := Nat.le_antisymm hr (Nat.not_lt.1 hlt)
              subst e
              have hh := HR.out.symm.trans (HS.out.none_ (al := al) (Nat.le_refl _))
              obtain ⟨e1, e2, e3⟩ : rn = E0 ∧ ri = 0 ∧ rf = 1 := by injection hh with e1 e2; injection e2 with e2 e3; exact ⟨e1, e2, e3⟩
              clear HR hh hr hlt
              subst e1 e2 e3
              have q9 : ¬ (xs.length : Int) < (xs.length : Int) := Int.lt_irrefl _
              go_wp2
              go_ret
              exact ⟨rfl, HX.out.below⟩
end Go.Proofs.Ytmjecafddklbjaa.HAlias
