/- The law FnPartForms, where the two errors of strconv lie: what it comes to. -/
import Derived.Test.YtgdffbjkafbkcaaDoorHForms
namespace Go.Proofs.YtgdffbjkafbkcaaDoor.HDig
open Go.RowKit Go.Proofs.YtgdffbjkafbkcaaDoorW.PrintWords Go.Proofs.YtgdffbjkafbkcaaDoorW.PrintLast Go.Proofs.YtgdffbjkafbkcaaDoorW.PrintMore Go.Proofs.YtgdffbjkafbkcaaDoor.Plain
attribute [local go_sem] max2_int min2_int max_two min_two

theorem is_at (p : ByteArray) (hp : p.size ≤ 1000) : PIsListIndex.yaml_IsListIndex.f p = some (li p.data.toList) := is_li p.data.toList (by rw [data_length]; exact hp)
theorem ky_at (p : ByteArray) (hp : p.size ≤ 1000) : PKyListIndex.spec_KyListIndex.f p = some (li p.data.toList) := ky_li p.data.toList (by rw [data_length]; exact hp)
theorem idx_at (p : ByteArray) (w : World) (hp : p.size ≤ 1000) (he : Errs w) : Calls Tryd.prog 17 #[.string p] w fun e w' => e = .returned (.bool (nb p.data.toList)) ∧ Below w.heap.size w w' := idx_calls p.data.toList w (by rw [data_length]; exact hp) he
def star (p : ByteArray) : Bool := p.toList == ([42] : List UInt8)
set_option maxHeartbeats 1000000 in
theorem forms_calls (p : ByteArray) (w : World) (hp : p.size ≤ 1000) (he : Errs w) : Calls Tryd.prog 7 #[.string p] w fun e w' => e = .returned (.tuple #[.bool (li p.data.toList), .bool (nb p.data.toList), .bool (star p)]) ∧ Below w.heap.size w w' := by
  have H1 := Aside0.mk (is_at p hp)
  have HE := Aside0.mk he
  have HP := Aside0.mk hp
  clear he hp
  have HB := Aside0.mk (Below.refl w.heap.size w)
  go_enter Tryd.func7, Tryd.ntmps7
  go_wp2_with (first
    | (go_at_call 16; refine (PIsListIndex.yaml_IsListIndex.calls p _ _ H1.out).mono ?_; rintro e w1 ⟨rfl, hd⟩; have n1 := Aside0.mk (below_step HB.out hd.below); clear hd HB)
    | (go_at_call 17; refine (idx_at p _ HP.out (HE.out.below n1.out)).mono ?_; rintro e w2 ⟨rfl, hd⟩; have n2 := Aside0.mk (below_step n1.out hd); clear hd n1)
    | (go_at_call 18; refine (PIsWildcard.yaml_IsWildcard.calls p (star p) _ rfl).mono ?_; rintro e w3 ⟨rfl, hd⟩; have n3 := Aside0.mk (below_step n2.out hd.below); clear hd n2))
  go_ret3
  exact ⟨rfl, n3.out⟩

/-- The rounds that look for a digit too far behind. -/
def LP (P q : ByteArray) (j : Nat) : Prop := (q = P ∧ j ≤ P.size ∧ ∀ i (h : i < P.size), i < j → 13 < i → ¬ Dig P[i]) ∨ (q.size = 13 ∧ 13 < j ∧ j ≤ 40)
theorem lp_key {P q : ByteArray} {j : Nat} (h : LP P q j) (hj : q.size ≤ j) : nb q.data.toList = ((kd q.data.toList).2 && decide (0 ≤ (kd q.data.toList).1)) := by
  have hs : q.data.toList.length = q.size := data_length q
  refine nb_kd (.inr fun i hi h13 => ?_)
  rcases h with ⟨rfl, _, h⟩ | ⟨h, _⟩
  · exact h i (by omega) (by omega) h13
  · omega

set_option maxHeartbeats 8000000 in
theorem forms_law (s : ByteArray) (w : World) (hs : s.size ≤ 140737488351232) (he : Errs w) : Calls Tryd.prog 3 #[.string s] w fun e w' => e = .returned (.bool true) ∧ Below w.heap.size w w' := by
  have HE := Aside0.mk he
  clear he
  have HB := Aside0.mk (Below.refl w.heap.size w)
  by_cases h31 : 2147483647 < (s.size : Int)
  · go_enter Tryd.func3, Tryd.ntmps3
    go_wp2
    go_ret
    exact ⟨rfl, HB.out⟩
  by_cases h0 : (s.size : Int) ≤ 40
  · have hle : s.size ≤ 40 := by omega
    have h40 : s.size ≤ 40 := by omega
    have hq : s.size ≤ 1000 := by omega
    have hC := digits_calls s w hq
    have hkey0 := fun h => nb_kd (q := s.data.toList) (.inl h)
    obtain ⟨kn, hkn⟩ : ∃ n, (kd s.data.toList).1 = n := ⟨_, rfl⟩
    obtain ⟨ks, hks⟩ : ∃ b, (kd s.data.toList).2 = b := ⟨_, rfl⟩
    rw [hkn, hks] at hC hkey0
    clear hkn hks
    have C6 := Aside0.mk hC
    clear hC
    cases ks with
    | true =>
      have hkey : nb s.data.toList = decide (0 ≤ kn) := by rw [hkey0 rfl, Bool.true_and]
      clear hkey0
      go_enter Tryd.func3, Tryd.ntmps3
      go_wp2_with fail
      go_at_call 6
      refine C6.out.mono ?_
      rintro e w1 ⟨rfl, rfl⟩
      clear C6
      by_cases hpos : 0 ≤ kn
      · have HKEY := Aside0.mk (hkey.trans (decide_eq_true hpos))
        clear hkey
        obtain ⟨b1, hb1⟩ : ∃ b, li s.data.toList = b := ⟨_, rfl⟩
        obtain ⟨b3, hb3⟩ : ∃ b, star s = b := ⟨_, rfl⟩
        have hst : (s.toList == ([42] : List UInt8)) = b3 := hb3
        have hky := ky_at s hq
        rw [hb1] at hky
        have HKY := Aside0.mk hky
        have FA := Aside0.mk (fun w' he => forms_calls s w' hq he)
        rw [hb1, hb3, HKEY.out] at FA
        have FS := Aside0.mk (fun w' he => forms_calls ⟨#[42]⟩ w' (by decide) he)
        rw [show star ⟨#[42]⟩ = true by decide +kernel] at FS
        have TK := Aside0.mk trivial
        clear hb1 hb3 hky hq
        cases b1 <;> cases b3
        all_goals
          go_wp2_with (first
            | (go_at_call 7; refine (FA.out _ (HE.out.below HB.out)).mono ?_; rintro e w2 ⟨rfl, hb⟩; have n2 := Aside0.mk (below_step HB.out hb); clear hb TK FA)
            | (go_at_call 7; refine (FS.out _ (HE.out.below n2.out)).mono ?_; rintro e w3 ⟨rfl, hb⟩; have n3 := Aside0.mk (below_step n2.out hb); clear hb n2)
            | (go_at_call 8; refine (PKyListIndex.spec_KyListIndex.calls s _ _ HKY.out).mono ?_; rintro e w4 ⟨rfl, hd⟩; have n4 := Aside0.mk (below_step n3.out hd.below); clear hd n3))
          go_ret
          exact ⟨rfl, n4.out⟩
      · have HKEY := Aside0.mk (hkey.trans (decide_eq_false hpos))
        have hp2 := decide_eq_false hpos
        clear hkey
        obtain ⟨b1, hb1⟩ : ∃ b, li s.data.toList = b := ⟨_, rfl⟩
        obtain ⟨b3, hb3⟩ : ∃ b, star s = b := ⟨_, rfl⟩
        have hst : (s.toList == ([42] : List UInt8)) = b3 := hb3
        have hky := ky_at s hq
        rw [hb1] at hky
        have HKY := Aside0.mk hky
        have FA := Aside0.mk (fun w' he => forms_calls s w' hq he)
        rw [hb1, hb3, HKEY.out] at FA
        have FS := Aside0.mk (fun w' he => forms_calls ⟨#[42]⟩ w' (by decide) he)
        rw [show star ⟨#[42]⟩ = true by decide +kernel] at FS
        have TK := Aside0.mk trivial
        clear hb1 hb3 hky hq
        cases b1 <;> cases b3
        all_goals
          go_wp2_with (first
            | (go_at_call 7; refine (FA.out _ (HE.out.below HB.out)).mono ?_; rintro e w2 ⟨rfl, hb⟩; have n2 := Aside0.mk (below_step HB.out hb); clear hb TK FA)
            | (go_at_call 7; refine (FS.out _ (HE.out.below n2.out)).mono ?_; rintro e w3 ⟨rfl, hb⟩; have n3 := Aside0.mk (below_step n2.out hb); clear hb n2)
            | (go_at_call 8; refine (PKyListIndex.spec_KyListIndex.calls s _ _ HKY.out).mono ?_; rintro e w4 ⟨rfl, hd⟩; have n4 := Aside0.mk (below_step n3.out hd.below); clear hd n3))
          go_ret
          exact ⟨rfl, n4.out⟩
    | false =>
      clear hkey0
      go_enter Tryd.func3, Tryd.ntmps3
      go_wp2_with (go_at_call 6; refine C6.out.mono ?_; rintro e w1 ⟨rfl, rfl⟩; clear C6)
      go_loop [0, 5] (fun p i => ∃ (q : ByteArray) (j : Nat), p = .string q ∧ i = .int .i64 j ∧ j ≤ 40 ∧ Aside0 (LP s q j)) (fun _ i => 41 - (intOf i).toNat)
      case atStart => exact ⟨s, 0, rfl, rfl, by omega, ⟨.inl ⟨rfl, by omega, fun i _ h => by omega⟩⟩⟩
      case round =>
        obtain ⟨q, j, rfl, rfl, hj40, HL⟩ := hrel
        by_cases hlt : j < q.size
        · obtain ⟨rfl, hj, HN⟩ : q = s ∧ j ≤ s.size ∧ Aside0 (∀ i (h : i < s.size), i < j → 13 < i → ¬ Dig s[i]) := by
            rcases HL.out with ⟨h1, h2, h3⟩ | ⟨h1, h2, _⟩
            · exact ⟨h1, h2, ⟨h3⟩⟩
            · omega
          by_cases hd : Dig q[j]
          · have hd3 : 48 ≤ (q[j].toNat : Int) := by have := hd.1; omega
            have hd4 : (q[j].toNat : Int) ≤ 57 := by have := hd.2; omega
            by_cases h13 : 13 < j
            · have h13' : 13 < (j : Int) := by omega
              have hz : (q.extract 0 13).size = 13 := by simp; omega
              clear hd
              go_wp2_with fail
              go_round
              case rel => exact ⟨_, j + 1, rfl, rfl, by omega, ⟨.inr ⟨hz, by omega, by omega⟩⟩⟩
              case measure => simp only [intOf]; omega
            · have h13' : ¬ 13 < (j : Int) := by omega
              clear hd
              go_wp2_with fail
              go_round
              case rel => exact ⟨_, j + 1, rfl, rfl, by omega, ⟨.inl ⟨rfl, by omega, fun i h hi h13 => HN.out i h (by omega) h13⟩⟩⟩
              case measure => simp only [intOf]; omega
          · have HN2 : Aside0 (∀ i (h : i < q.size), i < j + 1 → 13 < i → ¬ Dig q[i]) := ⟨fun i h hi h13 => by
              by_cases e : i = j
              · subst e; exact hd
              · exact HN.out i h (by omega) h13⟩
            by_cases hlo : (q[j].toNat : Int) < 48
            · clear hd
              go_wp2_with fail
              go_round
              case rel => exact ⟨_, j + 1, rfl, rfl, by omega, ⟨.inl ⟨rfl, by omega, HN2.out⟩⟩⟩
              case measure => simp only [intOf]; omega
            · have hhi : 57 < (q[j].toNat : Int) := by unfold Dig at hd; omega
              clear hd
              go_wp2_with fail
              go_round
              case rel => exact ⟨_, j + 1, rfl, rfl, by omega, ⟨.inl ⟨rfl, by omega, HN2.out⟩⟩⟩
              case measure => simp only [intOf]; omega
        · have hq2 : q.size ≤ 1000 := by omega
          have hkey1 := lp_key HL.out (by omega)
          have hC := digits_calls q w hq2
          obtain ⟨kn2, hkn⟩ : ∃ n, (kd q.data.toList).1 = n := ⟨_, rfl⟩
          obtain ⟨ks, hks⟩ : ∃ b, (kd q.data.toList).2 = b := ⟨_, rfl⟩
          rw [hkn, hks] at hC hkey1
          clear hkn hks HL hq
          have hq := hq2
          clear hq2
          have C6 := Aside0.mk hC
          obtain ⟨kn, rfl⟩ : ∃ n, n = kn2 := ⟨_, rfl⟩
          clear hC
          cases ks with
          | true =>
            have hkey : nb q.data.toList = decide (0 ≤ kn) := by rw [hkey1, Bool.true_and]
            clear hkey1
            go_wp2_with fail
            go_at_call 6
            refine C6.out.mono ?_
            rintro e w1 ⟨rfl, rfl⟩
            clear C6
            by_cases hpos : 0 ≤ kn
            · have HKEY := Aside0.mk (hkey.trans (decide_eq_true hpos))
              clear hkey
              obtain ⟨b1, hb1⟩ : ∃ b, li q.data.toList = b := ⟨_, rfl⟩
              obtain ⟨b3, hb3⟩ : ∃ b, star q = b := ⟨_, rfl⟩
              have hst : (q.toList == ([42] : List UInt8)) = b3 := hb3
              have hky := ky_at q hq
              rw [hb1] at hky
              have HKY := Aside0.mk hky
              have FA := Aside0.mk (fun w' he => forms_calls q w' hq he)
              rw [hb1, hb3, HKEY.out] at FA
              have FS := Aside0.mk (fun w' he => forms_calls ⟨#[42]⟩ w' (by decide) he)
              rw [show star ⟨#[42]⟩ = true by decide +kernel] at FS
              have TK := Aside0.mk trivial
              clear hb1 hb3 hky hq
              cases b1 <;> cases b3
              all_goals
                go_wp2_with (first
                  | (go_at_call 7; refine (FA.out _ (HE.out.below HB.out)).mono ?_; rintro e w2 ⟨rfl, hb⟩; have n2 := Aside0.mk (below_step HB.out hb); clear hb TK FA)
                  | (go_at_call 7; refine (FS.out _ (HE.out.below n2.out)).mono ?_; rintro e w3 ⟨rfl, hb⟩; have n3 := Aside0.mk (below_step n2.out hb); clear hb n2)
                  | (go_at_call 8; refine (PKyListIndex.spec_KyListIndex.calls q _ _ HKY.out).mono ?_; rintro e w4 ⟨rfl, hd⟩; have n4 := Aside0.mk (below_step n3.out hd.below); clear hd n3))
                go_ret
                exact ⟨rfl, n4.out⟩
            · have HKEY := Aside0.mk (hkey.trans (decide_eq_false hpos))
              have hp2 := decide_eq_false hpos
              clear hkey
              obtain ⟨b1, hb1⟩ : ∃ b, li q.data.toList = b := ⟨_, rfl⟩
              obtain ⟨b3, hb3⟩ : ∃ b, star q = b := ⟨_, rfl⟩
              have hst : (q.toList == ([42] : List UInt8)) = b3 := hb3
              have hky := ky_at q hq
              rw [hb1] at hky
              have HKY := Aside0.mk hky
              have FA := Aside0.mk (fun w' he => forms_calls q w' hq he)
              rw [hb1, hb3, HKEY.out] at FA
              have FS := Aside0.mk (fun w' he => forms_calls ⟨#[42]⟩ w' (by decide) he)
              rw [show star ⟨#[42]⟩ = true by decide +kernel] at FS
              have TK := Aside0.mk trivial
              clear hb1 hb3 hky hq
              cases b1 <;> cases b3
              all_goals
                go_wp2_with (first
                  | (go_at_call 7; refine (FA.out _ (HE.out.below HB.out)).mono ?_; rintro e w2 ⟨rfl, hb⟩; have n2 := Aside0.mk (below_step HB.out hb); clear hb TK FA)
                  | (go_at_call 7; refine (FS.out _ (HE.out.below n2.out)).mono ?_; rintro e w3 ⟨rfl, hb⟩; have n3 := Aside0.mk (below_step n2.out hb); clear hb n2)
                  | (go_at_call 8; refine (PKyListIndex.spec_KyListIndex.calls q _ _ HKY.out).mono ?_; rintro e w4 ⟨rfl, hd⟩; have n4 := Aside0.mk (below_step n3.out hd.below); clear hd n3))
                go_ret
                exact ⟨rfl, n4.out⟩
          | false =>
            have HKEY : Aside0 (nb q.data.toList = false) := ⟨by rw [hkey1, Bool.false_and]⟩
            clear hkey1
            go_wp2_with fail
            go_at_call 6
            refine C6.out.mono ?_
            rintro e w1 ⟨rfl, rfl⟩
            clear C6
            obtain ⟨b1, hb1⟩ : ∃ b, li q.data.toList = b := ⟨_, rfl⟩
            obtain ⟨b3, hb3⟩ : ∃ b, star q = b := ⟨_, rfl⟩
            have hst : (q.toList == ([42] : List UInt8)) = b3 := hb3
            have hky := ky_at q hq
            rw [hb1] at hky
            have HKY := Aside0.mk hky
            have FA := Aside0.mk (fun w' he => forms_calls q w' hq he)
            rw [hb1, hb3, HKEY.out] at FA
            have FS := Aside0.mk (fun w' he => forms_calls ⟨#[42]⟩ w' (by decide) he)
            rw [show star ⟨#[42]⟩ = true by decide +kernel] at FS
            have TK := Aside0.mk trivial
            clear hb1 hb3 hky hq
            cases b1 <;> cases b3
            all_goals
              go_wp2_with (first
                | (go_at_call 7; refine (FA.out _ (HE.out.below HB.out)).mono ?_; rintro e w2 ⟨rfl, hb⟩; have n2 := Aside0.mk (below_step HB.out hb); clear hb TK FA)
                | (go_at_call 7; refine (FS.out _ (HE.out.below n2.out)).mono ?_; rintro e w3 ⟨rfl, hb⟩; have n3 := Aside0.mk (below_step n2.out hb); clear hb n2)
                | (go_at_call 8; refine (PKyListIndex.spec_KyListIndex.calls q _ _ HKY.out).mono ?_; rintro e w4 ⟨rfl, hd⟩; have n4 := Aside0.mk (below_step n3.out hd.below); clear hd n3))
              go_ret
              exact ⟨rfl, n4.out⟩
  · have hgt : 40 < (s.size : Int) := by omega
    obtain ⟨t, ht⟩ : ∃ t, s.extract 0 40 = t := ⟨_, rfl⟩
    have htz : t.size ≤ 40 := by rw [← ht]; simp; omega
    have h40 : t.size ≤ 40 := by omega
    have hq : t.size ≤ 1000 := by omega
    have hC := digits_calls t w hq
    have hkey0 := fun h => nb_kd (q := t.data.toList) (.inl h)
    obtain ⟨kn, hkn⟩ : ∃ n, (kd t.data.toList).1 = n := ⟨_, rfl⟩
    obtain ⟨ks, hks⟩ : ∃ b, (kd t.data.toList).2 = b := ⟨_, rfl⟩
    rw [hkn, hks] at hC hkey0
    clear hkn hks
    have C6 := Aside0.mk hC
    clear hC
    cases ks with
    | true =>
      have hkey : nb t.data.toList = decide (0 ≤ kn) := by rw [hkey0 rfl, Bool.true_and]
      clear hkey0
      go_enter Tryd.func3, Tryd.ntmps3
      go_wp2_with fail
      go_at_call 6
      refine C6.out.mono ?_
      rintro e w1 ⟨rfl, rfl⟩
      clear C6
      by_cases hpos : 0 ≤ kn
      · have HKEY := Aside0.mk (hkey.trans (decide_eq_true hpos))
        clear hkey
        obtain ⟨b1, hb1⟩ : ∃ b, li t.data.toList = b := ⟨_, rfl⟩
        obtain ⟨b3, hb3⟩ : ∃ b, star t = b := ⟨_, rfl⟩
        have hst : (t.toList == ([42] : List UInt8)) = b3 := hb3
        have hky := ky_at t hq
        rw [hb1] at hky
        have HKY := Aside0.mk hky
        have FA := Aside0.mk (fun w' he => forms_calls t w' hq he)
        rw [hb1, hb3, HKEY.out] at FA
        have FS := Aside0.mk (fun w' he => forms_calls ⟨#[42]⟩ w' (by decide) he)
        rw [show star ⟨#[42]⟩ = true by decide +kernel] at FS
        have TK := Aside0.mk trivial
        clear hb1 hb3 hky hq
        cases b1 <;> cases b3
        all_goals
          go_wp2_with (first
            | (go_at_call 7; refine (FA.out _ (HE.out.below HB.out)).mono ?_; rintro e w2 ⟨rfl, hb⟩; have n2 := Aside0.mk (below_step HB.out hb); clear hb TK FA)
            | (go_at_call 7; refine (FS.out _ (HE.out.below n2.out)).mono ?_; rintro e w3 ⟨rfl, hb⟩; have n3 := Aside0.mk (below_step n2.out hb); clear hb n2)
            | (go_at_call 8; refine (PKyListIndex.spec_KyListIndex.calls t _ _ HKY.out).mono ?_; rintro e w4 ⟨rfl, hd⟩; have n4 := Aside0.mk (below_step n3.out hd.below); clear hd n3))
          go_ret
          exact ⟨rfl, n4.out⟩
      · have HKEY := Aside0.mk (hkey.trans (decide_eq_false hpos))
        have hp2 := decide_eq_false hpos
        clear hkey
        obtain ⟨b1, hb1⟩ : ∃ b, li t.data.toList = b := ⟨_, rfl⟩
        obtain ⟨b3, hb3⟩ : ∃ b, star t = b := ⟨_, rfl⟩
        have hst : (t.toList == ([42] : List UInt8)) = b3 := hb3
        have hky := ky_at t hq
        rw [hb1] at hky
        have HKY := Aside0.mk hky
        have FA := Aside0.mk (fun w' he => forms_calls t w' hq he)
        rw [hb1, hb3, HKEY.out] at FA
        have FS := Aside0.mk (fun w' he => forms_calls ⟨#[42]⟩ w' (by decide) he)
        rw [show star ⟨#[42]⟩ = true by decide +kernel] at FS
        have TK := Aside0.mk trivial
        clear hb1 hb3 hky hq
        cases b1 <;> cases b3
        all_goals
          go_wp2_with (first
            | (go_at_call 7; refine (FA.out _ (HE.out.below HB.out)).mono ?_; rintro e w2 ⟨rfl, hb⟩; have n2 := Aside0.mk (below_step HB.out hb); clear hb TK FA)
            | (go_at_call 7; refine (FS.out _ (HE.out.below n2.out)).mono ?_; rintro e w3 ⟨rfl, hb⟩; have n3 := Aside0.mk (below_step n2.out hb); clear hb n2)
            | (go_at_call 8; refine (PKyListIndex.spec_KyListIndex.calls t _ _ HKY.out).mono ?_; rintro e w4 ⟨rfl, hd⟩; have n4 := Aside0.mk (below_step n3.out hd.below); clear hd n3))
          go_ret
          exact ⟨rfl, n4.out⟩
    | false =>
      clear hkey0
      go_enter Tryd.func3, Tryd.ntmps3
      go_wp2_with (go_at_call 6; refine C6.out.mono ?_; rintro e w1 ⟨rfl, rfl⟩; clear C6)
      go_loop [0, 5] (fun p i => ∃ (q : ByteArray) (j : Nat), p = .string q ∧ i = .int .i64 j ∧ j ≤ 40 ∧ Aside0 (LP t q j)) (fun _ i => 41 - (intOf i).toNat)
      case atStart => exact ⟨t, 0, rfl, rfl, by omega, ⟨.inl ⟨rfl, by omega, fun i _ h => by omega⟩⟩⟩
      case round =>
        obtain ⟨q, j, rfl, rfl, hj40, HL⟩ := hrel
        by_cases hlt : j < q.size
        · obtain ⟨rfl, hj, HN⟩ : q = t ∧ j ≤ t.size ∧ Aside0 (∀ i (h : i < t.size), i < j → 13 < i → ¬ Dig t[i]) := by
            rcases HL.out with ⟨h1, h2, h3⟩ | ⟨h1, h2, _⟩
            · exact ⟨h1, h2, ⟨h3⟩⟩
            · omega
          by_cases hd : Dig q[j]
          · have hd3 : 48 ≤ (q[j].toNat : Int) := by have := hd.1; omega
            have hd4 : (q[j].toNat : Int) ≤ 57 := by have := hd.2; omega
            by_cases h13 : 13 < j
            · have h13' : 13 < (j : Int) := by omega
              have hz : (q.extract 0 13).size = 13 := by simp; omega
              clear hd
              go_wp2_with fail
              go_round
              case rel => exact ⟨_, j + 1, rfl, rfl, by omega, ⟨.inr ⟨hz, by omega, by omega⟩⟩⟩
              case measure => simp only [intOf]; omega
            · have h13' : ¬ 13 < (j : Int) := by omega
              clear hd
              go_wp2_with fail
              go_round
              case rel => exact ⟨_, j + 1, rfl, rfl, by omega, ⟨.inl ⟨rfl, by omega, fun i h hi h13 => HN.out i h (by omega) h13⟩⟩⟩
              case measure => simp only [intOf]; omega
          · have HN2 : Aside0 (∀ i (h : i < q.size), i < j + 1 → 13 < i → ¬ Dig q[i]) := ⟨fun i h hi h13 => by
              by_cases e : i = j
              · subst e; exact hd
              · exact HN.out i h (by omega) h13⟩
            by_cases hlo : (q[j].toNat : Int) < 48
            · clear hd
              go_wp2_with fail
              go_round
              case rel => exact ⟨_, j + 1, rfl, rfl, by omega, ⟨.inl ⟨rfl, by omega, HN2.out⟩⟩⟩
              case measure => simp only [intOf]; omega
            · have hhi : 57 < (q[j].toNat : Int) := by unfold Dig at hd; omega
              clear hd
              go_wp2_with fail
              go_round
              case rel => exact ⟨_, j + 1, rfl, rfl, by omega, ⟨.inl ⟨rfl, by omega, HN2.out⟩⟩⟩
              case measure => simp only [intOf]; omega
        · have hq2 : q.size ≤ 1000 := by omega
          have hkey1 := lp_key HL.out (by omega)
          have hC := digits_calls q w hq2
          obtain ⟨kn2, hkn⟩ : ∃ n, (kd q.data.toList).1 = n := ⟨_, rfl⟩
          obtain ⟨ks, hks⟩ : ∃ b, (kd q.data.toList).2 = b := ⟨_, rfl⟩
          rw [hkn, hks] at hC hkey1
          clear hkn hks HL hq
          have hq := hq2
          clear hq2
          have C6 := Aside0.mk hC
          obtain ⟨kn, rfl⟩ : ∃ n, n = kn2 := ⟨_, rfl⟩
          clear hC
          cases ks with
          | true =>
            have hkey : nb q.data.toList = decide (0 ≤ kn) := by rw [hkey1, Bool.true_and]
            clear hkey1
            go_wp2_with fail
            go_at_call 6
            refine C6.out.mono ?_
            rintro e w1 ⟨rfl, rfl⟩
            clear C6
            by_cases hpos : 0 ≤ kn
            · have HKEY := Aside0.mk (hkey.trans (decide_eq_true hpos))
              clear hkey
              obtain ⟨b1, hb1⟩ : ∃ b, li q.data.toList = b := ⟨_, rfl⟩
              obtain ⟨b3, hb3⟩ : ∃ b, star q = b := ⟨_, rfl⟩
              have hst : (q.toList == ([42] : List UInt8)) = b3 := hb3
              have hky := ky_at q hq
              rw [hb1] at hky
              have HKY := Aside0.mk hky
              have FA := Aside0.mk (fun w' he => forms_calls q w' hq he)
              rw [hb1, hb3, HKEY.out] at FA
              have FS := Aside0.mk (fun w' he => forms_calls ⟨#[42]⟩ w' (by decide) he)
              rw [show star ⟨#[42]⟩ = true by decide +kernel] at FS
              have TK := Aside0.mk trivial
              clear hb1 hb3 hky hq
              cases b1 <;> cases b3
              all_goals
                go_wp2_with (first
                  | (go_at_call 7; refine (FA.out _ (HE.out.below HB.out)).mono ?_; rintro e w2 ⟨rfl, hb⟩; have n2 := Aside0.mk (below_step HB.out hb); clear hb TK FA)
                  | (go_at_call 7; refine (FS.out _ (HE.out.below n2.out)).mono ?_; rintro e w3 ⟨rfl, hb⟩; have n3 := Aside0.mk (below_step n2.out hb); clear hb n2)
                  | (go_at_call 8; refine (PKyListIndex.spec_KyListIndex.calls q _ _ HKY.out).mono ?_; rintro e w4 ⟨rfl, hd⟩; have n4 := Aside0.mk (below_step n3.out hd.below); clear hd n3))
                go_ret
                exact ⟨rfl, n4.out⟩
            · have HKEY := Aside0.mk (hkey.trans (decide_eq_false hpos))
              have hp2 := decide_eq_false hpos
              clear hkey
              obtain ⟨b1, hb1⟩ : ∃ b, li q.data.toList = b := ⟨_, rfl⟩
              obtain ⟨b3, hb3⟩ : ∃ b, star q = b := ⟨_, rfl⟩
              have hst : (q.toList == ([42] : List UInt8)) = b3 := hb3
              have hky := ky_at q hq
              rw [hb1] at hky
              have HKY := Aside0.mk hky
              have FA := Aside0.mk (fun w' he => forms_calls q w' hq he)
              rw [hb1, hb3, HKEY.out] at FA
              have FS := Aside0.mk (fun w' he => forms_calls ⟨#[42]⟩ w' (by decide) he)
              rw [show star ⟨#[42]⟩ = true by decide +kernel] at FS
              have TK := Aside0.mk trivial
              clear hb1 hb3 hky hq
              cases b1 <;> cases b3
              all_goals
                go_wp2_with (first
                  | (go_at_call 7; refine (FA.out _ (HE.out.below HB.out)).mono ?_; rintro e w2 ⟨rfl, hb⟩; have n2 := Aside0.mk (below_step HB.out hb); clear hb TK FA)
                  | (go_at_call 7; refine (FS.out _ (HE.out.below n2.out)).mono ?_; rintro e w3 ⟨rfl, hb⟩; have n3 := Aside0.mk (below_step n2.out hb); clear hb n2)
                  | (go_at_call 8; refine (PKyListIndex.spec_KyListIndex.calls q _ _ HKY.out).mono ?_; rintro e w4 ⟨rfl, hd⟩; have n4 := Aside0.mk (below_step n3.out hd.below); clear hd n3))
                go_ret
                exact ⟨rfl, n4.out⟩
          | false =>
            have HKEY : Aside0 (nb q.data.toList = false) := ⟨by rw [hkey1, Bool.false_and]⟩
            clear hkey1
            go_wp2_with fail
            go_at_call 6
            refine C6.out.mono ?_
            rintro e w1 ⟨rfl, rfl⟩
            clear C6
            obtain ⟨b1, hb1⟩ : ∃ b, li q.data.toList = b := ⟨_, rfl⟩
            obtain ⟨b3, hb3⟩ : ∃ b, star q = b := ⟨_, rfl⟩
            have hst : (q.toList == ([42] : List UInt8)) = b3 := hb3
            have hky := ky_at q hq
            rw [hb1] at hky
            have HKY := Aside0.mk hky
            have FA := Aside0.mk (fun w' he => forms_calls q w' hq he)
            rw [hb1, hb3, HKEY.out] at FA
            have FS := Aside0.mk (fun w' he => forms_calls ⟨#[42]⟩ w' (by decide) he)
            rw [show star ⟨#[42]⟩ = true by decide +kernel] at FS
            have TK := Aside0.mk trivial
            clear hb1 hb3 hky hq
            cases b1 <;> cases b3
            all_goals
              go_wp2_with (first
                | (go_at_call 7; refine (FA.out _ (HE.out.below HB.out)).mono ?_; rintro e w2 ⟨rfl, hb⟩; have n2 := Aside0.mk (below_step HB.out hb); clear hb TK FA)
                | (go_at_call 7; refine (FS.out _ (HE.out.below n2.out)).mono ?_; rintro e w3 ⟨rfl, hb⟩; have n3 := Aside0.mk (below_step n2.out hb); clear hb n2)
                | (go_at_call 8; refine (PKyListIndex.spec_KyListIndex.calls q _ _ HKY.out).mono ?_; rintro e w4 ⟨rfl, hd⟩; have n4 := Aside0.mk (below_step n3.out hd.below); clear hd n3))
              go_ret
              exact ⟨rfl, n4.out⟩

end Go.Proofs.YtgdffbjkafbkcaaDoor.HDig
