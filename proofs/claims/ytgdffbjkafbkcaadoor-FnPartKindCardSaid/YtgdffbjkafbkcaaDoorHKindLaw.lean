/- The law FnPartKind, where the two errors of strconv lie: what it comes to. -/
import Derived.Test.YtgdffbjkafbkcaaDoorHFormsLaw
namespace Go.Proofs.YtgdffbjkafbkcaaDoor.HDig
open Go.RowKit Go.Proofs.YtgdffbjkafbkcaaDoorW.PrintWords Go.Proofs.YtgdffbjkafbkcaaDoorW.PrintLast Go.Proofs.YtgdffbjkafbkcaaDoorW.PrintMore Go.Proofs.YtgdffbjkafbkcaaDoor.Plain
attribute [local go_sem] max2_int min2_int max_two min_two

def pk (a b : Bool) (p : ByteArray) (k : Int) : Int := if a then 2 else if b then 2 else if p.size = 0 then k else 4
set_option maxHeartbeats 1000000 in
theorem kind_calls (p : ByteArray) (k : Int) (w : World) (hp : p.size ≤ 1000) (he : Errs w) : Calls Tryd.prog 27 #[.string p, .int .u32 k] w fun e w' => e = .returned (.int .u32 (pk (li p.data.toList) (nb p.data.toList) p k)) ∧ Below w.heap.size w w' := by
  have H1 := Aside0.mk (is_at p hp)
  have HE := Aside0.mk he
  have H2 := Aside0.mk (fun w' he => idx_at p w' hp he)
  obtain ⟨a, ha⟩ : ∃ b, li p.data.toList = b := ⟨_, rfl⟩
  obtain ⟨b, hb⟩ : ∃ b, nb p.data.toList = b := ⟨_, rfl⟩
  rw [ha] at H1 ⊢
  rw [hb] at H2 ⊢
  clear he ha hb hp
  have HB := Aside0.mk (Below.refl w.heap.size w)
  have tok := Aside0.mk trivial
  cases a with
  | true =>
    go_enter Tryd.func27, Tryd.ntmps27
    go_wp2_with (go_at_call 16; refine (PIsListIndex.yaml_IsListIndex.calls p _ _ H1.out).mono ?_; rintro e w1 ⟨rfl, hd⟩; have n1 := Aside0.mk (below_step HB.out hd.below); clear hd HB)
    go_ret
    exact ⟨rfl, n1.out⟩
  | false =>
    cases b with
    | true =>
      go_enter Tryd.func27, Tryd.ntmps27
      go_wp2_with (first
        | (go_at_call 16; refine (PIsListIndex.yaml_IsListIndex.calls p _ _ H1.out).mono ?_; rintro e w1 ⟨rfl, hd⟩; have n1 := Aside0.mk (below_step HB.out hd.below); clear hd HB)
        | (go_at_call 17; refine (H2.out _ (HE.out.below n1.out)).mono ?_; rintro e w2 ⟨rfl, hd⟩; have n2 := Aside0.mk (below_step n1.out hd); clear hd n1))
      go_ret
      exact ⟨rfl, n2.out⟩
    | false =>
      by_cases h0 : p.size = 0
      · have HZ := Aside0.mk h0
        have h1 := empty_list h0
        clear h0
        go_enter Tryd.func27, Tryd.ntmps27
        go_wp2_with (first
          | (go_at_call 16; refine (PIsListIndex.yaml_IsListIndex.calls p _ _ H1.out).mono ?_; rintro e w1 ⟨rfl, hd⟩; have n1 := Aside0.mk (below_step HB.out hd.below); clear hd HB)
          | (go_at_call 17; refine (H2.out _ (HE.out.below n1.out)).mono ?_; rintro e w2 ⟨rfl, hd⟩; have n2 := Aside0.mk (below_step n1.out hd); clear hd n1))
        go_ret
        exact ⟨by unfold pk; rw [if_neg (by simp), if_neg (by simp), if_pos HZ.out]; rfl, n2.out⟩
      · have HZ := Aside0.mk h0
        have h1 := some_list h0
        clear h0
        go_enter Tryd.func27, Tryd.ntmps27
        go_wp2_with (first
          | (go_at_call 16; refine (PIsListIndex.yaml_IsListIndex.calls p _ _ H1.out).mono ?_; rintro e w1 ⟨rfl, hd⟩; have n1 := Aside0.mk (below_step HB.out hd.below); clear hd HB)
          | (go_at_call 17; refine (H2.out _ (HE.out.below n1.out)).mono ?_; rintro e w2 ⟨rfl, hd⟩; have n2 := Aside0.mk (below_step n1.out hd); clear hd n1))
        go_ret
        exact ⟨by unfold pk; rw [if_neg (by simp), if_neg (by simp), if_neg HZ.out]; rfl, n2.out⟩

set_option maxHeartbeats 1000000 in
theorem ky_kind (p : ByteArray) (k : Int) (w : World) (hp : p.size ≤ 14) : Calls Tryd.prog 10 #[.string p, .int .i64 k] w fun e w' => e = .returned (.int .i64 (pk (li p.data.toList) (nb p.data.toList) p k)) ∧ Below w.heap.size w w' := by
  have hkey := nb_kd (q := p.data.toList) (.inr fun i hi h13 => by have := data_length p; omega)
  have H1 := Aside0.mk (ky_at p (by omega))
  have hC := digits_calls p w (by omega)
  obtain ⟨a, ha⟩ : ∃ b, li p.data.toList = b := ⟨_, rfl⟩
  obtain ⟨kn, hkn⟩ : ∃ n, (kd p.data.toList).1 = n := ⟨_, rfl⟩
  obtain ⟨ks, hks⟩ : ∃ b, (kd p.data.toList).2 = b := ⟨_, rfl⟩
  rw [hkey]
  rw [hkn, hks] at hC ⊢
  rw [ha] at H1 ⊢
  clear ha hkn hks hkey
  have C6 := Aside0.mk hC
  have HB := Aside0.mk (Below.refl w.heap.size w)
  clear hC
  by_cases h0 : p.size = 0
  · have HZ := Aside0.mk h0
    have h1 := empty_list h0
    clear h0
    by_cases hpos : 0 ≤ kn
    · have hp2 := decide_eq_true hpos
      cases a <;> cases ks
      all_goals
        go_enter Tryd.func10, Tryd.ntmps10
        go_wp2_with (first
          | (go_at_call 6; refine C6.out.mono ?_; rintro e w1 ⟨rfl, rfl⟩)
          | (go_at_call 8; refine (PKyListIndex.spec_KyListIndex.calls p _ _ H1.out).mono ?_; rintro e w2 ⟨rfl, hd⟩; have n2 := Aside0.mk (below_step HB.out hd.below); clear hd))
        go_ret
        exact ⟨by unfold pk; simp [HZ.out, hpos], n2.out⟩
    · have hp2 := decide_eq_false hpos
      cases a <;> cases ks
      all_goals
        go_enter Tryd.func10, Tryd.ntmps10
        go_wp2_with (first
          | (go_at_call 6; refine C6.out.mono ?_; rintro e w1 ⟨rfl, rfl⟩)
          | (go_at_call 8; refine (PKyListIndex.spec_KyListIndex.calls p _ _ H1.out).mono ?_; rintro e w2 ⟨rfl, hd⟩; have n2 := Aside0.mk (below_step HB.out hd.below); clear hd))
        go_ret
        exact ⟨by unfold pk; simp [HZ.out, hp2], n2.out⟩
  · have HZ := Aside0.mk h0
    have h1 := some_list h0
    clear h0
    by_cases hpos : 0 ≤ kn
    · have hp2 := decide_eq_true hpos
      cases a <;> cases ks
      all_goals
        go_enter Tryd.func10, Tryd.ntmps10
        go_wp2_with (first
          | (go_at_call 6; refine C6.out.mono ?_; rintro e w1 ⟨rfl, rfl⟩)
          | (go_at_call 8; refine (PKyListIndex.spec_KyListIndex.calls p _ _ H1.out).mono ?_; rintro e w2 ⟨rfl, hd⟩; have n2 := Aside0.mk (below_step HB.out hd.below); clear hd))
        go_ret
        exact ⟨by unfold pk; simp [HZ.out, hpos], n2.out⟩
    · have hp2 := decide_eq_false hpos
      cases a <;> cases ks
      all_goals
        go_enter Tryd.func10, Tryd.ntmps10
        go_wp2_with (first
          | (go_at_call 6; refine C6.out.mono ?_; rintro e w1 ⟨rfl, rfl⟩)
          | (go_at_call 8; refine (PKyListIndex.spec_KyListIndex.calls p _ _ H1.out).mono ?_; rintro e w2 ⟨rfl, hd⟩; have n2 := Aside0.mk (below_step HB.out hd.below); clear hd))
        go_ret
        exact ⟨by unfold pk; simp [HZ.out, hp2], n2.out⟩

theorem pk_bd (a b : Bool) (p : ByteArray) (k : Int) (h : k = 2 ∨ k = 4 ∨ k = 8) : 0 ≤ pk a b p k ∧ pk a b p k ≤ 8 := by
  unfold pk
  split
  · omega
  · split
    · omega
    · split <;> omega
set_option maxHeartbeats 1000000 in
theorem door_calls (p : ByteArray) (k : Int) (w : World) (hp : p.size ≤ 1000) (he : Errs w) : Calls Tryd.prog 19 #[.string p, .int .u32 k] w fun e w' => e = .returned (.int .u32 (pk (li p.data.toList) (nb p.data.toList) p k)) ∧ Below w.heap.size w w' := by
  have H := Aside0.mk (kind_calls p k w hp he)
  clear he
  go_enter Tryd.func19, Tryd.ntmps19
  go_wp2_with (go_at_call 27; refine H.out.mono ?_; rintro e w1 ⟨rfl, hd⟩)
  go_ret
  exact ⟨rfl, hd⟩
set_option maxHeartbeats 1000000 in
theorem part_calls (p : ByteArray) (k : Int) (w : World) (hk : k = 2 ∨ k = 4 ∨ k = 8) (hp : p.size ≤ 1000) (he : Errs w) : Calls Tryd.prog 9 #[.string p, .int .i64 k] w fun e w' => e = .returned (.int .i64 (pk (li p.data.toList) (nb p.data.toList) p k)) ∧ Below w.heap.size w w' := by
  have hb := pk_bd (li p.data.toList) (nb p.data.toList) p k hk
  have H := Aside0.mk (door_calls p k w hp he)
  obtain ⟨r, hr⟩ : ∃ r, pk (li p.data.toList) (nb p.data.toList) p k = r := ⟨_, rfl⟩
  rw [hr] at H hb ⊢
  obtain ⟨b0, b1⟩ := hb
  clear he hr hp
  rcases hk with rfl | rfl | rfl
  all_goals
    go_enter Tryd.func9, Tryd.ntmps9
    go_wp2_with (go_at_call 19; refine H.out.mono ?_; rintro e w1 ⟨rfl, hd⟩)
    go_ret
    exact ⟨rfl, hd⟩

set_option maxHeartbeats 4000000 in
theorem kind_law (s : ByteArray) (n : Int) (w : World) (hs : s.size ≤ 140737488351232) (h0 : 0 ≤ n) (h255 : n ≤ 255) (he : Errs w) : Calls Tryd.prog 4 #[.string s, .int .u8 n] w fun e w' => e = .returned (.bool true) ∧ Below w.heap.size w w' := by
  have HE := Aside0.mk he
  clear he
  have HB := Aside0.mk (Below.refl w.heap.size w)
  by_cases h31 : 2147483647 < (s.size : Int)
  · go_enter Tryd.func4, Tryd.ntmps4
    go_wp2
    go_ret
    exact ⟨rfl, HB.out⟩
  obtain ⟨t, ht, htz⟩ : ∃ t : ByteArray, ((s.size : Int) ≤ 14 ∧ s = t ∨ 14 < (s.size : Int) ∧ s.extract 0 14 = t) ∧ t.size ≤ 14 := by
    by_cases h : (s.size : Int) ≤ 14
    · exact ⟨s, .inl ⟨h, rfl⟩, by omega⟩
    · exact ⟨_, .inr ⟨by omega, rfl⟩, by simp; omega⟩
  have HA := Aside0.mk (fun k w' hk he => part_calls t k w' hk (by omega) he)
  have HK := Aside0.mk (fun k w' => ky_kind t k w' htz)
  obtain ⟨c, hc⟩ : ∃ c, li t.data.toList = c := ⟨_, rfl⟩
  obtain ⟨d, hd⟩ : ∃ d, nb t.data.toList = d := ⟨_, rfl⟩
  rw [hc, hd] at HA HK
  clear hc hd
  have h3 : n % 3 = 0 ∨ n % 3 = 1 ∨ n % 3 = 2 := by omega
  rcases ht with ⟨hz, rfl⟩ | ⟨hz, ht⟩
  all_goals
    rcases h3 with h3 | h3 | h3
    all_goals
      go_enter Tryd.func4, Tryd.ntmps4
      go_wp2_with (first
        | (go_at_call 9; refine (HA.out _ _ (by decide) (HE.out.below (below_alloc (Below.refl _ _) _))).mono ?_; rintro e w1 ⟨rfl, hb⟩; have n1 := Aside0.mk (below_step (below_alloc (Below.refl _ _) _) hb); clear hb)
        | (go_at_call 10; refine (HK.out _ _).mono ?_; rintro e w2 ⟨rfl, hb⟩; have n2 := Aside0.mk (below_step n1.out hb); clear hb))
      go_ret
      exact ⟨by simp, n2.out⟩

end Go.Proofs.YtgdffbjkafbkcaaDoor.HDig
