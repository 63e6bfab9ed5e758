/- The law FnPathApart returns true for every input: parts that are joined and split are these parts, but for an empty one ahead. -/
import Derived.Test.YtgdffbjkafbkcaaHApart
import Derived.Test.YtgdffbjkafbkcaaQzzFits4
namespace Go.Proofs.Ytgdffbjkafbkcaa.HApart
open Go.RowKit Go.Proofs.YtgdffbjkafbkcaaW.PrintWords Go.Proofs.YtgdffbjkafbkcaaW.PrintLast Go.Proofs.YtgdffbjkafbkcaaW.PrintMore Go.Proofs.Ytgdffbjkafbkcaa.Plain Go.Proofs.Ytgdffbjkafbkcaa.HSplit Go.Proofs.Ytgdffbjkafbkcaa.HSplitPure Go.Proofs.Ytgdffbjkafbkcaa.HJoinPure

theorem fits_any (A : Option Addr) (c : Nat) (l : List ByteArray) (w : World) (hr : Kd.C Kd.string w A l.length l) (hc : l.length ≤ c) (hl : l.length * 16 ≤ 140737488351232) :
    ∃ b : Bool, Calls Try.prog 6 #[.slice A l.length c] w fun e w' => e = .returned (.bool b) ∧ ∃ n, w' = w.drewN n := by
  obtain ⟨b, h⟩ := QzzFits4.fits4 l (by omega)
  obtain ⟨k, h⟩ := h.rounds
  exact ⟨b, (PzzFits4.laws_zzFits4.calls k A c l b w hr hc h).mono fun e w' ⟨he, hd⟩ => ⟨he, hd.out⟩⟩

theorem c92 {c : UInt8} (h : ¬ c = 92) : ((c.toNat : Int) == 92) = false := by
  rw [beq_eq_false_iff_ne]
  intro e
  exact h (UInt8.toNat_inj.1 (by show c.toNat = 92; omega))
theorem d92 {d : UInt8} (h : ¬ (d.toNat : Int) = 92) : (92 : UInt8) ≠ d := by rintro rfl; exact h rfl
theorem no_next {s : ByteArray} {m : Nat} (hm : m < s.size) (h : (92 : UInt8) ∉ s.data.toList.take m) (hc : ¬ s[m] = 92) : (92 : UInt8) ∉ s.data.toList.take (m + 1) := by
  rw [take_next (by rw [Array.length_toList]; exact hm), List.mem_append, not_or]
  refine ⟨h, fun e => hc ?_⟩
  rw [List.mem_singleton] at e
  exact e.symm
theorem no_all {s : ByteArray} {m : Nat} (hm : s.size ≤ m) (h : (92 : UInt8) ∉ s.data.toList.take m) : (92 : UInt8) ∉ s.data.toList := by
  rwa [List.take_of_length_le (by rw [Array.length_toList]; exact hm)] at h
theorem good_next {l : List ByteArray} {j : Nat} {s : ByteArray} (h : j < l.length) (hg : ∀ s ∈ l.take j, good s) (hs : l[j] = s) (h50 : s.size ≤ 50) (h92 : (92 : UInt8) ∉ s.data.toList) : ∀ s ∈ l.take (j + 1), good s := by
  rw [take_next h, hs]
  intro x hx
  rcases List.mem_append.1 hx with hx | hx
  · exact hg x hx
  · rw [List.mem_singleton] at hx
    subst hx
    exact ⟨h50, h92⟩
theorem succI (j : Nat) : (j : Int) + 1 = ((j + 1 : Nat) : Int) := rfl
theorem meas2 {L j : Nat} (h : j < L) : L - (intOf (.int .i64 ((j : Int) + 1))).toNat < L - (intOf (.int .i64 (j : Int))).toNat := by
  simp only [intOf]
  omega
theorem B_one (d : UInt8) : (B [d]).size ≠ 0 := Nat.one_ne_zero
theorem rune_text (d : UInt8) (h : (d.toNat : Int) ≤ 127) : Utf8.encode (d.toNat : Int) = B [d] := by
  have h0 : 0 ≤ (d.toNat : Int) := Int.natCast_nonneg _
  have hv : Utf8.valid (d.toNat : Int) = true := by simp [Utf8.valid]; omega
  unfold Utf8.encode
  rw [if_pos hv]
  simp only [Int.toNat_natCast]
  rw [if_pos (by omega)]
  simp [B]

theorem dropFirst_le {l : List ByteArray} (h : ¬ 20 < l.length) : (dropFirst l).length ≤ 1000000 := by
  unfold dropFirst
  split
  · rw [List.length_drop]; omega
  · omega
theorem same_any {A B : Option Addr} {a c : Nat} {l : List ByteArray} {w : World} (hr : Kd.C Kd.string w B l.length l) (hc : l.length ≤ c) (hs : Kd.C Kd.string w A l.length l) (hd : l.length ≤ a) (hl : l.length ≤ 1000000) :
    Calls Try.prog 9 #[.slice B l.length c, .slice A l.length a] w fun e w' => e = .returned (.bool true) ∧ ∃ n, w' = w.drewN n := by
  obtain ⟨k, h⟩ := (same_ev l hl).rounds
  exact (PheSame.laws_heSame.calls k B c l A a l true w hr hc hs hd h).mono fun e w' ⟨he, hd⟩ => ⟨he, hd.out⟩
theorem ab_calls (w : World) : Calls Try.prog 7 #[.string ⟨#[97, 47, 98]⟩, .string ⟨#[47]⟩] w fun e w' => ∃ A c, e = .returned (.slice A 2 c) ∧ Below w.heap.size w w' := by
  obtain ⟨k, h1, h2⟩ := parts_ab
  refine (impl_calls _ _ _ k w h1 (by decide) (by simp) (by decide) (by decide)).mono ?_
  rintro e w' ⟨v, rfl, ho, hb⟩
  rw [h2] at ho
  obtain ⟨A, c, rfl⟩ := Kd.R_slice ho
  exact ⟨A, c, rfl, hb⟩

set_option maxHeartbeats 2000000 in
theorem law_calls (A : Option Addr) (c : Nat) (l : List ByteArray) (a : Int) (w : World) (hr : Kd.C Kd.string w A l.length l) (hc : l.length ≤ c) (hl : l.length ≤ maxLen ∧ l.length * 16 ≤ 140737488351232 ∧ ∀ a ∈ l, (fun s : ByteArray => s.size ≤ 140737488351232) a) (ha : (Lit.int .u8 a).wf = true) :
    Calls Try.prog 3 #[.slice A l.length c, .int .u8 a] w fun e w' => e = .returned (.bool true) ∧ Below w.heap.size w w' := by
  have hl2 := hl.2.1
  obtain ⟨b, hb⟩ := fits_any A c l w hr hc hl2
  obtain ⟨d, rfl⟩ : ∃ d : UInt8, a = (d.toNat : Int) := by
    have h2 : IntKind.u8.min ≤ a ∧ a ≤ IntKind.u8.max := by simpa [Lit.wf] using ha
    rw [show IntKind.u8.min = 0 from rfl, show IntKind.u8.max = 255 from rfl] at h2
    exact ⟨UInt8.ofNat a.toNat, by simp; omega⟩
  have HF := Aside0.mk hb
  have HR := Aside0.mk hr
  have HC := Aside0.mk hc
  clear hr hl hl2 hb ha hc
  cases b with
  | false =>
    go_enter Try.func3, Try.ntmps3
    go_wp2_with (go_at_call 6; refine (HF.out).mono ?_; rintro e w1 ⟨rfl, nd, rfl⟩)
    go_ret
    exact ⟨rfl, pw_below_drewN (Below.refl _ _) _⟩
  | true =>
    by_cases h1 : l.length = 0
    · have q1 : ((l.length : Int) == 0) = true := by simp [h1]
      clear h1
      go_enter Try.func3, Try.ntmps3
      go_wp2_with (go_at_call 6; refine (HF.out).mono ?_; rintro e w1 ⟨rfl, nd, rfl⟩)
      go_ret
      exact ⟨rfl, pw_below_drewN (Below.refl _ _) _⟩
    have q1 : ((l.length : Int) == 0) = false := by simp; intro h; exact h1 (by simp [h])
    have H1 := Aside0.mk h1
    clear h1
    by_cases h2 : 20 < l.length
    · have q2 : (20 : Int) < (l.length : Int) := by omega
      clear h2
      go_enter Try.func3, Try.ntmps3
      go_wp2_with (go_at_call 6; refine (HF.out).mono ?_; rintro e w1 ⟨rfl, nd, rfl⟩)
      go_ret
      exact ⟨rfl, pw_below_drewN (Below.refl _ _) _⟩
    have q2 : ¬ (20 : Int) < (l.length : Int) := by omega
    have H2 := Aside0.mk h2
    clear h2
    by_cases h3 : (d.toNat : Int) = 92
    · have q3 : ((d.toNat : Int) == 92) = true := by simp [h3]
      clear h3
      go_enter Try.func3, Try.ntmps3
      go_wp2_with (go_at_call 6; refine (HF.out).mono ?_; rintro e w1 ⟨rfl, nd, rfl⟩)
      go_ret
      exact ⟨rfl, pw_below_drewN (Below.refl _ _) _⟩
    have q3 : ((d.toNat : Int) == 92) = false := by simp; omega
    have H3 := Aside0.mk h3
    clear h3
    by_cases h4 : (d.toNat : Int) = 0
    · have q4 : ((d.toNat : Int) == 0) = true := by simp [h4]
      clear h4
      go_enter Try.func3, Try.ntmps3
      go_wp2_with (go_at_call 6; refine (HF.out).mono ?_; rintro e w1 ⟨rfl, nd, rfl⟩)
      go_ret
      exact ⟨rfl, pw_below_drewN (Below.refl _ _) _⟩
    have q4 : ((d.toNat : Int) == 0) = false := by simp; omega
    have H4 := Aside0.mk h4
    clear h4
    by_cases h5 : 127 < (d.toNat : Int)
    · go_enter Try.func3, Try.ntmps3
      go_wp2_with (go_at_call 6; refine (HF.out).mono ?_; rintro e w1 ⟨rfl, nd, rfl⟩)
      go_ret
      exact ⟨rfl, pw_below_drewN (Below.refl _ _) _⟩
    have H5 := Aside0.mk h5
    go_enter Try.func3, Try.ntmps3
    go_wp2_with (go_at_call 6; refine (HF.out).mono ?_; rintro e w1 ⟨rfl, nd, rfl⟩)
    go_loop [34] (fun i => ∃ j : Nat, j ≤ l.length ∧ i = .int .i64 j ∧ Aside0 (∀ s ∈ l.take j, good s)) (fun i => l.length - (intOf i).toNat)
    case atStart => exact ⟨0, Nat.zero_le _, rfl, ⟨by simp⟩⟩
    case round =>
      obtain ⟨j, hj, rfl, HG⟩ := hrel
      by_cases hlt : j < l.length
      · have HJ := Aside0.mk hlt
        obtain ⟨ad, e0, hx⟩ := Kd.at_string (Kd.C_drewN HR.out nd) (j : Int) (Int.natCast_nonneg j) (Int.ofNat_lt.2 hlt)
        cases e0
        rw [rdOf_nat _ _ _ hlt, Int.toNat_natCast] at hx
        have p0 : 0 ≤ (j : Int) := Int.natCast_nonneg j
        have q0 : (j : Int) < (l.length : Int) := Int.ofNat_lt.2 hlt
        obtain ⟨s, hs⟩ : ∃ s, l[j] = s := ⟨_, rfl⟩
        rw [hs] at hx
        have HS := Aside0.mk hs
        clear hs
        by_cases h50 : 50 < s.size
        · have h50' : (50 : Int) < (s.size : Int) := by omega
          clear h50
          go_wp2
          go_ret
          exact ⟨rfl, pw_below_drewN (Below.refl _ _) _⟩
        · have h50' : ¬ (50 : Int) < (s.size : Int) := by omega
          have H50 := Aside0.mk h50
          clear h50
          go_wp2
          go_loop [43] (fun i => ∃ m : Nat, m ≤ s.size ∧ i = .int .i64 m ∧ Aside0 ((92 : UInt8) ∉ s.data.toList.take m)) (fun i => s.size - (intOf i).toNat)
          case atStart => exact ⟨0, Nat.zero_le _, rfl, ⟨by simp⟩⟩
          case round =>
            obtain ⟨m, hm, rfl, HM⟩ := hrel
            by_cases hmt : m < s.size
            · have HMT := Aside0.mk hmt
              by_cases hc : s[m] = 92
              · have hc' : ((s[m].toNat : Int) == 92) = true := by rw [hc]; rfl
                clear hc
                go_wp2
                go_ret
                exact ⟨rfl, pw_below_drewN (Below.refl _ _) _⟩
              · have hc' : ((s[m].toNat : Int) == 92) = false := c92 hc
                have HW := Aside0.mk (succI m)
                have HM2 := Aside0.mk (no_next hmt HM.out hc)
                clear hc
                go_wp2
                go_round
                case rel => exact ⟨m + 1, HMT.out, congrArg (Value.int .i64) HW.out, HM2⟩
                case measure => exact meas2 HMT.out
            · have HG2 := Aside0.mk (good_next hlt HG.out HS.out (Nat.not_lt.1 H50.out) (no_all (Nat.not_lt.1 hmt) HM.out))
              have HW := Aside0.mk (succI j)
              go_wp2
              go_round
              case rel => exact ⟨j + 1, HJ.out, congrArg (Value.int .i64) HW.out, HG2⟩
              case measure => exact meas2 HJ.out
      · obtain ⟨s, k1, k2, ps, e1, e2, e3, e4, e5, e6⟩ := parts_path l d (d92 H3.out) (fun h => H1.out (by rw [h]; rfl)) (Nat.not_lt.1 H2.out) (by have := HG.out; rwa [List.take_of_length_le (Nat.not_lt.1 hlt)] at this)
        have E1 := Aside0.mk e1
        have E2 := Aside0.mk e2
        have E3 := Aside0.mk e3
        have E4 := Aside0.mk e4
        have E5 := Aside0.mk e5
        have E6 := Aside0.mk e6
        have E7 := Aside0.mk (rune_text d H5.out)
        clear e1 e2 e3 e4 e5 e6
        go_upto_region 18 with (first
          | (go_at_call 8; refine (PJoined.spec_Joined.calls k1 A c l _ s _ (Kd.C_drewN HR.out nd) HC.out E1.out).mono ?_; rintro e w2 ⟨rfl, hb2⟩; have HB2 := Aside0.mk (below_step (pw_below_drewN (Below.refl _ _) nd) hb2); clear hb2)
          | (go_at_call 7; rw [E7.out]; refine (impl_calls s (B [d]) ps k2 _ E2.out (B_one d) E3.out E4.out E5.out).mono ?_; rintro e w3 ⟨v, rfl, ho, hb3⟩; have HO := Aside0.mk ho; have HB3 := Aside0.mk (below_step HB2.out hb3); clear ho hb3))
        go_cut [67] (fun s67 wx => s67 = .bool (dropQ l) ∧ wx = w3)
        case first =>
          have HR2 := Aside0.mk (Kd.C_below HR.out HB3.out)
          have hq1 : 0 < l.length := Nat.pos_of_ne_zero H1.out
          by_cases h1 : 1 < l.length
          · obtain ⟨ad, e0, hx⟩ := Kd.at_string HR2.out (0 : Int) (Int.le_refl 0) (by omega)
            cases e0
            have hx' : w3.cell? ad = some (.string l[0]) := by
              have := hx
              rw [show (0 : Int) = ((0 : Nat) : Int) from rfl, rdOf_nat _ _ _ hq1, Int.toNat_natCast, add_zero'] at this
              exact this
            have hq : (1 : Int) < (l.length : Int) := by omega
            have HE := Aside0.mk (show dropQ l = l[0].toList.isEmpty by rw [dropQ, decide_eq_true h1, Bool.true_and, getD_0 hq1, isEmpty_toList])
            clear hx h1
            go_wp2
            all_goals (go_meet; exact ⟨congrArg Value.bool (by rw [HE.out]), rfl⟩)
          · have hq : ¬ (1 : Int) < (l.length : Int) := by omega
            have HE := Aside0.mk (show dropQ l = false by rw [dropQ, decide_eq_false h1, Bool.false_and])
            clear h1
            go_wp2
            go_meet
            exact ⟨congrArg Value.bool (by rw [HE.out]), rfl⟩
        case rest =>
          obtain ⟨rfl, rfl⟩ := hcut
          have HR2 := Aside0.mk (Kd.C_below HR.out HB3.out)
          go_upto_if 67 with (fail)
          go_cut [0] (fun s0 wx => ∃ (B' : Option Addr) (k3 : Nat), s0 = .slice B' (dropFirst l).length k3 ∧ wx = wc ∧ Aside0 (Kd.C Kd.string wc B' (dropFirst l).length (dropFirst l)) ∧ Aside0 ((dropFirst l).length ≤ k3))
          case first =>
            cases hq : dropQ l with
            | true =>
              have HD := Aside0.mk (dropFirst_of hq)
              have h1 := Aside0.mk (dropQ_lt hq)
              have hC := Aside0.mk (Kd.C_drop (m := 1) (c := c) HR2.out (Nat.le_of_lt h1.out) HC.out)
              obtain ⟨ad, rfl, _⟩ := HR2.out.2.2 (Nat.lt_of_lt_of_le Nat.zero_lt_one (Nat.le_of_lt h1.out))
              have hk1 : (1 : Int) ≤ (c : Int) := by have := h1.out; have := HC.out; omega
              have hk2 : (1 : Int) ≤ (l.length : Int) := by have := h1.out; omega
              have hk4 : (l.length : Int) ≤ (c : Int) := by have := HC.out; omega
              have hk3 : ¬ c = 1 := by have := h1.out; have := HC.out; omega
              rw [if_neg hk3] at hC
              go_wp2
              go_meet
              refine ⟨_, _, by rw [HD.out, List.length_drop], rfl, ⟨by rw [HD.out]; exact hC.out⟩, ⟨by rw [HD.out, List.length_drop]; exact Nat.sub_le_sub_right HC.out 1⟩⟩
            | false =>
              have HD := Aside0.mk (dropFirst_not hq)
              go_wp2
              go_meet
              exact ⟨A, c, by rw [HD.out], rfl, ⟨by rw [HD.out]; exact HR2.out⟩, ⟨by rw [HD.out]; exact HC.out⟩⟩
          case rest =>
            obtain ⟨B', k3, rfl, rfl, HC2, HK3⟩ := hcut
            have HO2 := Aside0.mk (E6.out ▸ HO.out)
            obtain ⟨A5, c5, rfl⟩ := Kd.R_slice HO2.out
            have HSM := Aside0.mk (same_any (B := A5) (c := c5) (Kd.R_reads' HO2.out).2.2 (Kd.R_reads' HO2.out).2.1 HC2.out HK3.out (dropFirst_le H2.out))
            go_wp2_with (first
              | (go_at_call 9; refine (HSM.out).mono ?_; rintro e w4 ⟨rfl, n4, rfl⟩)
              | (go_at_call 7; refine (ab_calls _).mono ?_; rintro e w5 ⟨A6, c6, rfl, hb5⟩; have HB5 := Aside0.mk (below_step (pw_below_drewN HB3.out n4) hb5); clear hb5))
            go_ret
            exact ⟨rfl, HB5.out⟩

end Go.Proofs.Ytgdffbjkafbkcaa.HApart
