/- What the inner function keyLineBeforeSeqElem, the thin package's KeyLine and the reference's KyKeyLine come to: the last line ahead of a place that is no comment, cut at a sign; for lines of at most a million bytes. -/
import Derived.Test.YtgdffbjkafbkcaaHKeyPure
import Derived.Deep.QuietTactic
import Derived.BigQuiet
namespace Go.Proofs.Ytgdffbjkafbkcaa.HKeyLine
open Go.RowKit Go.Proofs.YtgdffbjkafbkcaaW.PrintWords Go.Proofs.YtgdffbjkafbkcaaW.PrintLast Go.Proofs.YtgdffbjkafbkcaaW.PrintMore Go.Proofs.Ytgdffbjkafbkcaa.Plain Go.Proofs.Ytgdffbjkafbkcaa.HBytes Go.Proofs.Ytgdffbjkafbkcaa.HTrim Go.Proofs.Ytgdffbjkafbkcaa.HKeyPure

def nr : ByteArray := ⟨#[35]⟩
theorem prefix_calls (x : ByteArray) (w : World) : Calls Try.prog 25 #[.string x, .string nr] w fun e w' => e = .returned (.bool (x.data.toList.head? == some 35)) ∧ ∃ n, w' = w.drewN n := by
  have h : PHasPrefix.strings_HasPrefix.f x nr = some (x.data.toList.head? == some 35) := by
    obtain ⟨m, rfl⟩ : ∃ m, x = B m := ⟨x.data.toList, rfl⟩
    have e1 : nr.size = 1 := rfl
    have e2 : nr.toList = [35] := B_toList [35]
    unfold PHasPrefix.strings_HasPrefix.f PHasPrefix.stringslite_HasPrefix.f
    rw [e1, e2, B_size]
    cases m with
    | nil => rfl
    | cons c m =>
      rw [if_pos (by simp; omega), if_pos (by omega), if_pos (by simp; omega), B_extract, B_toList]
      simp [B]
  exact (PHasPrefix.strings_HasPrefix.calls x nr _ w h).mono fun e w' ⟨he, hd⟩ => ⟨he, hd.out⟩

theorem tl_size (s : ByteArray) : (tlB s).size ≤ s.size := by
  unfold tlB tl
  rw [B_size]
  have := (List.dropWhile_sublist (fun x => x == (32 : UInt8)) (l := s.data.toList)).length_le
  rwa [Array.length_toList] at this

theorem right_calls (s : ByteArray) (w : World) (hs : s.size ≤ 1000000) : Calls Try.prog 37 #[.string s, .string sp] w fun e w' => e = .returned (.string (trB s)) ∧ ∃ n, w' = w.drewN n := by
  obtain ⟨k, h⟩ := (right_ev s.data.toList.length s.data.toList [] rfl (by rw [Array.length_toList]; exact hs)).rounds
  rw [List.append_nil, Array.length_toList] at h
  exact (PzzTrimRight.yaml_zzTrimRight.calls k s sp (trB s) w h).mono fun e w' ⟨he, hd⟩ => ⟨he, hd.out⟩

set_option maxHeartbeats 400000 in
theorem trim_calls (s : ByteArray) (w : World) (hs : s.size ≤ 1000000) : Calls Try.prog 31 #[.string s, .string sp] w fun e w' => e = .returned (.string (trB (tlB s))) ∧ Below w.heap.size w w' := by
  go_enter Try.func31, Try.ntmps31
  go_wp2_with (first
    | (go_at_call 38; refine (left_calls s _ hs).mono ?_; rintro e w2 ⟨rfl, hb⟩; have HB := Aside0.mk hb; clear hb)
    | (go_at_call 37; refine (right_calls (tlB s) _ (Nat.le_trans (tl_size s) hs)).mono ?_; rintro e w3 ⟨rfl, nd, rfl⟩))
  go_ret
  exact ⟨rfl, pw_below_drewN HB.out _⟩

theorem kytrim_calls (s : ByteArray) (w : World) (hs : s.size ≤ 1000000) : Calls Try.prog 17 #[.string s] w fun e w' => e = .returned (.string (trB (tlB s))) ∧ ∃ n, w' = w.drewN n := by
  obtain ⟨k, h⟩ := (ky_ev s.data.toList (by rw [Array.length_toList]; exact hs)).rounds
  exact (PkyTrim.spec_kyTrim.calls k s (trB (tlB s)) w h).mono fun e w' ⟨he, hd⟩ => ⟨he, hd.out⟩

theorem index_calls (s : ByteArray) (w : World) (hs : s.size ≤ 1000000) : Calls Try.prog 39 #[.string s, .string nr] w fun e w' => e = .returned (.int .i64 (idxI (idx 35 0 s.data.toList))) ∧ ∃ n, w' = w.drewN n := by
  obtain ⟨k, h⟩ := (index_evY 35 s.data.toList (by rw [Array.length_toList]; exact hs) s.data.toList [] rfl).rounds
  exact (PzzIndex.yaml_zzIndex.calls k s nr _ w h).mono fun e w' ⟨he, hd⟩ => ⟨he, hd.out⟩

set_option maxHeartbeats 1000000 in
theorem two_calls (s : ByteArray) (w : World) (hs : s.size ≤ 1000000) : Calls Try.prog 32 #[.string s, .string nr] w fun e w' => ∃ g n c, e = .returned (.slice (some ⟨g, 0, none⟩) n c) ∧ 0 < n ∧ w'.cell? ⟨g, 0, none⟩ = some (.string (cutB s)) ∧ Below w.heap.size w w' := by
  have hn : nr.size = 1 := rfl
  rcases idx_cut s.data.toList 0 with ⟨h1, h2⟩ | ⟨n, h1, h2, h3⟩
  · have HI := index_calls s w hs
    rw [h1] at HI
    have HI := Aside0.mk (show Calls Try.prog 39 #[.string s, .string nr] w fun e w' => e = .returned (.int .i64 (-1)) ∧ ∃ n, w' = w.drewN n from HI)
    have HC := Aside0.mk (show cutB s = s by unfold cutB; rw [h2]; rfl)
    clear hs h1 h2
    go_enter Try.func32, Try.ntmps32
    go_wp2_with (go_at_call 39; refine HI.out.mono ?_; rintro e w2 ⟨rfl, nd, rfl⟩)
    go_ret
    refine ⟨_, 1, 1, rfl, Nat.zero_lt_one, ?_, ?_⟩
    · rw [HC.out]
      exact blk_cell (blk_new (w.drewN nd) _) 0
    · exact below_alloc (pw_below_drewN (Below.refl _ _) _) _
  · have HI := index_calls s w hs
    rw [h1, Nat.zero_add] at HI
    have HI := Aside0.mk (show Calls Try.prog 39 #[.string s, .string nr] w fun e w' => e = .returned (.int .i64 (n : Int)) ∧ ∃ n, w' = w.drewN n from HI)
    have HC := Aside0.mk (show s.extract 0 n = cutB s by
      unfold cutB; rw [h3]; show (B s.data.toList).extract 0 n = _; rw [B_extract]; rfl)
    rw [Array.length_toList] at h2
    have p0 : 0 ≤ (n : Int) := Int.natCast_nonneg _
    have p1 : (n : Int) ≤ (s.size : Int) := by have : n < s.size := h2; omega
    have p2 : (n : Int) + 1 ≤ (s.size : Int) := by have : n < s.size := h2; omega
    have p3 : (s.size : Int) ≤ 1000000 := by omega
    clear hs h1 h2 h3
    go_enter Try.func32, Try.ntmps32
    go_wp2_with (go_at_call 39; refine HI.out.mono ?_; rintro e w2 ⟨rfl, nd, rfl⟩)
    go_region
    go_wp2
    go_ret
    refine ⟨_, 2, 2, rfl, by omega, ?_, below_alloc (pw_below_drewN (Below.refl _ _) _) _⟩
    rw [← HC.out]
    exact blk_cell (blk_new (w.drewN (nd + 1)) _) 0

theorem keyAt_skip {l : List ByteArray} {j : Nat} (h : j < l.length) (hc : cm l[j] = true) : keyAt l (j + 1) = keyAt l j := by
  rw [keyAt, List.getD_eq_getElem?_getD, List.getElem?_eq_getElem h]
  exact if_pos hc
theorem keyAt_here {l : List ByteArray} {j : Nat} (h : j < l.length) (hc : cm l[j] = false) : keyAt l (j + 1) = cutB l[j] := by
  rw [keyAt, List.getD_eq_getElem?_getD, List.getElem?_eq_getElem h]
  exact if_neg (by rw [Option.getD_some, hc]; simp)

theorem cast_pred (j : Nat) : ((j + 1 : Nat) : Int) - 1 = (j : Int) := by omega
theorem meas3 {j : Nat} : (intOf (.int .i64 ((j : Int) - 1)) + 1).toNat < (intOf (.int .i64 (j : Int)) + 1).toNat := by
  simp only [intOf]
  omega

set_option maxHeartbeats 1000000 in
theorem key_calls (A : Option Addr) (c : Nat) (l : List ByteArray) (i : Nat) (w : World) (hr : Kd.C Kd.string w A l.length l) (hi : i ≤ l.length) (hl : l.length ≤ 1000) (hs : ∀ s ∈ l, s.size ≤ 1000000) :
    Calls Try.prog 23 #[.slice A l.length c, .int .i64 (i : Int)] w fun e w' => e = .returned (.string (keyAt l i)) ∧ Below w.heap.size w w' := by
  have HR := Aside0.mk hr
  have HS := Aside0.mk hs
  have HI := Aside0.mk hi
  have b0 : 0 ≤ (i : Int) := Int.natCast_nonneg _
  have b1 : (i : Int) ≤ 1000 := by omega
  clear hr hs hi hl
  go_enter Try.func23, Try.ntmps23
  go_wp2
  go_loopw [5] (fun v wr => ∃ j : Nat, Aside0 (j ≤ i) ∧ Aside0 (keyAt l j = keyAt l i) ∧ v = .int .i64 ((j : Int) - 1) ∧ Aside0 (Below w.heap.size w wr)) (fun v _ => (intOf v + 1).toNat)
  case atStart => exact ⟨i, ⟨Nat.le_refl _⟩, ⟨rfl⟩, rfl, ⟨Below.refl _ _⟩⟩
  case round =>
    obtain ⟨j, HJ, HK, rfl, HB⟩ := hrel
    cases j with
    | zero =>
      have q : ((0 : Nat) : Int) - 1 = -1 := rfl
      rw [q]
      go_wp2
      go_ret
      exact ⟨by rw [← HK.out]; rfl, HB.out⟩
    | succ j =>
      rw [cast_pred]
      have hj : j < l.length := by have := HJ.out; have := HI.out; omega
      obtain ⟨ad, e0, hx⟩ := Kd.at_string (Kd.C_below HR.out HB.out) (j : Int) (Int.natCast_nonneg j) (Int.ofNat_lt.2 hj)
      cases e0
      rw [rdOf_nat _ _ _ hj, Int.toNat_natCast] at hx
      have HSJ := Aside0.mk (HS.out l[j] (List.getElem_mem hj))
      have HJ2 := Aside0.mk (show j ≤ i by have := HJ.out; omega)
      have p0 : 0 ≤ (j : Int) := Int.natCast_nonneg j
      have p1 : (j : Int) < (l.length : Int) := Int.ofNat_lt.2 hj
      have p2 : (j : Int) ≤ 1000 := by have := HJ2.out; omega
      cases hc : cm l[j] with
      | true =>
        have HK2 := Aside0.mk ((keyAt_skip hj hc).symm.trans HK.out)
        go_wp2_with (first
          | (go_at_call 31; refine (trim_calls _ _ HSJ.out).mono ?_; rintro e w2 ⟨rfl, hb⟩; have HB2 := Aside0.mk (below_step HB.out hb); clear hb)
          | (go_at_call 25; refine (prefix_calls _ _).mono ?_; rw [show ((trB (tlB l[j])).data.toList.head? == some 35) = true from hc]; rintro e w3 ⟨rfl, n3, rfl⟩))
        go_roundw
        case rel => exact ⟨j, HJ2, HK2, rfl, ⟨pw_below_drewN HB2.out _⟩⟩
        case measure => exact meas3
      | false =>
        have HK2 := Aside0.mk ((keyAt_here hj hc).symm.trans HK.out)
        go_wp2_with (first
          | (go_at_call 31; refine (trim_calls _ _ HSJ.out).mono ?_; rintro e w2 ⟨rfl, hb⟩; have HB2 := Aside0.mk (below_step HB.out hb); clear hb)
          | (go_at_call 25; refine (prefix_calls _ _).mono ?_; rw [show ((trB (tlB l[j])).data.toList.head? == some 35) = false from hc]; rintro e w3 ⟨rfl, n3, rfl⟩)
          | (go_at_call 32; refine (two_calls _ _ HSJ.out).mono ?_; rintro e w4 ⟨g, n, c4, rfl, hn, hcell, hb⟩; have HB4 := Aside0.mk (below_step (pw_below_drewN HB2.out n3) hb); clear hb))
        go_ret
        exact ⟨by rw [← HK2.out]; rfl, HB4.out⟩

set_option maxHeartbeats 400000 in
theorem zz_calls (A : Option Addr) (c : Nat) (l : List ByteArray) (i : Nat) (w : World) (hr : Kd.C Kd.string w A l.length l) (hi : i ≤ l.length) (hl : l.length ≤ 1000) (hs : ∀ s ∈ l, s.size ≤ 1000000) :
    Calls Try.prog 16 #[.slice A l.length c, .int .i64 (i : Int)] w fun e w' => e = .returned (.string (keyAt l i)) ∧ Below w.heap.size w w' := by
  have HK := Aside0.mk (fun w hr => key_calls A c l i w hr hi hl hs)
  have HR := Aside0.mk hr
  clear hr hi hl hs
  go_enter Try.func16, Try.ntmps16
  go_wp2_with (go_at_call 23; refine (HK.out _ HR.out).mono ?_; rintro e w2 ⟨rfl, hb⟩; have HB := Aside0.mk hb; clear hb)
  go_ret
  exact ⟨rfl, HB.out⟩

set_option maxHeartbeats 400000 in
theorem impl_calls (A : Option Addr) (c : Nat) (l : List ByteArray) (i : Nat) (w : World) (hr : Kd.C Kd.string w A l.length l) (hi : i ≤ l.length) (hl : l.length ≤ 1000) (hs : ∀ s ∈ l, s.size ≤ 1000000) :
    Calls Try.prog 11 #[.slice A l.length c, .int .i64 (i : Int)] w fun e w' => e = .returned (.string (keyAt l i)) ∧ Below w.heap.size w w' := by
  have HK := Aside0.mk (fun w hr => zz_calls A c l i w hr hi hl hs)
  have HR := Aside0.mk hr
  have p0 : 0 ≤ (i : Int) := Int.natCast_nonneg _
  have p1 : decide (l.length < i) = false := by simpa using hi
  clear hr hi hl hs
  go_enter Try.func11, Try.ntmps11
  go_wp2_with (go_at_call 16; refine (HK.out _ HR.out).mono ?_; rintro e w2 ⟨rfl, hb⟩; have HB := Aside0.mk hb; clear hb)
  go_ret
  exact ⟨rfl, HB.out⟩

theorem split_calls (s : ByteArray) (w : World) (hs : s.size ≤ 400000) : Calls Try.prog 18 #[.string s, .string nr] w fun e w' => ∃ ad n c, e = .returned (.slice (some ad) n c) ∧ 0 < (n : Int) ∧ w'.cell? ad = some (.string (cutB s)) ∧ Below w.heap.size w w' := by
  have hs' : s.data.size ≤ 400000 := hs
  obtain ⟨k, h⟩ := (split_evK 35 s.data.toList.length s.data.toList [] (Nat.le_refl _) (by rw [Array.length_toList]; omega) (by rw [Array.length_toList]; simp; omega)).rounds
  refine (PkySplit.spec_kySplit.calls k s nr _ w h).mono ?_
  rintro e w' ⟨v, rfl, ho, hb⟩
  obtain ⟨xs, hx⟩ := spA_head s.data.toList []
  rw [List.nil_append, hx, List.map_cons] at ho
  obtain ⟨A, c, rfl⟩ := Kd.R_slice ho
  obtain ⟨ad, rfl, hc⟩ := Kd.at_string (Kd.R_reads' ho).2.2 (0 : Int) (Int.le_refl 0) (by simp)
  refine ⟨ad, _, c, rfl, by simp, ?_, hb⟩
  rw [show (0 : Int) = ((0 : Nat) : Int) from rfl, rdOf_nat _ _ _ (by simp), Int.toNat_natCast, add_zero'] at hc
  exact hc

theorem cm_cases (s : ByteArray) : (cm s = true ∧ 0 < (trB (tlB s)).size ∧ ∀ h : 0 < (trB (tlB s)).size, (trB (tlB s))[0] = 35) ∨ (cm s = false ∧ trB (tlB s) = ByteArray.empty) ∨ (cm s = false ∧ 0 < (trB (tlB s)).size ∧ ∀ h : 0 < (trB (tlB s)).size, ¬ (trB (tlB s))[0] = 35) := by
  unfold cm
  obtain ⟨m, hm⟩ : ∃ m, trB (tlB s) = B m := ⟨(trB (tlB s)).data.toList, rfl⟩
  rw [hm]
  cases m with
  | nil => exact .inr (.inl ⟨rfl, rfl⟩)
  | cons c m =>
    have e : ∀ h : 0 < (B (c :: m)).size, (B (c :: m))[0] = c := fun _ => rfl
    have e2 : (B (c :: m)).data.toList.head? = some c := rfl
    rw [e2]
    by_cases hc : c = 35
    · exact .inl ⟨by simp [hc], by rw [B_size]; simp, fun h => (e h).trans hc⟩
    · exact .inr (.inr ⟨by simpa using hc, by rw [B_size]; simp, fun h h' => hc ((e h).symm.trans h')⟩)

set_option maxHeartbeats 1000000 in
theorem spec_calls (A : Option Addr) (c : Nat) (l : List ByteArray) (i : Nat) (w : World) (hr : Kd.C Kd.string w A l.length l) (hi : i ≤ l.length) (hl : l.length ≤ 1000) (hs : ∀ s ∈ l, s.size ≤ 400000) :
    Calls Try.prog 12 #[.slice A l.length c, .int .i64 (i : Int)] w fun e w' => e = .returned (.string (keyAt l i)) ∧ Below w.heap.size w w' := by
  have HR := Aside0.mk hr
  have HS := Aside0.mk hs
  have HI := Aside0.mk hi
  have b0 : 0 ≤ (i : Int) := Int.natCast_nonneg _
  have b1 : (i : Int) ≤ 1000 := by omega
  clear hr hs hi hl
  go_enter Try.func12, Try.ntmps12
  go_wp2
  go_loopw [1] (fun v wr => ∃ j : Nat, Aside0 (j ≤ i) ∧ Aside0 (keyAt l j = keyAt l i) ∧ v = .int .i64 ((j : Int) - 1) ∧ Aside0 (Below w.heap.size w wr)) (fun v _ => (intOf v + 1).toNat)
  case atStart => exact ⟨i, ⟨Nat.le_refl _⟩, ⟨rfl⟩, rfl, ⟨Below.refl _ _⟩⟩
  case round =>
    obtain ⟨j, HJ, HK, rfl, HB⟩ := hrel
    cases j with
    | zero =>
      have q : ((0 : Nat) : Int) - 1 = -1 := rfl
      rw [q]
      go_wp2
      go_ret
      exact ⟨by rw [← HK.out]; rfl, HB.out⟩
    | succ j =>
      rw [cast_pred]
      have hj : j < l.length := by have := HJ.out; have := HI.out; omega
      obtain ⟨ad, e0, hx⟩ := Kd.at_string (Kd.C_below HR.out HB.out) (j : Int) (Int.natCast_nonneg j) (Int.ofNat_lt.2 hj)
      cases e0
      rw [rdOf_nat _ _ _ hj, Int.toNat_natCast] at hx
      have HSJ := Aside0.mk (HS.out l[j] (List.getElem_mem hj))
      have HSM := Aside0.mk (show l[j].size ≤ 1000000 by have := HSJ.out; omega)
      have HJ2 := Aside0.mk (show j ≤ i by have := HJ.out; omega)
      have p0 : 0 ≤ (j : Int) := Int.natCast_nonneg j
      have p1 : (j : Int) < (l.length : Int) := Int.ofNat_lt.2 hj
      have p2 : (j : Int) ≤ 1000 := by have := HJ2.out; omega
      obtain ⟨t, ht⟩ : ∃ t, trB (tlB l[j]) = t := ⟨_, rfl⟩
      have hcm := cm_cases l[j]
      rw [ht] at hcm
      have HT := Aside0.mk ht
      clear ht
      rcases hcm with ⟨hc, hz, h0⟩ | ⟨hc, hz⟩ | ⟨hc, hz, h0⟩
      · have HK2 := Aside0.mk ((keyAt_skip hj hc).symm.trans HK.out)
        have e1 : t.toList.isEmpty = false := by rw [isEmpty_toList, decide_eq_false_iff_not]; rintro rfl; cases hz
        have e2 : ((t[0].toNat : Int) != 35) = false := by rw [h0 hz]; rfl
        clear hc h0
        go_wp2_with (first
          | (go_at_call 17; refine (kytrim_calls _ _ HSM.out).mono ?_; rw [HT.out]; rintro e w2 ⟨rfl, n2, rfl⟩))
        go_roundw
        case rel => exact ⟨j, HJ2, HK2, rfl, ⟨pw_below_drewN HB.out _⟩⟩
        case measure => exact meas3
      · have HK2 := Aside0.mk ((keyAt_here hj hc).symm.trans HK.out)
        have e1 : t.toList = [] := by rw [hz, ByteArray.toList_eq]; rfl
        clear hc hz
        go_wp2_with (first
          | (go_at_call 17; refine (kytrim_calls _ _ HSM.out).mono ?_; rw [HT.out]; rintro e w2 ⟨rfl, n2, rfl⟩)
          | (go_at_call 18; refine (split_calls _ _ HSJ.out).mono ?_; rintro e w4 ⟨g, n, c4, rfl, hn, hcell, hb⟩; have HB4 := Aside0.mk (below_step (pw_below_drewN HB.out n2) hb); clear hb))
        go_ret
        exact ⟨by rw [← HK2.out]; rfl, HB4.out⟩
      · have HK2 := Aside0.mk ((keyAt_here hj hc).symm.trans HK.out)
        have e1 : t.toList.isEmpty = false := by rw [isEmpty_toList, decide_eq_false_iff_not]; rintro rfl; cases hz
        have e2 : ((t[0].toNat : Int) != 35) = true := by
          have := h0 hz
          rw [bne_iff_ne]
          intro e
          exact this (UInt8.toNat_inj.1 (by show t[0].toNat = 35; omega))
        clear hc h0
        go_wp2_with (first
          | (go_at_call 17; refine (kytrim_calls _ _ HSM.out).mono ?_; rw [HT.out]; rintro e w2 ⟨rfl, n2, rfl⟩)
          | (go_at_call 18; refine (split_calls _ _ HSJ.out).mono ?_; rintro e w4 ⟨g, n, c4, rfl, hn, hcell, hb⟩; have HB4 := Aside0.mk (below_step (pw_below_drewN HB.out n2) hb); clear hb))
        go_ret
        exact ⟨by rw [← HK2.out]; rfl, HB4.out⟩

end Go.Proofs.Ytgdffbjkafbkcaa.HKeyLine
