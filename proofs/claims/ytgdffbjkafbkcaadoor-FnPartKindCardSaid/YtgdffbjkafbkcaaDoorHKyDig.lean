/- What the reference's KyDigits comes to, for texts of at most 1000 bytes. -/
import Derived.Test.YtgdffbjkafbkcaaDoorProg
import Derived.Test.YtgdffbjkafbkcaaDoorWMore
import Derived.Test.YtgdffbjkafbkcaaDoorPlain
import Derived.Test.YtgdffbjkafbkcaaDoorHDig
import Derived.Deep.LoopGhost
import Derived.OwnWalk
import Derived.WalkKit
import Derived.WalkSpells
import Derived.IntWalk
namespace Go.Proofs.YtgdffbjkafbkcaaDoor.HDig
open Go.RowKit Go.Proofs.YtgdffbjkafbkcaaDoorW.PrintWords Go.Proofs.YtgdffbjkafbkcaaDoorW.PrintLast Go.Proofs.YtgdffbjkafbkcaaDoorW.PrintMore Go.Proofs.YtgdffbjkafbkcaaDoor.Plain

def kdT (ng : Bool) (t : List UInt8) : Int × Bool := if (∀ c ∈ t, Dig c) ∧ t.length ≤ 15 then (if ng then -(num 0 t : Int) else num 0 t, decide (t ≠ [])) else (0, false)
theorem kd_T (l : List UInt8) : kd l = kdT (neg l) (body l) := rfl
theorem num_snoc (a : Nat) (l : List UInt8) (c : UInt8) : num a (l ++ [c]) = num a l * 10 + (c.toNat - 48) := by
  unfold num
  rw [List.foldl_append]
  rfl
theorem take_snoc (s : ByteArray) (k : Nat) (h : k < s.size) : s.data.toList.take (k + 1) = s.data.toList.take k ++ [s[k]] := by
  rw [List.take_succ_eq_append_getElem (by simpa using h)]
  rfl
/-- The rounds so far: digits, at most fifteen. -/
def Pre (t : ByteArray) (j : Nat) : Prop := j ≤ 15 ∧ ∀ c ∈ t.data.toList.take j, Dig c
def nv (t : ByteArray) (j : Nat) : Int := num 0 (t.data.toList.take j)
theorem pre_zero (t : ByteArray) : Pre t 0 := ⟨by omega, fun c hc => by simp at hc⟩
theorem nv_zero (t : ByteArray) : nv t 0 = 0 := by simp [nv, num]
theorem pre_next {t : ByteArray} {j : Nat} (h : Pre t j) (hj : j < t.size) (h15 : j ≤ 14) (hd : Dig t[j]) : Pre t (j + 1) := by
  refine ⟨by omega, fun c hc => ?_⟩
  rw [take_snoc t j hj] at hc
  rcases List.mem_append.1 hc with hc | hc
  · exact h.2 c hc
  · rw [List.mem_singleton.1 hc]; exact hd
theorem nv_next {t : ByteArray} {j : Nat} (hj : j < t.size) (hd : Dig t[j]) : nv t (j + 1) = 10 * nv t j + ((t[j].toNat : Int) - 48) := by
  unfold nv
  rw [take_snoc t j hj, num_snoc]
  unfold Dig at hd
  omega
theorem nv_bd {t : ByteArray} {j : Nat} (h : Pre t j) (h14 : j ≤ 14) : 0 ≤ nv t j ∧ nv t j ≤ 100000000000000 := by
  have := num_lt (t.data.toList.take j) 0 0 (by decide) h.2
  have hl : (t.data.toList.take j).length ≤ 14 := by simp; omega
  have hp := p14 (k := 0 + (t.data.toList.take j).length) (by omega)
  unfold nv
  omega
theorem kd_bad {t : ByteArray} {j : Nat} (hj : j < t.size) (h : ¬ Dig t[j] ∨ 14 < j) (ng : Bool) : kdT ng t.data.toList = (0, false) := by
  unfold kdT
  rw [if_neg]
  rintro ⟨h1, h2⟩
  have hs : t.data.toList.length = t.size := data_length t
  rcases h with h | h
  · exact h (h1 _ (by have := List.getElem_mem (l := t.data.toList) (n := j) (by omega); exact this))
  · omega
theorem kd_good {t : ByteArray} (h : Pre t t.size) (ng : Bool) : kdT ng t.data.toList = (if ng then -(nv t t.size) else nv t t.size, decide (t.size ≠ 0)) := by
  have hs : t.data.toList.length = t.size := data_length t
  have e : t.data.toList.take t.size = t.data.toList := by rw [← hs, List.take_length]
  obtain ⟨h1, h2⟩ := h
  rw [e] at h2
  unfold kdT nv
  rw [e, if_pos ⟨h2, by omega⟩]
  congr 1
  rw [Bool.eq_iff_iff]
  simp only [decide_eq_true_eq]
  constructor
  · intro h3 h0
    exact h3 (List.eq_nil_of_length_eq_zero (by omega))
  · intro h3 h0
    rw [h0] at hs
    exact h3 hs.symm
theorem kd_sign (s : ByteArray) (h : s.size ≠ 0) (hc : s[0].toNat = 43 ∨ s[0].toNat = 45) : kd s.data.toList = kdT (decide (s[0].toNat = 45)) (s.extract 1 s.size).data.toList := by
  have e : (s.extract 1 s.size).data.toList = s.data.toList.drop 1 := by
    rw [ByteArray.data_extract]
    simp
    exact List.take_of_length_le (by rw [List.length_tail, data_length]; exact Nat.le_refl _)
  rw [e, kd_T]
  have hs : s.data.toList.length = s.size := data_length s
  have e2 : s.data.toList = s[0] :: s.data.toList.drop 1 := List.drop_eq_getElem_cons (l := s.data.toList) (i := 0) (by omega)
  generalize hq : s.data.toList.drop 1 = q at *
  rw [e2]
  have e3 : body (s[0] :: q) = q := by rw [body_cons, if_pos hc]
  rw [e3]
  rfl
theorem kd_plain (s : ByteArray) (hc : s.size = 0 ∨ ∃ h : 0 < s.size, ¬ (s[0].toNat = 43 ∨ s[0].toNat = 45)) : kd s.data.toList = kdT false s.data.toList := by
  have hs : s.data.toList.length = s.size := data_length s
  rcases hc with hc | ⟨h, hc⟩
  · have : s.data.toList = [] := List.eq_nil_of_length_eq_zero (by omega)
    rw [this]
    rfl
  · have e2 : s.data.toList = s[0] :: s.data.toList.drop 1 := List.drop_eq_getElem_cons (l := s.data.toList) (i := 0) (by omega)
    generalize hq : s.data.toList.drop 1 = q at *
    rw [e2, kd_T, body_cons, if_neg hc]
    have : neg (s[0] :: q) = false := by
      unfold neg
      simp only [decide_eq_false_iff_not]
      exact fun h => hc (.inr h)
    rw [this]
theorem ext_size (s : ByteArray) : (s.extract 1 s.size).size = s.size - 1 := by simp

theorem nv_bd15 {t : ByteArray} {j : Nat} (h : Pre t j) : 0 ≤ nv t j ∧ nv t j ≤ 1000000000000000 := by
  have := num_lt (t.data.toList.take j) 0 0 (by decide) h.2
  have hl : (t.data.toList.take j).length ≤ 15 := by have := h.1; simp; omega
  have hp : 10 ^ (0 + (t.data.toList.take j).length) ≤ 1000000000000000 := Nat.le_trans (Nat.pow_le_pow_right (by decide) (by omega)) (show 10 ^ 15 ≤ 1000000000000000 by decide)
  unfold nv
  omega
theorem ret_pair {a b : Int} {x y : Bool} (h : a = b) (h2 : x = y) : Ending.returned (.tuple #[.int .i64 a, .bool x]) = .returned (.tuple #[.int .i64 b, .bool y]) := by rw [h, h2]
theorem empty_list {s : ByteArray} (h : s.size = 0) : s.toList = [] := by
  rw [ByteArray.toList_eq]
  exact List.eq_nil_of_length_eq_zero (by rw [Array.length_toList]; exact h)
theorem some_list {s : ByteArray} (h : s.size ≠ 0) : s.toList.isEmpty = false := by
  rw [Bool.eq_false_iff]
  intro e
  have e := List.isEmpty_iff.1 e
  rw [ByteArray.toList_eq] at e
  have := congrArg List.length e
  rw [Array.length_toList] at this
  exact h this

set_option maxHeartbeats 4000000 in
theorem digits_calls (s : ByteArray) (w : World) (hs : s.size ≤ 1000) : Calls Tryd.prog 6 #[.string s] w fun e w' => e = .returned (.tuple #[.int .i64 (kd s.data.toList).1, .bool (kd s.data.toList).2]) ∧ w = w' := by
  by_cases h0 : s.size = 0
  · have HK := Aside0.mk (kd_plain s (.inl h0))
    have h1 := empty_list h0
    have HG := Aside0.mk (kd_good (t := s) (by rw [h0]; exact pre_zero s) false)
    rw [HK.out]
    have HZ := Aside0.mk h0
    go_enter Tryd.func6, Tryd.ntmps6
    go_wp2_with fail
    go_loop [5, 6] (fun n i => i = .int .i64 0 ∧ n = .int .i64 0) (fun _ i => 0)
    case atStart => exact ⟨rfl, rfl⟩
    case round =>
      obtain ⟨rfl, rfl⟩ := hrel
      go_wp2_with fail
      go_ret2
      exact ⟨ret_pair (by rw [HG.out, HZ.out, nv_zero]; rfl) (by rw [HG.out]; simp [HZ.out]), rfl⟩
  · have h1 := some_list h0
    have hp : 0 < s.size := by omega
    have hsz := ext_size s
    by_cases c45 : (s[0].toNat : Int) = 45
    · have HK := Aside0.mk (kd_sign s h0 (.inr (by omega)))
      rw [HK.out, show decide (s[0].toNat = 45) = true by simp; omega]
      obtain ⟨t, ht⟩ : ∃ t, s.extract 1 s.size = t := ⟨_, rfl⟩
      have HT0 := Aside0.mk ht
      go_enter Tryd.func6, Tryd.ntmps6
      go_wp2_with fail
      go_loop [5, 6] (fun n i => ∃ (j : Nat) (m : Int), j ≤ t.size ∧ i = .int .i64 j ∧ n = .int .i64 m ∧ Aside0 (m = nv t j) ∧ Aside0 (Pre t j)) (fun _ i => t.size - (intOf i).toNat)
      case atStart => exact ⟨0, 0, Nat.zero_le _, rfl, rfl, ⟨(nv_zero _).symm⟩, ⟨pre_zero _⟩⟩
      case round =>
        obtain ⟨j, m, hj, rfl, rfl, HM, HP⟩ := hrel
        have hj2 := HP.out.1
        by_cases hlt : j < t.size
        · have HLT := Aside0.mk hlt
          by_cases hd : Dig t[j]
          · have hd1 := hd.1
            have hd2 := hd.2
            have hd3 : 48 ≤ (t[j].toNat : Int) := by omega
            have hd4 : (t[j].toNat : Int) ≤ 57 := by omega
            have HD := Aside0.mk hd
            clear hd
            by_cases h14 : j ≤ 14
            · have m1 : 0 ≤ m := by have := nv_bd HP.out h14; have := HM.out; omega
              have m2 : m ≤ 100000000000000 := by have := nv_bd HP.out h14; have := HM.out; omega
              have HN := Aside0.mk (show 10 * m + ((t[j].toNat : Int) - 48) = nv t (j + 1) by rw [nv_next hlt HD.out, HM.out])
              have HP2 := Aside0.mk (pre_next HP.out hlt h14 HD.out)
              have h14' : ¬ 14 < (j : Int) := by omega
              go_wp2_with fail
              go_round
              case rel => exact ⟨j + 1, _, HLT.out, rfl, rfl, HN, HP2⟩
              case measure => simp only [intOf]; omega
            · have h14' : 14 < (j : Int) := by omega
              have HB := Aside0.mk (kd_bad hlt (.inr (by omega)) true)
              go_wp2_with fail
              go_ret2
              exact ⟨by rw [HB.out]; rfl, rfl⟩
          · have HB := Aside0.mk (kd_bad hlt (.inl hd) true)
            by_cases hlo : (t[j].toNat : Int) < 48
            · clear hd
              go_wp2_with fail
              go_ret2
              exact ⟨by rw [HB.out]; rfl, rfl⟩
            · have hhi : 57 < (t[j].toNat : Int) := by unfold Dig at hd; omega
              clear hd
              go_wp2_with fail
              go_ret2
              exact ⟨by rw [HB.out]; rfl, rfl⟩
        · have e : j = t.size := by omega
          have HE := Aside0.mk e
          have HG := Aside0.mk (kd_good (t := t) (by rw [← e]; exact HP.out) true)
          have m0 := nv_bd15 HP.out
          have m1 : 0 ≤ m := by have := HM.out; omega
          have m2 : m ≤ 1000000000000000 := by have := HM.out; omega
          clear e m0
          by_cases ht0 : t.size = 0
          · have HT := Aside0.mk ht0
            have ht := empty_list ht0
            clear ht0
            go_wp2_with fail
            go_ret2
            exact ⟨ret_pair (by rw [HG.out, HM.out, HE.out]; rfl) (by rw [HG.out]; simp [HT.out]), rfl⟩
          · have HT := Aside0.mk ht0
            have ht := some_list ht0
            go_wp2_with fail
            go_ret2
            exact ⟨ret_pair (by rw [HG.out, HM.out, HE.out]; rfl) (by rw [HG.out]; simp [HT.out]), rfl⟩
    · have c45' : ((s[0].toNat : Int) == 45) = false := by simp; omega
      by_cases c43 : (s[0].toNat : Int) = 43
      · have HK := Aside0.mk (kd_sign s h0 (.inl (by omega)))
        rw [HK.out, show decide (s[0].toNat = 45) = false by simp; omega]
        obtain ⟨t, ht⟩ : ∃ t, s.extract 1 s.size = t := ⟨_, rfl⟩
        have HT0 := Aside0.mk ht
        go_enter Tryd.func6, Tryd.ntmps6
        go_wp2_with fail
        go_loop [5, 6] (fun n i => ∃ (j : Nat) (m : Int), j ≤ t.size ∧ i = .int .i64 j ∧ n = .int .i64 m ∧ Aside0 (m = nv t j) ∧ Aside0 (Pre t j)) (fun _ i => t.size - (intOf i).toNat)
        case atStart => exact ⟨0, 0, Nat.zero_le _, rfl, rfl, ⟨(nv_zero _).symm⟩, ⟨pre_zero _⟩⟩
        case round =>
          obtain ⟨j, m, hj, rfl, rfl, HM, HP⟩ := hrel
          have hj2 := HP.out.1
          by_cases hlt : j < t.size
          · have HLT := Aside0.mk hlt
            by_cases hd : Dig t[j]
            · have hd1 := hd.1
              have hd2 := hd.2
              have hd3 : 48 ≤ (t[j].toNat : Int) := by omega
              have hd4 : (t[j].toNat : Int) ≤ 57 := by omega
              have HD := Aside0.mk hd
              clear hd
              by_cases h14 : j ≤ 14
              · have m1 : 0 ≤ m := by have := nv_bd HP.out h14; have := HM.out; omega
                have m2 : m ≤ 100000000000000 := by have := nv_bd HP.out h14; have := HM.out; omega
                have HN := Aside0.mk (show 10 * m + ((t[j].toNat : Int) - 48) = nv t (j + 1) by rw [nv_next hlt HD.out, HM.out])
                have HP2 := Aside0.mk (pre_next HP.out hlt h14 HD.out)
                have h14' : ¬ 14 < (j : Int) := by omega
                go_wp2_with fail
                go_round
                case rel => exact ⟨j + 1, _, HLT.out, rfl, rfl, HN, HP2⟩
                case measure => simp only [intOf]; omega
              · have h14' : 14 < (j : Int) := by omega
                have HB := Aside0.mk (kd_bad hlt (.inr (by omega)) false)
                go_wp2_with fail
                go_ret2
                exact ⟨by rw [HB.out]; rfl, rfl⟩
            · have HB := Aside0.mk (kd_bad hlt (.inl hd) false)
              by_cases hlo : (t[j].toNat : Int) < 48
              · clear hd
                go_wp2_with fail
                go_ret2
                exact ⟨by rw [HB.out]; rfl, rfl⟩
              · have hhi : 57 < (t[j].toNat : Int) := by unfold Dig at hd; omega
                clear hd
                go_wp2_with fail
                go_ret2
                exact ⟨by rw [HB.out]; rfl, rfl⟩
          · have e : j = t.size := by omega
            have HE := Aside0.mk e
            have HG := Aside0.mk (kd_good (t := t) (by rw [← e]; exact HP.out) false)
            have m0 := nv_bd15 HP.out
            have m1 : 0 ≤ m := by have := HM.out; omega
            have m2 : m ≤ 1000000000000000 := by have := HM.out; omega
            clear e m0
            by_cases ht0 : t.size = 0
            · have HT := Aside0.mk ht0
              have ht := empty_list ht0
              clear ht0
              go_wp2_with fail
              go_ret2
              exact ⟨ret_pair (by rw [HG.out, HM.out, HE.out]; rfl) (by rw [HG.out]; simp [HT.out]), rfl⟩
            · have HT := Aside0.mk ht0
              have ht := some_list ht0
              go_wp2_with fail
              go_ret2
              exact ⟨ret_pair (by rw [HG.out, HM.out, HE.out]; rfl) (by rw [HG.out]; simp [HT.out]), rfl⟩
      · have c43' : ((s[0].toNat : Int) == 43) = false := by simp; omega
        have HK := Aside0.mk (kd_plain s (.inr ⟨hp, by omega⟩))
        rw [HK.out]
        go_enter Tryd.func6, Tryd.ntmps6
        go_wp2_with fail
        go_loop [5, 6] (fun n i => ∃ (j : Nat) (m : Int), j ≤ s.size ∧ i = .int .i64 j ∧ n = .int .i64 m ∧ Aside0 (m = nv s j) ∧ Aside0 (Pre s j)) (fun _ i => s.size - (intOf i).toNat)
        case atStart => exact ⟨0, 0, Nat.zero_le _, rfl, rfl, ⟨(nv_zero _).symm⟩, ⟨pre_zero _⟩⟩
        case round =>
          obtain ⟨j, m, hj, rfl, rfl, HM, HP⟩ := hrel
          have hj2 := HP.out.1
          by_cases hlt : j < s.size
          · have HLT := Aside0.mk hlt
            by_cases hd : Dig s[j]
            · have hd1 := hd.1
              have hd2 := hd.2
              have hd3 : 48 ≤ (s[j].toNat : Int) := by omega
              have hd4 : (s[j].toNat : Int) ≤ 57 := by omega
              have HD := Aside0.mk hd
              clear hd
              by_cases h14 : j ≤ 14
              · have m1 : 0 ≤ m := by have := nv_bd HP.out h14; have := HM.out; omega
                have m2 : m ≤ 100000000000000 := by have := nv_bd HP.out h14; have := HM.out; omega
                have HN := Aside0.mk (show 10 * m + ((s[j].toNat : Int) - 48) = nv s (j + 1) by rw [nv_next hlt HD.out, HM.out])
                have HP2 := Aside0.mk (pre_next HP.out hlt h14 HD.out)
                have h14' : ¬ 14 < (j : Int) := by omega
                go_wp2_with fail
                go_round
                case rel => exact ⟨j + 1, _, HLT.out, rfl, rfl, HN, HP2⟩
                case measure => simp only [intOf]; omega
              · have h14' : 14 < (j : Int) := by omega
                have HB := Aside0.mk (kd_bad hlt (.inr (by omega)) false)
                go_wp2_with fail
                go_ret2
                exact ⟨by rw [HB.out]; rfl, rfl⟩
            · have HB := Aside0.mk (kd_bad hlt (.inl hd) false)
              by_cases hlo : (s[j].toNat : Int) < 48
              · clear hd
                go_wp2_with fail
                go_ret2
                exact ⟨by rw [HB.out]; rfl, rfl⟩
              · have hhi : 57 < (s[j].toNat : Int) := by unfold Dig at hd; omega
                clear hd
                go_wp2_with fail
                go_ret2
                exact ⟨by rw [HB.out]; rfl, rfl⟩
          · have e : j = s.size := by omega
            have HE := Aside0.mk e
            have HG := Aside0.mk (kd_good (t := s) (by rw [← e]; exact HP.out) false)
            have m0 := nv_bd15 HP.out
            have m1 : 0 ≤ m := by have := HM.out; omega
            have m2 : m ≤ 1000000000000000 := by have := HM.out; omega
            clear e m0
            by_cases ht0 : s.size = 0
            · have HT := Aside0.mk ht0
              have ht := empty_list ht0
              clear ht0
              go_wp2_with fail
              go_ret2
              exact ⟨ret_pair (by rw [HG.out, HM.out, HE.out]; rfl) (by rw [HG.out]; simp [HT.out]), rfl⟩
            · have HT := Aside0.mk ht0
              have ht := some_list ht0
              go_wp2_with fail
              go_ret2
              exact ⟨ret_pair (by rw [HG.out, HM.out, HE.out]; rfl) (by rw [HG.out]; simp [HT.out]), rfl⟩

end Go.Proofs.YtgdffbjkafbkcaaDoor.HDig
