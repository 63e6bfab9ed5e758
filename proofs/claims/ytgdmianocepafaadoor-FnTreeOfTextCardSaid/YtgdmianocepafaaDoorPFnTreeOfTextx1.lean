-- PRINTED BY print.sh 35421559b90ae4d0a3588c463048766b98c2df88dd9212a6774a882060cdf62d: not written by this session
import Derived.Test.YtgdmianocepafaaDoorPFnTreeOfTextx0
namespace Go.Proofs.YtgdmianocepafaaDoor.PFnTreeOfText
open Go.RowKit Go.Proofs.YtgdmianocepafaaDoorW.PrintWords Go.Proofs.YtgdmianocepafaaDoorW.PrintLast Go.Proofs.YtgdmianocepafaaDoorW.PrintMore
attribute [local go_sem] max2_int min2_int max_two min_two max_three min_three max_four min_four   -- for this text's walks alone
set_option linter.unusedVariables false
set_option linter.unusedSimpArgs false

/-! ### spec_mgWord: function 8 -/
def spec_mgWord.l0 : Nat → ByteArray → Int → Int → Option (Bool)
  | 0, _, _, _ => none
  | k + 1, x0, x5, x6 => if x6 < x5 then (if 0 ≤ x6 then (if x6 < (x0.size : Int) then (if (bt x0 x6) < 97 then (some false) else (if (bt x0 x6) > 122 then (some false) else (spec_mgWord.l0 k x0 x5 (wrap64 (x6 + 1))))) else (none)) else (none)) else (if x0.toList = ([121] : List UInt8) then (some false) else (if x0.toList = ([110] : List UInt8) then (some false) else (if x0.toList = ([121, 101, 115] : List UInt8) then (some false) else (if x0.toList = ([110, 111] : List UInt8) then (some false) else (if x0.toList = ([111, 110] : List UInt8) then (some false) else (if x0.toList = ([111, 102, 102] : List UInt8) then (some false) else (if x0.toList = ([116, 114, 117, 101] : List UInt8) then (some false) else (if x0.toList = ([102, 97, 108, 115, 101] : List UInt8) then (some false) else (if x0.toList = ([110, 117, 108, 108] : List UInt8) then (some false) else (if x0.toList = ([] : List UInt8) then (some false) else (some (decide ((x0.size : Int) ≤ 20)))))))))))))
def spec_mgWord.f (k : Nat) (a0 : ByteArray) : Option (Bool) := spec_mgWord.l0 k a0 (a0.size : Int) 0
theorem spec_mgWord.mono_l : ∀ k, (∀ y0 y1 y2, LeO (spec_mgWord.l0 k y0 y1 y2) (spec_mgWord.l0 (k + 1) y0 y1 y2))
  | 0 => fun _ _ _ r h => by simp [spec_mgWord.l0] at h
  | k + 1 => by
    have ih0 := spec_mgWord.mono_l k
    · intro y0 y1 y2
      unfold spec_mgWord.l0
      repeat' first
      | (with_reducible exact ih0 _ _ _)
      | (with_reducible exact LeO.refl _)
      | (with_reducible exact LeO.none _)
      | (with_reducible refine LeO.ite ?_ ?_)
      | (with_reducible refine LeO.bind ?_ (fun _ => ?_))
      | exact ih0 _ _ _
      | exact LeO.none _
      | refine LeO.ite ?_ ?_
      | refine LeO.bind ?_ (fun _ => ?_)
theorem spec_mgWord.mono : ∀ a0 k, LeO (spec_mgWord.f k a0) (spec_mgWord.f (k + 1) a0) := by
  intro a0 k
  have ih0 := spec_mgWord.mono_l k
  unfold spec_mgWord.f
  repeat' first
      | (with_reducible exact ih0 _ _ _)
      | (with_reducible exact LeO.refl _)
      | (with_reducible exact LeO.none _)
      | (with_reducible refine LeO.ite ?_ ?_)
      | (with_reducible refine LeO.bind ?_ (fun _ => ?_))
      | exact ih0 _ _ _
      | exact LeO.none _
      | refine LeO.ite ?_ ?_
      | refine LeO.bind ?_ (fun _ => ?_)
set_option maxHeartbeats 8000000 in
set_option maxRecDepth 100000 in
theorem spec_mgWord.calls (k : Nat) (a0 : ByteArray) (r : Bool) (w : World) (h : spec_mgWord.f k a0 = some r) :
    Calls Tryd.prog 8 #[.string a0] w fun e w' => e = .returned (.bool r) ∧ Drawn0 w w' := by
  have H : (spec_mgWord.l0 k a0 (a0.size : Int) 0) = some r := h
  clear h
  have H' := Aside0.mk H
  clear H
  go_enter Tryd.func8, Tryd.ntmps8
  go_wp2
  go_loopg [6] k (fun kq v6 w' => ∃ (x6_1 : Int), v6 = .int .i64 x6_1 ∧ Aside0 (spec_mgWord.l0 kq a0 (a0.size : Int) x6_1 = some r) ∧ Aside0 (kq ≤ k) ∧ Drawn0 w w')
  case atStart => exact ⟨(0), (by first | rfl | (simp; done) | (simp [*]; done)), H', ⟨Nat.le_refl _⟩, by repeat (first | exact Drawn0.refl _ | apply Drawn0.step)⟩
  case round =>
    clear H'
    obtain ⟨x6_1, rfl, HA, HK1, ⟨m1, rfl⟩⟩ := hrel
    cases gk with
    | zero => exact absurd HA.out (by simp [spec_mgWord.l0])
    | succ k1 =>
      have H := HA.out
      clear HA
      simp only [spec_mgWord.l0] at H
      by_cases c2 : x6_1 < (a0.size : Int)
      · rw [if_pos c2] at H
        have c2b0 : decide (x6_1 < (a0.size : Int)) = true := decide_eq_true c2
        clear c2
        by_cases c3 : 0 ≤ x6_1
        · rw [if_pos c3] at H
          have c3b0 : decide (0 ≤ x6_1) = true := decide_eq_true c3
          clear c3
          by_cases c4 : x6_1 < (a0.size : Int)
          · rw [if_pos c4] at H
            have c4b0 : decide (x6_1 < (a0.size : Int)) = true := decide_eq_true c4
            clear c4
            by_cases c6 : (bt a0 x6_1) < 97
            · rw [if_pos c6] at H
              have c6b0 : decide ((bt a0 x6_1) < 97) = true := decide_eq_true c6
              clear c6
              obtain rfl := Option.some.inj H
              have p5 : 0 ≤ (x6_1 : Int) := of_decide_eq_true (by first | (with_reducible assumption) | assumption)
              have q5 : x6_1 < (a0.size : Int) := of_decide_eq_true (by first | (with_reducible assumption) | assumption)
              have hx5 := bt_at a0 x6_1
              replace p5 := eq_true p5
              replace q5 := eq_true q5
              go_wp2
              go_ret
              exact ⟨by first | rfl | (simp; done) | (simp [*]; done), by repeat (first | exact Drawn0.refl _ | apply Drawn0.step)⟩
            · rw [if_neg c6] at H
              have c6b0 : decide ((bt a0 x6_1) < 97) = false := decide_eq_false c6
              clear c6
              by_cases c8 : (bt a0 x6_1) > 122
              · rw [if_pos c8] at H
                have c8b0 : decide (122 < (bt a0 x6_1)) = true := decide_eq_true c8
                clear c8
                obtain rfl := Option.some.inj H
                have p5 : 0 ≤ (x6_1 : Int) := of_decide_eq_true (by first | (with_reducible assumption) | assumption)
                have q5 : x6_1 < (a0.size : Int) := of_decide_eq_true (by first | (with_reducible assumption) | assumption)
                have hx5 := bt_at a0 x6_1
                replace p5 := eq_true p5
                replace q5 := eq_true q5
                have p7 : 0 ≤ (x6_1 : Int) := of_decide_eq_true (by first | (with_reducible assumption) | assumption)
                have q7 : x6_1 < (a0.size : Int) := of_decide_eq_true (by first | (with_reducible assumption) | assumption)
                have hx7 := bt_at a0 x6_1
                replace p7 := eq_true p7
                replace q7 := eq_true q7
                go_wp2
                go_ret
                exact ⟨by first | rfl | (simp; done) | (simp [*]; done), by repeat (first | exact Drawn0.refl _ | apply Drawn0.step)⟩
              · rw [if_neg c8] at H
                have c8b0 : decide (122 < (bt a0 x6_1)) = false := decide_eq_false c8
                clear c8
                have H' := Aside0.mk H
                clear H
                have p5 : 0 ≤ (x6_1 : Int) := of_decide_eq_true (by first | (with_reducible assumption) | assumption)
                have q5 : x6_1 < (a0.size : Int) := of_decide_eq_true (by first | (with_reducible assumption) | assumption)
                have hx5 := bt_at a0 x6_1
                replace p5 := eq_true p5
                replace q5 := eq_true q5
                have p7 : 0 ≤ (x6_1 : Int) := of_decide_eq_true (by first | (with_reducible assumption) | assumption)
                have q7 : x6_1 < (a0.size : Int) := of_decide_eq_true (by first | (with_reducible assumption) | assumption)
                have hx7 := bt_at a0 x6_1
                replace p7 := eq_true p7
                replace q7 := eq_true q7
                go_wp2
                go_roundg k1
                case measure => have := HK1.out; omega
                case rel => exact ⟨(wrap64 (x6_1 + 1)), (by first | rfl | (simp; done) | (simp [*]; done)), H', ⟨by have := HK1.out; omega⟩, by repeat (first | exact Drawn0.refl _ | apply Drawn0.step)⟩
          · rw [if_neg c4] at H
            exact absurd H (by simp)
        · rw [if_neg c3] at H
          exact absurd H (by simp)
      · rw [if_neg c2] at H
        have c2b0 : decide (x6_1 < (a0.size : Int)) = false := decide_eq_false c2
        clear c2
        by_cases c9 : a0.toList = ([121] : List UInt8)
        · rw [if_pos c9] at H
          have c9b0 : (a0.toList == ([121] : List UInt8)) = true := beq_iff_eq.mpr c9
          have c9b1 : (a0.toList != ([121] : List UInt8)) = false := bne_eq_false_iff_eq.mpr c9
          clear c9
          obtain rfl := Option.some.inj H
          go_wp2
          go_ret
          exact ⟨by first | rfl | (simp; done) | (simp [*]; done), by repeat (first | exact Drawn0.refl _ | apply Drawn0.step)⟩
        · rw [if_neg c9] at H
          have c9b0 : (a0.toList == ([121] : List UInt8)) = false := beq_eq_false_iff_ne.mpr c9
          have c9b1 : (a0.toList != ([121] : List UInt8)) = true := bne_iff_ne.mpr c9
          by_cases c10 : a0.toList = ([110] : List UInt8)
          · rw [if_pos c10] at H
            have c10b0 : (a0.toList == ([110] : List UInt8)) = true := beq_iff_eq.mpr c10
            have c10b1 : (a0.toList != ([110] : List UInt8)) = false := bne_eq_false_iff_eq.mpr c10
            clear c10
            obtain rfl := Option.some.inj H
            go_wp2
            go_ret
            exact ⟨by first | rfl | (simp; done) | (simp [*]; done), by repeat (first | exact Drawn0.refl _ | apply Drawn0.step)⟩
          · rw [if_neg c10] at H
            have c10b0 : (a0.toList == ([110] : List UInt8)) = false := beq_eq_false_iff_ne.mpr c10
            have c10b1 : (a0.toList != ([110] : List UInt8)) = true := bne_iff_ne.mpr c10
            by_cases c11 : a0.toList = ([121, 101, 115] : List UInt8)
            · rw [if_pos c11] at H
              have c11b0 : (a0.toList == ([121, 101, 115] : List UInt8)) = true := beq_iff_eq.mpr c11
              have c11b1 : (a0.toList != ([121, 101, 115] : List UInt8)) = false := bne_eq_false_iff_eq.mpr c11
              clear c11
              obtain rfl := Option.some.inj H
              go_wp2
              go_ret
              exact ⟨by first | rfl | (simp; done) | (simp [*]; done), by repeat (first | exact Drawn0.refl _ | apply Drawn0.step)⟩
            · rw [if_neg c11] at H
              have c11b0 : (a0.toList == ([121, 101, 115] : List UInt8)) = false := beq_eq_false_iff_ne.mpr c11
              have c11b1 : (a0.toList != ([121, 101, 115] : List UInt8)) = true := bne_iff_ne.mpr c11
              by_cases c12 : a0.toList = ([110, 111] : List UInt8)
              · rw [if_pos c12] at H
                have c12b0 : (a0.toList == ([110, 111] : List UInt8)) = true := beq_iff_eq.mpr c12
                have c12b1 : (a0.toList != ([110, 111] : List UInt8)) = false := bne_eq_false_iff_eq.mpr c12
                clear c12
                obtain rfl := Option.some.inj H
                go_wp2
                go_ret
                exact ⟨by first | rfl | (simp; done) | (simp [*]; done), by repeat (first | exact Drawn0.refl _ | apply Drawn0.step)⟩
              · rw [if_neg c12] at H
                have c12b0 : (a0.toList == ([110, 111] : List UInt8)) = false := beq_eq_false_iff_ne.mpr c12
                have c12b1 : (a0.toList != ([110, 111] : List UInt8)) = true := bne_iff_ne.mpr c12
                by_cases c13 : a0.toList = ([111, 110] : List UInt8)
                · rw [if_pos c13] at H
                  have c13b0 : (a0.toList == ([111, 110] : List UInt8)) = true := beq_iff_eq.mpr c13
                  have c13b1 : (a0.toList != ([111, 110] : List UInt8)) = false := bne_eq_false_iff_eq.mpr c13
                  clear c13
                  obtain rfl := Option.some.inj H
                  go_wp2
                  go_ret
                  exact ⟨by first | rfl | (simp; done) | (simp [*]; done), by repeat (first | exact Drawn0.refl _ | apply Drawn0.step)⟩
                · rw [if_neg c13] at H
                  have c13b0 : (a0.toList == ([111, 110] : List UInt8)) = false := beq_eq_false_iff_ne.mpr c13
                  have c13b1 : (a0.toList != ([111, 110] : List UInt8)) = true := bne_iff_ne.mpr c13
                  by_cases c14 : a0.toList = ([111, 102, 102] : List UInt8)
                  · rw [if_pos c14] at H
                    have c14b0 : (a0.toList == ([111, 102, 102] : List UInt8)) = true := beq_iff_eq.mpr c14
                    have c14b1 : (a0.toList != ([111, 102, 102] : List UInt8)) = false := bne_eq_false_iff_eq.mpr c14
                    clear c14
                    obtain rfl := Option.some.inj H
                    go_wp2
                    go_ret
                    exact ⟨by first | rfl | (simp; done) | (simp [*]; done), by repeat (first | exact Drawn0.refl _ | apply Drawn0.step)⟩
                  · rw [if_neg c14] at H
                    have c14b0 : (a0.toList == ([111, 102, 102] : List UInt8)) = false := beq_eq_false_iff_ne.mpr c14
                    have c14b1 : (a0.toList != ([111, 102, 102] : List UInt8)) = true := bne_iff_ne.mpr c14
                    by_cases c15 : a0.toList = ([116, 114, 117, 101] : List UInt8)
                    · rw [if_pos c15] at H
                      have c15b0 : (a0.toList == ([116, 114, 117, 101] : List UInt8)) = true := beq_iff_eq.mpr c15
                      have c15b1 : (a0.toList != ([116, 114, 117, 101] : List UInt8)) = false := bne_eq_false_iff_eq.mpr c15
                      clear c15
                      obtain rfl := Option.some.inj H
                      go_wp2
                      go_ret
                      exact ⟨by first | rfl | (simp; done) | (simp [*]; done), by repeat (first | exact Drawn0.refl _ | apply Drawn0.step)⟩
                    · rw [if_neg c15] at H
                      have c15b0 : (a0.toList == ([116, 114, 117, 101] : List UInt8)) = false := beq_eq_false_iff_ne.mpr c15
                      have c15b1 : (a0.toList != ([116, 114, 117, 101] : List UInt8)) = true := bne_iff_ne.mpr c15
                      by_cases c16 : a0.toList = ([102, 97, 108, 115, 101] : List UInt8)
                      · rw [if_pos c16] at H
                        have c16b0 : (a0.toList == ([102, 97, 108, 115, 101] : List UInt8)) = true := beq_iff_eq.mpr c16
                        have c16b1 : (a0.toList != ([102, 97, 108, 115, 101] : List UInt8)) = false := bne_eq_false_iff_eq.mpr c16
                        clear c16
                        obtain rfl := Option.some.inj H
                        go_wp2
                        go_ret
                        exact ⟨by first | rfl | (simp; done) | (simp [*]; done), by repeat (first | exact Drawn0.refl _ | apply Drawn0.step)⟩
                      · rw [if_neg c16] at H
                        have c16b0 : (a0.toList == ([102, 97, 108, 115, 101] : List UInt8)) = false := beq_eq_false_iff_ne.mpr c16
                        have c16b1 : (a0.toList != ([102, 97, 108, 115, 101] : List UInt8)) = true := bne_iff_ne.mpr c16
                        by_cases c17 : a0.toList = ([110, 117, 108, 108] : List UInt8)
                        · rw [if_pos c17] at H
                          have c17b0 : (a0.toList == ([110, 117, 108, 108] : List UInt8)) = true := beq_iff_eq.mpr c17
                          have c17b1 : (a0.toList != ([110, 117, 108, 108] : List UInt8)) = false := bne_eq_false_iff_eq.mpr c17
                          clear c17
                          obtain rfl := Option.some.inj H
                          go_wp2
                          go_ret
                          exact ⟨by first | rfl | (simp; done) | (simp [*]; done), by repeat (first | exact Drawn0.refl _ | apply Drawn0.step)⟩
                        · rw [if_neg c17] at H
                          have c17b0 : (a0.toList == ([110, 117, 108, 108] : List UInt8)) = false := beq_eq_false_iff_ne.mpr c17
                          have c17b1 : (a0.toList != ([110, 117, 108, 108] : List UInt8)) = true := bne_iff_ne.mpr c17
                          by_cases c18 : a0.toList = ([] : List UInt8)
                          · rw [if_pos c18] at H
                            have c18b0 : (a0.toList == ([] : List UInt8)) = true := beq_iff_eq.mpr c18
                            have c18b1 : (a0.toList != ([] : List UInt8)) = false := bne_eq_false_iff_eq.mpr c18
                            clear c18
                            obtain rfl := Option.some.inj H
                            go_wp2
                            go_ret
                            exact ⟨by first | rfl | (simp; done) | (simp [*]; done), by repeat (first | exact Drawn0.refl _ | apply Drawn0.step)⟩
                          · rw [if_neg c18] at H
                            have c18b0 : (a0.toList == ([] : List UInt8)) = false := beq_eq_false_iff_ne.mpr c18
                            have c18b1 : (a0.toList != ([] : List UInt8)) = true := bne_iff_ne.mpr c18
                            obtain rfl := Option.some.inj H
                            go_wp2
                            go_ret
                            exact ⟨by first | rfl | (simp; done) | (simp [*]; done), by repeat (first | exact Drawn0.refl _ | apply Drawn0.step)⟩

/-! ### spec_Word: function 4 -/
def spec_Word.f (k : Nat) (a0 : ByteArray) : Option (Bool) := (spec_mgWord.f k a0).bind fun t101 => (some t101)
theorem spec_Word.mono : ∀ a0 k, LeO (spec_Word.f k a0) (spec_Word.f (k + 1) a0) := by
  intro a0 k
  unfold spec_Word.f
  repeat' first
      | (with_reducible exact spec_mgWord.mono _ _)
      | (with_reducible exact LeO.refl _)
      | (with_reducible exact LeO.none _)
      | (with_reducible refine LeO.ite ?_ ?_)
      | (with_reducible refine LeO.bind ?_ (fun _ => ?_))
      | exact spec_mgWord.mono _ _
      | exact LeO.none _
      | refine LeO.ite ?_ ?_
      | refine LeO.bind ?_ (fun _ => ?_)
set_option maxHeartbeats 8000000 in
set_option maxRecDepth 100000 in
theorem spec_Word.calls (k : Nat) (a0 : ByteArray) (r : Bool) (w : World) (h : spec_Word.f k a0 = some r) :
    Calls Tryd.prog 4 #[.string a0] w fun e w' => e = .returned (.bool r) ∧ Drawn0 w w' := by
  have H : ((spec_mgWord.f k a0).bind fun t101 => (some t101)) = some r := h
  clear h
  replace H := Option.bind_eq_some_iff.mp H
  obtain ⟨t101, A20, H⟩ := H
  replace H : (some t101) = some r := H
  have A2 := Aside0.mk A20
  clear A20
  obtain rfl := Option.some.inj H
  go_enter Tryd.func4, Tryd.ntmps4
  go_wp2_with (first | ((with_reducible refine gate_callee (f := 8) rfl ?_); refine goesL_ (some 4) rfl rfl Tryd.func8 (by kernel_rfl) rfl #[.string a0] rfl (by (try simp only [List.map_toArray, List.map_cons, List.map_nil]); first | done | rfl | (simp only [List.length_drop, List.length_take]; rfl)) ?_; (with_reducible refine (spec_mgWord.calls k a0 t101 _ A2.out).mono ?_); rintro e w' ⟨rfl, ⟨nd, rfl⟩⟩; refine ⟨_, rfl, ?_⟩))
  go_ret
  exact ⟨by first | rfl | (simp; done) | (simp [*]; done), by repeat (first | exact Drawn0.refl _ | apply Drawn0.step)⟩

-- NOT PRINTED: function 13 (yaml_RNode_Document)

-- NOT PRINTED: function 14 (impl_node)

-- NOT PRINTED: function 15 (impl_listed)

-- NOT PRINTED: function 9 (impl_treeOf)

/-! ### utf8_word_string: function 21 -/
def utf8_word_string.f (a0 : ByteArray) : Option (Int) := if 0 < (a0.size : Int) then (if 1 < (a0.size : Int) then (if 2 < (a0.size : Int) then (if 3 < (a0.size : Int) then (if 4 < (a0.size : Int) then (if 5 < (a0.size : Int) then (if 6 < (a0.size : Int) then (if 7 < (a0.size : Int) then (some (Go.bits .or .u64 (Go.bits .or .u64 (Go.bits .or .u64 (Go.bits .or .u64 (Go.bits .or .u64 (Go.bits .or .u64 (Go.bits .or .u64 (IntKind.u64.wrap (bt a0 0)) (IntKind.u64.wrap ((IntKind.u64.wrap (bt a0 1)) * 256))) (IntKind.u64.wrap ((IntKind.u64.wrap (bt a0 2)) * 65536))) (IntKind.u64.wrap ((IntKind.u64.wrap (bt a0 3)) * 16777216))) (IntKind.u64.wrap ((IntKind.u64.wrap (bt a0 4)) * 4294967296))) (IntKind.u64.wrap ((IntKind.u64.wrap (bt a0 5)) * 1099511627776))) (IntKind.u64.wrap ((IntKind.u64.wrap (bt a0 6)) * 281474976710656))) (IntKind.u64.wrap ((IntKind.u64.wrap (bt a0 7)) * 72057594037927936)))) else (none)) else (none)) else (none)) else (none)) else (none)) else (none)) else (none)) else (none)
set_option maxHeartbeats 8000000 in
set_option maxRecDepth 100000 in
theorem utf8_word_string.calls (a0 : ByteArray) (r : Int) (w : World) (h : utf8_word_string.f a0 = some r) :
    Calls Tryd.prog 21 #[.string a0] w fun e w' => e = .returned (.int .u64 r) ∧ Drawn0 w w' := by
  have H : (if 0 < (a0.size : Int) then (if 1 < (a0.size : Int) then (if 2 < (a0.size : Int) then (if 3 < (a0.size : Int) then (if 4 < (a0.size : Int) then (if 5 < (a0.size : Int) then (if 6 < (a0.size : Int) then (if 7 < (a0.size : Int) then (some (Go.bits .or .u64 (Go.bits .or .u64 (Go.bits .or .u64 (Go.bits .or .u64 (Go.bits .or .u64 (Go.bits .or .u64 (Go.bits .or .u64 (IntKind.u64.wrap (bt a0 0)) (IntKind.u64.wrap ((IntKind.u64.wrap (bt a0 1)) * 256))) (IntKind.u64.wrap ((IntKind.u64.wrap (bt a0 2)) * 65536))) (IntKind.u64.wrap ((IntKind.u64.wrap (bt a0 3)) * 16777216))) (IntKind.u64.wrap ((IntKind.u64.wrap (bt a0 4)) * 4294967296))) (IntKind.u64.wrap ((IntKind.u64.wrap (bt a0 5)) * 1099511627776))) (IntKind.u64.wrap ((IntKind.u64.wrap (bt a0 6)) * 281474976710656))) (IntKind.u64.wrap ((IntKind.u64.wrap (bt a0 7)) * 72057594037927936)))) else (none)) else (none)) else (none)) else (none)) else (none)) else (none)) else (none)) else (none)) = some r := h
  clear h
  by_cases c2 : 0 < (a0.size : Int)
  · rw [if_pos c2] at H
    have c2b0 : decide (0 < (a0.size : Int)) = true := decide_eq_true c2
    have c2b1 : decide (0 < a0.size) = true := decide_eq_true (by omega)
    clear c2
    by_cases c4 : 1 < (a0.size : Int)
    · rw [if_pos c4] at H
      have c4b0 : decide (1 < (a0.size : Int)) = true := decide_eq_true c4
      have c4b1 : decide (1 < a0.size) = true := decide_eq_true (by omega)
      clear c4
      by_cases c6 : 2 < (a0.size : Int)
      · rw [if_pos c6] at H
        have c6b0 : decide (2 < (a0.size : Int)) = true := decide_eq_true c6
        have c6b1 : decide (2 < a0.size) = true := decide_eq_true (by omega)
        clear c6
        by_cases c8 : 3 < (a0.size : Int)
        · rw [if_pos c8] at H
          have c8b0 : decide (3 < (a0.size : Int)) = true := decide_eq_true c8
          have c8b1 : decide (3 < a0.size) = true := decide_eq_true (by omega)
          clear c8
          by_cases c10 : 4 < (a0.size : Int)
          · rw [if_pos c10] at H
            have c10b0 : decide (4 < (a0.size : Int)) = true := decide_eq_true c10
            have c10b1 : decide (4 < a0.size) = true := decide_eq_true (by omega)
            clear c10
            by_cases c12 : 5 < (a0.size : Int)
            · rw [if_pos c12] at H
              have c12b0 : decide (5 < (a0.size : Int)) = true := decide_eq_true c12
              have c12b1 : decide (5 < a0.size) = true := decide_eq_true (by omega)
              clear c12
              by_cases c14 : 6 < (a0.size : Int)
              · rw [if_pos c14] at H
                have c14b0 : decide (6 < (a0.size : Int)) = true := decide_eq_true c14
                have c14b1 : decide (6 < a0.size) = true := decide_eq_true (by omega)
                clear c14
                by_cases c16 : 7 < (a0.size : Int)
                · rw [if_pos c16] at H
                  have c16b0 : decide (7 < (a0.size : Int)) = true := decide_eq_true c16
                  have c16b1 : decide (7 < a0.size) = true := decide_eq_true (by omega)
                  clear c16
                  obtain rfl := Option.some.inj H
                  have p3 : 0 ≤ (0 : Int) := (by omega)
                  have q3 : 0 < a0.size := (by have : (0 : Int) < (a0.size : Int) := of_decide_eq_true (by first | (with_reducible assumption) | assumption); omega)
                  have hx3 : ∀ h : 0 < a0.size, ((a0[0]'h).toNat : Int) = bt a0 0 := bt_at a0 0
                  clear p3
                  have qi3 : (0 < (a0.size : Int)) = True := eq_true (of_decide_eq_true (by first | (with_reducible assumption) | assumption))
                  replace q3 := eq_true q3
                  have p5 : 0 ≤ (1 : Int) := (by omega)
                  have q5 : 1 < a0.size := (by have : (1 : Int) < (a0.size : Int) := of_decide_eq_true (by first | (with_reducible assumption) | assumption); omega)
                  have hx5 : ∀ h : 1 < a0.size, ((a0[1]'h).toNat : Int) = bt a0 1 := bt_at a0 1
                  clear p5
                  have qi5 : (1 < (a0.size : Int)) = True := eq_true (of_decide_eq_true (by first | (with_reducible assumption) | assumption))
                  replace q5 := eq_true q5
                  have p7 : 0 ≤ (2 : Int) := (by omega)
                  have q7 : 2 < a0.size := (by have : (2 : Int) < (a0.size : Int) := of_decide_eq_true (by first | (with_reducible assumption) | assumption); omega)
                  have hx7 : ∀ h : 2 < a0.size, ((a0[2]'h).toNat : Int) = bt a0 2 := bt_at a0 2
                  clear p7
                  have qi7 : (2 < (a0.size : Int)) = True := eq_true (of_decide_eq_true (by first | (with_reducible assumption) | assumption))
                  replace q7 := eq_true q7
                  have p9 : 0 ≤ (3 : Int) := (by omega)
                  have q9 : 3 < a0.size := (by have : (3 : Int) < (a0.size : Int) := of_decide_eq_true (by first | (with_reducible assumption) | assumption); omega)
                  have hx9 : ∀ h : 3 < a0.size, ((a0[3]'h).toNat : Int) = bt a0 3 := bt_at a0 3
                  clear p9
                  have qi9 : (3 < (a0.size : Int)) = True := eq_true (of_decide_eq_true (by first | (with_reducible assumption) | assumption))
                  replace q9 := eq_true q9
                  have p11 : 0 ≤ (4 : Int) := (by omega)
                  have q11 : 4 < a0.size := (by have : (4 : Int) < (a0.size : Int) := of_decide_eq_true (by first | (with_reducible assumption) | assumption); omega)
                  have hx11 : ∀ h : 4 < a0.size, ((a0[4]'h).toNat : Int) = bt a0 4 := bt_at a0 4
                  clear p11
                  have qi11 : (4 < (a0.size : Int)) = True := eq_true (of_decide_eq_true (by first | (with_reducible assumption) | assumption))
                  replace q11 := eq_true q11
                  have p13 : 0 ≤ (5 : Int) := (by omega)
                  have q13 : 5 < a0.size := (by have : (5 : Int) < (a0.size : Int) := of_decide_eq_true (by first | (with_reducible assumption) | assumption); omega)
                  have hx13 : ∀ h : 5 < a0.size, ((a0[5]'h).toNat : Int) = bt a0 5 := bt_at a0 5
                  clear p13
                  have qi13 : (5 < (a0.size : Int)) = True := eq_true (of_decide_eq_true (by first | (with_reducible assumption) | assumption))
                  replace q13 := eq_true q13
                  have p15 : 0 ≤ (6 : Int) := (by omega)
                  have q15 : 6 < a0.size := (by have : (6 : Int) < (a0.size : Int) := of_decide_eq_true (by first | (with_reducible assumption) | assumption); omega)
                  have hx15 : ∀ h : 6 < a0.size, ((a0[6]'h).toNat : Int) = bt a0 6 := bt_at a0 6
                  clear p15
                  have qi15 : (6 < (a0.size : Int)) = True := eq_true (of_decide_eq_true (by first | (with_reducible assumption) | assumption))
                  replace q15 := eq_true q15
                  have p17 : 0 ≤ (7 : Int) := (by omega)
                  have q17 : 7 < a0.size := (by have : (7 : Int) < (a0.size : Int) := of_decide_eq_true (by first | (with_reducible assumption) | assumption); omega)
                  have hx17 : ∀ h : 7 < a0.size, ((a0[7]'h).toNat : Int) = bt a0 7 := bt_at a0 7
                  clear p17
                  have qi17 : (7 < (a0.size : Int)) = True := eq_true (of_decide_eq_true (by first | (with_reducible assumption) | assumption))
                  replace q17 := eq_true q17
                  go_enter Tryd.func21, Tryd.ntmps21
                  go_wp2
                  repeat (go_quiet (fail); try go_wp2)
                  go_ret
                  exact ⟨by first | rfl | (simp; done) | (simp [*]; done), by repeat (first | exact Drawn0.refl _ | apply Drawn0.step)⟩
                · rw [if_neg c16] at H
                  exact absurd H (by simp)
              · rw [if_neg c14] at H
                exact absurd H (by simp)
            · rw [if_neg c12] at H
              exact absurd H (by simp)
          · rw [if_neg c10] at H
            exact absurd H (by simp)
        · rw [if_neg c8] at H
          exact absurd H (by simp)
      · rw [if_neg c6] at H
        exact absurd H (by simp)
    · rw [if_neg c4] at H
      exact absurd H (by simp)
  · rw [if_neg c2] at H
    exact absurd H (by simp)

-- NOT PRINTED: function 18 (utf8_ValidString)

-- NOT PRINTED: function 22 (yaml_zzBase64)

-- NOT PRINTED: function 19 (yaml_encodeBase64)

/-! ### yaml_zzIndex: function 23 -/
def yaml_zzIndex.l0 : Nat → ByteArray → ByteArray → Int → Option (Int)
  | 0, _, _, _ => none
  | k + 1, x0, x1, x5 => if (wrap64 (x5 + (x1.size : Int))) ≤ (x0.size : Int) then (if 0 ≤ x5 then (if x5 ≤ (wrap64 (x5 + (x1.size : Int))) then (if (x0.extract (x5 : Int).toNat ((wrap64 (x5 + (x1.size : Int))) : Int).toNat).toList = x1.toList then (some x5) else (yaml_zzIndex.l0 k x0 x1 (wrap64 (x5 + 1)))) else (none)) else (none)) else (some (-1))
def yaml_zzIndex.f (k : Nat) (a0 : ByteArray) (a1 : ByteArray) : Option (Int) := yaml_zzIndex.l0 k a0 a1 0
theorem yaml_zzIndex.mono_l : ∀ k, (∀ y0 y1 y2, LeO (yaml_zzIndex.l0 k y0 y1 y2) (yaml_zzIndex.l0 (k + 1) y0 y1 y2))
  | 0 => fun _ _ _ r h => by simp [yaml_zzIndex.l0] at h
  | k + 1 => by
    have ih0 := yaml_zzIndex.mono_l k
    · intro y0 y1 y2
      unfold yaml_zzIndex.l0
      repeat' first
      | (with_reducible exact ih0 _ _ _)
      | (with_reducible exact LeO.refl _)
      | (with_reducible exact LeO.none _)
      | (with_reducible refine LeO.ite ?_ ?_)
      | (with_reducible refine LeO.bind ?_ (fun _ => ?_))
      | exact ih0 _ _ _
      | exact LeO.none _
      | refine LeO.ite ?_ ?_
      | refine LeO.bind ?_ (fun _ => ?_)
theorem yaml_zzIndex.mono : ∀ a0 a1 k, LeO (yaml_zzIndex.f k a0 a1) (yaml_zzIndex.f (k + 1) a0 a1) := by
  intro a0 a1 k
  have ih0 := yaml_zzIndex.mono_l k
  unfold yaml_zzIndex.f
  repeat' first
      | (with_reducible exact ih0 _ _ _)
      | (with_reducible exact LeO.refl _)
      | (with_reducible exact LeO.none _)
      | (with_reducible refine LeO.ite ?_ ?_)
      | (with_reducible refine LeO.bind ?_ (fun _ => ?_))
      | exact ih0 _ _ _
      | exact LeO.none _
      | refine LeO.ite ?_ ?_
      | refine LeO.bind ?_ (fun _ => ?_)
set_option maxHeartbeats 8000000 in
set_option maxRecDepth 100000 in
theorem yaml_zzIndex.calls (k : Nat) (a0 : ByteArray) (a1 : ByteArray) (r : Int) (w : World) (h : yaml_zzIndex.f k a0 a1 = some r) :
    Calls Tryd.prog 23 #[.string a0, .string a1] w fun e w' => e = .returned (.int .i64 r) ∧ Drawn0 w w' := by
  have H : (yaml_zzIndex.l0 k a0 a1 0) = some r := h
  clear h
  have H' := Aside0.mk H
  clear H
  go_enter Tryd.func23, Tryd.ntmps23
  go_wp2
  go_loopg [5] k (fun kq v5 w' => ∃ (x5_1 : Int), v5 = .int .i64 x5_1 ∧ Aside0 (yaml_zzIndex.l0 kq a0 a1 x5_1 = some r) ∧ Aside0 (kq ≤ k) ∧ Drawn0 w w')
  case atStart => exact ⟨(0), (by first | rfl | (simp; done) | (simp [*]; done)), H', ⟨Nat.le_refl _⟩, by repeat (first | exact Drawn0.refl _ | apply Drawn0.step)⟩
  case round =>
    clear H'
    try clear c2
    try clear p2
    obtain ⟨x5_1, rfl, HA, HK1, ⟨m1, rfl⟩⟩ := hrel
    cases gk with
    | zero => exact absurd HA.out (by simp [yaml_zzIndex.l0])
    | succ k1 =>
      have H := HA.out
      clear HA
      simp only [yaml_zzIndex.l0] at H
      by_cases c3 : (wrap64 (x5_1 + (a1.size : Int))) ≤ (a0.size : Int)
      · rw [if_pos c3] at H
        have c3b0 : decide ((wrap64 (x5_1 + (a1.size : Int))) ≤ (a0.size : Int)) = true := decide_eq_true c3
        clear c3
        by_cases c4 : 0 ≤ x5_1
        · rw [if_pos c4] at H
          have c4b0 := eq_true c4
          have c4b1 : decide (0 ≤ x5_1) = true := decide_eq_true c4
          clear c4
          by_cases c5 : x5_1 ≤ (wrap64 (x5_1 + (a1.size : Int)))
          · rw [if_pos c5] at H
            have c5b0 := eq_true c5
            have c5b1 : decide (x5_1 ≤ (wrap64 (x5_1 + (a1.size : Int)))) = true := decide_eq_true c5
            have c6b0 := eq_true (of_decide_eq_true (by first | (with_reducible assumption) | assumption) : (wrap64 (x5_1 + (a1.size : Int))) ≤ (a0.size : Int))
            by_cases c7 : (a0.extract (x5_1 : Int).toNat ((wrap64 (x5_1 + (a1.size : Int))) : Int).toNat).toList = a1.toList
            · rw [if_pos c7] at H
              have c7b0 : ((a0.extract (x5_1 : Int).toNat ((wrap64 (x5_1 + (a1.size : Int))) : Int).toNat).toList == a1.toList) = true := beq_iff_eq.mpr c7
              have c7b1 : ((a0.extract (x5_1 : Int).toNat ((wrap64 (x5_1 + (a1.size : Int))) : Int).toNat).toList != a1.toList) = false := bne_eq_false_iff_eq.mpr c7
              clear c7
              obtain rfl := Option.some.inj H
              go_wp2
              go_ret
              exact ⟨by first | rfl | (simp; done) | (simp [*]; done), by repeat (first | exact Drawn0.refl _ | apply Drawn0.step)⟩
            · rw [if_neg c7] at H
              have c7b0 : ((a0.extract (x5_1 : Int).toNat ((wrap64 (x5_1 + (a1.size : Int))) : Int).toNat).toList == a1.toList) = false := beq_eq_false_iff_ne.mpr c7
              have c7b1 : ((a0.extract (x5_1 : Int).toNat ((wrap64 (x5_1 + (a1.size : Int))) : Int).toNat).toList != a1.toList) = true := bne_iff_ne.mpr c7
              have H' := Aside0.mk H
              clear H
              go_wp2
              go_roundg k1
              case measure => have := HK1.out; omega
              case rel => exact ⟨(wrap64 (x5_1 + 1)), (by first | rfl | (simp; done) | (simp [*]; done)), H', ⟨by have := HK1.out; omega⟩, by repeat (first | exact Drawn0.refl _ | apply Drawn0.step)⟩
          · rw [if_neg c5] at H
            exact absurd H (by simp)
        · rw [if_neg c4] at H
          exact absurd H (by simp)
      · rw [if_neg c3] at H
        have c3b0 : decide ((wrap64 (x5_1 + (a1.size : Int))) ≤ (a0.size : Int)) = false := decide_eq_false c3
        clear c3
        obtain rfl := Option.some.inj H
        go_wp2
        go_ret
        exact ⟨by first | rfl | (simp; done) | (simp [*]; done), by repeat (first | exact Drawn0.refl _ | apply Drawn0.step)⟩

/-! ### yaml_zzContains: function 20 -/
def yaml_zzContains.f (k : Nat) (a0 : ByteArray) (a1 : ByteArray) : Option (Bool) := (yaml_zzIndex.f k a0 a1).bind fun t127 => (some (decide (t127 ≥ 0)))
theorem yaml_zzContains.mono : ∀ a0 a1 k, LeO (yaml_zzContains.f k a0 a1) (yaml_zzContains.f (k + 1) a0 a1) := by
  intro a0 a1 k
  unfold yaml_zzContains.f
  repeat' first
      | (with_reducible exact yaml_zzIndex.mono _ _ _)
      | (with_reducible exact LeO.refl _)
      | (with_reducible exact LeO.none _)
      | (with_reducible refine LeO.ite ?_ ?_)
      | (with_reducible refine LeO.bind ?_ (fun _ => ?_))
      | exact yaml_zzIndex.mono _ _ _
      | exact LeO.none _
      | refine LeO.ite ?_ ?_
      | refine LeO.bind ?_ (fun _ => ?_)
set_option maxHeartbeats 8000000 in
set_option maxRecDepth 100000 in
theorem yaml_zzContains.calls (k : Nat) (a0 : ByteArray) (a1 : ByteArray) (r : Bool) (w : World) (h : yaml_zzContains.f k a0 a1 = some r) :
    Calls Tryd.prog 20 #[.string a0, .string a1] w fun e w' => e = .returned (.bool r) ∧ Drawn0 w w' := by
  have H : ((yaml_zzIndex.f k a0 a1).bind fun t127 => (some (decide (t127 ≥ 0)))) = some r := h
  clear h
  replace H := Option.bind_eq_some_iff.mp H
  obtain ⟨t127, A30, H⟩ := H
  replace H : (some (decide (t127 ≥ 0))) = some r := H
  have A3 := Aside0.mk A30
  clear A30
  obtain rfl := Option.some.inj H
  go_enter Tryd.func20, Tryd.ntmps20
  go_wp2_with (first | ((with_reducible refine gate_callee (f := 23) rfl ?_); refine goesL_ (some 7) rfl rfl Tryd.func23 (by kernel_rfl) rfl #[.string a0, .string a1] rfl (by (try simp only [List.map_toArray, List.map_cons, List.map_nil]); first | done | rfl | (simp only [List.length_drop, List.length_take]; rfl)) ?_; (with_reducible refine (yaml_zzIndex.calls k a0 a1 t127 _ A3.out).mono ?_); rintro e w' ⟨rfl, ⟨nd, rfl⟩⟩; refine ⟨_, rfl, ?_⟩))
  go_ret
  exact ⟨by first | rfl | (simp; done) | (simp [*]; done), by repeat (first | exact Drawn0.refl _ | apply Drawn0.step)⟩

-- NOT PRINTED: function 16 (yaml_Node_SetString)

-- NOT PRINTED: function 17 (yaml_NewRNode)

-- NOT PRINTED: function 10 (yaml_NewStringRNode)

-- NOT PRINTED: function 11 (yaml_NewScalarRNode)

-- NOT PRINTED: function 5 (impl_StringNode)

/-! ### spec_tagOf: function 12 -/
def spec_tagOf.f (a0_0 : Int) (a0_1 : Int) (a0_2 : ByteArray) (a0_3 : ByteArray) (a0_4 : ByteArray) (a0_5 : ByteArray) (a0_6 : ByteArray) (a0_7 : ByteArray) (a0_8 : Int) (a0_9 : Int) (a0_10 : Int) (l0_11 : List (S25)) : Option (ByteArray) := if a0_2.toList = ([] : List UInt8) then (some (⟨#[33, 33, 115, 116, 114]⟩ : ByteArray)) else (some a0_2)
set_option maxHeartbeats 8000000 in
set_option maxRecDepth 100000 in
theorem spec_tagOf.calls (a0_0 : Int) (a0_1 : Int) (a0_2 : ByteArray) (a0_3 : ByteArray) (a0_4 : ByteArray) (a0_5 : ByteArray) (a0_6 : ByteArray) (a0_7 : ByteArray) (a0_8 : Int) (a0_9 : Int) (a0_10 : Int) (A0_11 : Option Addr) (c0_11 : Nat) (l0_11 : List (S25)) (r : ByteArray) (w : World) (hr0_11 : Kd.C k25 w A0_11 l0_11.length l0_11) (hc0_11 : l0_11.length ≤ c0_11) (h : spec_tagOf.f a0_0 a0_1 a0_2 a0_3 a0_4 a0_5 a0_6 a0_7 a0_8 a0_9 a0_10 l0_11 = some r) :
    Calls Tryd.prog 12 #[.agg #[.int .i64 a0_0, .int .i64 a0_1, .string a0_2, .string a0_3, .string a0_4, .string a0_5, .string a0_6, .string a0_7, .int .i64 a0_8, .int .i64 a0_9, .int .i64 a0_10, .slice A0_11 l0_11.length c0_11]] w fun e w' => e = .returned (.string r) ∧ Below w.heap.size w w' := by
  have hu25 := Tryd.underlying25
  have HR0_11 := Aside0.mk hr0_11
  have HC0_11 := Aside0.mk hc0_11
  clear hr0_11 hc0_11
  have HB := Aside0.mk (Below.refl w.heap.size w)
  have H : (if a0_2.toList = ([] : List UInt8) then (some (⟨#[33, 33, 115, 116, 114]⟩ : ByteArray)) else (some a0_2)) = some r := h
  clear h
  by_cases c2 : a0_2.toList = ([] : List UInt8)
  · rw [if_pos c2] at H
    have c2b0 : (a0_2.toList == ([] : List UInt8)) = true := beq_iff_eq.mpr c2
    have c2b1 : (a0_2.toList != ([] : List UInt8)) = false := bne_eq_false_iff_eq.mpr c2
    clear c2
    obtain rfl := Option.some.inj H
    go_enter Tryd.func12, Tryd.ntmps12
    go_wp2_with (first | ((with_reducible refine gate_dst (N := 1) rfl ?_); refine box_event ?hg (N := 1) ?hd (cs := #[.int .i64 a0_0, .int .i64 a0_1, .string a0_2, .string a0_3, .string a0_4, .string a0_5, .string a0_6, .string a0_7, .int .i64 a0_8, .int .i64 a0_9, .int .i64 a0_10, .slice A0_11 l0_11.length c0_11]) (t := 25) ?hr ?_; (case hd => rfl); (case hg => rfl); (case hr => first | (go_simp; done) | (go_simp; rfl)); intro gb130 hg w3 hbox hb; have n0_ := Aside0.mk (below_step (by repeat (first | (with_reducible first | exact HB.out | apply below_alloc | apply pw_below_drewN | apply below_drew1) | exact HB.out)) hb); have n1_ := Aside0.mk (hbox); have n2_ := Aside0.mk ((by rw [hg]; exact (below_size (by repeat (first | (with_reducible first | exact HB.out | apply below_alloc | apply pw_below_drewN | apply below_drew1) | exact HB.out))) : w.heap.size ≤ gb130)); have n3_ := Aside0.mk ((by rw [hg]; exact (below_size (by repeat (first | (with_reducible first | exact HB.out | apply below_alloc | apply pw_below_drewN | apply below_drew1) | exact HB.out))) : w.heap.size ≤ gb130)); clear HB; have HB := n0_; have BK130 := n1_; have GW130 := n2_; have GE130 := n3_; clear n0_ n1_ n2_ n3_; clear hb hbox hg; have hcz4_0 : w3.cell? ⟨gb130, 0, none⟩ = some (.int .i64 a0_0) := (blk_cell BK130.out 0).trans rfl; have hcz4_1 : w3.cell? ⟨gb130, 1, none⟩ = some (.int .i64 a0_1) := (blk_cell BK130.out 1).trans rfl; have hcz4_2 : w3.cell? ⟨gb130, 2, none⟩ = some (.string a0_2) := (blk_cell BK130.out 2).trans rfl; have hcz4_3 : w3.cell? ⟨gb130, 3, none⟩ = some (.string a0_3) := (blk_cell BK130.out 3).trans rfl; have hcz4_4 : w3.cell? ⟨gb130, 4, none⟩ = some (.string a0_4) := (blk_cell BK130.out 4).trans rfl; have hcz4_5 : w3.cell? ⟨gb130, 5, none⟩ = some (.string a0_5) := (blk_cell BK130.out 5).trans rfl; have hcz4_6 : w3.cell? ⟨gb130, 6, none⟩ = some (.string a0_6) := (blk_cell BK130.out 6).trans rfl; have hcz4_7 : w3.cell? ⟨gb130, 7, none⟩ = some (.string a0_7) := (blk_cell BK130.out 7).trans rfl; have hcz4_8 : w3.cell? ⟨gb130, 8, none⟩ = some (.int .i64 a0_8) := (blk_cell BK130.out 8).trans rfl; have hcz4_9 : w3.cell? ⟨gb130, 9, none⟩ = some (.int .i64 a0_9) := (blk_cell BK130.out 9).trans rfl; have hcz4_10 : w3.cell? ⟨gb130, 10, none⟩ = some (.int .i64 a0_10) := (blk_cell BK130.out 10).trans rfl; have hcz4_11 : w3.cell? ⟨gb130, 11, none⟩ = some (.slice A0_11 l0_11.length c0_11) := (blk_cell BK130.out 11).trans rfl; have hfz4_0 := blk_frozen BK130.out 0; have hfz4_1 := blk_frozen BK130.out 1; have hfz4_2 := blk_frozen BK130.out 2; have hfz4_3 := blk_frozen BK130.out 3; have hfz4_4 := blk_frozen BK130.out 4; have hfz4_5 := blk_frozen BK130.out 5; have hfz4_6 := blk_frozen BK130.out 6; have hfz4_7 := blk_frozen BK130.out 7; have hfz4_8 := blk_frozen BK130.out 8; have hfz4_9 := blk_frozen BK130.out 9; have hfz4_10 := blk_frozen BK130.out 10; have hfz4_11 := blk_frozen BK130.out 11))
    go_ret
    exact ⟨by first | rfl | (simp [errW_none, errW_some] <;> rfl) | (simp [*, errW_none, errW_some] <;> rfl), by repeat (first | (with_reducible first | exact HB.out | apply below_alloc | apply pw_below_drewN | apply below_drew1 | refine below_set ?_ GE130.out) | exact HB.out)⟩
  · rw [if_neg c2] at H
    have c2b0 : (a0_2.toList == ([] : List UInt8)) = false := beq_eq_false_iff_ne.mpr c2
    have c2b1 : (a0_2.toList != ([] : List UInt8)) = true := bne_iff_ne.mpr c2
    obtain rfl := Option.some.inj H
    go_enter Tryd.func12, Tryd.ntmps12
    go_wp2_with (first | ((with_reducible refine gate_dst (N := 1) rfl ?_); refine box_event ?hg (N := 1) ?hd (cs := #[.int .i64 a0_0, .int .i64 a0_1, .string a0_2, .string a0_3, .string a0_4, .string a0_5, .string a0_6, .string a0_7, .int .i64 a0_8, .int .i64 a0_9, .int .i64 a0_10, .slice A0_11 l0_11.length c0_11]) (t := 25) ?hr ?_; (case hd => rfl); (case hg => rfl); (case hr => first | (go_simp; done) | (go_simp; rfl)); intro gb130 hg w5 hbox hb; have n0_ := Aside0.mk (below_step (by repeat (first | (with_reducible first | exact HB.out | apply below_alloc | apply pw_below_drewN | apply below_drew1) | exact HB.out)) hb); have n1_ := Aside0.mk (hbox); have n2_ := Aside0.mk ((by rw [hg]; exact (below_size (by repeat (first | (with_reducible first | exact HB.out | apply below_alloc | apply pw_below_drewN | apply below_drew1) | exact HB.out))) : w.heap.size ≤ gb130)); have n3_ := Aside0.mk ((by rw [hg]; exact (below_size (by repeat (first | (with_reducible first | exact HB.out | apply below_alloc | apply pw_below_drewN | apply below_drew1) | exact HB.out))) : w.heap.size ≤ gb130)); clear HB; have HB := n0_; have BK130 := n1_; have GW130 := n2_; have GE130 := n3_; clear n0_ n1_ n2_ n3_; clear hb hbox hg; have hcz6_0 : w5.cell? ⟨gb130, 0, none⟩ = some (.int .i64 a0_0) := (blk_cell BK130.out 0).trans rfl; have hcz6_1 : w5.cell? ⟨gb130, 1, none⟩ = some (.int .i64 a0_1) := (blk_cell BK130.out 1).trans rfl; have hcz6_2 : w5.cell? ⟨gb130, 2, none⟩ = some (.string a0_2) := (blk_cell BK130.out 2).trans rfl; have hcz6_3 : w5.cell? ⟨gb130, 3, none⟩ = some (.string a0_3) := (blk_cell BK130.out 3).trans rfl; have hcz6_4 : w5.cell? ⟨gb130, 4, none⟩ = some (.string a0_4) := (blk_cell BK130.out 4).trans rfl; have hcz6_5 : w5.cell? ⟨gb130, 5, none⟩ = some (.string a0_5) := (blk_cell BK130.out 5).trans rfl; have hcz6_6 : w5.cell? ⟨gb130, 6, none⟩ = some (.string a0_6) := (blk_cell BK130.out 6).trans rfl; have hcz6_7 : w5.cell? ⟨gb130, 7, none⟩ = some (.string a0_7) := (blk_cell BK130.out 7).trans rfl; have hcz6_8 : w5.cell? ⟨gb130, 8, none⟩ = some (.int .i64 a0_8) := (blk_cell BK130.out 8).trans rfl; have hcz6_9 : w5.cell? ⟨gb130, 9, none⟩ = some (.int .i64 a0_9) := (blk_cell BK130.out 9).trans rfl; have hcz6_10 : w5.cell? ⟨gb130, 10, none⟩ = some (.int .i64 a0_10) := (blk_cell BK130.out 10).trans rfl; have hcz6_11 : w5.cell? ⟨gb130, 11, none⟩ = some (.slice A0_11 l0_11.length c0_11) := (blk_cell BK130.out 11).trans rfl; have hfz6_0 := blk_frozen BK130.out 0; have hfz6_1 := blk_frozen BK130.out 1; have hfz6_2 := blk_frozen BK130.out 2; have hfz6_3 := blk_frozen BK130.out 3; have hfz6_4 := blk_frozen BK130.out 4; have hfz6_5 := blk_frozen BK130.out 5; have hfz6_6 := blk_frozen BK130.out 6; have hfz6_7 := blk_frozen BK130.out 7; have hfz6_8 := blk_frozen BK130.out 8; have hfz6_9 := blk_frozen BK130.out 9; have hfz6_10 := blk_frozen BK130.out 10; have hfz6_11 := blk_frozen BK130.out 11))
    go_ret
    exact ⟨by first | rfl | (simp [errW_none, errW_some] <;> rfl) | (simp [*, errW_none, errW_some] <;> rfl), by repeat (first | (with_reducible first | exact HB.out | apply below_alloc | apply pw_below_drewN | apply below_drew1 | refine below_set ?_ GE130.out) | exact HB.out)⟩

end Go.Proofs.YtgdmianocepafaaDoor.PFnTreeOfText
