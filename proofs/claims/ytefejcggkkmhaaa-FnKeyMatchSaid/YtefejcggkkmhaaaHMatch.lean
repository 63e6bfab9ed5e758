/- What walk's inner function match comes to, and the thin package's KeyMatch: values of keys that are of one element; for lists of at most a thousand texts. -/
import Derived.Test.YtefejcggkkmhaaaProg
import Derived.Test.YtefejcggkkmhaaaPlain
import Derived.Test.YtefejcggkkmhaaaWMore
import Derived.Deep.LoopGhost
import Derived.Deep.DeepCutAuto
import Derived.Deep.QuietTactic
import Derived.BigQuiet
import Derived.Laws.OwnMore
import Derived.OwnWalk
import Derived.WalkKit
import Derived.WalkSpells
namespace Go.Proofs.Ytefejcggkkmhaaa.HMatch
open Go.RowKit Go.Proofs.YtefejcggkkmhaaaW.PrintWords Go.Proofs.YtefejcggkkmhaaaW.PrintLast Go.Proofs.YtefejcggkkmhaaaW.PrintMore Go.Proofs.Ytefejcggkkmhaaa.Plain

/-- Values of keys of one element, from a state on. -/
def mt (c : Bool) (acc : List ByteArray) : List ByteArray → List ByteArray → Bool × List ByteArray
  | x :: r, y :: s => if x = y then mt true (acc ++ [x]) r s else if x.size = 0 then mt c (acc ++ [y]) r s else if y.size = 0 then mt c (acc ++ [x]) r s else (false, [])
  | _, _ => (c, acc)
def mat (l m : List ByteArray) : Bool × List ByteArray := if l.length = m.length then mt false [] l m else (false, [])

theorem mt_eq {c : Bool} {acc l m : List ByteArray} {j : Nat} (h0 : j < l.length) (h1 : j < m.length) (h : l[j] = m[j]) : mt c acc (l.drop j) (m.drop j) = mt true (acc ++ [l[j]]) (l.drop (j + 1)) (m.drop (j + 1)) := by
  rw [drop_next h0, drop_next h1, mt, if_pos h]
theorem mt_left {c : Bool} {acc l m : List ByteArray} {j : Nat} (h0 : j < l.length) (h1 : j < m.length) (h : l[j] ≠ m[j]) (hx : l[j].size = 0) : mt c acc (l.drop j) (m.drop j) = mt c (acc ++ [m[j]]) (l.drop (j + 1)) (m.drop (j + 1)) := by
  rw [drop_next h0, drop_next h1, mt, if_neg h, if_pos hx]
theorem mt_right {c : Bool} {acc l m : List ByteArray} {j : Nat} (h0 : j < l.length) (h1 : j < m.length) (h : l[j] ≠ m[j]) (hx : l[j].size ≠ 0) (hy : m[j].size = 0) : mt c acc (l.drop j) (m.drop j) = mt c (acc ++ [l[j]]) (l.drop (j + 1)) (m.drop (j + 1)) := by
  rw [drop_next h0, drop_next h1, mt, if_neg h, if_neg hx, if_pos hy]
theorem mt_none {c : Bool} {acc l m : List ByteArray} {j : Nat} (h0 : j < l.length) (h1 : j < m.length) (h : l[j] ≠ m[j]) (hx : l[j].size ≠ 0) (hy : m[j].size ≠ 0) : mt c acc (l.drop j) (m.drop j) = (false, []) := by
  rw [drop_next h0, drop_next h1, mt, if_neg h, if_neg hx, if_neg hy]
theorem mt_end {c : Bool} {acc l m : List ByteArray} {j : Nat} (h0 : j = l.length) : mt c acc (l.drop j) (m.drop j) = (c, acc) := by
  rw [h0, List.drop_length]
  cases List.drop l.length m <;> rfl

theorem toList_nil {s : ByteArray} (h : s.size = 0) : s.toList = [] := by
  rw [ByteArray.toList_eq]
  exact List.eq_nil_of_length_eq_zero (by rw [Array.length_toList]; exact h)
theorem toList_ne {s : ByteArray} (h : s.size ≠ 0) : s.toList ≠ [] := by
  intro e
  rw [ByteArray.toList_eq] at e
  have := congrArg List.length e
  rw [Array.length_toList] at this
  exact h this

theorem toList_isEmpty {s : ByteArray} (h : s.size ≠ 0) : s.toList.isEmpty = false := by
  rw [Bool.eq_false_iff]
  intro e
  exact toList_ne h (List.isEmpty_iff.1 e)

theorem info9 : (Try.prog.info? 9).map (fun i => (i.zero, i.size, i.bytes)) = some (some (.string ⟨#[]⟩), 1, 16) := by kernel_rfl
theorem meas {L j : Nat} (h : j < L) (hw : wrap64 ((j : Int) + 1) = ((j + 1 : Nat) : Int)) : L - (intOf (.int .i64 (wrap64 ((j : Int) + 1)))).toNat < L - (intOf (.int .i64 (j : Int))).toNat := by
  rw [hw]
  simp only [intOf]
  omega

theorem wr64 {L j : Nat} (h : j < L) (hL : L ≤ 1000) : wrap64 ((j : Int) + 1) = ((j + 1 : Nat) : Int) := wrap_nat (by omega)
theorem lenok {α : Type} {acc : List α} {j L : Nat} (h : acc.length = j) (hj : j < L) (hL : L ≤ 1000) : (acc.length + 1) * 16 ≤ 140737488355328 := by omega

set_option maxHeartbeats 1000000 in
theorem match_calls (A B : Option Addr) (c d : Nat) (l m : List ByteArray) (w : World) (hr : Kd.C Kd.string w A l.length l) (hs : Kd.C Kd.string w B m.length m) (hl : l.length ≤ 1000) :
    Calls Try.prog 23 #[.slice A l.length c, .slice B m.length d] w fun e w' => ∃ v : Value, e = .returned (.tuple #[.bool (mat l m).1, v]) ∧ Kd.R Kd.string 9 w' w.heap.size (fun _ => True) v (mat l m).2 ∧ Below w.heap.size w w' := by
  have HR := Aside0.mk hr
  have HS := Aside0.mk hs
  have HL := Aside0.mk hl
  clear hr hs hl
  by_cases he : l.length = m.length
  · have HM := Aside0.mk (show mat l m = mt false [] l m from if_pos he)
    have HE := Aside0.mk he
    have hne : ((l.length : Int) != (m.length : Int)) = false := by simp [he]
    clear he
    go_enter Try.func23, Try.ntmps23
    go_wp2
    go_loopw [6, 7, 16] (fun g v i wr => ∃ (j : Nat) (b : Bool) (acc : List ByteArray), j ≤ l.length ∧ i = .int .i64 j ∧ g = .bool b ∧ Aside0 (acc.length = j) ∧ Aside0 (mt b acc (l.drop j) (m.drop j) = mat l m) ∧ Aside0 (Kd.R Kd.string 9 wr w.heap.size (fun _ => True) v acc) ∧ Aside0 (Below w.heap.size w wr)) (fun _ _ i _ => l.length - (intOf i).toNat)
    case atStart => exact ⟨0, false, [], Nat.zero_le _, rfl, rfl, ⟨rfl⟩, ⟨HM.out.symm⟩, ⟨Kd.R_nil _ _ _ _ _⟩, ⟨Below.refl _ _⟩⟩
    case round =>
      obtain ⟨j, b, acc, hj, rfl, rfl, HA, HT, HV, HB⟩ := hrel
      by_cases hlt : j < l.length
      · have hlm : j < m.length := by rw [← HE.out]; exact hlt
        have HW := Aside0.mk (wr64 hlt HL.out)
        have HJ := Aside0.mk hlt
        obtain ⟨ad, e0, hx⟩ := Kd.at_string (Kd.C_below HR.out HB.out) (j : Int) (Int.natCast_nonneg j) (Int.ofNat_lt.2 hlt)
        cases e0
        obtain ⟨bd, e1, hy⟩ := Kd.at_string (Kd.C_below HS.out HB.out) (j : Int) (Int.natCast_nonneg j) (Int.ofNat_lt.2 hlm)
        cases e1
        rw [rdOf_nat _ _ _ hlt, Int.toNat_natCast] at hx
        rw [rdOf_nat _ _ _ hlm, Int.toNat_natCast] at hy
        have p0 : 0 ≤ (j : Int) := Int.natCast_nonneg j
        have q0 : (j : Int) < (l.length : Int) := Int.ofNat_lt.2 hlt
        have q1 : (j : Int) < (m.length : Int) := Int.ofNat_lt.2 hlm
        by_cases hxy : l[j] = m[j]
        · have h1 : (l[j].toList == m[j].toList) = true := by rw [beq_toList]; simp [hxy]
          have HT2 := Aside0.mk ((mt_eq (c := b) (acc := acc) hlt hlm hxy).symm.trans HT.out)
          clear hxy HT
          go_wp2
          go_quiet (fail)
          go_wp2_with (refine gate_builtin (b := .append) (xs := #[.tmp 28, .tmp 33]) rfl ?_; at_builtin; refine Kd.R_append Kd.string (w0 := w) w.heap.size rfl (.tmp 28) (.tmp 33) 22 9 (.string ⟨#[]⟩) 16 rfl Try.underlying22 info9 rfl (by decide) (by omega) _ acc l[j] [.string l[j]] (fun _ => True) (fun _ => False) rfl rfl rfl (fun _ h => h.elim) (fun _ _ => trivial) (Kd.R_drewN HV.out _) (pw_below_drewN HB.out _) HB.out.size (lenok HA.out HJ.out HL.out) ?_; intro v3 w3 ho3 hb3 hg3 _)
          go_roundw
          case rel => exact ⟨j + 1, true, acc ++ [l[j]], HJ.out, congrArg (Value.int .i64) HW.out, rfl, ⟨by rw [List.length_append, HA.out]; rfl⟩, HT2, ⟨ho3⟩, ⟨hb3⟩⟩
          case measure => exact meas HJ.out HW.out
        · have h1 : (l[j].toList == m[j].toList) = false := by rw [beq_toList]; simp [hxy]
          by_cases hx0 : l[j].size = 0
          · have HT2 := Aside0.mk ((mt_left (c := b) (acc := acc) hlt hlm hxy hx0).symm.trans HT.out)
            have h2 : l[j].toList = [] := toList_nil hx0
            have h3 : (m[j].toList != ([] : List UInt8)) = true := by rw [bne_iff_ne]; intro e; apply hxy; apply toList_inj.1; rw [h2, e]
            rw [h2] at h1
            clear hxy HT hx0
            go_wp2
            go_quiet (fail)
            go_wp2_with (refine gate_builtin (b := .append) (xs := #[.tmp 59, .tmp 64]) rfl ?_; at_builtin; refine Kd.R_append Kd.string (w0 := w) w.heap.size rfl (.tmp 59) (.tmp 64) 22 9 (.string ⟨#[]⟩) 16 rfl Try.underlying22 info9 rfl (by decide) (by omega) _ acc m[j] [.string m[j]] (fun _ => True) (fun _ => False) rfl rfl rfl (fun _ h => h.elim) (fun _ _ => trivial) (Kd.R_drewN HV.out _) (pw_below_drewN HB.out _) HB.out.size (lenok HA.out HJ.out HL.out) ?_; intro v3 w3 ho3 hb3 hg3 _)
            go_roundw
            case rel => exact ⟨j + 1, b, acc ++ [m[j]], HJ.out, congrArg (Value.int .i64) HW.out, rfl, ⟨by rw [List.length_append, HA.out]; rfl⟩, HT2, ⟨ho3⟩, ⟨hb3⟩⟩
            case measure => exact meas HJ.out HW.out
          · have h2 : l[j].toList.isEmpty = false := toList_isEmpty hx0
            by_cases hy0 : m[j].size = 0
            · have HT2 := Aside0.mk ((mt_right (c := b) (acc := acc) hlt hlm hxy hx0 hy0).symm.trans HT.out)
              have h3 : m[j].toList = [] := toList_nil hy0
              rw [h3] at h1
              clear hxy HT hx0 hy0
              go_wp2
              go_quiet (fail)
              go_wp2_with (refine gate_builtin (b := .append) (xs := #[.tmp 52, .tmp 57]) rfl ?_; at_builtin; refine Kd.R_append Kd.string (w0 := w) w.heap.size rfl (.tmp 52) (.tmp 57) 22 9 (.string ⟨#[]⟩) 16 rfl Try.underlying22 info9 rfl (by decide) (by omega) _ acc l[j] [.string l[j]] (fun _ => True) (fun _ => False) rfl rfl rfl (fun _ h => h.elim) (fun _ _ => trivial) (Kd.R_drewN HV.out _) (pw_below_drewN HB.out _) HB.out.size (lenok HA.out HJ.out HL.out) ?_; intro v3 w3 ho3 hb3 hg3 _)
              go_roundw
              case rel => exact ⟨j + 1, b, acc ++ [l[j]], HJ.out, congrArg (Value.int .i64) HW.out, rfl, ⟨by rw [List.length_append, HA.out]; rfl⟩, HT2, ⟨ho3⟩, ⟨hb3⟩⟩
              case measure => exact meas HJ.out HW.out
            · have HT2 := Aside0.mk ((mt_none (c := b) (acc := acc) hlt hlm hxy hx0 hy0).symm.trans HT.out)
              have h3 : m[j].toList.isEmpty = false := toList_isEmpty hy0
              clear hxy HT hx0 hy0
              go_wp2
              go_quiet (fail)
              go_wp2
              go_ret2
              refine ⟨_, by rw [← HT2.out]; rfl, ?_, ?_⟩
              · rw [← HT2.out]
                exact Kd.R_nil _ _ _ _ _
              · first | exact HB.out | exact pw_below_drewN HB.out _ | exact below_drew1 HB.out
      · have HT2 := Aside0.mk ((mt_end (m := m) (c := b) (acc := acc) (Nat.le_antisymm hj (Nat.not_lt.1 hlt))).symm.trans HT.out)
        clear HT
        go_wp2
        repeat (go_region; go_wp2)
        go_ret2
        refine ⟨_, by rw [← HT2.out]; rfl, ?_, ?_⟩
        · rw [← HT2.out]
          first | exact HV.out | exact Kd.R_drewN HV.out _ | exact Kd.R_drew HV.out
        · first | exact HB.out | exact pw_below_drewN HB.out _ | exact below_drew1 HB.out
  · have HM := Aside0.mk (show mat l m = (false, []) from if_neg he)
    have hne : ((l.length : Int) != (m.length : Int)) = true := by rw [bne_iff_ne]; omega
    clear he
    go_enter Try.func23, Try.ntmps23
    go_wp2
    go_ret2
    refine ⟨_, by rw [HM.out]; rfl, ?_, Below.refl _ _⟩
    rw [HM.out]
    exact Kd.R_nil _ _ _ _ _

end Go.Proofs.Ytefejcggkkmhaaa.HMatch
