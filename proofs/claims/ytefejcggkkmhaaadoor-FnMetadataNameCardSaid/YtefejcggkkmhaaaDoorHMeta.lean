/- What the reference's Label and Metadata, the package's ValidateMetadataName and the thin package's MetadataName come to; for names of at most 2^47 bytes. -/
import Derived.Test.YtefejcggkkmhaaaDoorQvalidName
import Derived.Test.YtefejcggkkmhaaaDoorPvalidNamex
import Derived.Deep.LoopGhost
import Derived.Lib.Strings
import Derived.WalkKit
import Derived.WalkSpells
namespace Go.Proofs.YtefejcggkkmhaaaDoor.HMeta
open Go.RowKit Go.Proofs.YtefejcggkkmhaaaDoorW.PrintWords Go.Proofs.YtefejcggkkmhaaaDoorW.PrintLast Go.Proofs.YtefejcggkkmhaaaDoorW.PrintMore Go.Proofs.YtefejcggkkmhaaaDoor.Plain Go.Proofs.YtefejcggkkmhaaaDoor.QvalidName

def labB (s : ByteArray) : Bool := ((List.range s.size).all fun i => okAt s.data.toList i) && decide (s.size ≠ 0)
def upTo (s : ByteArray) (j : Nat) : Bool := (List.range j).all fun i => okAt s.data.toList i
theorem upTo_succ (s : ByteArray) (j : Nat) : upTo s (j + 1) = (upTo s j && okAt s.data.toList j) := by simp [upTo, List.range_succ]
theorem upTo_false {s : ByteArray} {j : Nat} (hj : j < s.size) (h : okAt s.data.toList j = false) : labB s = false := by
  have : ((List.range s.size).all fun i => okAt s.data.toList i) = false := by
    rw [List.all_eq_false]
    exact ⟨j, by simpa using hj, by simp [h]⟩
  simp [labB, this]
theorem ok_get {s : ByteArray} {j : Nat} (hj : j < s.size) : okAt s.data.toList j = (alnum (s[j]) || (decide ((s[j]).toNat = 45) && decide (0 < j) && decide (j + 1 < s.size))) := by
  have hlt : j < s.data.toList.length := by rw [data_length]; exact hj
  have hg : s.data.toList.getD j 0 = s[j] := by rw [List.getD_eq_getElem?_getD, List.getElem?_eq_getElem hlt]; rfl
  rw [okAt, hg, data_length]
theorem size_ne (s : ByteArray) : (!s.toList.isEmpty) = decide (s.size ≠ 0) := by
  rw [ByteArray.toList_eq, ← data_length]
  cases s.data.toList <;> simp
theorem alnum_cases {c : UInt8} (h : alnum c = true) : (97 ≤ (c.toNat : Int) ∧ (c.toNat : Int) ≤ 122) ∨ (48 ≤ (c.toNat : Int) ∧ (c.toNat : Int) ≤ 57) := by
  simp only [alnum, Bool.or_eq_true, Bool.and_eq_true, decide_eq_true_iff] at h
  omega
theorem alnum_not {c : UInt8} (h : alnum c = false) : ¬ (97 ≤ (c.toNat : Int) ∧ (c.toNat : Int) ≤ 122) ∧ ¬ (48 ≤ (c.toNat : Int) ∧ (c.toNat : Int) ≤ 57) := by
  rw [alnum] at h
  simp only [Bool.or_eq_false_iff, Bool.and_eq_false_iff, decide_eq_false_iff_not] at h
  omega
theorem alnum_parts {c : UInt8} (h : alnum c = false) : 123 ≤ (c.toNat : Int) ∨ (58 ≤ (c.toNat : Int) ∧ (c.toNat : Int) ≤ 96) ∨ (c.toNat : Int) ≤ 47 := by
  obtain ⟨h1, h2⟩ := alnum_not h
  omega
theorem meas {L j : Nat} (h : j < L) (hw : wrap64 ((j : Int) + 1) = ((j + 1 : Nat) : Int)) : L - (intOf (.int .i64 (wrap64 ((j : Int) + 1)))).toNat < L - (intOf (.int .i64 (j : Int))).toNat := by
  rw [hw]
  simp only [intOf]
  omega

set_option maxHeartbeats 1000000 in
theorem label_calls (s : ByteArray) (w : World) (hs : s.size ≤ 140737488351232) :
    Calls Tryd.prog 12 #[.string s] w fun e w' => e = .returned (.bool (labB s)) ∧ w = w' := by
  have HS := Aside0.mk hs
  clear hs
  go_enter Tryd.func12, Tryd.ntmps12
  go_wp2
  go_loop [7] (fun i => ∃ j : Nat, j ≤ s.size ∧ i = .int .i64 j ∧ Aside0 (upTo s j = true)) (fun i => s.size - (intOf i).toNat)
  case atStart => exact ⟨0, Nat.zero_le _, rfl, ⟨rfl⟩⟩
  case round =>
    obtain ⟨j, hj, rfl, HU⟩ := hrel
    by_cases hlt : j < s.size
    · have HW := Aside0.mk (show wrap64 ((j : Int) + 1) = ((j + 1 : Nat) : Int) from wrap_nat (by have := HS.out; omega))
      have HJ := Aside0.mk hlt
      have HO := Aside0.mk (ok_get hlt)
      by_cases ha : alnum (s[j]) = true
      · have HA := Aside0.mk ha
        rcases alnum_cases ha with ⟨b1, b2⟩ | ⟨b1, b2⟩
        · clear ha
          go_wp2
          go_round
          case rel => exact ⟨j + 1, HJ.out, congrArg (Value.int .i64) HW.out, ⟨by rw [upTo_succ, HU.out, HO.out, HA.out]; rfl⟩⟩
          case measure => exact meas HJ.out HW.out
        · have b3 : ¬ 97 ≤ ((s[j]).toNat : Int) := by omega
          clear ha
          go_wp2
          go_round
          case rel => exact ⟨j + 1, HJ.out, congrArg (Value.int .i64) HW.out, ⟨by rw [upTo_succ, HU.out, HO.out, HA.out]; rfl⟩⟩
          case measure => exact meas HJ.out HW.out
      · have ha' : alnum (s[j]) = false := by simpa using ha
        have HA := Aside0.mk ha'
        rcases alnum_parts ha' with b1 | ⟨b1, b2⟩ | b1
        · have b2 : ¬ ((s[j]).toNat : Int) ≤ 122 := by omega
          have b3 : 97 ≤ ((s[j]).toNat : Int) := by omega
          have b4 : 48 ≤ ((s[j]).toNat : Int) := by omega
          have b5 : ¬ ((s[j]).toNat : Int) ≤ 57 := by omega
          have b6 : (((s[j]).toNat : Int) == 45) = false := by rw [beq_eq_false_iff_ne]; omega
          have HF := Aside0.mk (upTo_false hlt (by rw [ok_get hlt, ha']; simp; omega))
          clear ha ha' b1
          go_wp2
          go_ret
          exact ⟨by rw [HF.out]; rfl, rfl⟩
        · have b3 : ¬ 97 ≤ ((s[j]).toNat : Int) := by omega
          have b4 : 48 ≤ ((s[j]).toNat : Int) := by omega
          have b5 : ¬ ((s[j]).toNat : Int) ≤ 57 := by omega
          have b6 : (((s[j]).toNat : Int) == 45) = false := by rw [beq_eq_false_iff_ne]; omega
          have HF := Aside0.mk (upTo_false hlt (by rw [ok_get hlt, ha']; simp; omega))
          clear ha ha' b1 b2
          go_wp2
          go_ret
          exact ⟨by rw [HF.out]; rfl, rfl⟩
        · have b3 : ¬ 97 ≤ ((s[j]).toNat : Int) := by omega
          have b4 : ¬ 48 ≤ ((s[j]).toNat : Int) := by omega
          by_cases hd : (s[j]).toNat = 45
          · have b6 : (((s[j]).toNat : Int) == 45) = true := by rw [beq_iff_eq]; omega
            by_cases h0 : 0 < j
            · have b7 : 0 < (j : Int) := by omega
              have hw2 : wrap64 ((j : Int) + 1) = (j : Int) + 1 := wrap_id (by omega) (by have := HS.out; omega)
              by_cases h1 : j + 1 < s.size
              · have b8 : (j : Int) + 1 < (s.size : Int) := by omega
                have HK := Aside0.mk (show okAt s.data.toList j = true by rw [ok_get hlt, ha']; simp [hd, h0, h1])
                clear ha ha' b1 hd h1
                go_wp2
                go_round
                case rel => exact ⟨j + 1, HJ.out, congrArg (Value.int .i64) HW.out, ⟨by rw [upTo_succ, HU.out, HK.out]; rfl⟩⟩
                case measure => exact meas HJ.out HW.out
              · have b8 : ¬ (j : Int) + 1 < (s.size : Int) := by omega
                have HF := Aside0.mk (upTo_false hlt (by rw [ok_get hlt, ha']; simp [h1]))
                clear ha ha' b1 hd h1
                go_wp2
                go_ret
                exact ⟨by rw [HF.out]; rfl, rfl⟩
            · have b7 : ¬ 0 < (j : Int) := by omega
              have HF := Aside0.mk (upTo_false hlt (by rw [ok_get hlt, ha']; simp [h0]))
              clear ha ha' b1 hd h0
              go_wp2
              go_ret
              exact ⟨by rw [HF.out]; rfl, rfl⟩
          · have b6 : (((s[j]).toNat : Int) == 45) = false := by rw [beq_eq_false_iff_ne]; omega
            have HF := Aside0.mk (upTo_false hlt (by rw [ok_get hlt, ha']; simp [hd]))
            clear ha ha' b1 hd
            go_wp2
            go_ret
            exact ⟨by rw [HF.out]; rfl, rfl⟩
    · go_wp2
      go_ret
      have e : j = s.size := Nat.le_antisymm hj (Nat.not_lt.1 hlt)
      have e2 : labB s = !s.toList.isEmpty := by
        rw [labB, show ((List.range s.size).all fun i => okAt s.data.toList i) = true from e ▸ HU.out, Bool.true_and, ← size_ne]
      exact ⟨by rw [e2]; rfl, rfl⟩

/-- What is left of the reference's labels, from a place on, with what has begun ahead. -/
def rest (s : ByteArray) (f j : Nat) : Bool := mets ((s.data.toList.take j).drop f) (s.data.toList.drop j)
theorem lab_cut (s : ByteArray) (f j : Nat) : labB (s.extract f j) = lab ((s.data.toList.take j).drop f) := by
  rw [labB, labB_eq, Lib.extract_data, List.drop_take]
theorem rest_end (s : ByteArray) (f : Nat) : rest s f s.size = labB (s.extract f s.size) := by
  have hL : s.data.toList.length = s.size := data_length s
  rw [rest, lab_cut, List.drop_of_length_le (i := s.size) (by omega), mets]
theorem rest_point {s : ByteArray} {f j : Nat} (hj : j < s.size) (h : (s[j]).toNat = 46) : rest s f j = (labB (s.extract f j) && rest s (j + 1) (j + 1)) := by
  have hlt : j < s.data.toList.length := by rw [data_length]; exact hj
  have hc : s.data.toList[j] = s[j] := rfl
  rw [rest, drop_next hlt, mets, hc, if_pos h, lab_cut, rest]
  rw [List.drop_of_length_le (i := j + 1) (l := s.data.toList.take (j + 1)) (by rw [List.length_take]; omega)]
theorem rest_more {s : ByteArray} {f j : Nat} (hj : j < s.size) (hf : f ≤ j) (h : (s[j]).toNat ≠ 46) : rest s f j = rest s f (j + 1) := by
  have hlt : j < s.data.toList.length := by rw [data_length]; exact hj
  have hc : s.data.toList[j] = s[j] := rfl
  rw [rest, drop_next hlt, mets, hc, if_neg h, rest]
  rw [take_next hlt, List.drop_append_of_le_length (by rw [List.length_take]; omega)]
  rfl

theorem cut_size (s : ByteArray) (a b : Nat) (h : s.size ≤ 140737488351232) : (s.extract a b).size ≤ 140737488351232 := by
  have : (s.extract a b).size ≤ s.size := by rw [ByteArray.size_extract]; omega
  omega

def metaB (s : ByteArray) : Bool := mets [] s.data.toList

set_option maxHeartbeats 1000000 in
theorem metadata_calls (s : ByteArray) (w : World) (hs : s.size ≤ 140737488351232) :
    Calls Tryd.prog 7 #[.string s] w fun e w' => e = .returned (.bool (metaB s)) ∧ w = w' := by
  have HS := Aside0.mk hs
  clear hs
  go_enter Tryd.func7, Tryd.ntmps7
  go_wp2
  go_loop [3, 4] (fun f i => ∃ (a j : Nat), a ≤ j ∧ j ≤ s.size + 1 ∧ f = .int .i64 a ∧ i = .int .i64 j ∧ Aside0 (j ≤ s.size → rest s a j = metaB s) ∧ Aside0 (j = s.size + 1 → metaB s = true)) (fun _ i => s.size + 1 - (intOf i).toNat)
  case atStart => exact ⟨0, 0, Nat.le_refl _, Nat.zero_le _, rfl, rfl, ⟨fun _ => rfl⟩, ⟨fun h => by omega⟩⟩
  case round =>
    obtain ⟨a, j, haj, hj, rfl, rfl, H1, H2⟩ := hrel
    by_cases hle : j ≤ s.size
    · have HW := Aside0.mk (show wrap64 ((j : Int) + 1) = ((j + 1 : Nat) : Int) from wrap_nat (by have := HS.out; omega))
      have HJ := Aside0.mk (show j < s.size + 1 by omega)
      have HA := Aside0.mk haj
      have p0 : 0 ≤ (a : Int) := Int.natCast_nonneg a
      have p1 : (a : Int) ≤ (j : Int) := Int.ofNat_le.2 haj
      have p2 : (j : Int) ≤ (s.size : Int) := Int.ofNat_le.2 hle
      by_cases he : j = s.size
      · have q0 : ((j : Int) == (s.size : Int)) = true := by rw [beq_iff_eq]; omega
        have HM := Aside0.mk (show labB (s.extract a j) = metaB s from by rw [← H1.out hle, he, rest_end])
        have HE := Aside0.mk he
        clear he hle H1 H2
        cases hb : labB (s.extract a j) with
        | true =>
          go_wp2_with (go_at_call 12; refine (label_calls (s.extract a j) _ (cut_size s a j HS.out)).mono ?_; rintro e w' ⟨rfl, rfl⟩)
          go_round
          case rel => exact ⟨j + 1, j + 1, Nat.le_refl _, HJ.out, congrArg (Value.int .i64) HW.out, congrArg (Value.int .i64) HW.out, ⟨fun h => by have := HE.out; omega⟩, ⟨fun _ => HM.out.symm.trans hb⟩⟩
          case measure => exact meas HJ.out HW.out
        | false =>
          have HF := Aside0.mk (HM.out.symm.trans hb)
          go_wp2_with (go_at_call 12; refine (label_calls (s.extract a j) _ (cut_size s a j HS.out)).mono ?_; rintro e w' ⟨rfl, rfl⟩)
          go_ret
          exact ⟨by rw [HF.out]; rfl, rfl⟩
      · have hlt : j < s.size := by omega
        have q0 : ((j : Int) == (s.size : Int)) = false := by rw [beq_eq_false_iff_ne]; omega
        have q1 : (j : Int) < (s.size : Int) := Int.ofNat_lt.2 hlt
        by_cases hc : (s[j]).toNat = 46
        · have q2 : (((s[j]).toNat : Int) == 46) = true := by rw [beq_iff_eq]; omega
          have HM := Aside0.mk ((rest_point (f := a) hlt hc).symm.trans (H1.out hle))
          have HE := Aside0.mk hlt
          clear he hle H1 H2 hc
          cases hb : labB (s.extract a j) with
          | true =>
            have HN := Aside0.mk (show rest s (j + 1) (j + 1) = metaB s from by rw [← HM.out, hb]; rfl)
            go_wp2_with (go_at_call 12; refine (label_calls (s.extract a j) _ (cut_size s a j HS.out)).mono ?_; rintro e w' ⟨rfl, rfl⟩)
            go_round
            case rel => exact ⟨j + 1, j + 1, Nat.le_refl _, HJ.out, congrArg (Value.int .i64) HW.out, congrArg (Value.int .i64) HW.out, ⟨fun _ => HN.out⟩, ⟨fun h => by have := HE.out; omega⟩⟩
            case measure => exact meas HJ.out HW.out
          | false =>
            have HF := Aside0.mk (show metaB s = false from by rw [← HM.out, hb]; rfl)
            go_wp2_with (go_at_call 12; refine (label_calls (s.extract a j) _ (cut_size s a j HS.out)).mono ?_; rintro e w' ⟨rfl, rfl⟩)
            go_ret
            exact ⟨by rw [HF.out]; rfl, rfl⟩
        · have q2 : (((s[j]).toNat : Int) == 46) = false := by rw [beq_eq_false_iff_ne]; omega
          have HM := Aside0.mk ((rest_more hlt haj hc).symm.trans (H1.out hle))
          have HE := Aside0.mk hlt
          clear he hle H1 H2 hc
          go_wp2
          go_round
          case rel => exact ⟨a, j + 1, Nat.le_succ_of_le HA.out, HJ.out, rfl, congrArg (Value.int .i64) HW.out, ⟨fun _ => HM.out⟩, ⟨fun h => by have := HE.out; omega⟩⟩
          case measure => exact meas HJ.out HW.out
    · have HE := Aside0.mk (H2.out (by omega))
      go_wp2
      go_ret
      exact ⟨by rw [HE.out]; rfl, rfl⟩

end Go.Proofs.YtefejcggkkmhaaaDoor.HMeta
