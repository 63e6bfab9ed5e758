/- What utils.PathSplitter comes to over the parts that its split tells: parts behind a backslash are put together with the next one; for parts of at most ten million bytes together. -/
import Derived.Test.YtgdffbjkafbkcaaPlain
import Derived.Test.YtgdffbjkafbkcaaPzzSplitx
import Derived.Deep.LoopGhost
import Derived.Deep.QuietTactic
import Derived.Deep.DeepCutAuto
import Derived.BigQuiet
import Derived.StillTailTactics
import Derived.Laws.OwnMore
import Derived.OwnWalk
import Derived.WalkKit
import Derived.WalkSpells
namespace Go.Proofs.Ytgdffbjkafbkcaa.HSplit
open Go.RowKit Go.Proofs.YtgdffbjkafbkcaaW.PrintWords Go.Proofs.YtgdffbjkafbkcaaW.PrintLast Go.Proofs.YtgdffbjkafbkcaaW.PrintMore Go.Proofs.Ytgdffbjkafbkcaa.Plain

def bs : ByteArray := ⟨#[92]⟩
/-- A text ends with a backslash. -/
def endsB (s : ByteArray) : Bool := decide (1 ≤ s.size) && decide (s.extract (s.size - 1) s.size = bs)
def trimB (s : ByteArray) : ByteArray := if endsB s then s.extract 0 (s.size - 1) else s

set_option maxHeartbeats 400000 in
theorem has_calls (s : ByteArray) (w : World) (hs : s.size ≤ maxLen) : Calls Try.prog 29 #[.string s, .string bs] w fun e w' => e = .returned (.bool (endsB s)) ∧ w = w' := by
  unfold maxLen at hs
  by_cases h : 1 ≤ s.size
  · have h1 : 1 ≤ (s.size : Int) := by omega
    have hb : bs.size = 1 := rfl
    have HE := Aside0.mk (show endsB s = ((s.extract (s.size - 1) s.size).toList == bs.toList) by rw [beq_toList]; simp [endsB, h])
    go_enter Try.func29, Try.ntmps29
    go_wp2
    go_ret
    exact ⟨by rw [HE.out]; rfl, rfl⟩
  · have h1 : ¬ 1 ≤ (s.size : Int) := by omega
    have hb : bs.size = 1 := rfl
    have HE := Aside0.mk (show endsB s = false by simp [endsB, h])
    go_enter Try.func29, Try.ntmps29
    go_wp2
    go_ret
    exact ⟨by rw [HE.out]; rfl, rfl⟩

set_option maxHeartbeats 400000 in
theorem suffix_calls (s : ByteArray) (w : World) (hs : s.size ≤ maxLen) : Calls Try.prog 21 #[.string s, .string bs] w fun e w' => e = .returned (.bool (endsB s)) ∧ w = w' := by
  go_enter Try.func21, Try.ntmps21
  go_wp2_with (go_at_call 29; refine (has_calls s _ hs).mono ?_; rintro e w' ⟨rfl, rfl⟩)
  go_ret
  exact ⟨rfl, rfl⟩

theorem ends_pos {s : ByteArray} (h : endsB s = true) : 1 ≤ s.size := by
  simp only [endsB, Bool.and_eq_true, decide_eq_true_iff] at h
  exact h.1

set_option maxHeartbeats 400000 in
theorem trim0_calls (s : ByteArray) (w : World) (hs : s.size ≤ maxLen) : Calls Try.prog 30 #[.string s, .string bs] w fun e w' => e = .returned (.string (trimB s)) ∧ w = w' := by
  have hb : bs.size = 1 := rfl
  cases h : endsB s with
  | true =>
    have h1 : 1 ≤ (s.size : Int) := by have := ends_pos h; omega
    have HE := Aside0.mk (show trimB s = s.extract 0 (s.size - 1) from if_pos h)
    have h2 := hs
    unfold maxLen at h2
    go_enter Try.func30, Try.ntmps30
    go_wp2_with (go_at_call 29; refine (has_calls s _ hs).mono ?_; rintro e w' ⟨rfl, rfl⟩)
    go_ret
    exact ⟨by rw [HE.out]; rfl, rfl⟩
  | false =>
    have HE := Aside0.mk (show trimB s = s from if_neg (by rw [h]; simp))
    go_enter Try.func30, Try.ntmps30
    go_wp2_with (go_at_call 29; refine (has_calls s _ hs).mono ?_; rintro e w' ⟨rfl, rfl⟩)
    go_ret
    exact ⟨by rw [HE.out]; rfl, rfl⟩

set_option maxHeartbeats 400000 in
theorem trim_calls (s : ByteArray) (w : World) (hs : s.size ≤ maxLen) : Calls Try.prog 22 #[.string s, .string bs] w fun e w' => e = .returned (.string (trimB s)) ∧ w = w' := by
  go_enter Try.func22, Try.ntmps22
  go_wp2_with (go_at_call 30; refine (trim0_calls s _ hs).mono ?_; rintro e w' ⟨rfl, rfl⟩)
  go_ret
  exact ⟨rfl, rfl⟩

/-- Parts, one behind the other: behind a backslash the next one is put to the last one. -/
def mg (d : ByteArray) (res : List ByteArray) (last : ByteArray) : List ByteArray → List ByteArray
  | [] => res ++ [last]
  | p :: r => if endsB last then mg d res (trimB last ++ d ++ p) r else mg d (res ++ [last]) p r
def dropFirst (l : List ByteArray) : List ByteArray := if 1 < l.length ∧ l.getD 0 ByteArray.empty = ByteArray.empty then l.drop 1 else l
def dropQ (l : List ByteArray) : Bool := decide (1 < l.length) && decide (l.getD 0 ByteArray.empty = ByteArray.empty)
def pathB (d : ByteArray) (l : List ByteArray) : List ByteArray := mg d [] ((dropFirst l).getD 0 ByteArray.empty) ((dropFirst l).drop 1)
def sumB (d : ByteArray) (l : List ByteArray) : Nat := (l.map fun s => s.size + d.size).sum

theorem info9 : (Try.prog.info? 9).map (fun i => (i.zero, i.size, i.bytes)) = some (some (.string ⟨#[]⟩), 1, 16) := by kernel_rfl
theorem meas {L j : Nat} (h : j < L) (hw : wrap64 ((j : Int) + 1) = ((j + 1 : Nat) : Int)) : L - (intOf (.int .i64 (wrap64 ((j : Int) + 1)))).toNat < L - (intOf (.int .i64 (j : Int))).toNat := by
  rw [hw]
  simp only [intOf]
  omega

theorem add_zero' (a : Addr) : a.add 0 = a := by simp [Addr.add]
theorem getD_0 {l : List ByteArray} (h : 0 < l.length) : l.getD 0 ByteArray.empty = l[0] := by rw [List.getD_eq_getElem?_getD, List.getElem?_eq_getElem h]; rfl
theorem isEmpty_toList (s : ByteArray) : s.toList.isEmpty = decide (s = ByteArray.empty) := by
  rw [Bool.eq_iff_iff, List.isEmpty_iff, decide_eq_true_iff]
  constructor
  · intro h
    apply toList_inj.1
    rw [h, ByteArray.toList_eq]; rfl
  · rintro rfl
    rw [ByteArray.toList_eq]; rfl

theorem dropQ_iff {l : List ByteArray} : dropQ l = true ↔ (1 < l.length ∧ l.getD 0 ByteArray.empty = ByteArray.empty) := by rw [dropQ, Bool.and_eq_true, decide_eq_true_iff, decide_eq_true_iff]
theorem dropQ_lt {l : List ByteArray} (h : dropQ l = true) : 1 < l.length := (dropQ_iff.1 h).1
theorem dropFirst_of {l : List ByteArray} (h : dropQ l = true) : dropFirst l = l.drop 1 := if_pos (dropQ_iff.1 h)
theorem dropFirst_not {l : List ByteArray} (h : dropQ l = false) : dropFirst l = l := if_neg (fun e => by rw [dropQ_iff.2 e] at h; cases h)

theorem dropFirst_ne {l : List ByteArray} (h : l ≠ []) : dropFirst l ≠ [] := by
  unfold dropFirst
  split
  · rename_i h1
    intro e
    have := congrArg List.length e
    rw [List.length_drop] at this
    simp at this
    omega
  · exact h

theorem wr64 {L j : Nat} (h : j < L) (hL : L ≤ 1000000) : wrap64 ((j : Int) + 1) = ((j + 1 : Nat) : Int) := wrap_nat (by omega)

theorem get_last {acc : List ByteArray} {x : ByteArray} {q : Nat} (h : acc.length = q) {hq : q < (acc ++ [x]).length} : (acc ++ [x])[q] = x := by subst h; simp

theorem small {x : ByteArray} {n : Nat} (h : x.size + n ≤ 10000000) : x.size ≤ maxLen := by unfold maxLen; omega
theorem lenok {acc : List ByteArray} {x : ByteArray} {q : Nat} (h : acc.length = q) (hq : q + 1 ≤ 1000000) : ((acc ++ [x]).length + 1) * 16 ≤ 140737488355328 := by rw [List.length_append, h]; simp; omega
theorem sumB_next {d : ByteArray} {ps : List ByteArray} {j : Nat} (h : j < ps.length) : sumB d (ps.drop j) = ps[j].size + d.size + sumB d (ps.drop (j + 1)) := by
  unfold sumB
  rw [drop_next h, List.map_cons, List.sum_cons]
theorem sum_next {d x : ByteArray} {ps : List ByteArray} {j : Nat} (h : j < ps.length) (hs : x.size + sumB d (ps.drop j) ≤ 10000000) : ps[j].size + sumB d (ps.drop (j + 1)) ≤ 10000000 := by
  rw [sumB_next h] at hs; omega

theorem trimB_size (x : ByteArray) : (trimB x).size ≤ x.size := by
  unfold trimB
  split
  · rw [ByteArray.size_extract]; omega
  · exact Nat.le_refl _
theorem cat_ok1 {d x : ByteArray} {ps : List ByteArray} {j : Nat} (h : j < ps.length) (hs : x.size + sumB d (ps.drop j) ≤ 10000000) : ¬ 9223372036854775807 < (trimB x).size + d.size := by
  rw [sumB_next h] at hs
  have := trimB_size x
  omega
theorem cat_ok2 {d x : ByteArray} {ps : List ByteArray} {j : Nat} (h : j < ps.length) (hs : x.size + sumB d (ps.drop j) ≤ 10000000) : ¬ 9223372036854775807 < (trimB x).size + d.size + ps[j].size := by
  rw [sumB_next h] at hs
  have := trimB_size x
  omega
theorem sum_cat {d x : ByteArray} {ps : List ByteArray} {j : Nat} (h : j < ps.length) (hs : x.size + sumB d (ps.drop j) ≤ 10000000) : (trimB x ++ d ++ ps[j]).size + sumB d (ps.drop (j + 1)) ≤ 10000000 := by
  rw [sumB_next h] at hs
  have := trimB_size x
  rw [ByteArray.size_append, ByteArray.size_append]
  omega

theorem set_last {acc : List ByteArray} {x y : ByteArray} {q : Nat} (h : acc.length = q) : (acc ++ [x]).set q y = acc ++ [y] := by subst h; simp

theorem sumB_dropFirst (d : ByteArray) (l : List ByteArray) : sumB d (dropFirst l) ≤ sumB d l := by
  unfold dropFirst
  split
  · cases l with
    | nil => exact Nat.le_refl _
    | cons a r => simp only [sumB, List.drop_succ_cons, List.drop_zero, List.map_cons, List.sum_cons]; omega
  · exact Nat.le_refl _
theorem start_sum {d : ByteArray} {ps : List ByteArray} (h : 0 < ps.length) (hs : sumB d ps ≤ 10000000) : ps[0].size + sumB d (ps.drop 1) ≤ 10000000 := by
  have := sumB_next (d := d) h
  rw [List.drop_zero, Nat.zero_add] at this
  omega

set_option maxHeartbeats 1000000 in
theorem split_calls (s d : ByteArray) (l : List ByteArray) (k : Nat) (w : World) (hk : PzzSplit.utils_zzSplit.f k s d = some l) (hl : l ≠ []) (hz : sumB d l ≤ 10000000) (hn : l.length ≤ 1000000) :
    Calls Try.prog 15 #[.string s, .string d] w fun e w' => ∃ v : Value, e = .returned v ∧ Kd.R Kd.string 9 w' w.heap.size (fun _ => True) v (pathB d l) ∧ Below w.heap.size w w' := by
  have HK := Aside0.mk hk
  have HL := Aside0.mk hl
  have HZ := Aside0.mk hz
  have HN := Aside0.mk hn
  clear hk hl hz hn
  go_enter Try.func15, Try.ntmps15
  go_upto_region 3 with (go_at_call 20; refine (PzzSplit.utils_zzSplit.calls k s d l _ HK.out).mono ?_; rintro e w1 ⟨v, rfl, ho, hb⟩; obtain ⟨A, c, rfl⟩ := Kd.R_slice ho; have HO := Aside0.mk ho; have HB := Aside0.mk hb; clear ho hb)
  go_cut [20] (fun s20 wx => s20 = .bool (dropQ l) ∧ wx = w1)
  case first =>
    by_cases h1 : 1 < l.length
    · obtain ⟨ad, e0, hx⟩ := Kd.at_string (Kd.R_reads' HO.out).2.2 (0 : Int) (Int.le_refl 0) (by omega)
      cases e0
      have hq0 : 0 < l.length := by omega
      have hx' : w1.cell? ad = some (.string l[0]) := by
        have := hx
        rw [show (0 : Int) = ((0 : Nat) : Int) from rfl, rdOf_nat _ _ _ hq0, Int.toNat_natCast, add_zero'] at this
        exact this
      have hq : (1 : Int) < (l.length : Int) := by omega
      have HE := Aside0.mk (show dropQ l = l[0].toList.isEmpty by rw [dropQ, decide_eq_true h1, Bool.true_and, getD_0 hq0, isEmpty_toList])
      clear hx h1
      go_wp2
      all_goals (go_meet; exact ⟨congrArg Value.bool (by rw [HE.out]), rfl⟩)
    · have hq : ¬ (1 : Int) < (l.length : Int) := by omega
      have HE := Aside0.mk (show dropQ l = false by rw [dropQ, decide_eq_false h1, Bool.false_and])
      clear h1
      go_wp2
      go_meet
      exact ⟨congrArg Value.bool (by rw [HE.out]), rfl⟩
  case rest =>
    obtain ⟨rfl, rfl⟩ := hcut
    go_upto_if 20 with (fail)
    go_cut [5] (fun s5 wx => ∃ (B : Option Addr) (k2 : Nat), s5 = .slice B (dropFirst l).length k2 ∧ wx = wc ∧ Aside0 (Kd.C Kd.string wc B (dropFirst l).length (dropFirst l)))
    case first =>
      cases hq : dropQ l with
      | true =>
        have HD := Aside0.mk (dropFirst_of hq)
        have h1 := Aside0.mk (dropQ_lt hq)
        have hc := (Kd.R_reads' HO.out).2.1
        have hC := Aside0.mk (Kd.C_drop (m := 1) (Kd.R_reads' HO.out).2.2 (Nat.le_of_lt h1.out) hc)
        obtain ⟨ad, rfl, _⟩ := (Kd.R_reads' HO.out).2.2.2.2 (Nat.lt_of_lt_of_le Nat.zero_lt_one (Nat.le_of_lt h1.out))
        have hk1 : (1 : Int) ≤ (c : Int) := by have := h1.out; omega
        have hk2 : (1 : Int) ≤ (l.length : Int) := by have := h1.out; omega
        have hk4 : (l.length : Int) ≤ (c : Int) := by omega
        have hk3 : ¬ c = 1 := by have := h1.out; omega
        rw [if_neg hk3] at hC
        clear hc
        go_wp2
        go_meet
        refine ⟨_, _, by rw [HD.out, List.length_drop], rfl, ⟨by rw [HD.out]; exact hC.out⟩⟩
      | false =>
        have HD := Aside0.mk (dropFirst_not hq)
        go_wp2
        go_meet
        exact ⟨A, c, by rw [HD.out], rfl, ⟨by rw [HD.out]; exact (Kd.R_reads' HO.out).2.2⟩⟩
    case rest =>
      obtain ⟨B, k2, rfl, rfl, HC⟩ := hcut
      have hps := dropFirst_ne HL.out
      have HPS := Aside0.mk hps
      clear hps
      obtain ⟨ps, hps⟩ : ∃ ps, dropFirst l = ps := ⟨_, rfl⟩
      have HP := Aside0.mk (show pathB d l = mg d [] (ps.getD 0 ByteArray.empty) (ps.drop 1) by rw [pathB, hps])
      have HLE := Aside0.mk (show ps.length ≤ 1000000 by have := HN.out; rw [← hps, dropFirst]; split <;> (try rw [List.length_drop]) <;> omega)
      have HSM := Aside0.mk (show sumB d ps ≤ 10000000 by rw [← hps]; exact Nat.le_trans (sumB_dropFirst d l) HZ.out)
      rw [hps] at HC HPS
      rw [hps]
      clear hps
      have hp0 : 0 < ps.length := List.length_pos_iff.2 HPS.out
      obtain ⟨ad, e0, hx⟩ := Kd.at_string HC.out (0 : Int) (Int.le_refl 0) (by omega)
      cases e0
      rw [show (0 : Int) = ((0 : Nat) : Int) from rfl, rdOf_nat _ _ _ hp0, Int.toNat_natCast, add_zero'] at hx
      go_wp2_with (refine gate_builtin (b := .append) (xs := #[.tmp 23, .tmp 27]) rfl ?_; at_builtin; refine Kd.R_append Kd.string (w0 := wc) wc.heap.size rfl (.tmp 23) (.tmp 27) 22 9 (.string ⟨#[]⟩) 16 rfl Try.underlying22 info9 rfl (by decide) (by omega) _ [] ps[0] [.string ps[0]] (fun _ => True) (fun _ => False) rfl rfl rfl (fun _ h => h.elim) (fun _ _ => trivial) (Kd.R_nil _ _ _ _ _) (Below.refl _ _) (Nat.le_refl _) (by simp) ?_; intro v3 w3 ho3 hb3 hg3 _)
      have HO3 := Aside0.mk ho3
      have HB3 := Aside0.mk hb3
      clear ho3 hb3 hg3 hx
      go_loopw [6, 7, 8] (fun v i z wr => ∃ (j q : Nat) (acc : List ByteArray) (x : ByteArray), j ≤ ps.length ∧ i = .int .i64 j ∧ Aside0 (acc.length = q) ∧ Aside0 (q < j) ∧ Aside0 (x.size + sumB d (ps.drop j) ≤ 10000000) ∧ Aside0 (mg d acc x (ps.drop j) = pathB d l) ∧ Aside0 (Kd.R Kd.string 9 wr wc.heap.size (fun _ => True) v (acc ++ [x])) ∧ Aside0 (Below wc.heap.size wc wr)) (fun _ i _ _ => ps.length - (intOf i).toNat)
      case atStart => exact ⟨1, 0, [], ps[0], hp0, rfl, ⟨rfl⟩, ⟨Nat.zero_lt_one⟩, ⟨start_sum hp0 HSM.out⟩, ⟨by rw [HP.out, getD_0 hp0]⟩, ⟨HO3.out⟩, ⟨HB3.out⟩⟩
      case round =>
        obtain ⟨j, q, acc, x, hj, rfl, HA, HQ, HS, HT, HV, HB4⟩ := hrel
        by_cases hlt : j < ps.length
        · have HW := Aside0.mk (wr64 hlt HLE.out)
          have HJ := Aside0.mk hlt
          obtain ⟨A2, c2, rfl⟩ := Kd.R_slice HV.out
          obtain ⟨inner, hi⟩ := Kd.R_own HV.out
          obtain ⟨g, cap, e1, hg⟩ := hi.form (by simp)
          have HG := Aside0.mk hg
          clear hg
          injection e1 with e2 e3 e4
          cases e2
          cases e4
          have hc := Kd.R_cell (h1 := fun _ => rfl) (enc := Value.string) ByteArray.empty HV.out (q : Int) (Int.natCast_nonneg q) (by rw [List.length_append, HA.out]; simp; omega)
          rw [rdOf_nat _ _ _ (by rw [List.length_append, HA.out]; simp), Int.toNat_natCast, get_last HA.out] at hc
          obtain ⟨hc1, hc2⟩ := hc
          clear hi
          have HV2 := HV
          have hlen : (acc ++ [x]).length = q + 1 := by rw [List.length_append, HA.out]; rfl
          rw [hlen] at HV2
          rw [hlen]
          clear hlen
          have qb : q + 1 ≤ 1000000 := by have := HQ.out; have := HLE.out; omega
          obtain ⟨bd, e1, hy⟩ := Kd.at_string (Kd.C_below HC.out HB4.out) (j : Int) (Int.natCast_nonneg j) (Int.ofNat_lt.2 hlt)
          cases e1
          rw [rdOf_nat _ _ _ hlt, Int.toNat_natCast] at hy
          have p0 : 0 ≤ (j : Int) := Int.natCast_nonneg j
          have q0 : (j : Int) < (ps.length : Int) := Int.ofNat_lt.2 hlt
          clear e3
          cases he : endsB x with
          | true =>
            go_wp2_with (go_at_call 21; refine (suffix_calls x _ (small HS.out)).mono ?_; rintro e w' ⟨rfl, rfl⟩)
            have r0 : 0 ≤ (q : Int) := Int.natCast_nonneg q
            have r1 : (q : Int) < (q : Int) + 1 := Int.lt_add_one_of_le (Int.le_refl _)
            have r2 := cat_ok1 HJ.out HS.out
            have r3 := cat_ok2 HJ.out HS.out
            go_still_tail 15, (by kernel_rfl)
            still_call ((trim_calls x _ (small HS.out)).mono (fun _ _ h => ⟨h.1, h.2.symm⟩))
            repeat still_step
            refine wpStill_nil ?_
            change wpList _ _ _ _ _ wr.drew
            go_wp2
            go_roundw
            case rel =>
              refine ⟨j + 1, q, acc, trimB x ++ d ++ ps[j], HJ.out, congrArg (Value.int .i64) HW.out, HA, ⟨Nat.lt_succ_of_lt HQ.out⟩, ⟨sum_cat HJ.out HS.out⟩, ⟨by rw [← HT.out, drop_next HJ.out, mg, if_pos he]⟩, ⟨?_⟩, ⟨?_⟩⟩
              · have h := (Kd.R_put (h1 := fun _ => rfl) (enc := Value.string) (Kd.R_drew HV.out) (q : Int) (trimB x ++ d ++ ps[j])).1
                rw [Int.toNat_natCast, set_last HA.out, List.length_append, HA.out] at h
                exact h
              · exact (below_drew1 HB4.out).setCell HG.out.1 _
            case measure => exact meas HJ.out HW.out
          | false =>
            go_wp2_with (first
              | (go_at_call 21; refine (suffix_calls x _ (small HS.out)).mono ?_; rintro e w' ⟨rfl, rfl⟩)
              | (refine gate_builtin (b := .append) (xs := #[.tmp 58, .tmp 63]) rfl ?_; at_builtin; refine Kd.R_append Kd.string (w0 := wc) wc.heap.size rfl (.tmp 58) (.tmp 63) 22 9 (.string ⟨#[]⟩) 16 rfl Try.underlying22 info9 rfl (by decide) (by omega) _ (acc ++ [x]) ps[j] [.string ps[j]] (fun _ => True) (fun _ => False) rfl rfl rfl (fun _ h => h.elim) (fun _ _ => trivial) HV2.out HB4.out HB4.out.size (lenok HA.out qb) ?_; intro v5 w5 ho5 hb5 hg5 _))
            go_roundw
            case rel => exact ⟨j + 1, q + 1, acc ++ [x], ps[j], HJ.out, congrArg (Value.int .i64) HW.out, ⟨by rw [List.length_append, HA.out]; rfl⟩, ⟨Nat.succ_lt_succ HQ.out⟩, ⟨sum_next HJ.out HS.out⟩, ⟨by rw [← HT.out, drop_next HJ.out, mg, if_neg (by rw [he]; simp)]⟩, ⟨ho5⟩, ⟨hb5⟩⟩
            case measure => exact meas HJ.out HW.out
        · have e : j = ps.length := Nat.le_antisymm hj (Nat.not_lt.1 hlt)
          have HT2 := Aside0.mk (show acc ++ [x] = pathB d l by rw [← HT.out, e, List.drop_length]; rfl)
          clear e
          go_wp2
          go_ret
          refine ⟨_, rfl, ?_, HB.out.trans (HB4.out.mono HB.out.size)⟩
          rw [← HT2.out]
          exact Kd.R_lower HV.out HB.out.size

/-- impl.SplitPath with a separator that is not empty. -/
theorem impl_calls (s d : ByteArray) (l : List ByteArray) (k : Nat) (w : World) (hk : PzzSplit.utils_zzSplit.f k s d = some l) (hd : d.size ≠ 0) (hl : l ≠ []) (hz : sumB d l ≤ 10000000) (hn : l.length ≤ 1000000) :
    Calls Try.prog 7 #[.string s, .string d] w fun e w' => ∃ v : Value, e = .returned v ∧ Kd.R Kd.string 9 w' w.heap.size (fun _ => True) v (pathB d l) ∧ Below w.heap.size w w' := by
  have HK := Aside0.mk hk
  have HL := Aside0.mk hl
  have HZ := Aside0.mk hz
  have HN := Aside0.mk hn
  have h1 : d.toList.isEmpty = false := by rw [isEmpty_toList, decide_eq_false_iff_not]; rintro rfl; exact hd rfl
  clear hk hl hz hn hd
  go_enter Try.func7, Try.ntmps7
  go_wp2_with (go_at_call 15; refine (split_calls s d l k _ HK.out HL.out HZ.out HN.out).mono ?_; rintro e w1 ⟨v, rfl, ho, hb⟩; have HO := Aside0.mk ho; have HB := Aside0.mk hb; clear ho hb)
  go_ret
  exact ⟨_, rfl, HO.out, HB.out⟩

end Go.Proofs.Ytgdffbjkafbkcaa.HSplit
