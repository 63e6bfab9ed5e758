/- What Gvk.StringWoEmptyField and Gvk.ApiVersion come to. -/
import Derived.Test.YtfdgbgjbncakfaaHGvk
import Derived.Test.YtfdgbgjbncakfaaPApiVersionx
import Derived.Laws.OwnMore
import Derived.OwnWalk
namespace Go.Proofs.Ytfdgbgjbncakfaa.HGvk
open Go.RowKit Go.Proofs.YtfdgbgjbncakfaaW.PrintWords Go.Proofs.YtfdgbgjbncakfaaW.PrintLast Go.Proofs.YtfdgbgjbncakfaaW.PrintMore Go.Proofs.Ytfdgbgjbncakfaa.Plain

abbrev us : ByteArray := ⟨#[95]⟩
/-- Texts that are not empty, with a sign between. -/
def few (acc : ByteArray) (x : ByteArray) : ByteArray := if x = ByteArray.empty then acc else if acc = ByteArray.empty then x else acc ++ us ++ x
def shortB (g v k : ByteArray) : ByteArray := few (few (few ByteArray.empty g) v) k
def apiB (g v : ByteArray) : ByteArray := if g = ByteArray.empty then v else g ++ ⟨#[47]⟩ ++ v

theorem api_calls (g v k : ByteArray) (f : Bool) (w : World) (hg : g.size ≤ 1000) (hv : v.size ≤ 1000) :
    Calls Try.prog 22 #[.agg #[.string g, .string v, .string k, .bool f]] w fun e w' => e = .returned (.string (apiB g v)) ∧ Below w.heap.size w w' := by
  refine PApiVersion.resid_Gvk_ApiVersion.calls g v k f _ w ?_
  unfold PApiVersion.resid_Gvk_ApiVersion.f apiB
  by_cases h : g = ByteArray.empty
  · rw [if_pos h, if_pos (by rw [h, ByteArray.toList_eq]; rfl)]
  · rw [if_neg h, if_neg (fun e => h (toList_inj.1 (e.trans (by rw [ByteArray.toList_eq]; rfl)))), if_pos (by omega), if_pos (by rw [ByteArray.size_append]; show g.size + 1 + v.size ≤ _; omega)]

theorem info9 : (Try.prog.info? 9).map (fun i => (i.zero, i.size, i.bytes)) = some (some (.string ⟨#[]⟩), 1, 16) := by kernel_rfl
def ne (l : List ByteArray) : List ByteArray := l.filter (fun x => decide (x ≠ ByteArray.empty))

/-- strings.Join over texts that an owned row holds. -/
theorem join_R (xs : List ByteArray) (sep : ByteArray) (v : Value) (W : World) (base : Nat) (ok : Nat → Prop) (h : Kd.R Kd.string 9 W base ok v xs) (hN : xs.length ≤ 1000) (hlen : (Lib.join (xs.map (·.data.toList)) sep.data.toList).length ≤ 140737488355328) :
    Calls Try.prog 31 #[v, .string sep] W fun e w' => e = .returned (.string ⟨(Lib.join (xs.map (·.data.toList)) sep.data.toList).toArray⟩) ∧ Below W.heap.size W w' := by
  obtain ⟨A, c, rfl⟩ := Kd.R_slice h
  cases xs with
  | nil =>
    refine (Try.strings_Join_none A c sep W).mono ?_
    rintro e w' ⟨rfl, rfl⟩
    exact ⟨rfl, Below.refl _ _⟩
  | cons x xs =>
    obtain ⟨inner, hi⟩ := Kd.R_own h
    obtain ⟨g, cap, e1, hg⟩ := hi.form (by simp)
    injection e1 with e2 e3 e4
    cases e2
    cases e4
    refine Try.strings_Join g 0 c (x :: xs) sep W (fun j y hy => ?_) hg.2 (by omega) (Kd.R_reads' h).2.1 hlen
    obtain ⟨hj, rfl⟩ := List.getElem?_eq_some_iff.1 hy
    have hc := Kd.R_cell (h1 := fun _ => rfl) (enc := Value.string) ByteArray.empty h (j : Int) (Int.natCast_nonneg j) (Int.ofNat_lt.2 hj)
    rw [rdOf_nat _ _ _ hj, Int.toNat_natCast] at hc
    rw [Nat.zero_add]
    exact hc.1

theorem em_cases (x : ByteArray) : (x.toList = [] ∧ x = ByteArray.empty) ∨ (x.toList.isEmpty = false ∧ x ≠ ByteArray.empty) := by
  by_cases h : x = ByteArray.empty
  · exact .inl ⟨by rw [h, ByteArray.toList_eq]; rfl, h⟩
  · exact .inr ⟨by rw [isEmpty_toList, decide_eq_false h], h⟩
theorem join_len : ∀ xs : List ByteArray, xs.length ≤ 3 → (∀ x ∈ xs, x.size ≤ 1000) → (Lib.join (xs.map (·.data.toList)) us.data.toList).length ≤ 140737488355328
  | [], _, _ => by simp [Lib.join]
  | [x], _, h => by
    have a : x.size ≤ 1000 := h x (by simp)
    simp [Lib.join]; omega
  | [x, y], _, h => by
    have a : x.size ≤ 1000 := h x (by simp)
    have b : y.size ≤ 1000 := h y (by simp)
    simp [Lib.join]; omega
  | [x, y, z], _, h => by
    have a : x.size ≤ 1000 := h x (by simp)
    have b : y.size ≤ 1000 := h y (by simp)
    have c : z.size ≤ 1000 := h z (by simp)
    simp [Lib.join]; omega
  | _ :: _ :: _ :: _ :: _, h, _ => by simp at h

set_option maxHeartbeats 1000000 in
theorem short_calls (g v k : ByteArray) (f : Bool) (w : World) (hg : g.size ≤ 1000) (hv : v.size ≤ 1000) (hk : k.size ≤ 1000) :
    Calls Try.prog 23 #[.agg #[.string g, .string v, .string k, .bool f]] w fun e w' => e = .returned (.string (shortB g v k)) ∧ Below w.heap.size w w' := by
  obtain ⟨W0, hW0⟩ : ∃ W0, w.alloc (.cells #[.string g, .string v, .string k, .bool f] 38) = W0 := ⟨_, rfl⟩
  have HK := Aside0.mk (show ∀ w3, Below (w.heap.size + 1) W0 w3 → w3.cell? ⟨w.heap.size, 0, none⟩ = some (.string g) ∧ w3.cell? ⟨w.heap.size, 1, none⟩ = some (.string v) ∧ w3.cell? ⟨w.heap.size, 2, none⟩ = some (.string k) by
    intro w3 h
    have h0 := blk_new w (.cells #[.string g, .string v, .string k, .bool f] 38)
    rw [hW0] at h0
    have h1 := (h.block w.heap.size (by omega)).trans h0
    exact ⟨(blk_cell h1 0).trans rfl, (blk_cell h1 1).trans rfl, (blk_cell h1 2).trans rfl⟩)
  have HB0 := Aside0.mk (show Below w.heap.size w W0 by rw [← hW0]; exact below_alloc (Below.refl _ _) _)
  have HB := Aside0.mk (Below.refl (w.heap.size + 1) W0)
  have HO := Aside0.mk (Kd.R_nil Kd.string 9 W0 (w.heap.size + 1) (fun _ => True))
  have HZ := Aside0.mk (show W0.heap.size = w.heap.size + 1 by rw [← hW0, World.size_alloc])
  have HW := Aside0.mk hW0
  clear hW0
  rcases em_cases g with ⟨g1, g2⟩ | ⟨g1, g2⟩ <;> rcases em_cases v with ⟨v1, v2⟩ | ⟨v1, v2⟩ <;> rcases em_cases k with ⟨k1, k2⟩ | ⟨k1, k2⟩
  all_goals
    have G2 := Aside0.mk g2
    have V2 := Aside0.mk v2
    have K2 := Aside0.mk k2
    clear g2 v2 k2
    go_enter Try.func23, Try.ntmps23
    go_upto_region 2 with (fail)
    rw [HW.out]
    obtain ⟨c0, c1, c2⟩ := HK.out W0 HB.out
    go_wp2_with (first
      | (refine gate_builtin (b := .append) (xs := #[.tmp 7, .tmp 10]) rfl ?_; at_builtin; refine Kd.R_append Kd.string (w0 := W0) (w.heap.size + 1) rfl (.tmp 7) (.tmp 10) 33 9 (.string ⟨#[]⟩) 16 rfl Try.underlying33 info9 rfl (by decide) (by omega) _ _ g [.string g] (fun _ => True) (fun _ => False) rfl rfl rfl (fun _ h => h.elim) (fun _ _ => trivial) HO.out HB.out (Nat.le_trans (Nat.le_of_eq HZ.out.symm) HB.out.size) (by simp) ?_; intro v3 w3 ho3 hb3 _ _; have HO := Aside0.mk ho3; have HB := Aside0.mk hb3; obtain ⟨c0, c1, c2⟩ := HK.out w3 hb3; clear ho3 hb3)
      | (refine gate_builtin (b := .append) (xs := #[.tmp 15, .tmp 18]) rfl ?_; at_builtin; refine Kd.R_append Kd.string (w0 := W0) (w.heap.size + 1) rfl (.tmp 15) (.tmp 18) 33 9 (.string ⟨#[]⟩) 16 rfl Try.underlying33 info9 rfl (by decide) (by omega) _ _ v [.string v] (fun _ => True) (fun _ => False) rfl rfl rfl (fun _ h => h.elim) (fun _ _ => trivial) HO.out HB.out (Nat.le_trans (Nat.le_of_eq HZ.out.symm) HB.out.size) (by simp) ?_; intro v3 w3 ho3 hb3 _ _; have HO := Aside0.mk ho3; have HB := Aside0.mk hb3; obtain ⟨c0, c1, c2⟩ := HK.out w3 hb3; clear ho3 hb3)
      | (refine gate_builtin (b := .append) (xs := #[.tmp 23, .tmp 26]) rfl ?_; at_builtin; refine Kd.R_append Kd.string (w0 := W0) (w.heap.size + 1) rfl (.tmp 23) (.tmp 26) 33 9 (.string ⟨#[]⟩) 16 rfl Try.underlying33 info9 rfl (by decide) (by omega) _ _ k [.string k] (fun _ => True) (fun _ => False) rfl rfl rfl (fun _ h => h.elim) (fun _ _ => trivial) HO.out HB.out (Nat.le_trans (Nat.le_of_eq HZ.out.symm) HB.out.size) (by simp) ?_; intro v3 w3 ho3 hb3 _ _; have HO := Aside0.mk ho3; have HB := Aside0.mk hb3; obtain ⟨c0, c1, c2⟩ := HK.out w3 hb3; clear ho3 hb3)
      | (go_at_call 31; refine (join_R _ us _ _ _ _ HO.out (by simp) (join_len _ (by simp) (by simp [hg, hv, hk]))).mono ?_; rintro e w5 ⟨rfl, hb5⟩; have HB5 := Aside0.mk (below_step (HB0.out.trans (HB.out.mono (Nat.le_succ _))) hb5); clear hb5))
    go_ret
    refine ⟨?_, HB5.out⟩
    have g2 := G2.out
    have v2 := V2.out
    have k2 := K2.out
    refine congrArg (fun t => Ending.returned (Value.string t)) ?_
    apply toList_inj.1
    rw [ByteArray.toList_eq, ByteArray.toList_eq]
    simp [shortB, few, g2, v2, k2, Lib.join, ByteArray.data_append]

end Go.Proofs.Ytfdgbgjbncakfaa.HGvk
