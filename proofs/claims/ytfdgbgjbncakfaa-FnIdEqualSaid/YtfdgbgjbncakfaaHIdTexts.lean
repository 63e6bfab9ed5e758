/- What the texts of an id come to: the package's own and the reference's; and its namespace. -/
import Derived.Test.YtfdgbgjbncakfaaHGvk
import Derived.Test.YtfdgbgjbncakfaaPEffectiveNamespacex1
import Derived.Deep.RegionHeld3
import Derived.Deep.DrawnRows
namespace Go.Proofs.Ytfdgbgjbncakfaa.HGvk
open Go.RowKit Go.Proofs.YtfdgbgjbncakfaaW.PrintWords Go.Proofs.YtfdgbgjbncakfaaW.PrintLast Go.Proofs.YtfdgbgjbncakfaaW.PrintMore Go.Proofs.Ytfdgbgjbncakfaa.Plain Go.Proofs.Ytfdgbgjbncakfaa.PEffectiveNamespace

theorem cluster_calls (g v k : ByteArray) (f : Bool) (w : World) : Calls Try.prog 32 #[.agg #[.string g, .string v, .string k, .bool f]] w fun e w' => e = .returned (.bool f) ∧ Below w.heap.size w w' := by
  go_enter Try.func32, Try.ntmps32
  go_wp2
  go_ret
  exact ⟨rfl, below_alloc (Below.refl _ _) _⟩

abbrev dflt : ByteArray := ⟨#[100, 101, 102, 97, 117, 108, 116]⟩
abbrev noN : ByteArray := ⟨#[91, 110, 111, 78, 97, 109, 101, 93]⟩
abbrev noS : ByteArray := ⟨#[91, 110, 111, 78, 115, 93]⟩
def putB (s : ByteArray) : Bool := decide (s = ByteArray.empty) || decide (s = dflt)
theorem put_calls (g v k n s : ByteArray) (f : Bool) (w : World) : Calls Try.prog 33 #[.agg #[.string g, .string v, .string k, .bool f, .string n, .string s]] w fun e w' => e = .returned (.bool (putB s)) ∧ Below w.heap.size w w' := by
  refine resid_ResId_isPutativelyDefaultNs.calls g v k f n s _ w ?_
  unfold resid_ResId_isPutativelyDefaultNs.f putB
  by_cases h : s = ByteArray.empty
  · rw [if_pos (by rw [h, ByteArray.toList_eq]; rfl), h]; rfl
  · rw [if_neg (fun e => h (toList_inj.1 (e.trans (by rw [ByteArray.toList_eq]; rfl))))]
    rw [decide_eq_false h, Bool.false_or]
    congr 1
    rw [Bool.eq_iff_iff, beq_iff_eq, decide_eq_true_iff]
    constructor
    · intro e; exact toList_inj.1 (e.trans (by rw [ByteArray.toList_eq]))
    · rintro rfl; rw [ByteArray.toList_eq]

theorem eff_of {s : ByteArray} (h : putB s = true) : orB s dflt = dflt := by
  simp only [putB, Bool.or_eq_true, decide_eq_true_iff] at h
  unfold orB
  rcases h with rfl | rfl
  · exact if_pos rfl
  · split <;> rfl
theorem eff_ne {s : ByteArray} (h : putB s = false) : orB s dflt = s := by
  simp only [putB, Bool.or_eq_false_iff, decide_eq_false_iff_not] at h
  exact if_neg h.1

set_option maxHeartbeats 1000000 in
theorem eff_calls (g v k n s : ByteArray) (w : World) :
    Calls Try.prog 26 #[.agg #[.string g, .string v, .string k, .bool false, .string n, .string s]] w fun e w' => e = .returned (.string (orB s dflt)) ∧ Below w.heap.size w w' := by
  cases hp : putB s with
  | true =>
    have HE := Aside0.mk (eff_of hp)
    have HP := Aside0.mk hp
    clear hp
    go_enter Try.func26, Try.ntmps26
    go_wp2_with (first
      | (go_at_call 32; refine (cluster_calls g v k false _).mono ?_; rintro e w2 ⟨rfl, hb⟩; have HB := Aside0.mk (below_step (below_alloc (Below.refl _ _) _) hb); have BK := Aside0.mk (blk_below (blk_new w _) hb); have c0 := (blk_cell BK.out 0).trans rfl; have c1 := (blk_cell BK.out 1).trans rfl; have c2 := (blk_cell BK.out 2).trans rfl; have c3 := (blk_cell BK.out 3).trans rfl; have c4 := (blk_cell BK.out 4).trans rfl; have c5 := (blk_cell BK.out 5).trans rfl; clear hb)
      | (go_at_call 33; refine (put_calls g v k n s false _).mono ?_; rw [HP.out]; rintro e w3 ⟨rfl, hb⟩; have HB3 := Aside0.mk (below_step HB.out hb); clear hb))
    go_ret
    exact ⟨by rw [HE.out]; rfl, HB3.out⟩
  | false =>
    have HE := Aside0.mk (eff_ne hp)
    have HP := Aside0.mk hp
    clear hp
    go_enter Try.func26, Try.ntmps26
    go_wp2_with (first
      | (go_at_call 32; refine (cluster_calls g v k false _).mono ?_; rintro e w2 ⟨rfl, hb⟩; have HB := Aside0.mk (below_step (below_alloc (Below.refl _ _) _) hb); have BK := Aside0.mk (blk_below (blk_new w _) hb); have c0 := (blk_cell BK.out 0).trans rfl; have c1 := (blk_cell BK.out 1).trans rfl; have c2 := (blk_cell BK.out 2).trans rfl; have c3 := (blk_cell BK.out 3).trans rfl; have c4 := (blk_cell BK.out 4).trans rfl; have c5 := (blk_cell BK.out 5).trans rfl; clear hb)
      | (go_at_call 33; refine (put_calls g v k n s false _).mono ?_; rw [HP.out]; rintro e w3 ⟨rfl, hb⟩; have HB3 := Aside0.mk (below_step HB.out hb); have BK3 := Aside0.mk (blk_below BK.out hb); clear c0 c1 c2 c3 c4 c5; have c5 := (blk_cell BK3.out 5).trans rfl; clear hb))
    go_ret
    exact ⟨by rw [HE.out]; rfl, HB3.out⟩

theorem join2_calls (x y sep : ByteArray) (W : World) (b : Nat) (hb : W.heap.size = b) (hx : x.size ≤ 10000) (hy : y.size ≤ 10000) (hs : sep.size ≤ 10000) :
    Calls Try.prog 31 #[.slice (some ⟨b, 0, none⟩) 2 2, .string sep] (W.alloc (.cells #[.string x, .string y] 9)) fun e w' => e = .returned (.string (x ++ sep ++ y)) ∧ Below W.heap.size W w' := by
  refine (join_calls [x, y] sep W 9 b 2 hb rfl (by simp) ?_).mono ?_
  · have a : x.data.size ≤ 10000 := hx
    have b : y.data.size ≤ 10000 := hy
    have c : sep.data.size ≤ 10000 := hs
    simp [Lib.join]
    omega
  rintro e w' ⟨rfl, h⟩
  refine ⟨congrArg (fun t => Ending.returned (Value.string t)) ?_, h⟩
  apply toList_inj.1
  rw [ByteArray.toList_eq, ByteArray.toList_eq]
  simp [Lib.join, ByteArray.data_append]

abbrev sl : ByteArray := ⟨#[47]⟩
def idB (g v k n s : ByteArray) : ByteArray := textB g v k ++ sl ++ (orB n noN ++ pt ++ orB s noS)
theorem text_size {g v k : ByteArray} (hg : g.size ≤ 1000) (hv : v.size ≤ 1000) (hk : k.size ≤ 1000) : (textB g v k).size ≤ 4000 := by
  have s1 : (orB k noK).size ≤ 1000 := or_size hk (by decide)
  have s2 : (orB v noV).size ≤ 1000 := or_size hv (by decide)
  have s3 : (orB g noG).size ≤ 1000 := or_size hg (by decide)
  unfold textB
  rw [ByteArray.size_append, ByteArray.size_append, ByteArray.size_append, ByteArray.size_append]
  show _ + 1 + _ + 1 + _ ≤ _
  omega
theorem tail_size {n s : ByteArray} (hn : n.size ≤ 1000) (hs : s.size ≤ 1000) : (n ++ pt ++ s).size ≤ 4000 := by
  rw [ByteArray.size_append, ByteArray.size_append]
  show _ + 1 + _ ≤ _
  omega

set_option maxHeartbeats 1000000 in
theorem idstr_calls (g v k n s : ByteArray) (f : Bool) (w : World) (hg : g.size ≤ 1000) (hv : v.size ≤ 1000) (hk : k.size ≤ 1000) (hn : n.size ≤ 1000) (hs : s.size ≤ 1000) :
    Calls Try.prog 25 #[.agg #[.string g, .string v, .string k, .bool f, .string n, .string s]] w fun e w' => e = .returned (.string (idB g v k n s)) ∧ Below w.heap.size w w' := by
  have HG := Aside0.mk hg
  have HV := Aside0.mk hv
  have HK := Aside0.mk hk
  have S1 := Aside0.mk (show (orB n noN).size ≤ 1000 from or_size hn (by decide))
  have S2 := Aside0.mk (show (orB s noS).size ≤ 1000 from or_size hs (by decide))
  have HTS := Aside0.mk (text_size hg hv hk)
  clear hg hv hk hn hs
  rcases or_cases n noN with ⟨g1, g2⟩ | ⟨g1, g2⟩ <;> rcases or_cases s noS with ⟨v1, v2⟩ | ⟨v1, v2⟩
  all_goals
    have HT := Aside0.mk (show idB g v k n s = _ from by unfold idB; rw [g2, v2])
    rw [g2] at S1
    rw [v2] at S2
    have tok := Aside0.mk trivial
    clear g2 v2
    go_enter Try.func25, Try.ntmps25
    go_wp2_with (first
      | (go_at_call 21; refine (string_calls g v k f _ HG.out HV.out HK.out).mono ?_; rintro e w2 ⟨rfl, hb⟩; have HB := Aside0.mk (below_step (below_alloc (Below.refl _ _) _) hb); clear hb)
      | (go_at_call 31; clear tok; refine (join2_calls _ _ pt _ _ (by simp) (Nat.le_trans S1.out (by decide)) (Nat.le_trans S2.out (by decide)) (by decide)).mono ?_; rintro e w3 ⟨rfl, hb⟩; have HB3 := Aside0.mk (below_step HB.out hb); clear hb)
      | (go_at_call 31; refine (join2_calls _ _ sl _ _ (by simp) (Nat.le_trans HTS.out (by decide)) (Nat.le_trans (tail_size S1.out S2.out) (by decide)) (by decide)).mono ?_; rintro e w4 ⟨rfl, hb⟩; have HB4 := Aside0.mk (below_step HB3.out hb); clear hb))
    go_ret
    exact ⟨by rw [HT.out]; rfl, HB4.out⟩

end Go.Proofs.Ytfdgbgjbncakfaa.HGvk
