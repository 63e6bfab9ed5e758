-- PRINTED BY print.sh 35421559b90ae4d0a3588c463048766b98c2df88dd9212a6774a882060cdf62d: not written by this session
import Derived.Test.YtgdmianocepafaaDoorPFnTreeOfTextx0
import Derived.Test.YtgdmianocepafaaDoorPFnTreeOfTextx1
namespace Go.Proofs.YtgdmianocepafaaDoor.PFnTreeOfText
open Go.RowKit Go.Proofs.YtgdmianocepafaaDoorW.PrintWords Go.Proofs.YtgdmianocepafaaDoorW.PrintLast Go.Proofs.YtgdmianocepafaaDoorW.PrintMore
attribute [local go_sem] max2_int min2_int max_two min_two max_three min_three max_four min_four   -- for this text's walks alone
set_option linter.unusedVariables false
set_option linter.unusedSimpArgs false

/-! ### spec_SameTree: function 6 -/
mutual
def spec_SameTree.j0 : Nat → Bool → Int → Int → ByteArray → ByteArray → ByteArray → ByteArray → ByteArray → ByteArray → Int → Int → Int → List (S25) → Int → Int → ByteArray → ByteArray → ByteArray → ByteArray → ByteArray → ByteArray → Int → Int → Int → List (S25) → Option (Bool)
  | 0, _, _, _, _, _, _, _, _, _, _, _, _, _, _, _, _, _, _, _, _, _, _, _, _, _ => none
  | k + 1, x39, x132000, x132001, x132002, x132003, x132004, x132005, x132006, x132007, x132008, x132009, x132010, x132011, x133000, x133001, x133002, x133003, x133004, x133005, x133006, x133007, x133008, x133009, x133010, x133011 => if x39 = true then (some false) else (spec_SameTree.l0 k x132011 (x132011.length : Int) 0 x133000 x133001 x133002 x133003 x133004 x133005 x133006 x133007 x133008 x133009 x133010 x133011)
def spec_SameTree.l0 : Nat → List (S25) → Int → Int → Int → Int → ByteArray → ByteArray → ByteArray → ByteArray → ByteArray → ByteArray → Int → Int → Int → List (S25) → Option (Bool)
  | 0, _, _, _, _, _, _, _, _, _, _, _, _, _, _, _ => none
  | k + 1, x41, x42, x43, x133000, x133001, x133002, x133003, x133004, x133005, x133006, x133007, x133008, x133009, x133010, x133011 => if x43 < x42 then (if 0 ≤ x43 then (if x43 < (x41.length : Int) then (if x43 < (x133011.length : Int) then ((spec_SameTree.f k ((rd_T25 x41 x43).f0) ((rd_T25 x41 x43).f1) ((rd_T25 x41 x43).f2) ((rd_T25 x41 x43).f3) ((rd_T25 x41 x43).f4) ((rd_T25 x41 x43).f5) ((rd_T25 x41 x43).f6) ((rd_T25 x41 x43).f7) ((rd_T25 x41 x43).f8) ((rd_T25 x41 x43).f9) ((rd_T25 x41 x43).f10) ((rd_T25 x41 x43).f11) ((rd_T25 x133011 x43).f0) ((rd_T25 x133011 x43).f1) ((rd_T25 x133011 x43).f2) ((rd_T25 x133011 x43).f3) ((rd_T25 x133011 x43).f4) ((rd_T25 x133011 x43).f5) ((rd_T25 x133011 x43).f6) ((rd_T25 x133011 x43).f7) ((rd_T25 x133011 x43).f8) ((rd_T25 x133011 x43).f9) ((rd_T25 x133011 x43).f10) ((rd_T25 x133011 x43).f11)).bind fun t138 => (if t138 = true then (spec_SameTree.l0 k x41 x42 (wrap64 (x43 + 1)) x133000 x133001 x133002 x133003 x133004 x133005 x133006 x133007 x133008 x133009 x133010 x133011) else (some false))) else (none)) else (none)) else (none)) else (some true)
def spec_SameTree.f : Nat → Int → Int → ByteArray → ByteArray → ByteArray → ByteArray → ByteArray → ByteArray → Int → Int → Int → List (S25) → Int → Int → ByteArray → ByteArray → ByteArray → ByteArray → ByteArray → ByteArray → Int → Int → Int → List (S25) → Option (Bool)
  | 0, _, _, _, _, _, _, _, _, _, _, _, _, _, _, _, _, _, _, _, _, _, _, _, _ => none
  | k + 1, a0_0, a0_1, a0_2, a0_3, a0_4, a0_5, a0_6, a0_7, a0_8, a0_9, a0_10, l0_11, a1_0, a1_1, a1_2, a1_3, a1_4, a1_5, a1_6, a1_7, a1_8, a1_9, a1_10, l1_11 => if a0_0 = a1_0 then (if (l0_11.length : Int) = (l1_11.length : Int) then (if a0_0 = 8 then (if a0_3.toList = a1_3.toList then ((spec_tagOf.f a0_0 a0_1 a0_2 a0_3 a0_4 a0_5 a0_6 a0_7 a0_8 a0_9 a0_10 l0_11).bind fun t133 => ((spec_tagOf.f a1_0 a1_1 a1_2 a1_3 a1_4 a1_5 a1_6 a1_7 a1_8 a1_9 a1_10 l1_11).bind fun t134 => (spec_SameTree.j0 k (t133.toList != t134.toList) a0_0 a0_1 a0_2 a0_3 a0_4 a0_5 a0_6 a0_7 a0_8 a0_9 a0_10 l0_11 a1_0 a1_1 a1_2 a1_3 a1_4 a1_5 a1_6 a1_7 a1_8 a1_9 a1_10 l1_11))) else (spec_SameTree.j0 k true a0_0 a0_1 a0_2 a0_3 a0_4 a0_5 a0_6 a0_7 a0_8 a0_9 a0_10 l0_11 a1_0 a1_1 a1_2 a1_3 a1_4 a1_5 a1_6 a1_7 a1_8 a1_9 a1_10 l1_11)) else (spec_SameTree.j0 k false a0_0 a0_1 a0_2 a0_3 a0_4 a0_5 a0_6 a0_7 a0_8 a0_9 a0_10 l0_11 a1_0 a1_1 a1_2 a1_3 a1_4 a1_5 a1_6 a1_7 a1_8 a1_9 a1_10 l1_11)) else (spec_SameTree.j0 k true a0_0 a0_1 a0_2 a0_3 a0_4 a0_5 a0_6 a0_7 a0_8 a0_9 a0_10 l0_11 a1_0 a1_1 a1_2 a1_3 a1_4 a1_5 a1_6 a1_7 a1_8 a1_9 a1_10 l1_11)) else (spec_SameTree.j0 k true a0_0 a0_1 a0_2 a0_3 a0_4 a0_5 a0_6 a0_7 a0_8 a0_9 a0_10 l0_11 a1_0 a1_1 a1_2 a1_3 a1_4 a1_5 a1_6 a1_7 a1_8 a1_9 a1_10 l1_11)
end
theorem spec_SameTree.mono_l : ∀ k, (∀ y0 y1 y2 y3 y4 y5 y6 y7 y8 y9 y10 y11 y12 y13 y14 y15 y16 y17 y18 y19 y20 y21 y22 y23, LeO (spec_SameTree.f k y0 y1 y2 y3 y4 y5 y6 y7 y8 y9 y10 y11 y12 y13 y14 y15 y16 y17 y18 y19 y20 y21 y22 y23) (spec_SameTree.f (k + 1) y0 y1 y2 y3 y4 y5 y6 y7 y8 y9 y10 y11 y12 y13 y14 y15 y16 y17 y18 y19 y20 y21 y22 y23)) ∧ (∀ y0 y1 y2 y3 y4 y5 y6 y7 y8 y9 y10 y11 y12 y13 y14 y15 y16 y17 y18 y19 y20 y21 y22 y23 y24, LeO (spec_SameTree.j0 k y0 y1 y2 y3 y4 y5 y6 y7 y8 y9 y10 y11 y12 y13 y14 y15 y16 y17 y18 y19 y20 y21 y22 y23 y24) (spec_SameTree.j0 (k + 1) y0 y1 y2 y3 y4 y5 y6 y7 y8 y9 y10 y11 y12 y13 y14 y15 y16 y17 y18 y19 y20 y21 y22 y23 y24)) ∧ (∀ y0 y1 y2 y3 y4 y5 y6 y7 y8 y9 y10 y11 y12 y13 y14, LeO (spec_SameTree.l0 k y0 y1 y2 y3 y4 y5 y6 y7 y8 y9 y10 y11 y12 y13 y14) (spec_SameTree.l0 (k + 1) y0 y1 y2 y3 y4 y5 y6 y7 y8 y9 y10 y11 y12 y13 y14))
  | 0 => ⟨fun _ _ _ _ _ _ _ _ _ _ _ _ _ _ _ _ _ _ _ _ _ _ _ _ r h => by simp [spec_SameTree.f] at h, fun _ _ _ _ _ _ _ _ _ _ _ _ _ _ _ _ _ _ _ _ _ _ _ _ _ r h => by simp [spec_SameTree.j0] at h, fun _ _ _ _ _ _ _ _ _ _ _ _ _ _ _ r h => by simp [spec_SameTree.l0] at h⟩
  | k + 1 => by
    obtain ⟨ih0, ih1, ih2⟩ := spec_SameTree.mono_l k
    refine ⟨?_, ?_, ?_⟩
    · intro y0 y1 y2 y3 y4 y5 y6 y7 y8 y9 y10 y11 y12 y13 y14 y15 y16 y17 y18 y19 y20 y21 y22 y23
      unfold spec_SameTree.f
      repeat' first
      | (with_reducible exact ih0 _ _ _ _ _ _ _ _ _ _ _ _ _ _ _ _ _ _ _ _ _ _ _ _)
      | (with_reducible exact ih1 _ _ _ _ _ _ _ _ _ _ _ _ _ _ _ _ _ _ _ _ _ _ _ _ _)
      | (with_reducible exact ih2 _ _ _ _ _ _ _ _ _ _ _ _ _ _ _)
      | (with_reducible exact LeO.refl _)
      | (with_reducible exact LeO.none _)
      | (with_reducible refine LeO.ite ?_ ?_)
      | (with_reducible refine LeO.bind ?_ (fun _ => ?_))
      | exact ih0 _ _ _ _ _ _ _ _ _ _ _ _ _ _ _ _ _ _ _ _ _ _ _ _
      | exact ih1 _ _ _ _ _ _ _ _ _ _ _ _ _ _ _ _ _ _ _ _ _ _ _ _ _
      | exact ih2 _ _ _ _ _ _ _ _ _ _ _ _ _ _ _
      | exact LeO.none _
      | refine LeO.ite ?_ ?_
      | refine LeO.bind ?_ (fun _ => ?_)
    · intro y0 y1 y2 y3 y4 y5 y6 y7 y8 y9 y10 y11 y12 y13 y14 y15 y16 y17 y18 y19 y20 y21 y22 y23 y24
      unfold spec_SameTree.j0
      repeat' first
      | (with_reducible exact ih0 _ _ _ _ _ _ _ _ _ _ _ _ _ _ _ _ _ _ _ _ _ _ _ _)
      | (with_reducible exact ih1 _ _ _ _ _ _ _ _ _ _ _ _ _ _ _ _ _ _ _ _ _ _ _ _ _)
      | (with_reducible exact ih2 _ _ _ _ _ _ _ _ _ _ _ _ _ _ _)
      | (with_reducible exact LeO.refl _)
      | (with_reducible exact LeO.none _)
      | (with_reducible refine LeO.ite ?_ ?_)
      | (with_reducible refine LeO.bind ?_ (fun _ => ?_))
      | exact ih0 _ _ _ _ _ _ _ _ _ _ _ _ _ _ _ _ _ _ _ _ _ _ _ _
      | exact ih1 _ _ _ _ _ _ _ _ _ _ _ _ _ _ _ _ _ _ _ _ _ _ _ _ _
      | exact ih2 _ _ _ _ _ _ _ _ _ _ _ _ _ _ _
      | exact LeO.none _
      | refine LeO.ite ?_ ?_
      | refine LeO.bind ?_ (fun _ => ?_)
    · intro y0 y1 y2 y3 y4 y5 y6 y7 y8 y9 y10 y11 y12 y13 y14
      unfold spec_SameTree.l0
      repeat' first
      | (with_reducible exact ih0 _ _ _ _ _ _ _ _ _ _ _ _ _ _ _ _ _ _ _ _ _ _ _ _)
      | (with_reducible exact ih1 _ _ _ _ _ _ _ _ _ _ _ _ _ _ _ _ _ _ _ _ _ _ _ _ _)
      | (with_reducible exact ih2 _ _ _ _ _ _ _ _ _ _ _ _ _ _ _)
      | (with_reducible exact LeO.refl _)
      | (with_reducible exact LeO.none _)
      | (with_reducible refine LeO.ite ?_ ?_)
      | (with_reducible refine LeO.bind ?_ (fun _ => ?_))
      | exact ih0 _ _ _ _ _ _ _ _ _ _ _ _ _ _ _ _ _ _ _ _ _ _ _ _
      | exact ih1 _ _ _ _ _ _ _ _ _ _ _ _ _ _ _ _ _ _ _ _ _ _ _ _ _
      | exact ih2 _ _ _ _ _ _ _ _ _ _ _ _ _ _ _
      | exact LeO.none _
      | refine LeO.ite ?_ ?_
      | refine LeO.bind ?_ (fun _ => ?_)
theorem spec_SameTree.mono : ∀ a0 a1 a2 a3 a4 a5 a6 a7 a8 a9 a10 a11 a12 a13 a14 a15 a16 a17 a18 a19 a20 a21 a22 a23 k, LeO (spec_SameTree.f k a0 a1 a2 a3 a4 a5 a6 a7 a8 a9 a10 a11 a12 a13 a14 a15 a16 a17 a18 a19 a20 a21 a22 a23) (spec_SameTree.f (k + 1) a0 a1 a2 a3 a4 a5 a6 a7 a8 a9 a10 a11 a12 a13 a14 a15 a16 a17 a18 a19 a20 a21 a22 a23) := by
  intro a0 a1 a2 a3 a4 a5 a6 a7 a8 a9 a10 a11 a12 a13 a14 a15 a16 a17 a18 a19 a20 a21 a22 a23 k
  obtain ⟨ih0, ih1, ih2⟩ := spec_SameTree.mono_l k
  exact ih0 a0 a1 a2 a3 a4 a5 a6 a7 a8 a9 a10 a11 a12 a13 a14 a15 a16 a17 a18 a19 a20 a21 a22 a23
def spec_SameTree.T1 : Bool × List (List Nat × List Nat) := (true, [([], []), ([0], [0]), ([], []), ([2], [2]), ([1, 3], [1, 3]), ([4], [4]), ([5], [5]), ([6, 5], [5, 6]), ([7, 5], [5, 7]), ([5], [5]), ([9, 5], [5, 9]), ([10, 5], [5, 10]), ([8, 11, 5], [5, 8, 11]), ([5, 12], [5, 12]), ([13, 5], [13]), ([14], [14]), ([15, 14], [14, 15]), ([16, 14], [14, 16]), ([17, 14, 14], [14, 17]), ([18], [18]), ([19, 18], [18, 19]), ([18], [18]), ([21, 18], [18, 21]), ([20, 22, 18], [18, 20, 22]), ([23, 18, 18], [18, 23]), ([24], [24]), ([25, 24, 24], [24, 25]), ([24], [24]), ([27, 26, 24], [24, 27]), ([26, 28, 24], [24, 26, 28]), ([24, 29, 18], [18, 24, 29]), ([18, 30, 14], [14, 18, 30]), ([14, 31], [14, 31])])
def spec_SameTree.B1 : List Nat := [0, 1, 0, 4, 15, 31, 63, 127, 255, 63, 575, 1599, 4095, 8191, 16383, 32767, 65535, 131071, 262143, 524287, 1048575, 524287, 2621439, 8388607, 16777215, 33554431, 67108863, 33554431, 268435455, 536870911, 1073741823, 2147483647, 4294967295]
theorem spec_SameTree.tab1 : rtab .any (opsOf Tryd.f6 1) = spec_SameTree.T1 := by kernel_rfl
theorem spec_SameTree.bits1 : waitsOk spec_SameTree.T1.2 spec_SameTree.B1 = true := by kernel_rfl
def spec_SameTree.T6 : Bool × List (List Nat × List Nat) := (true, [([], []), ([], []), ([1], [1]), ([], []), ([2, 3], [2, 3]), ([4], [4]), ([0, 5], [0, 5]), ([6], [6])])
def spec_SameTree.B6 : List Nat := [0, 0, 2, 0, 14, 30, 63, 127]
theorem spec_SameTree.tab6 : rtab .any (opsOf Tryd.f6 6) = spec_SameTree.T6 := by kernel_rfl
theorem spec_SameTree.bits6 : waitsOk spec_SameTree.T6.2 spec_SameTree.B6 = true := by kernel_rfl
set_option maxHeartbeats 8000000 in
set_option maxRecDepth 100000 in
theorem spec_SameTree.calls (k : Nat) : ∀ (a0_0 : Int) (a0_1 : Int) (a0_2 : ByteArray) (a0_3 : ByteArray) (a0_4 : ByteArray) (a0_5 : ByteArray) (a0_6 : ByteArray) (a0_7 : ByteArray) (a0_8 : Int) (a0_9 : Int) (a0_10 : Int) (A0_11 : Option Addr) (c0_11 : Nat) (l0_11 : List (S25)) (a1_0 : Int) (a1_1 : Int) (a1_2 : ByteArray) (a1_3 : ByteArray) (a1_4 : ByteArray) (a1_5 : ByteArray) (a1_6 : ByteArray) (a1_7 : ByteArray) (a1_8 : Int) (a1_9 : Int) (a1_10 : Int) (A1_11 : Option Addr) (c1_11 : Nat) (l1_11 : List (S25)) (r : Bool) (w : World) (hr0_11 : Kd.C k25 w A0_11 l0_11.length l0_11) (hc0_11 : l0_11.length ≤ c0_11) (hr1_11 : Kd.C k25 w A1_11 l1_11.length l1_11) (hc1_11 : l1_11.length ≤ c1_11) (h : spec_SameTree.f k a0_0 a0_1 a0_2 a0_3 a0_4 a0_5 a0_6 a0_7 a0_8 a0_9 a0_10 l0_11 a1_0 a1_1 a1_2 a1_3 a1_4 a1_5 a1_6 a1_7 a1_8 a1_9 a1_10 l1_11 = some r),
    Calls Tryd.prog 6 #[.agg #[.int .i64 a0_0, .int .i64 a0_1, .string a0_2, .string a0_3, .string a0_4, .string a0_5, .string a0_6, .string a0_7, .int .i64 a0_8, .int .i64 a0_9, .int .i64 a0_10, .slice A0_11 l0_11.length c0_11], .agg #[.int .i64 a1_0, .int .i64 a1_1, .string a1_2, .string a1_3, .string a1_4, .string a1_5, .string a1_6, .string a1_7, .int .i64 a1_8, .int .i64 a1_9, .int .i64 a1_10, .slice A1_11 l1_11.length c1_11]] w fun e w' => e = .returned (.bool r) ∧ Below w.heap.size w w' := by
  induction k using Nat.strongRecOn with
  | _ k ih =>
  intro a0_0 a0_1 a0_2 a0_3 a0_4 a0_5 a0_6 a0_7 a0_8 a0_9 a0_10 A0_11 c0_11 l0_11 a1_0 a1_1 a1_2 a1_3 a1_4 a1_5 a1_6 a1_7 a1_8 a1_9 a1_10 A1_11 c1_11 l1_11 r w hr0_11 hc0_11 hr1_11 hc1_11 h
  cases k with
  | zero => exact absurd h (by simp [spec_SameTree.f])
  | succ k =>
  simp only [spec_SameTree.f] at h
  have hu25 := Tryd.underlying25
  have HR0_11 := Aside0.mk hr0_11
  have HC0_11 := Aside0.mk hc0_11
  clear hr0_11 hc0_11
  have HR1_11 := Aside0.mk hr1_11
  have HC1_11 := Aside0.mk hc1_11
  clear hr1_11 hc1_11
  have HB := Aside0.mk (Below.refl w.heap.size w)
  have H : (if a0_0 = a1_0 then (if (l0_11.length : Int) = (l1_11.length : Int) then (if a0_0 = 8 then (if a0_3.toList = a1_3.toList then ((spec_tagOf.f a0_0 a0_1 a0_2 a0_3 a0_4 a0_5 a0_6 a0_7 a0_8 a0_9 a0_10 l0_11).bind fun t133 => ((spec_tagOf.f a1_0 a1_1 a1_2 a1_3 a1_4 a1_5 a1_6 a1_7 a1_8 a1_9 a1_10 l1_11).bind fun t134 => (spec_SameTree.j0 k (t133.toList != t134.toList) a0_0 a0_1 a0_2 a0_3 a0_4 a0_5 a0_6 a0_7 a0_8 a0_9 a0_10 l0_11 a1_0 a1_1 a1_2 a1_3 a1_4 a1_5 a1_6 a1_7 a1_8 a1_9 a1_10 l1_11))) else (spec_SameTree.j0 k true a0_0 a0_1 a0_2 a0_3 a0_4 a0_5 a0_6 a0_7 a0_8 a0_9 a0_10 l0_11 a1_0 a1_1 a1_2 a1_3 a1_4 a1_5 a1_6 a1_7 a1_8 a1_9 a1_10 l1_11)) else (spec_SameTree.j0 k false a0_0 a0_1 a0_2 a0_3 a0_4 a0_5 a0_6 a0_7 a0_8 a0_9 a0_10 l0_11 a1_0 a1_1 a1_2 a1_3 a1_4 a1_5 a1_6 a1_7 a1_8 a1_9 a1_10 l1_11)) else (spec_SameTree.j0 k true a0_0 a0_1 a0_2 a0_3 a0_4 a0_5 a0_6 a0_7 a0_8 a0_9 a0_10 l0_11 a1_0 a1_1 a1_2 a1_3 a1_4 a1_5 a1_6 a1_7 a1_8 a1_9 a1_10 l1_11)) else (spec_SameTree.j0 k true a0_0 a0_1 a0_2 a0_3 a0_4 a0_5 a0_6 a0_7 a0_8 a0_9 a0_10 l0_11 a1_0 a1_1 a1_2 a1_3 a1_4 a1_5 a1_6 a1_7 a1_8 a1_9 a1_10 l1_11)) = some r := h
  clear h
  have HC3 := Aside0.mk H
  clear H
  go_enter Tryd.func6, Tryd.ntmps6
  go_upto_region 1 with (first | ((with_reducible refine gate_dst (N := 2) rfl ?_); (try (refine gate_guard (by rfl) ?_; dsimp only)); refine box_event ?hg (N := 2) ?hd (cs := #[.int .i64 a0_0, .int .i64 a0_1, .string a0_2, .string a0_3, .string a0_4, .string a0_5, .string a0_6, .string a0_7, .int .i64 a0_8, .int .i64 a0_9, .int .i64 a0_10, .slice A0_11 l0_11.length c0_11]) (t := 25) ?hr ?_; (case hd => rfl); (case hg => rfl); (case hr => first | (go_simp; done) | (go_simp; rfl)); intro gb131 hg w4 hbox hb; have n0_ := Aside0.mk (below_step (by repeat (first | (with_reducible first | exact HB.out | apply below_alloc | apply pw_below_drewN | apply below_drew1) | exact HB.out)) hb); have n1_ := Aside0.mk (hbox); have n2_ := Aside0.mk ((by rw [hg]; exact (below_size (by repeat (first | (with_reducible first | exact HB.out | apply below_alloc | apply pw_below_drewN | apply below_drew1) | exact HB.out))) : w.heap.size ≤ gb131)); have n3_ := Aside0.mk ((by rw [hg]; exact (below_size (by repeat (first | (with_reducible first | exact HB.out | apply below_alloc | apply pw_below_drewN | apply below_drew1) | exact HB.out))) : w.heap.size ≤ gb131)); clear HB; have HB := n0_; have BK131 := n1_; have GW131 := n2_; have GE131 := n3_; clear n0_ n1_ n2_ n3_; clear hb hbox hg) | ((with_reducible refine gate_dst (N := 3) rfl ?_); (try (refine gate_guard (by rfl) ?_; dsimp only)); refine box_event ?hg (N := 3) ?hd (cs := #[.int .i64 a1_0, .int .i64 a1_1, .string a1_2, .string a1_3, .string a1_4, .string a1_5, .string a1_6, .string a1_7, .int .i64 a1_8, .int .i64 a1_9, .int .i64 a1_10, .slice A1_11 l1_11.length c1_11]) (t := 25) ?hr ?_; (case hd => rfl); (case hg => rfl); (case hr => first | (go_simp; done) | (go_simp; rfl)); intro gb132 hg w5 hbox hb; have n0_ := Aside0.mk (blk_below (g := gb131) (o := .cells #[.int .i64 a0_0, .int .i64 a0_1, .string a0_2, .string a0_3, .string a0_4, .string a0_5, .string a0_6, .string a0_7, .int .i64 a0_8, .int .i64 a0_9, .int .i64 a0_10, .slice A0_11 l0_11.length c0_11] 25 (0, 0)) (by (with_reducible repeat (first | refine blk_drewN ?_ _ | refine blk_drew ?_ | refine blk_alloc ?_ _)); exact BK131.out) hb); have n1_ := Aside0.mk (below_step (by repeat (first | (with_reducible first | exact HB.out | apply below_alloc | apply pw_below_drewN | apply below_drew1 | refine below_set ?_ GE131.out) | exact HB.out)) hb); have n2_ := Aside0.mk (hbox); have n3_ := Aside0.mk ((by rw [hg]; exact (below_size (by repeat (first | (with_reducible first | exact HB.out | apply below_alloc | apply pw_below_drewN | apply below_drew1 | refine below_set ?_ GE131.out) | exact HB.out))) : w.heap.size ≤ gb132)); have n4_ := Aside0.mk ((by rw [hg]; exact (below_size (by repeat (first | (with_reducible first | exact HB.out | apply below_alloc | apply pw_below_drewN | apply below_drew1 | refine below_set ?_ GE131.out) | exact HB.out))) : w.heap.size ≤ gb132)); have n5_ := Aside0.mk ((by rw [hg]; exact Nat.ne_of_lt (blk_lt (g := gb131) (o := .cells #[.int .i64 a0_0, .int .i64 a0_1, .string a0_2, .string a0_3, .string a0_4, .string a0_5, .string a0_6, .string a0_7, .int .i64 a0_8, .int .i64 a0_9, .int .i64 a0_10, .slice A0_11 l0_11.length c0_11] 25 (0, 0)) (by (with_reducible repeat (first | refine blk_drewN ?_ _ | refine blk_drew ?_ | refine blk_alloc ?_ _)); exact BK131.out)) : gb131 ≠ gb132)); have n6_ := Aside0.mk ((by rw [hg]; exact Nat.ne_of_gt (blk_lt (g := gb131) (o := .cells #[.int .i64 a0_0, .int .i64 a0_1, .string a0_2, .string a0_3, .string a0_4, .string a0_5, .string a0_6, .string a0_7, .int .i64 a0_8, .int .i64 a0_9, .int .i64 a0_10, .slice A0_11 l0_11.length c0_11] 25 (0, 0)) (by (with_reducible repeat (first | refine blk_drewN ?_ _ | refine blk_drew ?_ | refine blk_alloc ?_ _)); exact BK131.out)) : gb132 ≠ gb131)); clear BK131; clear HB; have BK131 := n0_; have HB := n1_; have BK132 := n2_; have GW132 := n3_; have GE132 := n4_; have NB131_132 := n5_; have NB132_131 := n6_; clear n0_ n1_ n2_ n3_ n4_ n5_ n6_; clear hb hbox hg))
  (try simp only [Act.put, List.setIfInBounds_toArray, List.set_cons_zero, List.set_cons_succ])
  go_cut [39] (fun v39 wc => ∃ (kq : Nat) (x39_2 : Bool), v39 = .bool x39_2 ∧ Aside0 (spec_SameTree.j0 kq x39_2 a0_0 a0_1 a0_2 a0_3 a0_4 a0_5 a0_6 a0_7 a0_8 a0_9 a0_10 l0_11 a1_0 a1_1 a1_2 a1_3 a1_4 a1_5 a1_6 a1_7 a1_8 a1_9 a1_10 l1_11 = some r) ∧ Aside0 (kq ≤ k) ∧ Aside0 (wc.heap[gb131]? = some (.cells #[.int .i64 a0_0, .int .i64 a0_1, .string a0_2, .string a0_3, .string a0_4, .string a0_5, .string a0_6, .string a0_7, .int .i64 a0_8, .int .i64 a0_9, .int .i64 a0_10, (.slice A0_11 l0_11.length c0_11)] 25 (0, 0))) ∧ Aside0 (wc.heap[gb132]? = some (.cells #[.int .i64 a1_0, .int .i64 a1_1, .string a1_2, .string a1_3, .string a1_4, .string a1_5, .string a1_6, .string a1_7, .int .i64 a1_8, .int .i64 a1_9, .int .i64 a1_10, (.slice A1_11 l1_11.length c1_11)] 25 (0, 0))) ∧ Aside0 (Below w.heap.size w wc))
  case first =>
    have H := HC3.out
    clear HC3
    by_cases c6 : a0_0 = a1_0
    · rw [if_pos c6] at H
      have c6b0 : (a0_0 == a1_0) = true := beq_iff_eq.mpr c6
      have c6b1 : (a0_0 != a1_0) = false := bne_eq_false_iff_eq.mpr c6
      clear c6
      (first | rw [c6b0] | (simp only [i64_w, i32_w]; rw [c6b0]) | skip)
      by_cases c7 : (l0_11.length : Int) = (l1_11.length : Int)
      · rw [if_pos c7] at H
        have c7b0 : ((l0_11.length : Int) == (l1_11.length : Int)) = true := beq_iff_eq.mpr c7
        have c7b1 : ((l0_11.length : Int) != (l1_11.length : Int)) = false := bne_eq_false_iff_eq.mpr c7
        have c7b2 : (l0_11.length == l1_11.length) = true := by first | simpa using c7 | (simp at c7 ⊢; omega)
        clear c7
        by_cases c8 : a0_0 = 8
        · rw [if_pos c8] at H
          have c8b0 : (a0_0 == 8) = true := beq_iff_eq.mpr c8
          have c8b1 : (a0_0 != 8) = false := bne_eq_false_iff_eq.mpr c8
          clear c8
          by_cases c9 : a0_3.toList = a1_3.toList
          · rw [if_pos c9] at H
            have c9b0 : (a0_3.toList == a1_3.toList) = true := beq_iff_eq.mpr c9
            have c9b1 : (a0_3.toList != a1_3.toList) = false := bne_eq_false_iff_eq.mpr c9
            clear c9
            replace H := Option.bind_eq_some_iff.mp H
            obtain ⟨t133, A100, H⟩ := H
            replace H : ((spec_tagOf.f a1_0 a1_1 a1_2 a1_3 a1_4 a1_5 a1_6 a1_7 a1_8 a1_9 a1_10 l1_11).bind fun t134 => (spec_SameTree.j0 k (t133.toList != t134.toList) a0_0 a0_1 a0_2 a0_3 a0_4 a0_5 a0_6 a0_7 a0_8 a0_9 a0_10 l0_11 a1_0 a1_1 a1_2 a1_3 a1_4 a1_5 a1_6 a1_7 a1_8 a1_9 a1_10 l1_11)) = some r := H
            have A10 := Aside0.mk A100
            clear A100
            replace H := Option.bind_eq_some_iff.mp H
            obtain ⟨t134, A110, H⟩ := H
            replace H : (spec_SameTree.j0 k (t133.toList != t134.toList) a0_0 a0_1 a0_2 a0_3 a0_4 a0_5 a0_6 a0_7 a0_8 a0_9 a0_10 l0_11 a1_0 a1_1 a1_2 a1_3 a1_4 a1_5 a1_6 a1_7 a1_8 a1_9 a1_10 l1_11) = some r := H
            have A11 := Aside0.mk A110
            clear A110
            have H' := Aside0.mk H
            clear H
            try go_wp2
            have n0_ := Aside0.mk (blk_drew BK131.out)
            have n1_ := Aside0.mk (blk_drew BK132.out)
            have n2_ := Aside0.mk (below_drew1 HB.out)
            clear BK131
            clear BK132
            clear HB
            have BK131 := n0_
            have BK132 := n1_
            have HB := n2_
            clear n0_ n1_ n2_
            refine start_ (n := 33) (S := fun w' => w'.cell? ⟨gb131, 0, none⟩ = some (.int .i64 a0_0) ∧ w'.cell? ⟨gb131, 1, none⟩ = some (.int .i64 a0_1) ∧ w'.cell? ⟨gb131, 2, none⟩ = some (.string a0_2) ∧ w'.cell? ⟨gb131, 3, none⟩ = some (.string a0_3) ∧ w'.cell? ⟨gb131, 4, none⟩ = some (.string a0_4) ∧ w'.cell? ⟨gb131, 5, none⟩ = some (.string a0_5) ∧ w'.cell? ⟨gb131, 6, none⟩ = some (.string a0_6) ∧ w'.cell? ⟨gb131, 7, none⟩ = some (.string a0_7) ∧ w'.cell? ⟨gb131, 8, none⟩ = some (.int .i64 a0_8) ∧ w'.cell? ⟨gb131, 9, none⟩ = some (.int .i64 a0_9) ∧ w'.cell? ⟨gb131, 10, none⟩ = some (.int .i64 a0_10) ∧ w'.cell? ⟨gb131, 11, none⟩ = some (.slice A0_11 l0_11.length c0_11) ∧ w'.cell? ⟨gb132, 0, none⟩ = some (.int .i64 a1_0) ∧ w'.cell? ⟨gb132, 1, none⟩ = some (.int .i64 a1_1) ∧ w'.cell? ⟨gb132, 2, none⟩ = some (.string a1_2) ∧ w'.cell? ⟨gb132, 3, none⟩ = some (.string a1_3) ∧ w'.cell? ⟨gb132, 4, none⟩ = some (.string a1_4) ∧ w'.cell? ⟨gb132, 5, none⟩ = some (.string a1_5) ∧ w'.cell? ⟨gb132, 6, none⟩ = some (.string a1_6) ∧ w'.cell? ⟨gb132, 7, none⟩ = some (.string a1_7) ∧ w'.cell? ⟨gb132, 8, none⟩ = some (.int .i64 a1_8) ∧ w'.cell? ⟨gb132, 9, none⟩ = some (.int .i64 a1_9) ∧ w'.cell? ⟨gb132, 10, none⟩ = some (.int .i64 a1_10) ∧ w'.cell? ⟨gb132, 11, none⟩ = some (.slice A1_11 l1_11.length c1_11)) (ds := []) #[false, false, false, false, false, false, false, false, false, false, false, false, false, false, false, false, false, false, false, false, false, false, false, false, false, false, false, false, false, false, false, false, false] (by kernel_rfl) rfl rfl ⟨(blk_cell BK131.out 0).trans rfl, (blk_cell BK131.out 1).trans rfl, (blk_cell BK131.out 2).trans rfl, (blk_cell BK131.out 3).trans rfl, (blk_cell BK131.out 4).trans rfl, (blk_cell BK131.out 5).trans rfl, (blk_cell BK131.out 6).trans rfl, (blk_cell BK131.out 7).trans rfl, (blk_cell BK131.out 8).trans rfl, (blk_cell BK131.out 9).trans rfl, (blk_cell BK131.out 10).trans rfl, (blk_cell BK131.out 11).trans rfl, (blk_cell BK132.out 0).trans rfl, (blk_cell BK132.out 1).trans rfl, (blk_cell BK132.out 2).trans rfl, (blk_cell BK132.out 3).trans rfl, (blk_cell BK132.out 4).trans rfl, (blk_cell BK132.out 5).trans rfl, (blk_cell BK132.out 6).trans rfl, (blk_cell BK132.out 7).trans rfl, (blk_cell BK132.out 8).trans rfl, (blk_cell BK132.out 9).trans rfl, (blk_cell BK132.out 10).trans rfl, (blk_cell BK132.out 11).trans rfl⟩ (fun hHeld => ?_); refine with_tabW spec_SameTree.tab1 spec_SameTree.bits1 (fun HT_ HW_ => ?_)
            generalize w5.drew = w12 at BK131 BK132 HB hHeld ⊢
            refine pure_ (i := 0) (N := some 7) (v := ?_) (a' := ?_) #[true, false, false, false, false, false, false, false, false, false, false, false, false, false, false, false, false, false, false, false, false, false, false, false, false, false, false, false, false, false, false, false, false] rfl rfl (any_of HT_.out (by kernel_rfl)) (fun _ _ _ h => h) (Or.inl ⟨by rfl, ?_⟩) ?_ ?_
            rotate_left
            · intro w'
              go_simp
              with_reducible rfl
            rotate_left
            · simp only [Act.put, List.setIfInBounds_toArray, List.set_cons_zero, List.set_cons_succ, i64_w, i32_w]
              rfl
            refine pure_ (i := 2) (N := some 9) (v := ?_) (a' := ?_) #[true, false, true, false, false, false, false, false, false, false, false, false, false, false, false, false, false, false, false, false, false, false, false, false, false, false, false, false, false, false, false, false, false] rfl rfl (any_of HT_.out (by kernel_rfl)) (fun _ _ _ h => h) (Or.inl ⟨by rfl, ?_⟩) ?_ ?_
            rotate_left
            · intro w'
              go_simp
              with_reducible rfl
            rotate_left
            · simp only [Act.put, List.setIfInBounds_toArray, List.set_cons_zero, List.set_cons_succ, i64_w, i32_w]
              rfl
            refine take_ (i := 1) (N := some 8) (v := ?_) (a' := ?_) #[true, true, true, false, false, false, false, false, false, false, false, false, false, false, false, false, false, false, false, false, false, false, false, false, false, false, false, false, false, false, false, false, false] rfl rfl (take_ofW HT_.out HW_.out (by kernel_rfl)) (fun _ _ _ h => h) (Or.inl ⟨by rfl, ?_⟩) hHeld ?_ ?_
            rotate_left
            · rintro w' ⟨s0, s1, s2, s3, s4, s5, s6, s7, s8, s9, s10, s11, s12, s13, s14, s15, s16, s17, s18, s19, s20, s21, s22, s23⟩
              go_simp
              with_reducible rfl
            rotate_left
            · simp only [Act.put, List.setIfInBounds_toArray, List.set_cons_zero, List.set_cons_succ, i64_w, i32_w]
              rfl
            refine take_ (i := 3) (N := some 10) (v := ?_) (a' := ?_) #[true, true, true, true, false, false, false, false, false, false, false, false, false, false, false, false, false, false, false, false, false, false, false, false, false, false, false, false, false, false, false, false, false] rfl rfl (take_ofW HT_.out HW_.out (by kernel_rfl)) (fun _ _ _ h => h) (Or.inl ⟨by rfl, ?_⟩) hHeld ?_ ?_
            rotate_left
            · rintro w' ⟨s0, s1, s2, s3, s4, s5, s6, s7, s8, s9, s10, s11, s12, s13, s14, s15, s16, s17, s18, s19, s20, s21, s22, s23⟩
              go_simp
              with_reducible rfl
            rotate_left
            · simp only [Act.put, List.setIfInBounds_toArray, List.set_cons_zero, List.set_cons_succ, i64_w, i32_w]
              rfl
            refine pure_ (i := 4) (N := some 11) (v := ?_) (a' := ?_) #[true, true, true, true, true, false, false, false, false, false, false, false, false, false, false, false, false, false, false, false, false, false, false, false, false, false, false, false, false, false, false, false, false] rfl rfl (any_of HT_.out (by kernel_rfl)) (fun _ _ _ h => h) (Or.inl ⟨by rfl, ?_⟩) ?_ ?_
            rotate_left
            · intro w'
              go_simp
              with_reducible rfl
            rotate_left
            · simp only [Act.put, List.setIfInBounds_toArray, List.set_cons_zero, List.set_cons_succ, i64_w, i32_w]
              rfl
            refine pure_ (i := 5) (N := some 12) (v := ?_) (a' := ?_) #[true, true, true, true, true, true, false, false, false, false, false, false, false, false, false, false, false, false, false, false, false, false, false, false, false, false, false, false, false, false, false, false, false] rfl rfl (any_of HT_.out (by kernel_rfl)) (fun _ _ _ h => h) (Or.inl ⟨by rfl, ?_⟩) ?_ ?_
            rotate_left
            · intro w'
              go_simp
              with_reducible rfl
            rotate_left
            · simp only [Act.put, List.setIfInBounds_toArray, List.set_cons_zero, List.set_cons_succ, i64_w, i32_w]
              rfl
            refine pure_ (i := 6) (N := some 13) (v := ?_) (a' := ?_) #[true, true, true, true, true, true, true, false, false, false, false, false, false, false, false, false, false, false, false, false, false, false, false, false, false, false, false, false, false, false, false, false, false] rfl rfl (any_of HT_.out (by kernel_rfl)) (fun _ _ _ h => h) (Or.inl ⟨by rfl, ?_⟩) ?_ ?_
            rotate_left
            · intro w'
              go_simp
              with_reducible rfl
            rotate_left
            · simp only [Act.put, List.setIfInBounds_toArray, List.set_cons_zero, List.set_cons_succ, i64_w, i32_w]
              rfl
            refine pure_ (i := 9) (N := some 16) (v := ?_) (a' := ?_) #[true, true, true, true, true, true, true, false, false, true, false, false, false, false, false, false, false, false, false, false, false, false, false, false, false, false, false, false, false, false, false, false, false] rfl rfl (any_of HT_.out (by kernel_rfl)) (fun _ _ _ h => h) (Or.inl ⟨by rfl, ?_⟩) ?_ ?_
            rotate_left
            · intro w'
              go_simp
              with_reducible rfl
            rotate_left
            · simp only [Act.put, List.setIfInBounds_toArray, List.set_cons_zero, List.set_cons_succ, i64_w, i32_w]
              rfl
            refine take_ (i := 7) (N := some 14) (v := ?_) (a' := ?_) #[true, true, true, true, true, true, true, true, false, true, false, false, false, false, false, false, false, false, false, false, false, false, false, false, false, false, false, false, false, false, false, false, false] rfl rfl (take_ofW HT_.out HW_.out (by kernel_rfl)) (fun _ _ _ h => h) (Or.inl ⟨by rfl, ?_⟩) hHeld ?_ ?_
            rotate_left
            · rintro w' ⟨s0, s1, s2, s3, s4, s5, s6, s7, s8, s9, s10, s11, s12, s13, s14, s15, s16, s17, s18, s19, s20, s21, s22, s23⟩
              go_simp
              with_reducible rfl
            rotate_left
            · simp only [Act.put, List.setIfInBounds_toArray, List.set_cons_zero, List.set_cons_succ, i64_w, i32_w]
              rfl
            refine pure_ (i := 8) (N := some 15) (v := ?_) (a' := ?_) #[true, true, true, true, true, true, true, true, true, true, false, false, false, false, false, false, false, false, false, false, false, false, false, false, false, false, false, false, false, false, false, false, false] rfl rfl (any_of HT_.out (by kernel_rfl)) (fun _ _ _ h => h) (Or.inl ⟨by rfl, ?_⟩) ?_ ?_
            rotate_left
            · intro w'
              go_simp
              with_reducible rfl
            rotate_left
            · simp only [Act.put, List.setIfInBounds_toArray, List.set_cons_zero, List.set_cons_succ, i64_w, i32_w]
              rfl
            refine take_ (i := 10) (N := some 17) (v := ?_) (a' := ?_) #[true, true, true, true, true, true, true, true, true, true, true, false, false, false, false, false, false, false, false, false, false, false, false, false, false, false, false, false, false, false, false, false, false] rfl rfl (take_ofW HT_.out HW_.out (by kernel_rfl)) (fun _ _ _ h => h) (Or.inl ⟨by rfl, ?_⟩) hHeld ?_ ?_
            rotate_left
            · rintro w' ⟨s0, s1, s2, s3, s4, s5, s6, s7, s8, s9, s10, s11, s12, s13, s14, s15, s16, s17, s18, s19, s20, s21, s22, s23⟩
              go_simp
              with_reducible rfl
            rotate_left
            · simp only [Act.put, List.setIfInBounds_toArray, List.set_cons_zero, List.set_cons_succ, i64_w, i32_w]
              rfl
            refine pure_ (i := 11) (N := some 18) (v := ?_) (a' := ?_) #[true, true, true, true, true, true, true, true, true, true, true, true, false, false, false, false, false, false, false, false, false, false, false, false, false, false, false, false, false, false, false, false, false] rfl rfl (any_of HT_.out (by kernel_rfl)) (fun _ _ _ h => h) (Or.inl ⟨by rfl, ?_⟩) ?_ ?_
            rotate_left
            · intro w'
              go_simp
              with_reducible rfl
            rotate_left
            · simp only [Act.put, List.setIfInBounds_toArray, List.set_cons_zero, List.set_cons_succ, i64_w, i32_w]
              rfl
            refine pure_ (i := 12) (N := some 19) (v := ?_) (a' := ?_) #[true, true, true, true, true, true, true, true, true, true, true, true, true, false, false, false, false, false, false, false, false, false, false, false, false, false, false, false, false, false, false, false, false] rfl rfl (any_of HT_.out (by kernel_rfl)) (fun _ _ _ h => h) (Or.inl ⟨by rfl, ?_⟩) ?_ ?_
            rotate_left
            · intro w'
              go_simp
              with_reducible rfl
            rotate_left
            · simp only [Act.put, List.setIfInBounds_toArray, List.set_cons_zero, List.set_cons_succ, i64_w, i32_w]
              rfl
            refine pure_ (i := 13) (N := some 20) (v := ?_) (a' := ?_) #[true, true, true, true, true, true, true, true, true, true, true, true, true, true, false, false, false, false, false, false, false, false, false, false, false, false, false, false, false, false, false, false, false] rfl rfl (any_of HT_.out (by kernel_rfl)) (fun _ _ _ h => h) (Or.inl ⟨by rfl, ?_⟩) ?_ ?_
            rotate_left
            · intro w'
              go_simp
              with_reducible rfl
            rotate_left
            · simp only [Act.put, List.setIfInBounds_toArray, List.set_cons_zero, List.set_cons_succ, i64_w, i32_w]
              rfl
            refine pure_ (i := 14) (N := some 21) (v := ?_) (a' := ?_) #[true, true, true, true, true, true, true, true, true, true, true, true, true, true, true, false, false, false, false, false, false, false, false, false, false, false, false, false, false, false, false, false, false] rfl rfl (any_of HT_.out (by kernel_rfl)) (fun _ _ _ h => h) (Or.inl ⟨by rfl, ?_⟩) ?_ ?_
            rotate_left
            · intro w'
              go_simp
              with_reducible rfl
            rotate_left
            · simp only [Act.put, List.setIfInBounds_toArray, List.set_cons_zero, List.set_cons_succ, i64_w, i32_w]
              rfl
            refine pure_ (i := 15) (N := some 22) (v := ?_) (a' := ?_) #[true, true, true, true, true, true, true, true, true, true, true, true, true, true, true, true, false, false, false, false, false, false, false, false, false, false, false, false, false, false, false, false, false] rfl rfl (any_of HT_.out (by kernel_rfl)) (fun _ _ _ h => h) (Or.inl ⟨by rfl, ?_⟩) ?_ ?_
            rotate_left
            · intro w'
              go_simp
              with_reducible rfl
            rotate_left
            · simp only [Act.put, List.setIfInBounds_toArray, List.set_cons_zero, List.set_cons_succ, i64_w, i32_w]
              rfl
            refine take_ (i := 16) (N := some 23) (v := ?_) (a' := ?_) #[true, true, true, true, true, true, true, true, true, true, true, true, true, true, true, true, true, false, false, false, false, false, false, false, false, false, false, false, false, false, false, false, false] rfl rfl (take_ofW HT_.out HW_.out (by kernel_rfl)) (fun _ _ _ h => h) (Or.inl ⟨by rfl, ?_⟩) hHeld ?_ ?_
            rotate_left
            · rintro w' ⟨s0, s1, s2, s3, s4, s5, s6, s7, s8, s9, s10, s11, s12, s13, s14, s15, s16, s17, s18, s19, s20, s21, s22, s23⟩
              go_simp
              with_reducible rfl
            rotate_left
            · simp only [Act.put, List.setIfInBounds_toArray, List.set_cons_zero, List.set_cons_succ, i64_w, i32_w]
              rfl
            refine pure_ (i := 17) (N := some 24) (v := ?_) (a' := ?_) #[true, true, true, true, true, true, true, true, true, true, true, true, true, true, true, true, true, true, false, false, false, false, false, false, false, false, false, false, false, false, false, false, false] rfl rfl (any_of HT_.out (by kernel_rfl)) (fun _ _ _ h => h) (Or.inl ⟨by rfl, ?_⟩) ?_ ?_
            rotate_left
            · intro w'
              go_simp
              with_reducible rfl
            rotate_left
            · simp only [Act.put, List.setIfInBounds_toArray, List.set_cons_zero, List.set_cons_succ, i64_w, i32_w]
              rfl
            refine pure_ (i := 18) (N := some 25) (v := ?_) (a' := ?_) #[true, true, true, true, true, true, true, true, true, true, true, true, true, true, true, true, true, true, true, false, false, false, false, false, false, false, false, false, false, false, false, false, false] rfl rfl (any_of HT_.out (by kernel_rfl)) (fun _ _ _ h => h) (Or.inl ⟨by rfl, ?_⟩) ?_ ?_
            rotate_left
            · intro w'
              go_simp
              with_reducible rfl
            rotate_left
            · simp only [Act.put, List.setIfInBounds_toArray, List.set_cons_zero, List.set_cons_succ, i64_w, i32_w]
              rfl
            refine pure_ (i := 19) (N := some 26) (v := ?_) (a' := ?_) #[true, true, true, true, true, true, true, true, true, true, true, true, true, true, true, true, true, true, true, true, false, false, false, false, false, false, false, false, false, false, false, false, false] rfl rfl (any_of HT_.out (by kernel_rfl)) (fun _ _ _ h => h) (Or.inl ⟨by rfl, ?_⟩) ?_ ?_
            rotate_left
            · intro w'
              go_simp
              with_reducible rfl
            rotate_left
            · simp only [Act.put, List.setIfInBounds_toArray, List.set_cons_zero, List.set_cons_succ, i64_w, i32_w]
              rfl
            refine pure_ (i := 21) (N := some 28) (v := ?_) (a' := ?_) #[true, true, true, true, true, true, true, true, true, true, true, true, true, true, true, true, true, true, true, true, false, true, false, false, false, false, false, false, false, false, false, false, false] rfl rfl (any_of HT_.out (by kernel_rfl)) (fun _ _ _ h => h) (Or.inl ⟨by rfl, ?_⟩) ?_ ?_
            rotate_left
            · intro w'
              go_simp
              with_reducible rfl
            rotate_left
            · simp only [Act.put, List.setIfInBounds_toArray, List.set_cons_zero, List.set_cons_succ, i64_w, i32_w]
              rfl
            refine take_ (i := 20) (N := some 27) (v := ?_) (a' := ?_) #[true, true, true, true, true, true, true, true, true, true, true, true, true, true, true, true, true, true, true, true, true, true, false, false, false, false, false, false, false, false, false, false, false] rfl rfl (take_ofW HT_.out HW_.out (by kernel_rfl)) (fun _ _ _ h => h) (Or.inl ⟨by rfl, ?_⟩) hHeld ?_ ?_
            rotate_left
            · rintro w' ⟨s0, s1, s2, s3, s4, s5, s6, s7, s8, s9, s10, s11, s12, s13, s14, s15, s16, s17, s18, s19, s20, s21, s22, s23⟩
              go_simp
              with_reducible rfl
            rotate_left
            · simp only [Act.put, List.setIfInBounds_toArray, List.set_cons_zero, List.set_cons_succ, i64_w, i32_w]
              rfl
            refine take_ (i := 22) (N := some 29) (v := ?_) (a' := ?_) #[true, true, true, true, true, true, true, true, true, true, true, true, true, true, true, true, true, true, true, true, true, true, true, false, false, false, false, false, false, false, false, false, false] rfl rfl (take_ofW HT_.out HW_.out (by kernel_rfl)) (fun _ _ _ h => h) (Or.inl ⟨by rfl, ?_⟩) hHeld ?_ ?_
            rotate_left
            · rintro w' ⟨s0, s1, s2, s3, s4, s5, s6, s7, s8, s9, s10, s11, s12, s13, s14, s15, s16, s17, s18, s19, s20, s21, s22, s23⟩
              go_simp
              with_reducible rfl
            rotate_left
            · simp only [Act.put, List.setIfInBounds_toArray, List.set_cons_zero, List.set_cons_succ, i64_w, i32_w]
              rfl
            refine pure_ (i := 23) (N := some 30) (v := ?_) (a' := ?_) #[true, true, true, true, true, true, true, true, true, true, true, true, true, true, true, true, true, true, true, true, true, true, true, true, false, false, false, false, false, false, false, false, false] rfl rfl (any_of HT_.out (by kernel_rfl)) (fun _ _ _ h => h) (Or.inl ⟨by rfl, ?_⟩) ?_ ?_
            rotate_left
            · intro w'
              go_simp
              with_reducible rfl
            rotate_left
            · simp only [Act.put, List.setIfInBounds_toArray, List.set_cons_zero, List.set_cons_succ, i64_w, i32_w]
              rfl
            refine pure_ (i := 24) (N := some 31) (v := ?_) (a' := ?_) #[true, true, true, true, true, true, true, true, true, true, true, true, true, true, true, true, true, true, true, true, true, true, true, true, true, false, false, false, false, false, false, false, false] rfl rfl (any_of HT_.out (by kernel_rfl)) (fun _ _ _ h => h) (Or.inl ⟨by rfl, ?_⟩) ?_ ?_
            rotate_left
            · intro w'
              go_simp
              with_reducible rfl
            rotate_left
            · simp only [Act.put, List.setIfInBounds_toArray, List.set_cons_zero, List.set_cons_succ, i64_w, i32_w]
              rfl
            refine take_ (i := 25) (N := some 32) (v := ?_) (a' := ?_) #[true, true, true, true, true, true, true, true, true, true, true, true, true, true, true, true, true, true, true, true, true, true, true, true, true, true, false, false, false, false, false, false, false] rfl rfl (take_ofW HT_.out HW_.out (by kernel_rfl)) (fun _ _ _ h => h) (Or.inl ⟨by rfl, ?_⟩) hHeld ?_ ?_
            rotate_left
            · rintro w' ⟨s0, s1, s2, s3, s4, s5, s6, s7, s8, s9, s10, s11, s12, s13, s14, s15, s16, s17, s18, s19, s20, s21, s22, s23⟩
              go_simp
              with_reducible rfl
            rotate_left
            · simp only [Act.put, List.setIfInBounds_toArray, List.set_cons_zero, List.set_cons_succ, i64_w, i32_w]
              rfl
            refine take_ (i := 27) (N := some 34) (v := ?_) (a' := ?_) #[true, true, true, true, true, true, true, true, true, true, true, true, true, true, true, true, true, true, true, true, true, true, true, true, true, true, false, true, false, false, false, false, false] rfl rfl (take_ofW HT_.out HW_.out (by kernel_rfl)) (fun _ _ _ h => h) (Or.inl ⟨by rfl, ?_⟩) hHeld ?_ ?_
            rotate_left
            · rintro w' ⟨s0, s1, s2, s3, s4, s5, s6, s7, s8, s9, s10, s11, s12, s13, s14, s15, s16, s17, s18, s19, s20, s21, s22, s23⟩
              go_simp
              with_reducible rfl
            rotate_left
            · simp only [Act.put, List.setIfInBounds_toArray, List.set_cons_zero, List.set_cons_succ, i64_w, i32_w]
              rfl
            refine one_ (i := 26) (N := some 33) #[true, true, true, true, true, true, true, true, true, true, true, true, true, true, true, true, true, true, true, true, true, true, true, true, true, true, true, true, false, false, false, false, false] rfl rfl (one_of HT_.out (by kernel_rfl)) (by decide) (fun K hK => ?_)
            refine goes_ Tryd.func12 (by kernel_rfl) rfl #[.agg #[.int .i64 a0_0, .int .i64 a0_1, .string a0_2, .string a0_3, .string a0_4, .string a0_5, .string a0_6, .string a0_7, .int .i64 a0_8, .int .i64 a0_9, .int .i64 a0_10, .slice A0_11 l0_11.length c0_11]] (by rfl) rfl rfl (by (try simp only [List.map_toArray, List.map_cons, List.map_nil]); first | done | rfl | (simp only [List.length_drop, List.length_take]; rfl)) ?_
            with_reducible refine (spec_tagOf.calls a0_0 a0_1 a0_2 a0_3 a0_4 a0_5 a0_6 a0_7 a0_8 a0_9 a0_10 _ _ l0_11 t133 _ ?side1 ?side2 A10.out).mono ?_
            (case side1 => repeat (first | exact (Kd.C_below HR0_11.out HB.out) | (with_reducible refine Kd.C_alloc ?_ _) | (with_reducible refine Kd.C_drewN ?_ _) | (with_reducible refine Kd.C_drew ?_)))
            (case side2 => exact HC0_11.out)
            rintro e w13 ⟨rfl, hb⟩
            refine ⟨_, rfl, ?_⟩
            have n0_ := Aside0.mk (blk_below (g := gb131) (o := .cells #[.int .i64 a0_0, .int .i64 a0_1, .string a0_2, .string a0_3, .string a0_4, .string a0_5, .string a0_6, .string a0_7, .int .i64 a0_8, .int .i64 a0_9, .int .i64 a0_10, .slice A0_11 l0_11.length c0_11] 25 (0, 0)) (by (with_reducible repeat (first | refine blk_drewN ?_ _ | refine blk_drew ?_ | refine blk_alloc ?_ _)); exact BK131.out) hb)
            have n1_ := Aside0.mk (blk_below (g := gb132) (o := .cells #[.int .i64 a1_0, .int .i64 a1_1, .string a1_2, .string a1_3, .string a1_4, .string a1_5, .string a1_6, .string a1_7, .int .i64 a1_8, .int .i64 a1_9, .int .i64 a1_10, .slice A1_11 l1_11.length c1_11] 25 (0, 0)) (by (with_reducible repeat (first | refine blk_drewN ?_ _ | refine blk_drew ?_ | refine blk_alloc ?_ _)); exact BK132.out) hb)
            have n2_ := Aside0.mk (below_step (by repeat (first | (with_reducible first | exact HB.out | apply below_alloc | apply pw_below_drewN | apply below_drew1 | refine below_set ?_ GE131.out | refine below_set ?_ GE132.out) | exact HB.out)) hb)
            clear BK131
            clear BK132
            clear HB
            have BK131 := n0_
            have BK132 := n1_
            have HB := n2_
            clear n0_ n1_ n2_
            (try clear hb)
            (try clear hb2)
            (try clear hk)
            (try clear hi)
            refine hK.out _ _ ⟨(blk_cell BK131.out 0).trans rfl, (blk_cell BK131.out 1).trans rfl, (blk_cell BK131.out 2).trans rfl, (blk_cell BK131.out 3).trans rfl, (blk_cell BK131.out 4).trans rfl, (blk_cell BK131.out 5).trans rfl, (blk_cell BK131.out 6).trans rfl, (blk_cell BK131.out 7).trans rfl, (blk_cell BK131.out 8).trans rfl, (blk_cell BK131.out 9).trans rfl, (blk_cell BK131.out 10).trans rfl, (blk_cell BK131.out 11).trans rfl, (blk_cell BK132.out 0).trans rfl, (blk_cell BK132.out 1).trans rfl, (blk_cell BK132.out 2).trans rfl, (blk_cell BK132.out 3).trans rfl, (blk_cell BK132.out 4).trans rfl, (blk_cell BK132.out 5).trans rfl, (blk_cell BK132.out 6).trans rfl, (blk_cell BK132.out 7).trans rfl, (blk_cell BK132.out 8).trans rfl, (blk_cell BK132.out 9).trans rfl, (blk_cell BK132.out 10).trans rfl, (blk_cell BK132.out 11).trans rfl⟩ (fun hHeld => ?_)
            clear hK K
            refine norm_ (a' := ?_) ?_ ?_
            rotate_left
            · show Act.put _ (some 33) _ = _
              simp only [Act.put, List.setIfInBounds_toArray, List.set_cons_zero, List.set_cons_succ, i64_w, i32_w]
              rfl
            refine one_ (i := 28) (N := some 35) #[true, true, true, true, true, true, true, true, true, true, true, true, true, true, true, true, true, true, true, true, true, true, true, true, true, true, true, true, true, false, false, false, false] rfl rfl (one_of HT_.out (by kernel_rfl)) (by decide) (fun K hK => ?_)
            refine goes_ Tryd.func12 (by kernel_rfl) rfl #[.agg #[.int .i64 a1_0, .int .i64 a1_1, .string a1_2, .string a1_3, .string a1_4, .string a1_5, .string a1_6, .string a1_7, .int .i64 a1_8, .int .i64 a1_9, .int .i64 a1_10, .slice A1_11 l1_11.length c1_11]] (by rfl) rfl rfl (by (try simp only [List.map_toArray, List.map_cons, List.map_nil]); first | done | rfl | (simp only [List.length_drop, List.length_take]; rfl)) ?_
            with_reducible refine (spec_tagOf.calls a1_0 a1_1 a1_2 a1_3 a1_4 a1_5 a1_6 a1_7 a1_8 a1_9 a1_10 _ _ l1_11 t134 _ ?side1 ?side2 A11.out).mono ?_
            (case side1 => repeat (first | exact (Kd.C_below HR1_11.out HB.out) | (with_reducible refine Kd.C_alloc ?_ _) | (with_reducible refine Kd.C_drewN ?_ _) | (with_reducible refine Kd.C_drew ?_)))
            (case side2 => exact HC1_11.out)
            rintro e w14 ⟨rfl, hb⟩
            refine ⟨_, rfl, ?_⟩
            have n0_ := Aside0.mk (blk_below (g := gb131) (o := .cells #[.int .i64 a0_0, .int .i64 a0_1, .string a0_2, .string a0_3, .string a0_4, .string a0_5, .string a0_6, .string a0_7, .int .i64 a0_8, .int .i64 a0_9, .int .i64 a0_10, .slice A0_11 l0_11.length c0_11] 25 (0, 0)) (by (with_reducible repeat (first | refine blk_drewN ?_ _ | refine blk_drew ?_ | refine blk_alloc ?_ _)); exact BK131.out) hb)
            have n1_ := Aside0.mk (blk_below (g := gb132) (o := .cells #[.int .i64 a1_0, .int .i64 a1_1, .string a1_2, .string a1_3, .string a1_4, .string a1_5, .string a1_6, .string a1_7, .int .i64 a1_8, .int .i64 a1_9, .int .i64 a1_10, .slice A1_11 l1_11.length c1_11] 25 (0, 0)) (by (with_reducible repeat (first | refine blk_drewN ?_ _ | refine blk_drew ?_ | refine blk_alloc ?_ _)); exact BK132.out) hb)
            have n2_ := Aside0.mk (below_step (by repeat (first | (with_reducible first | exact HB.out | apply below_alloc | apply pw_below_drewN | apply below_drew1 | refine below_set ?_ GE131.out | refine below_set ?_ GE132.out) | exact HB.out)) hb)
            clear BK131
            clear BK132
            clear HB
            have BK131 := n0_
            have BK132 := n1_
            have HB := n2_
            clear n0_ n1_ n2_
            (try clear hb)
            (try clear hb2)
            (try clear hk)
            (try clear hi)
            refine hK.out _ _ ⟨(blk_cell BK131.out 0).trans rfl, (blk_cell BK131.out 1).trans rfl, (blk_cell BK131.out 2).trans rfl, (blk_cell BK131.out 3).trans rfl, (blk_cell BK131.out 4).trans rfl, (blk_cell BK131.out 5).trans rfl, (blk_cell BK131.out 6).trans rfl, (blk_cell BK131.out 7).trans rfl, (blk_cell BK131.out 8).trans rfl, (blk_cell BK131.out 9).trans rfl, (blk_cell BK131.out 10).trans rfl, (blk_cell BK131.out 11).trans rfl, (blk_cell BK132.out 0).trans rfl, (blk_cell BK132.out 1).trans rfl, (blk_cell BK132.out 2).trans rfl, (blk_cell BK132.out 3).trans rfl, (blk_cell BK132.out 4).trans rfl, (blk_cell BK132.out 5).trans rfl, (blk_cell BK132.out 6).trans rfl, (blk_cell BK132.out 7).trans rfl, (blk_cell BK132.out 8).trans rfl, (blk_cell BK132.out 9).trans rfl, (blk_cell BK132.out 10).trans rfl, (blk_cell BK132.out 11).trans rfl⟩ (fun hHeld => ?_)
            clear hK K
            refine norm_ (a' := ?_) ?_ ?_
            rotate_left
            · show Act.put _ (some 35) _ = _
              simp only [Act.put, List.setIfInBounds_toArray, List.set_cons_zero, List.set_cons_succ, i64_w, i32_w]
              rfl
            refine pure_ (i := 29) (N := some 36) (v := ?_) (a' := ?_) #[true, true, true, true, true, true, true, true, true, true, true, true, true, true, true, true, true, true, true, true, true, true, true, true, true, true, true, true, true, true, false, false, false] rfl rfl (any_of HT_.out (by kernel_rfl)) (fun _ _ _ h => h) (Or.inl ⟨by rfl, ?_⟩) ?_ ?_
            rotate_left
            · intro w'
              go_simp
              with_reducible rfl
            rotate_left
            · simp only [Act.put, List.setIfInBounds_toArray, List.set_cons_zero, List.set_cons_succ, i64_w, i32_w]
              rfl
            refine pure_ (i := 30) (N := some 37) (v := ?_) (a' := ?_) #[true, true, true, true, true, true, true, true, true, true, true, true, true, true, true, true, true, true, true, true, true, true, true, true, true, true, true, true, true, true, true, false, false] rfl rfl (any_of HT_.out (by kernel_rfl)) (fun _ _ _ h => h) (Or.inl ⟨by rfl, ?_⟩) ?_ ?_
            rotate_left
            · intro w'
              go_simp
              with_reducible rfl
            rotate_left
            · simp only [Act.put, List.setIfInBounds_toArray, List.set_cons_zero, List.set_cons_succ, i64_w, i32_w]
              rfl
            refine pure_ (i := 31) (N := some 38) (v := ?_) (a' := ?_) #[true, true, true, true, true, true, true, true, true, true, true, true, true, true, true, true, true, true, true, true, true, true, true, true, true, true, true, true, true, true, true, true, false] rfl rfl (any_of HT_.out (by kernel_rfl)) (fun _ _ _ h => h) (Or.inl ⟨by rfl, ?_⟩) ?_ ?_
            rotate_left
            · intro w'
              go_simp
              with_reducible rfl
            rotate_left
            · simp only [Act.put, List.setIfInBounds_toArray, List.set_cons_zero, List.set_cons_succ, i64_w, i32_w]
              rfl
            refine pure_ (i := 32) (N := some 39) (v := ?_) (a' := ?_) #[true, true, true, true, true, true, true, true, true, true, true, true, true, true, true, true, true, true, true, true, true, true, true, true, true, true, true, true, true, true, true, true, true] rfl rfl (any_of HT_.out (by kernel_rfl)) (fun _ _ _ h => h) (Or.inl ⟨by rfl, ?_⟩) ?_ ?_
            rotate_left
            · intro w'
              go_simp
              with_reducible rfl
            rotate_left
            · simp only [Act.put, List.setIfInBounds_toArray, List.set_cons_zero, List.set_cons_succ, i64_w, i32_w]
              rfl
            refine done_ (done_of HT_.out (by kernel_rfl)) ?_
            try go_wp2
            go_meet
            case rel => exact ⟨_, ((t133.toList != t134.toList)), (by first | rfl | (simp; done) | (simp [*]; done)), H', ⟨by first | omega | exact Nat.le_refl _⟩, ⟨by (with_reducible repeat (first | refine blk_drewN ?_ _ | refine blk_drew ?_ | refine blk_alloc ?_ _)); exact BK131.out⟩, ⟨by (with_reducible repeat (first | refine blk_drewN ?_ _ | refine blk_drew ?_ | refine blk_alloc ?_ _)); exact BK132.out⟩, ⟨by repeat (first | (with_reducible first | exact HB.out | apply below_alloc | apply pw_below_drewN | apply below_drew1 | refine below_set ?_ GE131.out | refine below_set ?_ GE132.out) | exact HB.out)⟩⟩
          · rw [if_neg c9] at H
            have c9b0 : (a0_3.toList == a1_3.toList) = false := beq_eq_false_iff_ne.mpr c9
            have c9b1 : (a0_3.toList != a1_3.toList) = true := bne_iff_ne.mpr c9
            have H' := Aside0.mk H
            clear H
            try go_wp2
            have n0_ := Aside0.mk (blk_drew BK131.out)
            have n1_ := Aside0.mk (blk_drew BK132.out)
            have n2_ := Aside0.mk (below_drew1 HB.out)
            clear BK131
            clear BK132
            clear HB
            have BK131 := n0_
            have BK132 := n1_
            have HB := n2_
            clear n0_ n1_ n2_
            refine start_ (n := 33) (S := fun w' => w'.cell? ⟨gb131, 0, none⟩ = some (.int .i64 a0_0) ∧ w'.cell? ⟨gb131, 1, none⟩ = some (.int .i64 a0_1) ∧ w'.cell? ⟨gb131, 2, none⟩ = some (.string a0_2) ∧ w'.cell? ⟨gb131, 3, none⟩ = some (.string a0_3) ∧ w'.cell? ⟨gb131, 4, none⟩ = some (.string a0_4) ∧ w'.cell? ⟨gb131, 5, none⟩ = some (.string a0_5) ∧ w'.cell? ⟨gb131, 6, none⟩ = some (.string a0_6) ∧ w'.cell? ⟨gb131, 7, none⟩ = some (.string a0_7) ∧ w'.cell? ⟨gb131, 8, none⟩ = some (.int .i64 a0_8) ∧ w'.cell? ⟨gb131, 9, none⟩ = some (.int .i64 a0_9) ∧ w'.cell? ⟨gb131, 10, none⟩ = some (.int .i64 a0_10) ∧ w'.cell? ⟨gb131, 11, none⟩ = some (.slice A0_11 l0_11.length c0_11) ∧ w'.cell? ⟨gb132, 0, none⟩ = some (.int .i64 a1_0) ∧ w'.cell? ⟨gb132, 1, none⟩ = some (.int .i64 a1_1) ∧ w'.cell? ⟨gb132, 2, none⟩ = some (.string a1_2) ∧ w'.cell? ⟨gb132, 3, none⟩ = some (.string a1_3) ∧ w'.cell? ⟨gb132, 4, none⟩ = some (.string a1_4) ∧ w'.cell? ⟨gb132, 5, none⟩ = some (.string a1_5) ∧ w'.cell? ⟨gb132, 6, none⟩ = some (.string a1_6) ∧ w'.cell? ⟨gb132, 7, none⟩ = some (.string a1_7) ∧ w'.cell? ⟨gb132, 8, none⟩ = some (.int .i64 a1_8) ∧ w'.cell? ⟨gb132, 9, none⟩ = some (.int .i64 a1_9) ∧ w'.cell? ⟨gb132, 10, none⟩ = some (.int .i64 a1_10) ∧ w'.cell? ⟨gb132, 11, none⟩ = some (.slice A1_11 l1_11.length c1_11)) (ds := []) #[false, false, false, false, false, false, false, false, false, false, false, false, false, false, false, false, false, false, false, false, false, false, false, false, false, false, false, false, false, false, false, false, false] (by kernel_rfl) rfl rfl ⟨(blk_cell BK131.out 0).trans rfl, (blk_cell BK131.out 1).trans rfl, (blk_cell BK131.out 2).trans rfl, (blk_cell BK131.out 3).trans rfl, (blk_cell BK131.out 4).trans rfl, (blk_cell BK131.out 5).trans rfl, (blk_cell BK131.out 6).trans rfl, (blk_cell BK131.out 7).trans rfl, (blk_cell BK131.out 8).trans rfl, (blk_cell BK131.out 9).trans rfl, (blk_cell BK131.out 10).trans rfl, (blk_cell BK131.out 11).trans rfl, (blk_cell BK132.out 0).trans rfl, (blk_cell BK132.out 1).trans rfl, (blk_cell BK132.out 2).trans rfl, (blk_cell BK132.out 3).trans rfl, (blk_cell BK132.out 4).trans rfl, (blk_cell BK132.out 5).trans rfl, (blk_cell BK132.out 6).trans rfl, (blk_cell BK132.out 7).trans rfl, (blk_cell BK132.out 8).trans rfl, (blk_cell BK132.out 9).trans rfl, (blk_cell BK132.out 10).trans rfl, (blk_cell BK132.out 11).trans rfl⟩ (fun hHeld => ?_); refine with_tabW spec_SameTree.tab1 spec_SameTree.bits1 (fun HT_ HW_ => ?_)
            generalize w5.drew = w15 at BK131 BK132 HB hHeld ⊢
            refine pure_ (i := 0) (N := some 7) (v := ?_) (a' := ?_) #[true, false, false, false, false, false, false, false, false, false, false, false, false, false, false, false, false, false, false, false, false, false, false, false, false, false, false, false, false, false, false, false, false] rfl rfl (any_of HT_.out (by kernel_rfl)) (fun _ _ _ h => h) (Or.inl ⟨by rfl, ?_⟩) ?_ ?_
            rotate_left
            · intro w'
              go_simp
              with_reducible rfl
            rotate_left
            · simp only [Act.put, List.setIfInBounds_toArray, List.set_cons_zero, List.set_cons_succ, i64_w, i32_w]
              rfl
            refine pure_ (i := 2) (N := some 9) (v := ?_) (a' := ?_) #[true, false, true, false, false, false, false, false, false, false, false, false, false, false, false, false, false, false, false, false, false, false, false, false, false, false, false, false, false, false, false, false, false] rfl rfl (any_of HT_.out (by kernel_rfl)) (fun _ _ _ h => h) (Or.inl ⟨by rfl, ?_⟩) ?_ ?_
            rotate_left
            · intro w'
              go_simp
              with_reducible rfl
            rotate_left
            · simp only [Act.put, List.setIfInBounds_toArray, List.set_cons_zero, List.set_cons_succ, i64_w, i32_w]
              rfl
            refine take_ (i := 1) (N := some 8) (v := ?_) (a' := ?_) #[true, true, true, false, false, false, false, false, false, false, false, false, false, false, false, false, false, false, false, false, false, false, false, false, false, false, false, false, false, false, false, false, false] rfl rfl (take_ofW HT_.out HW_.out (by kernel_rfl)) (fun _ _ _ h => h) (Or.inl ⟨by rfl, ?_⟩) hHeld ?_ ?_
            rotate_left
            · rintro w' ⟨s0, s1, s2, s3, s4, s5, s6, s7, s8, s9, s10, s11, s12, s13, s14, s15, s16, s17, s18, s19, s20, s21, s22, s23⟩
              go_simp
              with_reducible rfl
            rotate_left
            · simp only [Act.put, List.setIfInBounds_toArray, List.set_cons_zero, List.set_cons_succ, i64_w, i32_w]
              rfl
            refine take_ (i := 3) (N := some 10) (v := ?_) (a' := ?_) #[true, true, true, true, false, false, false, false, false, false, false, false, false, false, false, false, false, false, false, false, false, false, false, false, false, false, false, false, false, false, false, false, false] rfl rfl (take_ofW HT_.out HW_.out (by kernel_rfl)) (fun _ _ _ h => h) (Or.inl ⟨by rfl, ?_⟩) hHeld ?_ ?_
            rotate_left
            · rintro w' ⟨s0, s1, s2, s3, s4, s5, s6, s7, s8, s9, s10, s11, s12, s13, s14, s15, s16, s17, s18, s19, s20, s21, s22, s23⟩
              go_simp
              with_reducible rfl
            rotate_left
            · simp only [Act.put, List.setIfInBounds_toArray, List.set_cons_zero, List.set_cons_succ, i64_w, i32_w]
              rfl
            refine pure_ (i := 4) (N := some 11) (v := ?_) (a' := ?_) #[true, true, true, true, true, false, false, false, false, false, false, false, false, false, false, false, false, false, false, false, false, false, false, false, false, false, false, false, false, false, false, false, false] rfl rfl (any_of HT_.out (by kernel_rfl)) (fun _ _ _ h => h) (Or.inl ⟨by rfl, ?_⟩) ?_ ?_
            rotate_left
            · intro w'
              go_simp
              with_reducible rfl
            rotate_left
            · simp only [Act.put, List.setIfInBounds_toArray, List.set_cons_zero, List.set_cons_succ, i64_w, i32_w]
              rfl
            refine pure_ (i := 5) (N := some 12) (v := ?_) (a' := ?_) #[true, true, true, true, true, true, false, false, false, false, false, false, false, false, false, false, false, false, false, false, false, false, false, false, false, false, false, false, false, false, false, false, false] rfl rfl (any_of HT_.out (by kernel_rfl)) (fun _ _ _ h => h) (Or.inl ⟨by rfl, ?_⟩) ?_ ?_
            rotate_left
            · intro w'
              go_simp
              with_reducible rfl
            rotate_left
            · simp only [Act.put, List.setIfInBounds_toArray, List.set_cons_zero, List.set_cons_succ, i64_w, i32_w]
              rfl
            refine pure_ (i := 6) (N := some 13) (v := ?_) (a' := ?_) #[true, true, true, true, true, true, true, false, false, false, false, false, false, false, false, false, false, false, false, false, false, false, false, false, false, false, false, false, false, false, false, false, false] rfl rfl (any_of HT_.out (by kernel_rfl)) (fun _ _ _ h => h) (Or.inl ⟨by rfl, ?_⟩) ?_ ?_
            rotate_left
            · intro w'
              go_simp
              with_reducible rfl
            rotate_left
            · simp only [Act.put, List.setIfInBounds_toArray, List.set_cons_zero, List.set_cons_succ, i64_w, i32_w]
              rfl
            refine pure_ (i := 9) (N := some 16) (v := ?_) (a' := ?_) #[true, true, true, true, true, true, true, false, false, true, false, false, false, false, false, false, false, false, false, false, false, false, false, false, false, false, false, false, false, false, false, false, false] rfl rfl (any_of HT_.out (by kernel_rfl)) (fun _ _ _ h => h) (Or.inl ⟨by rfl, ?_⟩) ?_ ?_
            rotate_left
            · intro w'
              go_simp
              with_reducible rfl
            rotate_left
            · simp only [Act.put, List.setIfInBounds_toArray, List.set_cons_zero, List.set_cons_succ, i64_w, i32_w]
              rfl
            refine take_ (i := 7) (N := some 14) (v := ?_) (a' := ?_) #[true, true, true, true, true, true, true, true, false, true, false, false, false, false, false, false, false, false, false, false, false, false, false, false, false, false, false, false, false, false, false, false, false] rfl rfl (take_ofW HT_.out HW_.out (by kernel_rfl)) (fun _ _ _ h => h) (Or.inl ⟨by rfl, ?_⟩) hHeld ?_ ?_
            rotate_left
            · rintro w' ⟨s0, s1, s2, s3, s4, s5, s6, s7, s8, s9, s10, s11, s12, s13, s14, s15, s16, s17, s18, s19, s20, s21, s22, s23⟩
              go_simp
              with_reducible rfl
            rotate_left
            · simp only [Act.put, List.setIfInBounds_toArray, List.set_cons_zero, List.set_cons_succ, i64_w, i32_w]
              rfl
            refine pure_ (i := 8) (N := some 15) (v := ?_) (a' := ?_) #[true, true, true, true, true, true, true, true, true, true, false, false, false, false, false, false, false, false, false, false, false, false, false, false, false, false, false, false, false, false, false, false, false] rfl rfl (any_of HT_.out (by kernel_rfl)) (fun _ _ _ h => h) (Or.inl ⟨by rfl, ?_⟩) ?_ ?_
            rotate_left
            · intro w'
              go_simp
              with_reducible rfl
            rotate_left
            · simp only [Act.put, List.setIfInBounds_toArray, List.set_cons_zero, List.set_cons_succ, i64_w, i32_w]
              rfl
            refine take_ (i := 10) (N := some 17) (v := ?_) (a' := ?_) #[true, true, true, true, true, true, true, true, true, true, true, false, false, false, false, false, false, false, false, false, false, false, false, false, false, false, false, false, false, false, false, false, false] rfl rfl (take_ofW HT_.out HW_.out (by kernel_rfl)) (fun _ _ _ h => h) (Or.inl ⟨by rfl, ?_⟩) hHeld ?_ ?_
            rotate_left
            · rintro w' ⟨s0, s1, s2, s3, s4, s5, s6, s7, s8, s9, s10, s11, s12, s13, s14, s15, s16, s17, s18, s19, s20, s21, s22, s23⟩
              go_simp
              with_reducible rfl
            rotate_left
            · simp only [Act.put, List.setIfInBounds_toArray, List.set_cons_zero, List.set_cons_succ, i64_w, i32_w]
              rfl
            refine pure_ (i := 11) (N := some 18) (v := ?_) (a' := ?_) #[true, true, true, true, true, true, true, true, true, true, true, true, false, false, false, false, false, false, false, false, false, false, false, false, false, false, false, false, false, false, false, false, false] rfl rfl (any_of HT_.out (by kernel_rfl)) (fun _ _ _ h => h) (Or.inl ⟨by rfl, ?_⟩) ?_ ?_
            rotate_left
            · intro w'
              go_simp
              with_reducible rfl
            rotate_left
            · simp only [Act.put, List.setIfInBounds_toArray, List.set_cons_zero, List.set_cons_succ, i64_w, i32_w]
              rfl
            refine pure_ (i := 12) (N := some 19) (v := ?_) (a' := ?_) #[true, true, true, true, true, true, true, true, true, true, true, true, true, false, false, false, false, false, false, false, false, false, false, false, false, false, false, false, false, false, false, false, false] rfl rfl (any_of HT_.out (by kernel_rfl)) (fun _ _ _ h => h) (Or.inl ⟨by rfl, ?_⟩) ?_ ?_
            rotate_left
            · intro w'
              go_simp
              with_reducible rfl
            rotate_left
            · simp only [Act.put, List.setIfInBounds_toArray, List.set_cons_zero, List.set_cons_succ, i64_w, i32_w]
              rfl
            refine pure_ (i := 13) (N := some 20) (v := ?_) (a' := ?_) #[true, true, true, true, true, true, true, true, true, true, true, true, true, true, false, false, false, false, false, false, false, false, false, false, false, false, false, false, false, false, false, false, false] rfl rfl (any_of HT_.out (by kernel_rfl)) (fun _ _ _ h => h) (Or.inl ⟨by rfl, ?_⟩) ?_ ?_
            rotate_left
            · intro w'
              go_simp
              with_reducible rfl
            rotate_left
            · simp only [Act.put, List.setIfInBounds_toArray, List.set_cons_zero, List.set_cons_succ, i64_w, i32_w]
              rfl
            refine pure_ (i := 14) (N := some 21) (v := ?_) (a' := ?_) #[true, true, true, true, true, true, true, true, true, true, true, true, true, true, true, false, false, false, false, false, false, false, false, false, false, false, false, false, false, false, false, false, false] rfl rfl (any_of HT_.out (by kernel_rfl)) (fun _ _ _ h => h) (Or.inl ⟨by rfl, ?_⟩) ?_ ?_
            rotate_left
            · intro w'
              go_simp
              with_reducible rfl
            rotate_left
            · simp only [Act.put, List.setIfInBounds_toArray, List.set_cons_zero, List.set_cons_succ, i64_w, i32_w]
              rfl
            refine pure_ (i := 15) (N := some 22) (v := ?_) (a' := ?_) #[true, true, true, true, true, true, true, true, true, true, true, true, true, true, true, true, false, false, false, false, false, false, false, false, false, false, false, false, false, false, false, false, false] rfl rfl (any_of HT_.out (by kernel_rfl)) (fun _ _ _ h => h) (Or.inl ⟨by rfl, ?_⟩) ?_ ?_
            rotate_left
            · intro w'
              go_simp
              with_reducible rfl
            rotate_left
            · simp only [Act.put, List.setIfInBounds_toArray, List.set_cons_zero, List.set_cons_succ, i64_w, i32_w]
              rfl
            refine take_ (i := 16) (N := some 23) (v := ?_) (a' := ?_) #[true, true, true, true, true, true, true, true, true, true, true, true, true, true, true, true, true, false, false, false, false, false, false, false, false, false, false, false, false, false, false, false, false] rfl rfl (take_ofW HT_.out HW_.out (by kernel_rfl)) (fun _ _ _ h => h) (Or.inl ⟨by rfl, ?_⟩) hHeld ?_ ?_
            rotate_left
            · rintro w' ⟨s0, s1, s2, s3, s4, s5, s6, s7, s8, s9, s10, s11, s12, s13, s14, s15, s16, s17, s18, s19, s20, s21, s22, s23⟩
              go_simp
              with_reducible rfl
            rotate_left
            · simp only [Act.put, List.setIfInBounds_toArray, List.set_cons_zero, List.set_cons_succ, i64_w, i32_w]
              rfl
            refine pure_ (i := 17) (N := some 24) (v := ?_) (a' := ?_) #[true, true, true, true, true, true, true, true, true, true, true, true, true, true, true, true, true, true, false, false, false, false, false, false, false, false, false, false, false, false, false, false, false] rfl rfl (any_of HT_.out (by kernel_rfl)) (fun _ _ _ h => h) (Or.inl ⟨by rfl, ?_⟩) ?_ ?_
            rotate_left
            · intro w'
              go_simp
              with_reducible rfl
            rotate_left
            · simp only [Act.put, List.setIfInBounds_toArray, List.set_cons_zero, List.set_cons_succ, i64_w, i32_w]
              rfl
            refine pure_ (i := 18) (N := some 25) (v := ?_) (a' := ?_) #[true, true, true, true, true, true, true, true, true, true, true, true, true, true, true, true, true, true, true, false, false, false, false, false, false, false, false, false, false, false, false, false, false] rfl rfl (any_of HT_.out (by kernel_rfl)) (fun _ _ _ h => h) (Or.inl ⟨by rfl, ?_⟩) ?_ ?_
            rotate_left
            · intro w'
              go_simp
              with_reducible rfl
            rotate_left
            · simp only [Act.put, List.setIfInBounds_toArray, List.set_cons_zero, List.set_cons_succ, i64_w, i32_w]
              rfl
            refine pure_ (i := 19) (N := some 26) (v := ?_) (a' := ?_) #[true, true, true, true, true, true, true, true, true, true, true, true, true, true, true, true, true, true, true, true, false, false, false, false, false, false, false, false, false, false, false, false, false] rfl rfl (any_of HT_.out (by kernel_rfl)) (fun _ _ _ h => h) (Or.inl ⟨by rfl, ?_⟩) ?_ ?_
            rotate_left
            · intro w'
              go_simp
              with_reducible rfl
            rotate_left
            · simp only [Act.put, List.setIfInBounds_toArray, List.set_cons_zero, List.set_cons_succ, i64_w, i32_w]
              rfl
            refine pure_ (i := 21) (N := some 28) (v := ?_) (a' := ?_) #[true, true, true, true, true, true, true, true, true, true, true, true, true, true, true, true, true, true, true, true, false, true, false, false, false, false, false, false, false, false, false, false, false] rfl rfl (any_of HT_.out (by kernel_rfl)) (fun _ _ _ h => h) (Or.inl ⟨by rfl, ?_⟩) ?_ ?_
            rotate_left
            · intro w'
              go_simp
              with_reducible rfl
            rotate_left
            · simp only [Act.put, List.setIfInBounds_toArray, List.set_cons_zero, List.set_cons_succ, i64_w, i32_w]
              rfl
            refine take_ (i := 20) (N := some 27) (v := ?_) (a' := ?_) #[true, true, true, true, true, true, true, true, true, true, true, true, true, true, true, true, true, true, true, true, true, true, false, false, false, false, false, false, false, false, false, false, false] rfl rfl (take_ofW HT_.out HW_.out (by kernel_rfl)) (fun _ _ _ h => h) (Or.inl ⟨by rfl, ?_⟩) hHeld ?_ ?_
            rotate_left
            · rintro w' ⟨s0, s1, s2, s3, s4, s5, s6, s7, s8, s9, s10, s11, s12, s13, s14, s15, s16, s17, s18, s19, s20, s21, s22, s23⟩
              go_simp
              with_reducible rfl
            rotate_left
            · simp only [Act.put, List.setIfInBounds_toArray, List.set_cons_zero, List.set_cons_succ, i64_w, i32_w]
              rfl
            refine take_ (i := 22) (N := some 29) (v := ?_) (a' := ?_) #[true, true, true, true, true, true, true, true, true, true, true, true, true, true, true, true, true, true, true, true, true, true, true, false, false, false, false, false, false, false, false, false, false] rfl rfl (take_ofW HT_.out HW_.out (by kernel_rfl)) (fun _ _ _ h => h) (Or.inl ⟨by rfl, ?_⟩) hHeld ?_ ?_
            rotate_left
            · rintro w' ⟨s0, s1, s2, s3, s4, s5, s6, s7, s8, s9, s10, s11, s12, s13, s14, s15, s16, s17, s18, s19, s20, s21, s22, s23⟩
              go_simp
              with_reducible rfl
            rotate_left
            · simp only [Act.put, List.setIfInBounds_toArray, List.set_cons_zero, List.set_cons_succ, i64_w, i32_w]
              rfl
            refine pure_ (i := 23) (N := some 30) (v := ?_) (a' := ?_) #[true, true, true, true, true, true, true, true, true, true, true, true, true, true, true, true, true, true, true, true, true, true, true, true, false, false, false, false, false, false, false, false, false] rfl rfl (any_of HT_.out (by kernel_rfl)) (fun _ _ _ h => h) (Or.inl ⟨by rfl, ?_⟩) ?_ ?_
            rotate_left
            · intro w'
              go_simp
              with_reducible rfl
            rotate_left
            · simp only [Act.put, List.setIfInBounds_toArray, List.set_cons_zero, List.set_cons_succ, i64_w, i32_w]
              rfl
            refine pure_ (i := 24) (N := some 31) (v := ?_) (a' := ?_) #[true, true, true, true, true, true, true, true, true, true, true, true, true, true, true, true, true, true, true, true, true, true, true, true, true, false, false, false, false, false, false, false, false] rfl rfl (any_of HT_.out (by kernel_rfl)) (fun _ _ _ h => h) (Or.inl ⟨by rfl, ?_⟩) ?_ ?_
            rotate_left
            · intro w'
              go_simp
              with_reducible rfl
            rotate_left
            · simp only [Act.put, List.setIfInBounds_toArray, List.set_cons_zero, List.set_cons_succ, i64_w, i32_w]
              rfl
            refine pure_ (i := 25) (N := some 32) (v := undef) (a' := ?_) #[true, true, true, true, true, true, true, true, true, true, true, true, true, true, true, true, true, true, true, true, true, true, true, true, true, true, false, false, false, false, false, false, false] rfl rfl (any_of HT_.out (by kernel_rfl)) (fun _ _ _ h => h) (Or.inr ⟨by rfl, rfl⟩) ?_ ?_
            rotate_left
            · simp only [Act.put, List.setIfInBounds_toArray, List.set_cons_zero, List.set_cons_succ, i64_w, i32_w]
              rfl
            refine pure_ (i := 26) (N := some 33) (v := undef) (a' := ?_) #[true, true, true, true, true, true, true, true, true, true, true, true, true, true, true, true, true, true, true, true, true, true, true, true, true, true, true, false, false, false, false, false, false] rfl rfl (any_of HT_.out (by kernel_rfl)) (fun _ _ _ h => h) (Or.inr ⟨by rfl, rfl⟩) ?_ ?_
            rotate_left
            · simp only [Act.put, List.setIfInBounds_toArray, List.set_cons_zero, List.set_cons_succ, i64_w, i32_w]
              rfl
            refine pure_ (i := 27) (N := some 34) (v := undef) (a' := ?_) #[true, true, true, true, true, true, true, true, true, true, true, true, true, true, true, true, true, true, true, true, true, true, true, true, true, true, true, true, false, false, false, false, false] rfl rfl (any_of HT_.out (by kernel_rfl)) (fun _ _ _ h => h) (Or.inr ⟨by rfl, rfl⟩) ?_ ?_
            rotate_left
            · simp only [Act.put, List.setIfInBounds_toArray, List.set_cons_zero, List.set_cons_succ, i64_w, i32_w]
              rfl
            refine pure_ (i := 28) (N := some 35) (v := undef) (a' := ?_) #[true, true, true, true, true, true, true, true, true, true, true, true, true, true, true, true, true, true, true, true, true, true, true, true, true, true, true, true, true, false, false, false, false] rfl rfl (any_of HT_.out (by kernel_rfl)) (fun _ _ _ h => h) (Or.inr ⟨by rfl, rfl⟩) ?_ ?_
            rotate_left
            · simp only [Act.put, List.setIfInBounds_toArray, List.set_cons_zero, List.set_cons_succ, i64_w, i32_w]
              rfl
            refine pure_ (i := 29) (N := some 36) (v := undef) (a' := ?_) #[true, true, true, true, true, true, true, true, true, true, true, true, true, true, true, true, true, true, true, true, true, true, true, true, true, true, true, true, true, true, false, false, false] rfl rfl (any_of HT_.out (by kernel_rfl)) (fun _ _ _ h => h) (Or.inr ⟨by rfl, rfl⟩) ?_ ?_
            rotate_left
            · simp only [Act.put, List.setIfInBounds_toArray, List.set_cons_zero, List.set_cons_succ, i64_w, i32_w]
              rfl
            refine pure_ (i := 30) (N := some 37) (v := ?_) (a' := ?_) #[true, true, true, true, true, true, true, true, true, true, true, true, true, true, true, true, true, true, true, true, true, true, true, true, true, true, true, true, true, true, true, false, false] rfl rfl (any_of HT_.out (by kernel_rfl)) (fun _ _ _ h => h) (Or.inl ⟨by rfl, ?_⟩) ?_ ?_
            rotate_left
            · intro w'
              go_simp
              with_reducible rfl
            rotate_left
            · simp only [Act.put, List.setIfInBounds_toArray, List.set_cons_zero, List.set_cons_succ, i64_w, i32_w]
              rfl
            refine pure_ (i := 31) (N := some 38) (v := ?_) (a' := ?_) #[true, true, true, true, true, true, true, true, true, true, true, true, true, true, true, true, true, true, true, true, true, true, true, true, true, true, true, true, true, true, true, true, false] rfl rfl (any_of HT_.out (by kernel_rfl)) (fun _ _ _ h => h) (Or.inl ⟨by rfl, ?_⟩) ?_ ?_
            rotate_left
            · intro w'
              go_simp
              with_reducible rfl
            rotate_left
            · simp only [Act.put, List.setIfInBounds_toArray, List.set_cons_zero, List.set_cons_succ, i64_w, i32_w]
              rfl
            refine pure_ (i := 32) (N := some 39) (v := ?_) (a' := ?_) #[true, true, true, true, true, true, true, true, true, true, true, true, true, true, true, true, true, true, true, true, true, true, true, true, true, true, true, true, true, true, true, true, true] rfl rfl (any_of HT_.out (by kernel_rfl)) (fun _ _ _ h => h) (Or.inl ⟨by rfl, ?_⟩) ?_ ?_
            rotate_left
            · intro w'
              go_simp
              with_reducible rfl
            rotate_left
            · simp only [Act.put, List.setIfInBounds_toArray, List.set_cons_zero, List.set_cons_succ, i64_w, i32_w]
              rfl
            refine done_ (done_of HT_.out (by kernel_rfl)) ?_
            try go_wp2
            go_meet
            case rel => exact ⟨_, (true), (by first | rfl | (simp; done) | (simp [*]; done)), H', ⟨by first | omega | exact Nat.le_refl _⟩, ⟨by (with_reducible repeat (first | refine blk_drewN ?_ _ | refine blk_drew ?_ | refine blk_alloc ?_ _)); exact BK131.out⟩, ⟨by (with_reducible repeat (first | refine blk_drewN ?_ _ | refine blk_drew ?_ | refine blk_alloc ?_ _)); exact BK132.out⟩, ⟨by repeat (first | (with_reducible first | exact HB.out | apply below_alloc | apply pw_below_drewN | apply below_drew1 | refine below_set ?_ GE131.out | refine below_set ?_ GE132.out) | exact HB.out)⟩⟩
        · rw [if_neg c8] at H
          have c8b0 : (a0_0 == 8) = false := beq_eq_false_iff_ne.mpr c8
          have c8b1 : (a0_0 != 8) = true := bne_iff_ne.mpr c8
          have H' := Aside0.mk H
          clear H
          try go_wp2
          have n0_ := Aside0.mk (blk_drew BK131.out)
          have n1_ := Aside0.mk (blk_drew BK132.out)
          have n2_ := Aside0.mk (below_drew1 HB.out)
          clear BK131
          clear BK132
          clear HB
          have BK131 := n0_
          have BK132 := n1_
          have HB := n2_
          clear n0_ n1_ n2_
          refine start_ (n := 33) (S := fun w' => w'.cell? ⟨gb131, 0, none⟩ = some (.int .i64 a0_0) ∧ w'.cell? ⟨gb131, 1, none⟩ = some (.int .i64 a0_1) ∧ w'.cell? ⟨gb131, 2, none⟩ = some (.string a0_2) ∧ w'.cell? ⟨gb131, 3, none⟩ = some (.string a0_3) ∧ w'.cell? ⟨gb131, 4, none⟩ = some (.string a0_4) ∧ w'.cell? ⟨gb131, 5, none⟩ = some (.string a0_5) ∧ w'.cell? ⟨gb131, 6, none⟩ = some (.string a0_6) ∧ w'.cell? ⟨gb131, 7, none⟩ = some (.string a0_7) ∧ w'.cell? ⟨gb131, 8, none⟩ = some (.int .i64 a0_8) ∧ w'.cell? ⟨gb131, 9, none⟩ = some (.int .i64 a0_9) ∧ w'.cell? ⟨gb131, 10, none⟩ = some (.int .i64 a0_10) ∧ w'.cell? ⟨gb131, 11, none⟩ = some (.slice A0_11 l0_11.length c0_11) ∧ w'.cell? ⟨gb132, 0, none⟩ = some (.int .i64 a1_0) ∧ w'.cell? ⟨gb132, 1, none⟩ = some (.int .i64 a1_1) ∧ w'.cell? ⟨gb132, 2, none⟩ = some (.string a1_2) ∧ w'.cell? ⟨gb132, 3, none⟩ = some (.string a1_3) ∧ w'.cell? ⟨gb132, 4, none⟩ = some (.string a1_4) ∧ w'.cell? ⟨gb132, 5, none⟩ = some (.string a1_5) ∧ w'.cell? ⟨gb132, 6, none⟩ = some (.string a1_6) ∧ w'.cell? ⟨gb132, 7, none⟩ = some (.string a1_7) ∧ w'.cell? ⟨gb132, 8, none⟩ = some (.int .i64 a1_8) ∧ w'.cell? ⟨gb132, 9, none⟩ = some (.int .i64 a1_9) ∧ w'.cell? ⟨gb132, 10, none⟩ = some (.int .i64 a1_10) ∧ w'.cell? ⟨gb132, 11, none⟩ = some (.slice A1_11 l1_11.length c1_11)) (ds := []) #[false, false, false, false, false, false, false, false, false, false, false, false, false, false, false, false, false, false, false, false, false, false, false, false, false, false, false, false, false, false, false, false, false] (by kernel_rfl) rfl rfl ⟨(blk_cell BK131.out 0).trans rfl, (blk_cell BK131.out 1).trans rfl, (blk_cell BK131.out 2).trans rfl, (blk_cell BK131.out 3).trans rfl, (blk_cell BK131.out 4).trans rfl, (blk_cell BK131.out 5).trans rfl, (blk_cell BK131.out 6).trans rfl, (blk_cell BK131.out 7).trans rfl, (blk_cell BK131.out 8).trans rfl, (blk_cell BK131.out 9).trans rfl, (blk_cell BK131.out 10).trans rfl, (blk_cell BK131.out 11).trans rfl, (blk_cell BK132.out 0).trans rfl, (blk_cell BK132.out 1).trans rfl, (blk_cell BK132.out 2).trans rfl, (blk_cell BK132.out 3).trans rfl, (blk_cell BK132.out 4).trans rfl, (blk_cell BK132.out 5).trans rfl, (blk_cell BK132.out 6).trans rfl, (blk_cell BK132.out 7).trans rfl, (blk_cell BK132.out 8).trans rfl, (blk_cell BK132.out 9).trans rfl, (blk_cell BK132.out 10).trans rfl, (blk_cell BK132.out 11).trans rfl⟩ (fun hHeld => ?_); refine with_tabW spec_SameTree.tab1 spec_SameTree.bits1 (fun HT_ HW_ => ?_)
          generalize w5.drew = w16 at BK131 BK132 HB hHeld ⊢
          refine pure_ (i := 0) (N := some 7) (v := ?_) (a' := ?_) #[true, false, false, false, false, false, false, false, false, false, false, false, false, false, false, false, false, false, false, false, false, false, false, false, false, false, false, false, false, false, false, false, false] rfl rfl (any_of HT_.out (by kernel_rfl)) (fun _ _ _ h => h) (Or.inl ⟨by rfl, ?_⟩) ?_ ?_
          rotate_left
          · intro w'
            go_simp
            with_reducible rfl
          rotate_left
          · simp only [Act.put, List.setIfInBounds_toArray, List.set_cons_zero, List.set_cons_succ, i64_w, i32_w]
            rfl
          refine pure_ (i := 2) (N := some 9) (v := ?_) (a' := ?_) #[true, false, true, false, false, false, false, false, false, false, false, false, false, false, false, false, false, false, false, false, false, false, false, false, false, false, false, false, false, false, false, false, false] rfl rfl (any_of HT_.out (by kernel_rfl)) (fun _ _ _ h => h) (Or.inl ⟨by rfl, ?_⟩) ?_ ?_
          rotate_left
          · intro w'
            go_simp
            with_reducible rfl
          rotate_left
          · simp only [Act.put, List.setIfInBounds_toArray, List.set_cons_zero, List.set_cons_succ, i64_w, i32_w]
            rfl
          refine take_ (i := 1) (N := some 8) (v := ?_) (a' := ?_) #[true, true, true, false, false, false, false, false, false, false, false, false, false, false, false, false, false, false, false, false, false, false, false, false, false, false, false, false, false, false, false, false, false] rfl rfl (take_ofW HT_.out HW_.out (by kernel_rfl)) (fun _ _ _ h => h) (Or.inl ⟨by rfl, ?_⟩) hHeld ?_ ?_
          rotate_left
          · rintro w' ⟨s0, s1, s2, s3, s4, s5, s6, s7, s8, s9, s10, s11, s12, s13, s14, s15, s16, s17, s18, s19, s20, s21, s22, s23⟩
            go_simp
            with_reducible rfl
          rotate_left
          · simp only [Act.put, List.setIfInBounds_toArray, List.set_cons_zero, List.set_cons_succ, i64_w, i32_w]
            rfl
          refine take_ (i := 3) (N := some 10) (v := ?_) (a' := ?_) #[true, true, true, true, false, false, false, false, false, false, false, false, false, false, false, false, false, false, false, false, false, false, false, false, false, false, false, false, false, false, false, false, false] rfl rfl (take_ofW HT_.out HW_.out (by kernel_rfl)) (fun _ _ _ h => h) (Or.inl ⟨by rfl, ?_⟩) hHeld ?_ ?_
          rotate_left
          · rintro w' ⟨s0, s1, s2, s3, s4, s5, s6, s7, s8, s9, s10, s11, s12, s13, s14, s15, s16, s17, s18, s19, s20, s21, s22, s23⟩
            go_simp
            with_reducible rfl
          rotate_left
          · simp only [Act.put, List.setIfInBounds_toArray, List.set_cons_zero, List.set_cons_succ, i64_w, i32_w]
            rfl
          refine pure_ (i := 4) (N := some 11) (v := ?_) (a' := ?_) #[true, true, true, true, true, false, false, false, false, false, false, false, false, false, false, false, false, false, false, false, false, false, false, false, false, false, false, false, false, false, false, false, false] rfl rfl (any_of HT_.out (by kernel_rfl)) (fun _ _ _ h => h) (Or.inl ⟨by rfl, ?_⟩) ?_ ?_
          rotate_left
          · intro w'
            go_simp
            with_reducible rfl
          rotate_left
          · simp only [Act.put, List.setIfInBounds_toArray, List.set_cons_zero, List.set_cons_succ, i64_w, i32_w]
            rfl
          refine pure_ (i := 5) (N := some 12) (v := ?_) (a' := ?_) #[true, true, true, true, true, true, false, false, false, false, false, false, false, false, false, false, false, false, false, false, false, false, false, false, false, false, false, false, false, false, false, false, false] rfl rfl (any_of HT_.out (by kernel_rfl)) (fun _ _ _ h => h) (Or.inl ⟨by rfl, ?_⟩) ?_ ?_
          rotate_left
          · intro w'
            go_simp
            with_reducible rfl
          rotate_left
          · simp only [Act.put, List.setIfInBounds_toArray, List.set_cons_zero, List.set_cons_succ, i64_w, i32_w]
            rfl
          refine pure_ (i := 6) (N := some 13) (v := ?_) (a' := ?_) #[true, true, true, true, true, true, true, false, false, false, false, false, false, false, false, false, false, false, false, false, false, false, false, false, false, false, false, false, false, false, false, false, false] rfl rfl (any_of HT_.out (by kernel_rfl)) (fun _ _ _ h => h) (Or.inl ⟨by rfl, ?_⟩) ?_ ?_
          rotate_left
          · intro w'
            go_simp
            with_reducible rfl
          rotate_left
          · simp only [Act.put, List.setIfInBounds_toArray, List.set_cons_zero, List.set_cons_succ, i64_w, i32_w]
            rfl
          refine pure_ (i := 9) (N := some 16) (v := ?_) (a' := ?_) #[true, true, true, true, true, true, true, false, false, true, false, false, false, false, false, false, false, false, false, false, false, false, false, false, false, false, false, false, false, false, false, false, false] rfl rfl (any_of HT_.out (by kernel_rfl)) (fun _ _ _ h => h) (Or.inl ⟨by rfl, ?_⟩) ?_ ?_
          rotate_left
          · intro w'
            go_simp
            with_reducible rfl
          rotate_left
          · simp only [Act.put, List.setIfInBounds_toArray, List.set_cons_zero, List.set_cons_succ, i64_w, i32_w]
            rfl
          refine take_ (i := 7) (N := some 14) (v := ?_) (a' := ?_) #[true, true, true, true, true, true, true, true, false, true, false, false, false, false, false, false, false, false, false, false, false, false, false, false, false, false, false, false, false, false, false, false, false] rfl rfl (take_ofW HT_.out HW_.out (by kernel_rfl)) (fun _ _ _ h => h) (Or.inl ⟨by rfl, ?_⟩) hHeld ?_ ?_
          rotate_left
          · rintro w' ⟨s0, s1, s2, s3, s4, s5, s6, s7, s8, s9, s10, s11, s12, s13, s14, s15, s16, s17, s18, s19, s20, s21, s22, s23⟩
            go_simp
            with_reducible rfl
          rotate_left
          · simp only [Act.put, List.setIfInBounds_toArray, List.set_cons_zero, List.set_cons_succ, i64_w, i32_w]
            rfl
          refine pure_ (i := 8) (N := some 15) (v := ?_) (a' := ?_) #[true, true, true, true, true, true, true, true, true, true, false, false, false, false, false, false, false, false, false, false, false, false, false, false, false, false, false, false, false, false, false, false, false] rfl rfl (any_of HT_.out (by kernel_rfl)) (fun _ _ _ h => h) (Or.inl ⟨by rfl, ?_⟩) ?_ ?_
          rotate_left
          · intro w'
            go_simp
            with_reducible rfl
          rotate_left
          · simp only [Act.put, List.setIfInBounds_toArray, List.set_cons_zero, List.set_cons_succ, i64_w, i32_w]
            rfl
          refine take_ (i := 10) (N := some 17) (v := ?_) (a' := ?_) #[true, true, true, true, true, true, true, true, true, true, true, false, false, false, false, false, false, false, false, false, false, false, false, false, false, false, false, false, false, false, false, false, false] rfl rfl (take_ofW HT_.out HW_.out (by kernel_rfl)) (fun _ _ _ h => h) (Or.inl ⟨by rfl, ?_⟩) hHeld ?_ ?_
          rotate_left
          · rintro w' ⟨s0, s1, s2, s3, s4, s5, s6, s7, s8, s9, s10, s11, s12, s13, s14, s15, s16, s17, s18, s19, s20, s21, s22, s23⟩
            go_simp
            with_reducible rfl
          rotate_left
          · simp only [Act.put, List.setIfInBounds_toArray, List.set_cons_zero, List.set_cons_succ, i64_w, i32_w]
            rfl
          refine pure_ (i := 11) (N := some 18) (v := ?_) (a' := ?_) #[true, true, true, true, true, true, true, true, true, true, true, true, false, false, false, false, false, false, false, false, false, false, false, false, false, false, false, false, false, false, false, false, false] rfl rfl (any_of HT_.out (by kernel_rfl)) (fun _ _ _ h => h) (Or.inl ⟨by rfl, ?_⟩) ?_ ?_
          rotate_left
          · intro w'
            go_simp
            with_reducible rfl
          rotate_left
          · simp only [Act.put, List.setIfInBounds_toArray, List.set_cons_zero, List.set_cons_succ, i64_w, i32_w]
            rfl
          refine pure_ (i := 12) (N := some 19) (v := ?_) (a' := ?_) #[true, true, true, true, true, true, true, true, true, true, true, true, true, false, false, false, false, false, false, false, false, false, false, false, false, false, false, false, false, false, false, false, false] rfl rfl (any_of HT_.out (by kernel_rfl)) (fun _ _ _ h => h) (Or.inl ⟨by rfl, ?_⟩) ?_ ?_
          rotate_left
          · intro w'
            go_simp
            with_reducible rfl
          rotate_left
          · simp only [Act.put, List.setIfInBounds_toArray, List.set_cons_zero, List.set_cons_succ, i64_w, i32_w]
            rfl
          refine pure_ (i := 13) (N := some 20) (v := ?_) (a' := ?_) #[true, true, true, true, true, true, true, true, true, true, true, true, true, true, false, false, false, false, false, false, false, false, false, false, false, false, false, false, false, false, false, false, false] rfl rfl (any_of HT_.out (by kernel_rfl)) (fun _ _ _ h => h) (Or.inl ⟨by rfl, ?_⟩) ?_ ?_
          rotate_left
          · intro w'
            go_simp
            with_reducible rfl
          rotate_left
          · simp only [Act.put, List.setIfInBounds_toArray, List.set_cons_zero, List.set_cons_succ, i64_w, i32_w]
            rfl
          refine pure_ (i := 14) (N := some 21) (v := ?_) (a' := ?_) #[true, true, true, true, true, true, true, true, true, true, true, true, true, true, true, false, false, false, false, false, false, false, false, false, false, false, false, false, false, false, false, false, false] rfl rfl (any_of HT_.out (by kernel_rfl)) (fun _ _ _ h => h) (Or.inl ⟨by rfl, ?_⟩) ?_ ?_
          rotate_left
          · intro w'
            go_simp
            with_reducible rfl
          rotate_left
          · simp only [Act.put, List.setIfInBounds_toArray, List.set_cons_zero, List.set_cons_succ, i64_w, i32_w]
            rfl
          refine pure_ (i := 15) (N := some 22) (v := ?_) (a' := ?_) #[true, true, true, true, true, true, true, true, true, true, true, true, true, true, true, true, false, false, false, false, false, false, false, false, false, false, false, false, false, false, false, false, false] rfl rfl (any_of HT_.out (by kernel_rfl)) (fun _ _ _ h => h) (Or.inl ⟨by rfl, ?_⟩) ?_ ?_
          rotate_left
          · intro w'
            go_simp
            with_reducible rfl
          rotate_left
          · simp only [Act.put, List.setIfInBounds_toArray, List.set_cons_zero, List.set_cons_succ, i64_w, i32_w]
            rfl
          refine take_ (i := 16) (N := some 23) (v := ?_) (a' := ?_) #[true, true, true, true, true, true, true, true, true, true, true, true, true, true, true, true, true, false, false, false, false, false, false, false, false, false, false, false, false, false, false, false, false] rfl rfl (take_ofW HT_.out HW_.out (by kernel_rfl)) (fun _ _ _ h => h) (Or.inl ⟨by rfl, ?_⟩) hHeld ?_ ?_
          rotate_left
          · rintro w' ⟨s0, s1, s2, s3, s4, s5, s6, s7, s8, s9, s10, s11, s12, s13, s14, s15, s16, s17, s18, s19, s20, s21, s22, s23⟩
            go_simp
            with_reducible rfl
          rotate_left
          · simp only [Act.put, List.setIfInBounds_toArray, List.set_cons_zero, List.set_cons_succ, i64_w, i32_w]
            rfl
          refine pure_ (i := 17) (N := some 24) (v := ?_) (a' := ?_) #[true, true, true, true, true, true, true, true, true, true, true, true, true, true, true, true, true, true, false, false, false, false, false, false, false, false, false, false, false, false, false, false, false] rfl rfl (any_of HT_.out (by kernel_rfl)) (fun _ _ _ h => h) (Or.inl ⟨by rfl, ?_⟩) ?_ ?_
          rotate_left
          · intro w'
            go_simp
            with_reducible rfl
          rotate_left
          · simp only [Act.put, List.setIfInBounds_toArray, List.set_cons_zero, List.set_cons_succ, i64_w, i32_w]
            rfl
          refine pure_ (i := 18) (N := some 25) (v := ?_) (a' := ?_) #[true, true, true, true, true, true, true, true, true, true, true, true, true, true, true, true, true, true, true, false, false, false, false, false, false, false, false, false, false, false, false, false, false] rfl rfl (any_of HT_.out (by kernel_rfl)) (fun _ _ _ h => h) (Or.inl ⟨by rfl, ?_⟩) ?_ ?_
          rotate_left
          · intro w'
            go_simp
            with_reducible rfl
          rotate_left
          · simp only [Act.put, List.setIfInBounds_toArray, List.set_cons_zero, List.set_cons_succ, i64_w, i32_w]
            rfl
          refine pure_ (i := 19) (N := some 26) (v := undef) (a' := ?_) #[true, true, true, true, true, true, true, true, true, true, true, true, true, true, true, true, true, true, true, true, false, false, false, false, false, false, false, false, false, false, false, false, false] rfl rfl (any_of HT_.out (by kernel_rfl)) (fun _ _ _ h => h) (Or.inr ⟨by rfl, rfl⟩) ?_ ?_
          rotate_left
          · simp only [Act.put, List.setIfInBounds_toArray, List.set_cons_zero, List.set_cons_succ, i64_w, i32_w]
            rfl
          refine pure_ (i := 20) (N := some 27) (v := undef) (a' := ?_) #[true, true, true, true, true, true, true, true, true, true, true, true, true, true, true, true, true, true, true, true, true, false, false, false, false, false, false, false, false, false, false, false, false] rfl rfl (any_of HT_.out (by kernel_rfl)) (fun _ _ _ h => h) (Or.inr ⟨by rfl, rfl⟩) ?_ ?_
          rotate_left
          · simp only [Act.put, List.setIfInBounds_toArray, List.set_cons_zero, List.set_cons_succ, i64_w, i32_w]
            rfl
          refine pure_ (i := 21) (N := some 28) (v := undef) (a' := ?_) #[true, true, true, true, true, true, true, true, true, true, true, true, true, true, true, true, true, true, true, true, true, true, false, false, false, false, false, false, false, false, false, false, false] rfl rfl (any_of HT_.out (by kernel_rfl)) (fun _ _ _ h => h) (Or.inr ⟨by rfl, rfl⟩) ?_ ?_
          rotate_left
          · simp only [Act.put, List.setIfInBounds_toArray, List.set_cons_zero, List.set_cons_succ, i64_w, i32_w]
            rfl
          refine pure_ (i := 22) (N := some 29) (v := undef) (a' := ?_) #[true, true, true, true, true, true, true, true, true, true, true, true, true, true, true, true, true, true, true, true, true, true, true, false, false, false, false, false, false, false, false, false, false] rfl rfl (any_of HT_.out (by kernel_rfl)) (fun _ _ _ h => h) (Or.inr ⟨by rfl, rfl⟩) ?_ ?_
          rotate_left
          · simp only [Act.put, List.setIfInBounds_toArray, List.set_cons_zero, List.set_cons_succ, i64_w, i32_w]
            rfl
          refine pure_ (i := 23) (N := some 30) (v := undef) (a' := ?_) #[true, true, true, true, true, true, true, true, true, true, true, true, true, true, true, true, true, true, true, true, true, true, true, true, false, false, false, false, false, false, false, false, false] rfl rfl (any_of HT_.out (by kernel_rfl)) (fun _ _ _ h => h) (Or.inr ⟨by rfl, rfl⟩) ?_ ?_
          rotate_left
          · simp only [Act.put, List.setIfInBounds_toArray, List.set_cons_zero, List.set_cons_succ, i64_w, i32_w]
            rfl
          refine pure_ (i := 24) (N := some 31) (v := undef) (a' := ?_) #[true, true, true, true, true, true, true, true, true, true, true, true, true, true, true, true, true, true, true, true, true, true, true, true, true, false, false, false, false, false, false, false, false] rfl rfl (any_of HT_.out (by kernel_rfl)) (fun _ _ _ h => h) (Or.inr ⟨by rfl, rfl⟩) ?_ ?_
          rotate_left
          · simp only [Act.put, List.setIfInBounds_toArray, List.set_cons_zero, List.set_cons_succ, i64_w, i32_w]
            rfl
          refine pure_ (i := 25) (N := some 32) (v := undef) (a' := ?_) #[true, true, true, true, true, true, true, true, true, true, true, true, true, true, true, true, true, true, true, true, true, true, true, true, true, true, false, false, false, false, false, false, false] rfl rfl (any_of HT_.out (by kernel_rfl)) (fun _ _ _ h => h) (Or.inr ⟨by rfl, rfl⟩) ?_ ?_
          rotate_left
          · simp only [Act.put, List.setIfInBounds_toArray, List.set_cons_zero, List.set_cons_succ, i64_w, i32_w]
            rfl
          refine pure_ (i := 26) (N := some 33) (v := undef) (a' := ?_) #[true, true, true, true, true, true, true, true, true, true, true, true, true, true, true, true, true, true, true, true, true, true, true, true, true, true, true, false, false, false, false, false, false] rfl rfl (any_of HT_.out (by kernel_rfl)) (fun _ _ _ h => h) (Or.inr ⟨by rfl, rfl⟩) ?_ ?_
          rotate_left
          · simp only [Act.put, List.setIfInBounds_toArray, List.set_cons_zero, List.set_cons_succ, i64_w, i32_w]
            rfl
          refine pure_ (i := 27) (N := some 34) (v := undef) (a' := ?_) #[true, true, true, true, true, true, true, true, true, true, true, true, true, true, true, true, true, true, true, true, true, true, true, true, true, true, true, true, false, false, false, false, false] rfl rfl (any_of HT_.out (by kernel_rfl)) (fun _ _ _ h => h) (Or.inr ⟨by rfl, rfl⟩) ?_ ?_
          rotate_left
          · simp only [Act.put, List.setIfInBounds_toArray, List.set_cons_zero, List.set_cons_succ, i64_w, i32_w]
            rfl
          refine pure_ (i := 28) (N := some 35) (v := undef) (a' := ?_) #[true, true, true, true, true, true, true, true, true, true, true, true, true, true, true, true, true, true, true, true, true, true, true, true, true, true, true, true, true, false, false, false, false] rfl rfl (any_of HT_.out (by kernel_rfl)) (fun _ _ _ h => h) (Or.inr ⟨by rfl, rfl⟩) ?_ ?_
          rotate_left
          · simp only [Act.put, List.setIfInBounds_toArray, List.set_cons_zero, List.set_cons_succ, i64_w, i32_w]
            rfl
          refine pure_ (i := 29) (N := some 36) (v := undef) (a' := ?_) #[true, true, true, true, true, true, true, true, true, true, true, true, true, true, true, true, true, true, true, true, true, true, true, true, true, true, true, true, true, true, false, false, false] rfl rfl (any_of HT_.out (by kernel_rfl)) (fun _ _ _ h => h) (Or.inr ⟨by rfl, rfl⟩) ?_ ?_
          rotate_left
          · simp only [Act.put, List.setIfInBounds_toArray, List.set_cons_zero, List.set_cons_succ, i64_w, i32_w]
            rfl
          refine pure_ (i := 30) (N := some 37) (v := undef) (a' := ?_) #[true, true, true, true, true, true, true, true, true, true, true, true, true, true, true, true, true, true, true, true, true, true, true, true, true, true, true, true, true, true, true, false, false] rfl rfl (any_of HT_.out (by kernel_rfl)) (fun _ _ _ h => h) (Or.inr ⟨by rfl, rfl⟩) ?_ ?_
          rotate_left
          · simp only [Act.put, List.setIfInBounds_toArray, List.set_cons_zero, List.set_cons_succ, i64_w, i32_w]
            rfl
          refine pure_ (i := 31) (N := some 38) (v := ?_) (a' := ?_) #[true, true, true, true, true, true, true, true, true, true, true, true, true, true, true, true, true, true, true, true, true, true, true, true, true, true, true, true, true, true, true, true, false] rfl rfl (any_of HT_.out (by kernel_rfl)) (fun _ _ _ h => h) (Or.inl ⟨by rfl, ?_⟩) ?_ ?_
          rotate_left
          · intro w'
            go_simp
            with_reducible rfl
          rotate_left
          · simp only [Act.put, List.setIfInBounds_toArray, List.set_cons_zero, List.set_cons_succ, i64_w, i32_w]
            rfl
          refine pure_ (i := 32) (N := some 39) (v := ?_) (a' := ?_) #[true, true, true, true, true, true, true, true, true, true, true, true, true, true, true, true, true, true, true, true, true, true, true, true, true, true, true, true, true, true, true, true, true] rfl rfl (any_of HT_.out (by kernel_rfl)) (fun _ _ _ h => h) (Or.inl ⟨by rfl, ?_⟩) ?_ ?_
          rotate_left
          · intro w'
            go_simp
            with_reducible rfl
          rotate_left
          · simp only [Act.put, List.setIfInBounds_toArray, List.set_cons_zero, List.set_cons_succ, i64_w, i32_w]
            rfl
          refine done_ (done_of HT_.out (by kernel_rfl)) ?_
          try go_wp2
          go_meet
          case rel => exact ⟨_, (false), (by first | rfl | (simp; done) | (simp [*]; done)), H', ⟨by first | omega | exact Nat.le_refl _⟩, ⟨by (with_reducible repeat (first | refine blk_drewN ?_ _ | refine blk_drew ?_ | refine blk_alloc ?_ _)); exact BK131.out⟩, ⟨by (with_reducible repeat (first | refine blk_drewN ?_ _ | refine blk_drew ?_ | refine blk_alloc ?_ _)); exact BK132.out⟩, ⟨by repeat (first | (with_reducible first | exact HB.out | apply below_alloc | apply pw_below_drewN | apply below_drew1 | refine below_set ?_ GE131.out | refine below_set ?_ GE132.out) | exact HB.out)⟩⟩
      · rw [if_neg c7] at H
        have c7b0 : ((l0_11.length : Int) == (l1_11.length : Int)) = false := beq_eq_false_iff_ne.mpr c7
        have c7b1 : ((l0_11.length : Int) != (l1_11.length : Int)) = true := bne_iff_ne.mpr c7
        have c7b2 : (l0_11.length == l1_11.length) = false := by first | simpa using c7 | (simp at c7 ⊢; omega)
        have H' := Aside0.mk H
        clear H
        try go_wp2
        have n0_ := Aside0.mk (blk_drew BK131.out)
        have n1_ := Aside0.mk (blk_drew BK132.out)
        have n2_ := Aside0.mk (below_drew1 HB.out)
        clear BK131
        clear BK132
        clear HB
        have BK131 := n0_
        have BK132 := n1_
        have HB := n2_
        clear n0_ n1_ n2_
        refine start_ (n := 33) (S := fun w' => w'.cell? ⟨gb131, 0, none⟩ = some (.int .i64 a0_0) ∧ w'.cell? ⟨gb131, 1, none⟩ = some (.int .i64 a0_1) ∧ w'.cell? ⟨gb131, 2, none⟩ = some (.string a0_2) ∧ w'.cell? ⟨gb131, 3, none⟩ = some (.string a0_3) ∧ w'.cell? ⟨gb131, 4, none⟩ = some (.string a0_4) ∧ w'.cell? ⟨gb131, 5, none⟩ = some (.string a0_5) ∧ w'.cell? ⟨gb131, 6, none⟩ = some (.string a0_6) ∧ w'.cell? ⟨gb131, 7, none⟩ = some (.string a0_7) ∧ w'.cell? ⟨gb131, 8, none⟩ = some (.int .i64 a0_8) ∧ w'.cell? ⟨gb131, 9, none⟩ = some (.int .i64 a0_9) ∧ w'.cell? ⟨gb131, 10, none⟩ = some (.int .i64 a0_10) ∧ w'.cell? ⟨gb131, 11, none⟩ = some (.slice A0_11 l0_11.length c0_11) ∧ w'.cell? ⟨gb132, 0, none⟩ = some (.int .i64 a1_0) ∧ w'.cell? ⟨gb132, 1, none⟩ = some (.int .i64 a1_1) ∧ w'.cell? ⟨gb132, 2, none⟩ = some (.string a1_2) ∧ w'.cell? ⟨gb132, 3, none⟩ = some (.string a1_3) ∧ w'.cell? ⟨gb132, 4, none⟩ = some (.string a1_4) ∧ w'.cell? ⟨gb132, 5, none⟩ = some (.string a1_5) ∧ w'.cell? ⟨gb132, 6, none⟩ = some (.string a1_6) ∧ w'.cell? ⟨gb132, 7, none⟩ = some (.string a1_7) ∧ w'.cell? ⟨gb132, 8, none⟩ = some (.int .i64 a1_8) ∧ w'.cell? ⟨gb132, 9, none⟩ = some (.int .i64 a1_9) ∧ w'.cell? ⟨gb132, 10, none⟩ = some (.int .i64 a1_10) ∧ w'.cell? ⟨gb132, 11, none⟩ = some (.slice A1_11 l1_11.length c1_11)) (ds := []) #[false, false, false, false, false, false, false, false, false, false, false, false, false, false, false, false, false, false, false, false, false, false, false, false, false, false, false, false, false, false, false, false, false] (by kernel_rfl) rfl rfl ⟨(blk_cell BK131.out 0).trans rfl, (blk_cell BK131.out 1).trans rfl, (blk_cell BK131.out 2).trans rfl, (blk_cell BK131.out 3).trans rfl, (blk_cell BK131.out 4).trans rfl, (blk_cell BK131.out 5).trans rfl, (blk_cell BK131.out 6).trans rfl, (blk_cell BK131.out 7).trans rfl, (blk_cell BK131.out 8).trans rfl, (blk_cell BK131.out 9).trans rfl, (blk_cell BK131.out 10).trans rfl, (blk_cell BK131.out 11).trans rfl, (blk_cell BK132.out 0).trans rfl, (blk_cell BK132.out 1).trans rfl, (blk_cell BK132.out 2).trans rfl, (blk_cell BK132.out 3).trans rfl, (blk_cell BK132.out 4).trans rfl, (blk_cell BK132.out 5).trans rfl, (blk_cell BK132.out 6).trans rfl, (blk_cell BK132.out 7).trans rfl, (blk_cell BK132.out 8).trans rfl, (blk_cell BK132.out 9).trans rfl, (blk_cell BK132.out 10).trans rfl, (blk_cell BK132.out 11).trans rfl⟩ (fun hHeld => ?_); refine with_tabW spec_SameTree.tab1 spec_SameTree.bits1 (fun HT_ HW_ => ?_)
        generalize w5.drew = w17 at BK131 BK132 HB hHeld ⊢
        refine pure_ (i := 0) (N := some 7) (v := ?_) (a' := ?_) #[true, false, false, false, false, false, false, false, false, false, false, false, false, false, false, false, false, false, false, false, false, false, false, false, false, false, false, false, false, false, false, false, false] rfl rfl (any_of HT_.out (by kernel_rfl)) (fun _ _ _ h => h) (Or.inl ⟨by rfl, ?_⟩) ?_ ?_
        rotate_left
        · intro w'
          go_simp
          with_reducible rfl
        rotate_left
        · simp only [Act.put, List.setIfInBounds_toArray, List.set_cons_zero, List.set_cons_succ, i64_w, i32_w]
          rfl
        refine pure_ (i := 2) (N := some 9) (v := ?_) (a' := ?_) #[true, false, true, false, false, false, false, false, false, false, false, false, false, false, false, false, false, false, false, false, false, false, false, false, false, false, false, false, false, false, false, false, false] rfl rfl (any_of HT_.out (by kernel_rfl)) (fun _ _ _ h => h) (Or.inl ⟨by rfl, ?_⟩) ?_ ?_
        rotate_left
        · intro w'
          go_simp
          with_reducible rfl
        rotate_left
        · simp only [Act.put, List.setIfInBounds_toArray, List.set_cons_zero, List.set_cons_succ, i64_w, i32_w]
          rfl
        refine take_ (i := 1) (N := some 8) (v := ?_) (a' := ?_) #[true, true, true, false, false, false, false, false, false, false, false, false, false, false, false, false, false, false, false, false, false, false, false, false, false, false, false, false, false, false, false, false, false] rfl rfl (take_ofW HT_.out HW_.out (by kernel_rfl)) (fun _ _ _ h => h) (Or.inl ⟨by rfl, ?_⟩) hHeld ?_ ?_
        rotate_left
        · rintro w' ⟨s0, s1, s2, s3, s4, s5, s6, s7, s8, s9, s10, s11, s12, s13, s14, s15, s16, s17, s18, s19, s20, s21, s22, s23⟩
          go_simp
          with_reducible rfl
        rotate_left
        · simp only [Act.put, List.setIfInBounds_toArray, List.set_cons_zero, List.set_cons_succ, i64_w, i32_w]
          rfl
        refine take_ (i := 3) (N := some 10) (v := ?_) (a' := ?_) #[true, true, true, true, false, false, false, false, false, false, false, false, false, false, false, false, false, false, false, false, false, false, false, false, false, false, false, false, false, false, false, false, false] rfl rfl (take_ofW HT_.out HW_.out (by kernel_rfl)) (fun _ _ _ h => h) (Or.inl ⟨by rfl, ?_⟩) hHeld ?_ ?_
        rotate_left
        · rintro w' ⟨s0, s1, s2, s3, s4, s5, s6, s7, s8, s9, s10, s11, s12, s13, s14, s15, s16, s17, s18, s19, s20, s21, s22, s23⟩
          go_simp
          with_reducible rfl
        rotate_left
        · simp only [Act.put, List.setIfInBounds_toArray, List.set_cons_zero, List.set_cons_succ, i64_w, i32_w]
          rfl
        refine pure_ (i := 4) (N := some 11) (v := ?_) (a' := ?_) #[true, true, true, true, true, false, false, false, false, false, false, false, false, false, false, false, false, false, false, false, false, false, false, false, false, false, false, false, false, false, false, false, false] rfl rfl (any_of HT_.out (by kernel_rfl)) (fun _ _ _ h => h) (Or.inl ⟨by rfl, ?_⟩) ?_ ?_
        rotate_left
        · intro w'
          go_simp
          with_reducible rfl
        rotate_left
        · simp only [Act.put, List.setIfInBounds_toArray, List.set_cons_zero, List.set_cons_succ, i64_w, i32_w]
          rfl
        refine pure_ (i := 5) (N := some 12) (v := ?_) (a' := ?_) #[true, true, true, true, true, true, false, false, false, false, false, false, false, false, false, false, false, false, false, false, false, false, false, false, false, false, false, false, false, false, false, false, false] rfl rfl (any_of HT_.out (by kernel_rfl)) (fun _ _ _ h => h) (Or.inl ⟨by rfl, ?_⟩) ?_ ?_
        rotate_left
        · intro w'
          go_simp
          with_reducible rfl
        rotate_left
        · simp only [Act.put, List.setIfInBounds_toArray, List.set_cons_zero, List.set_cons_succ, i64_w, i32_w]
          rfl
        refine pure_ (i := 6) (N := some 13) (v := ?_) (a' := ?_) #[true, true, true, true, true, true, true, false, false, false, false, false, false, false, false, false, false, false, false, false, false, false, false, false, false, false, false, false, false, false, false, false, false] rfl rfl (any_of HT_.out (by kernel_rfl)) (fun _ _ _ h => h) (Or.inl ⟨by rfl, ?_⟩) ?_ ?_
        rotate_left
        · intro w'
          go_simp
          with_reducible rfl
        rotate_left
        · simp only [Act.put, List.setIfInBounds_toArray, List.set_cons_zero, List.set_cons_succ, i64_w, i32_w]
          rfl
        refine pure_ (i := 9) (N := some 16) (v := ?_) (a' := ?_) #[true, true, true, true, true, true, true, false, false, true, false, false, false, false, false, false, false, false, false, false, false, false, false, false, false, false, false, false, false, false, false, false, false] rfl rfl (any_of HT_.out (by kernel_rfl)) (fun _ _ _ h => h) (Or.inl ⟨by rfl, ?_⟩) ?_ ?_
        rotate_left
        · intro w'
          go_simp
          with_reducible rfl
        rotate_left
        · simp only [Act.put, List.setIfInBounds_toArray, List.set_cons_zero, List.set_cons_succ, i64_w, i32_w]
          rfl
        refine take_ (i := 7) (N := some 14) (v := ?_) (a' := ?_) #[true, true, true, true, true, true, true, true, false, true, false, false, false, false, false, false, false, false, false, false, false, false, false, false, false, false, false, false, false, false, false, false, false] rfl rfl (take_ofW HT_.out HW_.out (by kernel_rfl)) (fun _ _ _ h => h) (Or.inl ⟨by rfl, ?_⟩) hHeld ?_ ?_
        rotate_left
        · rintro w' ⟨s0, s1, s2, s3, s4, s5, s6, s7, s8, s9, s10, s11, s12, s13, s14, s15, s16, s17, s18, s19, s20, s21, s22, s23⟩
          go_simp
          with_reducible rfl
        rotate_left
        · simp only [Act.put, List.setIfInBounds_toArray, List.set_cons_zero, List.set_cons_succ, i64_w, i32_w]
          rfl
        refine pure_ (i := 8) (N := some 15) (v := ?_) (a' := ?_) #[true, true, true, true, true, true, true, true, true, true, false, false, false, false, false, false, false, false, false, false, false, false, false, false, false, false, false, false, false, false, false, false, false] rfl rfl (any_of HT_.out (by kernel_rfl)) (fun _ _ _ h => h) (Or.inl ⟨by rfl, ?_⟩) ?_ ?_
        rotate_left
        · intro w'
          go_simp
          with_reducible rfl
        rotate_left
        · simp only [Act.put, List.setIfInBounds_toArray, List.set_cons_zero, List.set_cons_succ, i64_w, i32_w]
          rfl
        refine take_ (i := 10) (N := some 17) (v := ?_) (a' := ?_) #[true, true, true, true, true, true, true, true, true, true, true, false, false, false, false, false, false, false, false, false, false, false, false, false, false, false, false, false, false, false, false, false, false] rfl rfl (take_ofW HT_.out HW_.out (by kernel_rfl)) (fun _ _ _ h => h) (Or.inl ⟨by rfl, ?_⟩) hHeld ?_ ?_
        rotate_left
        · rintro w' ⟨s0, s1, s2, s3, s4, s5, s6, s7, s8, s9, s10, s11, s12, s13, s14, s15, s16, s17, s18, s19, s20, s21, s22, s23⟩
          go_simp
          with_reducible rfl
        rotate_left
        · simp only [Act.put, List.setIfInBounds_toArray, List.set_cons_zero, List.set_cons_succ, i64_w, i32_w]
          rfl
        refine pure_ (i := 11) (N := some 18) (v := ?_) (a' := ?_) #[true, true, true, true, true, true, true, true, true, true, true, true, false, false, false, false, false, false, false, false, false, false, false, false, false, false, false, false, false, false, false, false, false] rfl rfl (any_of HT_.out (by kernel_rfl)) (fun _ _ _ h => h) (Or.inl ⟨by rfl, ?_⟩) ?_ ?_
        rotate_left
        · intro w'
          go_simp
          with_reducible rfl
        rotate_left
        · simp only [Act.put, List.setIfInBounds_toArray, List.set_cons_zero, List.set_cons_succ, i64_w, i32_w]
          rfl
        refine pure_ (i := 12) (N := some 19) (v := ?_) (a' := ?_) #[true, true, true, true, true, true, true, true, true, true, true, true, true, false, false, false, false, false, false, false, false, false, false, false, false, false, false, false, false, false, false, false, false] rfl rfl (any_of HT_.out (by kernel_rfl)) (fun _ _ _ h => h) (Or.inl ⟨by rfl, ?_⟩) ?_ ?_
        rotate_left
        · intro w'
          go_simp
          with_reducible rfl
        rotate_left
        · simp only [Act.put, List.setIfInBounds_toArray, List.set_cons_zero, List.set_cons_succ, i64_w, i32_w]
          rfl
        refine pure_ (i := 13) (N := some 20) (v := ?_) (a' := ?_) #[true, true, true, true, true, true, true, true, true, true, true, true, true, true, false, false, false, false, false, false, false, false, false, false, false, false, false, false, false, false, false, false, false] rfl rfl (any_of HT_.out (by kernel_rfl)) (fun _ _ _ h => h) (Or.inl ⟨by rfl, ?_⟩) ?_ ?_
        rotate_left
        · intro w'
          go_simp
          with_reducible rfl
        rotate_left
        · simp only [Act.put, List.setIfInBounds_toArray, List.set_cons_zero, List.set_cons_succ, i64_w, i32_w]
          rfl
        refine pure_ (i := 14) (N := some 21) (v := ?_) (a' := ?_) #[true, true, true, true, true, true, true, true, true, true, true, true, true, true, true, false, false, false, false, false, false, false, false, false, false, false, false, false, false, false, false, false, false] rfl rfl (any_of HT_.out (by kernel_rfl)) (fun _ _ _ h => h) (Or.inl ⟨by rfl, ?_⟩) ?_ ?_
        rotate_left
        · intro w'
          go_simp
          with_reducible rfl
        rotate_left
        · simp only [Act.put, List.setIfInBounds_toArray, List.set_cons_zero, List.set_cons_succ, i64_w, i32_w]
          rfl
        refine pure_ (i := 15) (N := some 22) (v := undef) (a' := ?_) #[true, true, true, true, true, true, true, true, true, true, true, true, true, true, true, true, false, false, false, false, false, false, false, false, false, false, false, false, false, false, false, false, false] rfl rfl (any_of HT_.out (by kernel_rfl)) (fun _ _ _ h => h) (Or.inr ⟨by rfl, rfl⟩) ?_ ?_
        rotate_left
        · simp only [Act.put, List.setIfInBounds_toArray, List.set_cons_zero, List.set_cons_succ, i64_w, i32_w]
          rfl
        refine pure_ (i := 16) (N := some 23) (v := undef) (a' := ?_) #[true, true, true, true, true, true, true, true, true, true, true, true, true, true, true, true, true, false, false, false, false, false, false, false, false, false, false, false, false, false, false, false, false] rfl rfl (any_of HT_.out (by kernel_rfl)) (fun _ _ _ h => h) (Or.inr ⟨by rfl, rfl⟩) ?_ ?_
        rotate_left
        · simp only [Act.put, List.setIfInBounds_toArray, List.set_cons_zero, List.set_cons_succ, i64_w, i32_w]
          rfl
        refine pure_ (i := 17) (N := some 24) (v := undef) (a' := ?_) #[true, true, true, true, true, true, true, true, true, true, true, true, true, true, true, true, true, true, false, false, false, false, false, false, false, false, false, false, false, false, false, false, false] rfl rfl (any_of HT_.out (by kernel_rfl)) (fun _ _ _ h => h) (Or.inr ⟨by rfl, rfl⟩) ?_ ?_
        rotate_left
        · simp only [Act.put, List.setIfInBounds_toArray, List.set_cons_zero, List.set_cons_succ, i64_w, i32_w]
          rfl
        refine pure_ (i := 18) (N := some 25) (v := undef) (a' := ?_) #[true, true, true, true, true, true, true, true, true, true, true, true, true, true, true, true, true, true, true, false, false, false, false, false, false, false, false, false, false, false, false, false, false] rfl rfl (any_of HT_.out (by kernel_rfl)) (fun _ _ _ h => h) (Or.inr ⟨by rfl, rfl⟩) ?_ ?_
        rotate_left
        · simp only [Act.put, List.setIfInBounds_toArray, List.set_cons_zero, List.set_cons_succ, i64_w, i32_w]
          rfl
        refine pure_ (i := 19) (N := some 26) (v := undef) (a' := ?_) #[true, true, true, true, true, true, true, true, true, true, true, true, true, true, true, true, true, true, true, true, false, false, false, false, false, false, false, false, false, false, false, false, false] rfl rfl (any_of HT_.out (by kernel_rfl)) (fun _ _ _ h => h) (Or.inr ⟨by rfl, rfl⟩) ?_ ?_
        rotate_left
        · simp only [Act.put, List.setIfInBounds_toArray, List.set_cons_zero, List.set_cons_succ, i64_w, i32_w]
          rfl
        refine pure_ (i := 20) (N := some 27) (v := undef) (a' := ?_) #[true, true, true, true, true, true, true, true, true, true, true, true, true, true, true, true, true, true, true, true, true, false, false, false, false, false, false, false, false, false, false, false, false] rfl rfl (any_of HT_.out (by kernel_rfl)) (fun _ _ _ h => h) (Or.inr ⟨by rfl, rfl⟩) ?_ ?_
        rotate_left
        · simp only [Act.put, List.setIfInBounds_toArray, List.set_cons_zero, List.set_cons_succ, i64_w, i32_w]
          rfl
        refine pure_ (i := 21) (N := some 28) (v := undef) (a' := ?_) #[true, true, true, true, true, true, true, true, true, true, true, true, true, true, true, true, true, true, true, true, true, true, false, false, false, false, false, false, false, false, false, false, false] rfl rfl (any_of HT_.out (by kernel_rfl)) (fun _ _ _ h => h) (Or.inr ⟨by rfl, rfl⟩) ?_ ?_
        rotate_left
        · simp only [Act.put, List.setIfInBounds_toArray, List.set_cons_zero, List.set_cons_succ, i64_w, i32_w]
          rfl
        refine pure_ (i := 22) (N := some 29) (v := undef) (a' := ?_) #[true, true, true, true, true, true, true, true, true, true, true, true, true, true, true, true, true, true, true, true, true, true, true, false, false, false, false, false, false, false, false, false, false] rfl rfl (any_of HT_.out (by kernel_rfl)) (fun _ _ _ h => h) (Or.inr ⟨by rfl, rfl⟩) ?_ ?_
        rotate_left
        · simp only [Act.put, List.setIfInBounds_toArray, List.set_cons_zero, List.set_cons_succ, i64_w, i32_w]
          rfl
        refine pure_ (i := 23) (N := some 30) (v := undef) (a' := ?_) #[true, true, true, true, true, true, true, true, true, true, true, true, true, true, true, true, true, true, true, true, true, true, true, true, false, false, false, false, false, false, false, false, false] rfl rfl (any_of HT_.out (by kernel_rfl)) (fun _ _ _ h => h) (Or.inr ⟨by rfl, rfl⟩) ?_ ?_
        rotate_left
        · simp only [Act.put, List.setIfInBounds_toArray, List.set_cons_zero, List.set_cons_succ, i64_w, i32_w]
          rfl
        refine pure_ (i := 24) (N := some 31) (v := undef) (a' := ?_) #[true, true, true, true, true, true, true, true, true, true, true, true, true, true, true, true, true, true, true, true, true, true, true, true, true, false, false, false, false, false, false, false, false] rfl rfl (any_of HT_.out (by kernel_rfl)) (fun _ _ _ h => h) (Or.inr ⟨by rfl, rfl⟩) ?_ ?_
        rotate_left
        · simp only [Act.put, List.setIfInBounds_toArray, List.set_cons_zero, List.set_cons_succ, i64_w, i32_w]
          rfl
        refine pure_ (i := 25) (N := some 32) (v := undef) (a' := ?_) #[true, true, true, true, true, true, true, true, true, true, true, true, true, true, true, true, true, true, true, true, true, true, true, true, true, true, false, false, false, false, false, false, false] rfl rfl (any_of HT_.out (by kernel_rfl)) (fun _ _ _ h => h) (Or.inr ⟨by rfl, rfl⟩) ?_ ?_
        rotate_left
        · simp only [Act.put, List.setIfInBounds_toArray, List.set_cons_zero, List.set_cons_succ, i64_w, i32_w]
          rfl
        refine pure_ (i := 26) (N := some 33) (v := undef) (a' := ?_) #[true, true, true, true, true, true, true, true, true, true, true, true, true, true, true, true, true, true, true, true, true, true, true, true, true, true, true, false, false, false, false, false, false] rfl rfl (any_of HT_.out (by kernel_rfl)) (fun _ _ _ h => h) (Or.inr ⟨by rfl, rfl⟩) ?_ ?_
        rotate_left
        · simp only [Act.put, List.setIfInBounds_toArray, List.set_cons_zero, List.set_cons_succ, i64_w, i32_w]
          rfl
        refine pure_ (i := 27) (N := some 34) (v := undef) (a' := ?_) #[true, true, true, true, true, true, true, true, true, true, true, true, true, true, true, true, true, true, true, true, true, true, true, true, true, true, true, true, false, false, false, false, false] rfl rfl (any_of HT_.out (by kernel_rfl)) (fun _ _ _ h => h) (Or.inr ⟨by rfl, rfl⟩) ?_ ?_
        rotate_left
        · simp only [Act.put, List.setIfInBounds_toArray, List.set_cons_zero, List.set_cons_succ, i64_w, i32_w]
          rfl
        refine pure_ (i := 28) (N := some 35) (v := undef) (a' := ?_) #[true, true, true, true, true, true, true, true, true, true, true, true, true, true, true, true, true, true, true, true, true, true, true, true, true, true, true, true, true, false, false, false, false] rfl rfl (any_of HT_.out (by kernel_rfl)) (fun _ _ _ h => h) (Or.inr ⟨by rfl, rfl⟩) ?_ ?_
        rotate_left
        · simp only [Act.put, List.setIfInBounds_toArray, List.set_cons_zero, List.set_cons_succ, i64_w, i32_w]
          rfl
        refine pure_ (i := 29) (N := some 36) (v := undef) (a' := ?_) #[true, true, true, true, true, true, true, true, true, true, true, true, true, true, true, true, true, true, true, true, true, true, true, true, true, true, true, true, true, true, false, false, false] rfl rfl (any_of HT_.out (by kernel_rfl)) (fun _ _ _ h => h) (Or.inr ⟨by rfl, rfl⟩) ?_ ?_
        rotate_left
        · simp only [Act.put, List.setIfInBounds_toArray, List.set_cons_zero, List.set_cons_succ, i64_w, i32_w]
          rfl
        refine pure_ (i := 30) (N := some 37) (v := undef) (a' := ?_) #[true, true, true, true, true, true, true, true, true, true, true, true, true, true, true, true, true, true, true, true, true, true, true, true, true, true, true, true, true, true, true, false, false] rfl rfl (any_of HT_.out (by kernel_rfl)) (fun _ _ _ h => h) (Or.inr ⟨by rfl, rfl⟩) ?_ ?_
        rotate_left
        · simp only [Act.put, List.setIfInBounds_toArray, List.set_cons_zero, List.set_cons_succ, i64_w, i32_w]
          rfl
        refine pure_ (i := 31) (N := some 38) (v := undef) (a' := ?_) #[true, true, true, true, true, true, true, true, true, true, true, true, true, true, true, true, true, true, true, true, true, true, true, true, true, true, true, true, true, true, true, true, false] rfl rfl (any_of HT_.out (by kernel_rfl)) (fun _ _ _ h => h) (Or.inr ⟨by rfl, rfl⟩) ?_ ?_
        rotate_left
        · simp only [Act.put, List.setIfInBounds_toArray, List.set_cons_zero, List.set_cons_succ, i64_w, i32_w]
          rfl
        refine pure_ (i := 32) (N := some 39) (v := ?_) (a' := ?_) #[true, true, true, true, true, true, true, true, true, true, true, true, true, true, true, true, true, true, true, true, true, true, true, true, true, true, true, true, true, true, true, true, true] rfl rfl (any_of HT_.out (by kernel_rfl)) (fun _ _ _ h => h) (Or.inl ⟨by rfl, ?_⟩) ?_ ?_
        rotate_left
        · intro w'
          go_simp
          with_reducible rfl
        rotate_left
        · simp only [Act.put, List.setIfInBounds_toArray, List.set_cons_zero, List.set_cons_succ, i64_w, i32_w]
          rfl
        refine done_ (done_of HT_.out (by kernel_rfl)) ?_
        try go_wp2
        go_meet
        case rel => exact ⟨_, (true), (by first | rfl | (simp; done) | (simp [*]; done)), H', ⟨by first | omega | exact Nat.le_refl _⟩, ⟨by (with_reducible repeat (first | refine blk_drewN ?_ _ | refine blk_drew ?_ | refine blk_alloc ?_ _)); exact BK131.out⟩, ⟨by (with_reducible repeat (first | refine blk_drewN ?_ _ | refine blk_drew ?_ | refine blk_alloc ?_ _)); exact BK132.out⟩, ⟨by repeat (first | (with_reducible first | exact HB.out | apply below_alloc | apply pw_below_drewN | apply below_drew1 | refine below_set ?_ GE131.out | refine below_set ?_ GE132.out) | exact HB.out)⟩⟩
    · rw [if_neg c6] at H
      have c6b0 : (a0_0 == a1_0) = false := beq_eq_false_iff_ne.mpr c6
      have c6b1 : (a0_0 != a1_0) = true := bne_iff_ne.mpr c6
      (first | rw [c6b0] | (simp only [i64_w, i32_w]; rw [c6b0]) | skip)
      have H' := Aside0.mk H
      clear H
      try go_wp2
      have n0_ := Aside0.mk (blk_drew BK131.out)
      have n1_ := Aside0.mk (blk_drew BK132.out)
      have n2_ := Aside0.mk (below_drew1 HB.out)
      clear BK131
      clear BK132
      clear HB
      have BK131 := n0_
      have BK132 := n1_
      have HB := n2_
      clear n0_ n1_ n2_
      refine start_ (n := 33) (S := fun w' => w'.cell? ⟨gb131, 0, none⟩ = some (.int .i64 a0_0) ∧ w'.cell? ⟨gb131, 1, none⟩ = some (.int .i64 a0_1) ∧ w'.cell? ⟨gb131, 2, none⟩ = some (.string a0_2) ∧ w'.cell? ⟨gb131, 3, none⟩ = some (.string a0_3) ∧ w'.cell? ⟨gb131, 4, none⟩ = some (.string a0_4) ∧ w'.cell? ⟨gb131, 5, none⟩ = some (.string a0_5) ∧ w'.cell? ⟨gb131, 6, none⟩ = some (.string a0_6) ∧ w'.cell? ⟨gb131, 7, none⟩ = some (.string a0_7) ∧ w'.cell? ⟨gb131, 8, none⟩ = some (.int .i64 a0_8) ∧ w'.cell? ⟨gb131, 9, none⟩ = some (.int .i64 a0_9) ∧ w'.cell? ⟨gb131, 10, none⟩ = some (.int .i64 a0_10) ∧ w'.cell? ⟨gb131, 11, none⟩ = some (.slice A0_11 l0_11.length c0_11) ∧ w'.cell? ⟨gb132, 0, none⟩ = some (.int .i64 a1_0) ∧ w'.cell? ⟨gb132, 1, none⟩ = some (.int .i64 a1_1) ∧ w'.cell? ⟨gb132, 2, none⟩ = some (.string a1_2) ∧ w'.cell? ⟨gb132, 3, none⟩ = some (.string a1_3) ∧ w'.cell? ⟨gb132, 4, none⟩ = some (.string a1_4) ∧ w'.cell? ⟨gb132, 5, none⟩ = some (.string a1_5) ∧ w'.cell? ⟨gb132, 6, none⟩ = some (.string a1_6) ∧ w'.cell? ⟨gb132, 7, none⟩ = some (.string a1_7) ∧ w'.cell? ⟨gb132, 8, none⟩ = some (.int .i64 a1_8) ∧ w'.cell? ⟨gb132, 9, none⟩ = some (.int .i64 a1_9) ∧ w'.cell? ⟨gb132, 10, none⟩ = some (.int .i64 a1_10) ∧ w'.cell? ⟨gb132, 11, none⟩ = some (.slice A1_11 l1_11.length c1_11)) (ds := []) #[false, false, false, false, false, false, false, false, false, false, false, false, false, false, false, false, false, false, false, false, false, false, false, false, false, false, false, false, false, false, false, false, false] (by kernel_rfl) rfl rfl ⟨(blk_cell BK131.out 0).trans rfl, (blk_cell BK131.out 1).trans rfl, (blk_cell BK131.out 2).trans rfl, (blk_cell BK131.out 3).trans rfl, (blk_cell BK131.out 4).trans rfl, (blk_cell BK131.out 5).trans rfl, (blk_cell BK131.out 6).trans rfl, (blk_cell BK131.out 7).trans rfl, (blk_cell BK131.out 8).trans rfl, (blk_cell BK131.out 9).trans rfl, (blk_cell BK131.out 10).trans rfl, (blk_cell BK131.out 11).trans rfl, (blk_cell BK132.out 0).trans rfl, (blk_cell BK132.out 1).trans rfl, (blk_cell BK132.out 2).trans rfl, (blk_cell BK132.out 3).trans rfl, (blk_cell BK132.out 4).trans rfl, (blk_cell BK132.out 5).trans rfl, (blk_cell BK132.out 6).trans rfl, (blk_cell BK132.out 7).trans rfl, (blk_cell BK132.out 8).trans rfl, (blk_cell BK132.out 9).trans rfl, (blk_cell BK132.out 10).trans rfl, (blk_cell BK132.out 11).trans rfl⟩ (fun hHeld => ?_); refine with_tabW spec_SameTree.tab1 spec_SameTree.bits1 (fun HT_ HW_ => ?_)
      generalize w5.drew = w18 at BK131 BK132 HB hHeld ⊢
      refine pure_ (i := 0) (N := some 7) (v := ?_) (a' := ?_) #[true, false, false, false, false, false, false, false, false, false, false, false, false, false, false, false, false, false, false, false, false, false, false, false, false, false, false, false, false, false, false, false, false] rfl rfl (any_of HT_.out (by kernel_rfl)) (fun _ _ _ h => h) (Or.inl ⟨by rfl, ?_⟩) ?_ ?_
      rotate_left
      · intro w'
        go_simp
        with_reducible rfl
      rotate_left
      · simp only [Act.put, List.setIfInBounds_toArray, List.set_cons_zero, List.set_cons_succ, i64_w, i32_w]
        rfl
      refine pure_ (i := 2) (N := some 9) (v := ?_) (a' := ?_) #[true, false, true, false, false, false, false, false, false, false, false, false, false, false, false, false, false, false, false, false, false, false, false, false, false, false, false, false, false, false, false, false, false] rfl rfl (any_of HT_.out (by kernel_rfl)) (fun _ _ _ h => h) (Or.inl ⟨by rfl, ?_⟩) ?_ ?_
      rotate_left
      · intro w'
        go_simp
        with_reducible rfl
      rotate_left
      · simp only [Act.put, List.setIfInBounds_toArray, List.set_cons_zero, List.set_cons_succ, i64_w, i32_w]
        rfl
      refine take_ (i := 1) (N := some 8) (v := ?_) (a' := ?_) #[true, true, true, false, false, false, false, false, false, false, false, false, false, false, false, false, false, false, false, false, false, false, false, false, false, false, false, false, false, false, false, false, false] rfl rfl (take_ofW HT_.out HW_.out (by kernel_rfl)) (fun _ _ _ h => h) (Or.inl ⟨by rfl, ?_⟩) hHeld ?_ ?_
      rotate_left
      · rintro w' ⟨s0, s1, s2, s3, s4, s5, s6, s7, s8, s9, s10, s11, s12, s13, s14, s15, s16, s17, s18, s19, s20, s21, s22, s23⟩
        go_simp
        with_reducible rfl
      rotate_left
      · simp only [Act.put, List.setIfInBounds_toArray, List.set_cons_zero, List.set_cons_succ, i64_w, i32_w]
        rfl
      refine take_ (i := 3) (N := some 10) (v := ?_) (a' := ?_) #[true, true, true, true, false, false, false, false, false, false, false, false, false, false, false, false, false, false, false, false, false, false, false, false, false, false, false, false, false, false, false, false, false] rfl rfl (take_ofW HT_.out HW_.out (by kernel_rfl)) (fun _ _ _ h => h) (Or.inl ⟨by rfl, ?_⟩) hHeld ?_ ?_
      rotate_left
      · rintro w' ⟨s0, s1, s2, s3, s4, s5, s6, s7, s8, s9, s10, s11, s12, s13, s14, s15, s16, s17, s18, s19, s20, s21, s22, s23⟩
        go_simp
        with_reducible rfl
      rotate_left
      · simp only [Act.put, List.setIfInBounds_toArray, List.set_cons_zero, List.set_cons_succ, i64_w, i32_w]
        rfl
      refine pure_ (i := 4) (N := some 11) (v := ?_) (a' := ?_) #[true, true, true, true, true, false, false, false, false, false, false, false, false, false, false, false, false, false, false, false, false, false, false, false, false, false, false, false, false, false, false, false, false] rfl rfl (any_of HT_.out (by kernel_rfl)) (fun _ _ _ h => h) (Or.inl ⟨by rfl, ?_⟩) ?_ ?_
      rotate_left
      · intro w'
        go_simp
        with_reducible rfl
      rotate_left
      · simp only [Act.put, List.setIfInBounds_toArray, List.set_cons_zero, List.set_cons_succ, i64_w, i32_w]
        rfl
      refine pure_ (i := 5) (N := some 12) (v := ?_) (a' := ?_) #[true, true, true, true, true, true, false, false, false, false, false, false, false, false, false, false, false, false, false, false, false, false, false, false, false, false, false, false, false, false, false, false, false] rfl rfl (any_of HT_.out (by kernel_rfl)) (fun _ _ _ h => h) (Or.inl ⟨by rfl, ?_⟩) ?_ ?_
      rotate_left
      · intro w'
        go_simp
        with_reducible rfl
      rotate_left
      · simp only [Act.put, List.setIfInBounds_toArray, List.set_cons_zero, List.set_cons_succ, i64_w, i32_w]
        rfl
      refine pure_ (i := 6) (N := some 13) (v := undef) (a' := ?_) #[true, true, true, true, true, true, true, false, false, false, false, false, false, false, false, false, false, false, false, false, false, false, false, false, false, false, false, false, false, false, false, false, false] rfl rfl (any_of HT_.out (by kernel_rfl)) (fun _ _ _ h => h) (Or.inr ⟨by rfl, rfl⟩) ?_ ?_
      rotate_left
      · simp only [Act.put, List.setIfInBounds_toArray, List.set_cons_zero, List.set_cons_succ, i64_w, i32_w]
        rfl
      refine pure_ (i := 7) (N := some 14) (v := undef) (a' := ?_) #[true, true, true, true, true, true, true, true, false, false, false, false, false, false, false, false, false, false, false, false, false, false, false, false, false, false, false, false, false, false, false, false, false] rfl rfl (any_of HT_.out (by kernel_rfl)) (fun _ _ _ h => h) (Or.inr ⟨by rfl, rfl⟩) ?_ ?_
      rotate_left
      · simp only [Act.put, List.setIfInBounds_toArray, List.set_cons_zero, List.set_cons_succ, i64_w, i32_w]
        rfl
      refine pure_ (i := 8) (N := some 15) (v := undef) (a' := ?_) #[true, true, true, true, true, true, true, true, true, false, false, false, false, false, false, false, false, false, false, false, false, false, false, false, false, false, false, false, false, false, false, false, false] rfl rfl (any_of HT_.out (by kernel_rfl)) (fun _ _ _ h => h) (Or.inr ⟨by rfl, rfl⟩) ?_ ?_
      rotate_left
      · simp only [Act.put, List.setIfInBounds_toArray, List.set_cons_zero, List.set_cons_succ, i64_w, i32_w]
        rfl
      refine pure_ (i := 9) (N := some 16) (v := undef) (a' := ?_) #[true, true, true, true, true, true, true, true, true, true, false, false, false, false, false, false, false, false, false, false, false, false, false, false, false, false, false, false, false, false, false, false, false] rfl rfl (any_of HT_.out (by kernel_rfl)) (fun _ _ _ h => h) (Or.inr ⟨by rfl, rfl⟩) ?_ ?_
      rotate_left
      · simp only [Act.put, List.setIfInBounds_toArray, List.set_cons_zero, List.set_cons_succ, i64_w, i32_w]
        rfl
      refine pure_ (i := 10) (N := some 17) (v := undef) (a' := ?_) #[true, true, true, true, true, true, true, true, true, true, true, false, false, false, false, false, false, false, false, false, false, false, false, false, false, false, false, false, false, false, false, false, false] rfl rfl (any_of HT_.out (by kernel_rfl)) (fun _ _ _ h => h) (Or.inr ⟨by rfl, rfl⟩) ?_ ?_
      rotate_left
      · simp only [Act.put, List.setIfInBounds_toArray, List.set_cons_zero, List.set_cons_succ, i64_w, i32_w]
        rfl
      refine pure_ (i := 11) (N := some 18) (v := undef) (a' := ?_) #[true, true, true, true, true, true, true, true, true, true, true, true, false, false, false, false, false, false, false, false, false, false, false, false, false, false, false, false, false, false, false, false, false] rfl rfl (any_of HT_.out (by kernel_rfl)) (fun _ _ _ h => h) (Or.inr ⟨by rfl, rfl⟩) ?_ ?_
      rotate_left
      · simp only [Act.put, List.setIfInBounds_toArray, List.set_cons_zero, List.set_cons_succ, i64_w, i32_w]
        rfl
      refine pure_ (i := 12) (N := some 19) (v := undef) (a' := ?_) #[true, true, true, true, true, true, true, true, true, true, true, true, true, false, false, false, false, false, false, false, false, false, false, false, false, false, false, false, false, false, false, false, false] rfl rfl (any_of HT_.out (by kernel_rfl)) (fun _ _ _ h => h) (Or.inr ⟨by rfl, rfl⟩) ?_ ?_
      rotate_left
      · simp only [Act.put, List.setIfInBounds_toArray, List.set_cons_zero, List.set_cons_succ, i64_w, i32_w]
        rfl
      refine pure_ (i := 13) (N := some 20) (v := ?_) (a' := ?_) #[true, true, true, true, true, true, true, true, true, true, true, true, true, true, false, false, false, false, false, false, false, false, false, false, false, false, false, false, false, false, false, false, false] rfl rfl (any_of HT_.out (by kernel_rfl)) (fun _ _ _ h => h) (Or.inl ⟨by rfl, ?_⟩) ?_ ?_
      rotate_left
      · intro w'
        go_simp
        with_reducible rfl
      rotate_left
      · simp only [Act.put, List.setIfInBounds_toArray, List.set_cons_zero, List.set_cons_succ, i64_w, i32_w]
        rfl
      refine pure_ (i := 14) (N := some 21) (v := ?_) (a' := ?_) #[true, true, true, true, true, true, true, true, true, true, true, true, true, true, true, false, false, false, false, false, false, false, false, false, false, false, false, false, false, false, false, false, false] rfl rfl (any_of HT_.out (by kernel_rfl)) (fun _ _ _ h => h) (Or.inl ⟨by rfl, ?_⟩) ?_ ?_
      rotate_left
      · intro w'
        go_simp
        with_reducible rfl
      rotate_left
      · simp only [Act.put, List.setIfInBounds_toArray, List.set_cons_zero, List.set_cons_succ, i64_w, i32_w]
        rfl
      refine pure_ (i := 15) (N := some 22) (v := undef) (a' := ?_) #[true, true, true, true, true, true, true, true, true, true, true, true, true, true, true, true, false, false, false, false, false, false, false, false, false, false, false, false, false, false, false, false, false] rfl rfl (any_of HT_.out (by kernel_rfl)) (fun _ _ _ h => h) (Or.inr ⟨by rfl, rfl⟩) ?_ ?_
      rotate_left
      · simp only [Act.put, List.setIfInBounds_toArray, List.set_cons_zero, List.set_cons_succ, i64_w, i32_w]
        rfl
      refine pure_ (i := 16) (N := some 23) (v := undef) (a' := ?_) #[true, true, true, true, true, true, true, true, true, true, true, true, true, true, true, true, true, false, false, false, false, false, false, false, false, false, false, false, false, false, false, false, false] rfl rfl (any_of HT_.out (by kernel_rfl)) (fun _ _ _ h => h) (Or.inr ⟨by rfl, rfl⟩) ?_ ?_
      rotate_left
      · simp only [Act.put, List.setIfInBounds_toArray, List.set_cons_zero, List.set_cons_succ, i64_w, i32_w]
        rfl
      refine pure_ (i := 17) (N := some 24) (v := undef) (a' := ?_) #[true, true, true, true, true, true, true, true, true, true, true, true, true, true, true, true, true, true, false, false, false, false, false, false, false, false, false, false, false, false, false, false, false] rfl rfl (any_of HT_.out (by kernel_rfl)) (fun _ _ _ h => h) (Or.inr ⟨by rfl, rfl⟩) ?_ ?_
      rotate_left
      · simp only [Act.put, List.setIfInBounds_toArray, List.set_cons_zero, List.set_cons_succ, i64_w, i32_w]
        rfl
      refine pure_ (i := 18) (N := some 25) (v := undef) (a' := ?_) #[true, true, true, true, true, true, true, true, true, true, true, true, true, true, true, true, true, true, true, false, false, false, false, false, false, false, false, false, false, false, false, false, false] rfl rfl (any_of HT_.out (by kernel_rfl)) (fun _ _ _ h => h) (Or.inr ⟨by rfl, rfl⟩) ?_ ?_
      rotate_left
      · simp only [Act.put, List.setIfInBounds_toArray, List.set_cons_zero, List.set_cons_succ, i64_w, i32_w]
        rfl
      refine pure_ (i := 19) (N := some 26) (v := undef) (a' := ?_) #[true, true, true, true, true, true, true, true, true, true, true, true, true, true, true, true, true, true, true, true, false, false, false, false, false, false, false, false, false, false, false, false, false] rfl rfl (any_of HT_.out (by kernel_rfl)) (fun _ _ _ h => h) (Or.inr ⟨by rfl, rfl⟩) ?_ ?_
      rotate_left
      · simp only [Act.put, List.setIfInBounds_toArray, List.set_cons_zero, List.set_cons_succ, i64_w, i32_w]
        rfl
      refine pure_ (i := 20) (N := some 27) (v := undef) (a' := ?_) #[true, true, true, true, true, true, true, true, true, true, true, true, true, true, true, true, true, true, true, true, true, false, false, false, false, false, false, false, false, false, false, false, false] rfl rfl (any_of HT_.out (by kernel_rfl)) (fun _ _ _ h => h) (Or.inr ⟨by rfl, rfl⟩) ?_ ?_
      rotate_left
      · simp only [Act.put, List.setIfInBounds_toArray, List.set_cons_zero, List.set_cons_succ, i64_w, i32_w]
        rfl
      refine pure_ (i := 21) (N := some 28) (v := undef) (a' := ?_) #[true, true, true, true, true, true, true, true, true, true, true, true, true, true, true, true, true, true, true, true, true, true, false, false, false, false, false, false, false, false, false, false, false] rfl rfl (any_of HT_.out (by kernel_rfl)) (fun _ _ _ h => h) (Or.inr ⟨by rfl, rfl⟩) ?_ ?_
      rotate_left
      · simp only [Act.put, List.setIfInBounds_toArray, List.set_cons_zero, List.set_cons_succ, i64_w, i32_w]
        rfl
      refine pure_ (i := 22) (N := some 29) (v := undef) (a' := ?_) #[true, true, true, true, true, true, true, true, true, true, true, true, true, true, true, true, true, true, true, true, true, true, true, false, false, false, false, false, false, false, false, false, false] rfl rfl (any_of HT_.out (by kernel_rfl)) (fun _ _ _ h => h) (Or.inr ⟨by rfl, rfl⟩) ?_ ?_
      rotate_left
      · simp only [Act.put, List.setIfInBounds_toArray, List.set_cons_zero, List.set_cons_succ, i64_w, i32_w]
        rfl
      refine pure_ (i := 23) (N := some 30) (v := undef) (a' := ?_) #[true, true, true, true, true, true, true, true, true, true, true, true, true, true, true, true, true, true, true, true, true, true, true, true, false, false, false, false, false, false, false, false, false] rfl rfl (any_of HT_.out (by kernel_rfl)) (fun _ _ _ h => h) (Or.inr ⟨by rfl, rfl⟩) ?_ ?_
      rotate_left
      · simp only [Act.put, List.setIfInBounds_toArray, List.set_cons_zero, List.set_cons_succ, i64_w, i32_w]
        rfl
      refine pure_ (i := 24) (N := some 31) (v := undef) (a' := ?_) #[true, true, true, true, true, true, true, true, true, true, true, true, true, true, true, true, true, true, true, true, true, true, true, true, true, false, false, false, false, false, false, false, false] rfl rfl (any_of HT_.out (by kernel_rfl)) (fun _ _ _ h => h) (Or.inr ⟨by rfl, rfl⟩) ?_ ?_
      rotate_left
      · simp only [Act.put, List.setIfInBounds_toArray, List.set_cons_zero, List.set_cons_succ, i64_w, i32_w]
        rfl
      refine pure_ (i := 25) (N := some 32) (v := undef) (a' := ?_) #[true, true, true, true, true, true, true, true, true, true, true, true, true, true, true, true, true, true, true, true, true, true, true, true, true, true, false, false, false, false, false, false, false] rfl rfl (any_of HT_.out (by kernel_rfl)) (fun _ _ _ h => h) (Or.inr ⟨by rfl, rfl⟩) ?_ ?_
      rotate_left
      · simp only [Act.put, List.setIfInBounds_toArray, List.set_cons_zero, List.set_cons_succ, i64_w, i32_w]
        rfl
      refine pure_ (i := 26) (N := some 33) (v := undef) (a' := ?_) #[true, true, true, true, true, true, true, true, true, true, true, true, true, true, true, true, true, true, true, true, true, true, true, true, true, true, true, false, false, false, false, false, false] rfl rfl (any_of HT_.out (by kernel_rfl)) (fun _ _ _ h => h) (Or.inr ⟨by rfl, rfl⟩) ?_ ?_
      rotate_left
      · simp only [Act.put, List.setIfInBounds_toArray, List.set_cons_zero, List.set_cons_succ, i64_w, i32_w]
        rfl
      refine pure_ (i := 27) (N := some 34) (v := undef) (a' := ?_) #[true, true, true, true, true, true, true, true, true, true, true, true, true, true, true, true, true, true, true, true, true, true, true, true, true, true, true, true, false, false, false, false, false] rfl rfl (any_of HT_.out (by kernel_rfl)) (fun _ _ _ h => h) (Or.inr ⟨by rfl, rfl⟩) ?_ ?_
      rotate_left
      · simp only [Act.put, List.setIfInBounds_toArray, List.set_cons_zero, List.set_cons_succ, i64_w, i32_w]
        rfl
      refine pure_ (i := 28) (N := some 35) (v := undef) (a' := ?_) #[true, true, true, true, true, true, true, true, true, true, true, true, true, true, true, true, true, true, true, true, true, true, true, true, true, true, true, true, true, false, false, false, false] rfl rfl (any_of HT_.out (by kernel_rfl)) (fun _ _ _ h => h) (Or.inr ⟨by rfl, rfl⟩) ?_ ?_
      rotate_left
      · simp only [Act.put, List.setIfInBounds_toArray, List.set_cons_zero, List.set_cons_succ, i64_w, i32_w]
        rfl
      refine pure_ (i := 29) (N := some 36) (v := undef) (a' := ?_) #[true, true, true, true, true, true, true, true, true, true, true, true, true, true, true, true, true, true, true, true, true, true, true, true, true, true, true, true, true, true, false, false, false] rfl rfl (any_of HT_.out (by kernel_rfl)) (fun _ _ _ h => h) (Or.inr ⟨by rfl, rfl⟩) ?_ ?_
      rotate_left
      · simp only [Act.put, List.setIfInBounds_toArray, List.set_cons_zero, List.set_cons_succ, i64_w, i32_w]
        rfl
      refine pure_ (i := 30) (N := some 37) (v := undef) (a' := ?_) #[true, true, true, true, true, true, true, true, true, true, true, true, true, true, true, true, true, true, true, true, true, true, true, true, true, true, true, true, true, true, true, false, false] rfl rfl (any_of HT_.out (by kernel_rfl)) (fun _ _ _ h => h) (Or.inr ⟨by rfl, rfl⟩) ?_ ?_
      rotate_left
      · simp only [Act.put, List.setIfInBounds_toArray, List.set_cons_zero, List.set_cons_succ, i64_w, i32_w]
        rfl
      refine pure_ (i := 31) (N := some 38) (v := undef) (a' := ?_) #[true, true, true, true, true, true, true, true, true, true, true, true, true, true, true, true, true, true, true, true, true, true, true, true, true, true, true, true, true, true, true, true, false] rfl rfl (any_of HT_.out (by kernel_rfl)) (fun _ _ _ h => h) (Or.inr ⟨by rfl, rfl⟩) ?_ ?_
      rotate_left
      · simp only [Act.put, List.setIfInBounds_toArray, List.set_cons_zero, List.set_cons_succ, i64_w, i32_w]
        rfl
      refine pure_ (i := 32) (N := some 39) (v := ?_) (a' := ?_) #[true, true, true, true, true, true, true, true, true, true, true, true, true, true, true, true, true, true, true, true, true, true, true, true, true, true, true, true, true, true, true, true, true] rfl rfl (any_of HT_.out (by kernel_rfl)) (fun _ _ _ h => h) (Or.inl ⟨by rfl, ?_⟩) ?_ ?_
      rotate_left
      · intro w'
        go_simp
        with_reducible rfl
      rotate_left
      · simp only [Act.put, List.setIfInBounds_toArray, List.set_cons_zero, List.set_cons_succ, i64_w, i32_w]
        rfl
      refine done_ (done_of HT_.out (by kernel_rfl)) ?_
      try go_wp2
      go_meet
      case rel => exact ⟨_, (true), (by first | rfl | (simp; done) | (simp [*]; done)), H', ⟨by first | omega | exact Nat.le_refl _⟩, ⟨by (with_reducible repeat (first | refine blk_drewN ?_ _ | refine blk_drew ?_ | refine blk_alloc ?_ _)); exact BK131.out⟩, ⟨by (with_reducible repeat (first | refine blk_drewN ?_ _ | refine blk_drew ?_ | refine blk_alloc ?_ _)); exact BK132.out⟩, ⟨by repeat (first | (with_reducible first | exact HB.out | apply below_alloc | apply pw_below_drewN | apply below_drew1 | refine below_set ?_ GE131.out | refine below_set ?_ GE132.out) | exact HB.out)⟩⟩
  case rest =>
    clear HC3
    try clear c1
    try clear p2
    try clear c6
    try clear c6b0
    try clear c6b1
    try clear c7
    try clear c7b0
    try clear c7b1
    try clear c7b2
    obtain ⟨kq, x39_2, rfl, HA, HJ2, BK131, BK132, HB⟩ := hcut
    cases kq with
    | zero => exact absurd HA.out (by simp [spec_SameTree.j0])
    | succ kj2 =>
      have H := HA.out
      clear HA
      simp only [spec_SameTree.j0] at H
      by_cases c19 : x39_2 = true
      · subst c19
        have H1 : (some false) = some r := by rw [if_pos rfl] at H; exact H
        clear H
        have H := H1
        clear H1
        obtain rfl := Option.some.inj H
        go_wp2
        go_ret
        exact ⟨by first | rfl | (simp [errW_none, errW_some] <;> rfl) | (simp [*, errW_none, errW_some] <;> rfl), by repeat (first | (with_reducible first | exact HB.out | apply below_alloc | apply pw_below_drewN | apply below_drew1 | refine below_set ?_ GE131.out | refine below_set ?_ GE132.out) | exact HB.out)⟩
      · replace c19 := Bool.eq_false_iff.mpr c19
        subst c19
        have H1 : (spec_SameTree.l0 kj2 l0_11 (l0_11.length : Int) 0 a1_0 a1_1 a1_2 a1_3 a1_4 a1_5 a1_6 a1_7 a1_8 a1_9 a1_10 l1_11) = some r := by rw [if_neg (show ¬ (false = true) by decide)] at H; exact H
        clear H
        have H := H1
        clear H1
        have H' := Aside0.mk H
        clear H
        have hnb20 := NB131_132.out
        have hnc20 := NB132_131.out
        have hcz21_0 : wc.cell? ⟨gb131, 0, none⟩ = some (.int .i64 a0_0) := (blk_cell BK131.out 0).trans rfl
        have hcz21_1 : wc.cell? ⟨gb131, 1, none⟩ = some (.int .i64 a0_1) := (blk_cell BK131.out 1).trans rfl
        have hcz21_2 : wc.cell? ⟨gb131, 2, none⟩ = some (.string a0_2) := (blk_cell BK131.out 2).trans rfl
        have hcz21_3 : wc.cell? ⟨gb131, 3, none⟩ = some (.string a0_3) := (blk_cell BK131.out 3).trans rfl
        have hcz21_4 : wc.cell? ⟨gb131, 4, none⟩ = some (.string a0_4) := (blk_cell BK131.out 4).trans rfl
        have hcz21_5 : wc.cell? ⟨gb131, 5, none⟩ = some (.string a0_5) := (blk_cell BK131.out 5).trans rfl
        have hcz21_6 : wc.cell? ⟨gb131, 6, none⟩ = some (.string a0_6) := (blk_cell BK131.out 6).trans rfl
        have hcz21_7 : wc.cell? ⟨gb131, 7, none⟩ = some (.string a0_7) := (blk_cell BK131.out 7).trans rfl
        have hcz21_8 : wc.cell? ⟨gb131, 8, none⟩ = some (.int .i64 a0_8) := (blk_cell BK131.out 8).trans rfl
        have hcz21_9 : wc.cell? ⟨gb131, 9, none⟩ = some (.int .i64 a0_9) := (blk_cell BK131.out 9).trans rfl
        have hcz21_10 : wc.cell? ⟨gb131, 10, none⟩ = some (.int .i64 a0_10) := (blk_cell BK131.out 10).trans rfl
        have hcz21_11 : wc.cell? ⟨gb131, 11, none⟩ = some (.slice A0_11 l0_11.length c0_11) := (blk_cell BK131.out 11).trans rfl
        have hfz21_0 := blk_frozen BK131.out 0
        have hfz21_1 := blk_frozen BK131.out 1
        have hfz21_2 := blk_frozen BK131.out 2
        have hfz21_3 := blk_frozen BK131.out 3
        have hfz21_4 := blk_frozen BK131.out 4
        have hfz21_5 := blk_frozen BK131.out 5
        have hfz21_6 := blk_frozen BK131.out 6
        have hfz21_7 := blk_frozen BK131.out 7
        have hfz21_8 := blk_frozen BK131.out 8
        have hfz21_9 := blk_frozen BK131.out 9
        have hfz21_10 := blk_frozen BK131.out 10
        have hfz21_11 := blk_frozen BK131.out 11
        go_wp2
        go_loopg [43] kj2 (fun kq v43 w' => ∃ (x43_2 : Int), v43 = .int .i64 x43_2 ∧ Aside0 (spec_SameTree.l0 kq l0_11 (l0_11.length : Int) x43_2 a1_0 a1_1 a1_2 a1_3 a1_4 a1_5 a1_6 a1_7 a1_8 a1_9 a1_10 l1_11 = some r) ∧ Aside0 (kq ≤ kj2) ∧ Aside0 (w'.heap[gb131]? = some (.cells #[.int .i64 a0_0, .int .i64 a0_1, .string a0_2, .string a0_3, .string a0_4, .string a0_5, .string a0_6, .string a0_7, .int .i64 a0_8, .int .i64 a0_9, .int .i64 a0_10, (.slice A0_11 l0_11.length c0_11)] 25 (0, 0))) ∧ Aside0 (w'.heap[gb132]? = some (.cells #[.int .i64 a1_0, .int .i64 a1_1, .string a1_2, .string a1_3, .string a1_4, .string a1_5, .string a1_6, .string a1_7, .int .i64 a1_8, .int .i64 a1_9, .int .i64 a1_10, (.slice A1_11 l1_11.length c1_11)] 25 (0, 0))) ∧ Aside0 (Below w.heap.size w w'))
        case atStart => exact ⟨(0), (by first | rfl | (simp; done) | (simp [*]; done)), H', ⟨Nat.le_refl _⟩, ⟨by (with_reducible repeat (first | refine blk_drewN ?_ _ | refine blk_drew ?_ | refine blk_alloc ?_ _)); exact BK131.out⟩, ⟨by (with_reducible repeat (first | refine blk_drewN ?_ _ | refine blk_drew ?_ | refine blk_alloc ?_ _)); exact BK132.out⟩, ⟨by repeat (first | (with_reducible first | exact HB.out | apply below_alloc | apply pw_below_drewN | apply below_drew1 | refine below_set ?_ GE131.out | refine below_set ?_ GE132.out) | exact HB.out)⟩⟩
        case round =>
          clear H'
          try clear c1
          try clear c2
          try clear p2
          try clear c6
          try clear c6b0
          try clear c6b1
          try clear c7
          try clear c7b0
          try clear c7b1
          try clear c7b2
          try clear c19
          try clear c20
          try clear hcz21_0
          try clear hcz21_1
          try clear hcz21_10
          try clear hcz21_11
          try clear hcz21_2
          try clear hcz21_3
          try clear hcz21_4
          try clear hcz21_5
          try clear hcz21_6
          try clear hcz21_7
          try clear hcz21_8
          try clear hcz21_9
          try clear hfz21_0
          try clear hfz21_1
          try clear hfz21_10
          try clear hfz21_11
          try clear hfz21_2
          try clear hfz21_3
          try clear hfz21_4
          try clear hfz21_5
          try clear hfz21_6
          try clear hfz21_7
          try clear hfz21_8
          try clear hfz21_9
          try clear p2
          obtain ⟨x43_2, rfl, HA, HK2, BK131, BK132, HB⟩ := hrel
          cases gk with
          | zero => exact absurd HA.out (by simp [spec_SameTree.l0])
          | succ k2 =>
            have H := HA.out
            clear HA
            simp only [spec_SameTree.l0] at H
            by_cases c22 : x43_2 < (l0_11.length : Int)
            · rw [if_pos c22] at H
              have c22b0 : decide (x43_2 < (l0_11.length : Int)) = true := decide_eq_true c22
              clear c22
              by_cases c23 : 0 ≤ x43_2
              · rw [if_pos c23] at H
                have c23b0 : decide (0 ≤ x43_2) = true := decide_eq_true c23
                clear c23
                by_cases c24 : x43_2 < (l0_11.length : Int)
                · rw [if_pos c24] at H
                  have c24b0 : decide (x43_2 < (l0_11.length : Int)) = true := decide_eq_true c24
                  clear c24
                  by_cases c25 : x43_2 < (l1_11.length : Int)
                  · rw [if_pos c25] at H
                    have c25b0 : decide (x43_2 < (l1_11.length : Int)) = true := decide_eq_true c25
                    clear c25
                    replace H := Option.bind_eq_some_iff.mp H
                    obtain ⟨t138, A260, H⟩ := H
                    replace H : (if t138 = true then (spec_SameTree.l0 k2 l0_11 (l0_11.length : Int) (wrap64 (x43_2 + 1)) a1_0 a1_1 a1_2 a1_3 a1_4 a1_5 a1_6 a1_7 a1_8 a1_9 a1_10 l1_11) else (some false)) = some r := H
                    have A26 := Aside0.mk A260
                    clear A260
                    by_cases c27 : t138 = true
                    · subst c27
                      have H1 : (spec_SameTree.l0 k2 l0_11 (l0_11.length : Int) (wrap64 (x43_2 + 1)) a1_0 a1_1 a1_2 a1_3 a1_4 a1_5 a1_6 a1_7 a1_8 a1_9 a1_10 l1_11) = some r := by rw [if_pos rfl] at H; exact H
                      clear H
                      have H := H1
                      clear H1
                      have H' := Aside0.mk H
                      clear H
                      have p135 : 0 ≤ (x43_2 : Int) := of_decide_eq_true (by first | (with_reducible assumption) | assumption)
                      have q135 : x43_2 < (l0_11.length : Int) := of_decide_eq_true (by first | (with_reducible assumption) | assumption)
                      obtain ⟨ad135, A135_11, c135_11, e135, hx135_0, hx135_1, hx135_2, hx135_3, hx135_4, hx135_5, hx135_6, hx135_7, hx135_8, hx135_9, hx135_10, hx135_11, hl135_11, hi135_11⟩ := at_T25 HR0_11.out x43_2 p135 q135
                      cases e135
                      replace hx135_0 := (HB.out.cell (World.block_lt_of_cell? w _ hx135_0)).trans hx135_0
                      replace hx135_1 := (HB.out.cell (World.block_lt_of_cell? w _ hx135_1)).trans hx135_1
                      replace hx135_2 := (HB.out.cell (World.block_lt_of_cell? w _ hx135_2)).trans hx135_2
                      replace hx135_3 := (HB.out.cell (World.block_lt_of_cell? w _ hx135_3)).trans hx135_3
                      replace hx135_4 := (HB.out.cell (World.block_lt_of_cell? w _ hx135_4)).trans hx135_4
                      replace hx135_5 := (HB.out.cell (World.block_lt_of_cell? w _ hx135_5)).trans hx135_5
                      replace hx135_6 := (HB.out.cell (World.block_lt_of_cell? w _ hx135_6)).trans hx135_6
                      replace hx135_7 := (HB.out.cell (World.block_lt_of_cell? w _ hx135_7)).trans hx135_7
                      replace hx135_8 := (HB.out.cell (World.block_lt_of_cell? w _ hx135_8)).trans hx135_8
                      replace hx135_9 := (HB.out.cell (World.block_lt_of_cell? w _ hx135_9)).trans hx135_9
                      replace hx135_10 := (HB.out.cell (World.block_lt_of_cell? w _ hx135_10)).trans hx135_10
                      replace hx135_11 := (HB.out.cell (World.block_lt_of_cell? w _ hx135_11)).trans hx135_11
                      have HR135_11 := Aside0.mk hi135_11
                      have HC135_11 := Aside0.mk hl135_11
                      clear hi135_11 hl135_11
                      replace p135 := eq_true p135
                      replace q135 := eq_true q135
                      try go_wp2_with (first | ((with_reducible refine gate_dst (N := 6) rfl ?_); (try (refine gate_guard (by rfl) ?_; dsimp only)); refine box_event ?hg (N := 6) ?hd (cs := #[.int .i64 0, .int .i64 0, .string (⟨#[]⟩ : ByteArray), .string (⟨#[]⟩ : ByteArray), .string (⟨#[]⟩ : ByteArray), .string (⟨#[]⟩ : ByteArray), .string (⟨#[]⟩ : ByteArray), .string (⟨#[]⟩ : ByteArray), .int .i64 0, .int .i64 0, .int .i64 0, .slice none 0 0]) (t := 25) ?hr ?_; (case hd => rfl); (case hg => rfl); (case hr => first | (go_simp; done) | (go_simp; rfl)); intro gb136 hg w28 hbox hb; have n0_ := Aside0.mk (blk_below (g := gb131) (o := .cells #[.int .i64 a0_0, .int .i64 a0_1, .string a0_2, .string a0_3, .string a0_4, .string a0_5, .string a0_6, .string a0_7, .int .i64 a0_8, .int .i64 a0_9, .int .i64 a0_10, .slice (some ad135) l0_11.length c0_11] 25 (0, 0)) (by (with_reducible repeat (first | refine blk_drewN ?_ _ | refine blk_drew ?_ | refine blk_alloc ?_ _)); exact BK131.out) hb); have n1_ := Aside0.mk (blk_below (g := gb132) (o := .cells #[.int .i64 a1_0, .int .i64 a1_1, .string a1_2, .string a1_3, .string a1_4, .string a1_5, .string a1_6, .string a1_7, .int .i64 a1_8, .int .i64 a1_9, .int .i64 a1_10, .slice A1_11 l1_11.length c1_11] 25 (0, 0)) (by (with_reducible repeat (first | refine blk_drewN ?_ _ | refine blk_drew ?_ | refine blk_alloc ?_ _)); exact BK132.out) hb); have n2_ := Aside0.mk (below_step (by repeat (first | (with_reducible first | exact HB.out | apply below_alloc | apply pw_below_drewN | apply below_drew1 | refine below_set ?_ GE131.out | refine below_set ?_ GE132.out) | exact HB.out)) hb); have n3_ := Aside0.mk (hbox); have n4_ := Aside0.mk ((by rw [hg]; exact (below_size (by repeat (first | (with_reducible first | exact HB.out | apply below_alloc | apply pw_below_drewN | apply below_drew1 | refine below_set ?_ GE131.out | refine below_set ?_ GE132.out) | exact HB.out))) : w.heap.size ≤ gb136)); have n5_ := Aside0.mk ((by rw [hg]; exact (below_size (by repeat (first | (with_reducible first | exact HB.out | apply below_alloc | apply pw_below_drewN | apply below_drew1 | refine below_set ?_ GE131.out | refine below_set ?_ GE132.out) | exact HB.out))) : w.heap.size ≤ gb136)); have n6_ := Aside0.mk ((by rw [hg]; exact Nat.ne_of_lt (blk_lt (g := gb131) (o := .cells #[.int .i64 a0_0, .int .i64 a0_1, .string a0_2, .string a0_3, .string a0_4, .string a0_5, .string a0_6, .string a0_7, .int .i64 a0_8, .int .i64 a0_9, .int .i64 a0_10, .slice (some ad135) l0_11.length c0_11] 25 (0, 0)) (by (with_reducible repeat (first | refine blk_drewN ?_ _ | refine blk_drew ?_ | refine blk_alloc ?_ _)); exact BK131.out)) : gb131 ≠ gb136)); have n7_ := Aside0.mk ((by rw [hg]; exact Nat.ne_of_gt (blk_lt (g := gb131) (o := .cells #[.int .i64 a0_0, .int .i64 a0_1, .string a0_2, .string a0_3, .string a0_4, .string a0_5, .string a0_6, .string a0_7, .int .i64 a0_8, .int .i64 a0_9, .int .i64 a0_10, .slice (some ad135) l0_11.length c0_11] 25 (0, 0)) (by (with_reducible repeat (first | refine blk_drewN ?_ _ | refine blk_drew ?_ | refine blk_alloc ?_ _)); exact BK131.out)) : gb136 ≠ gb131)); have n8_ := Aside0.mk ((by rw [hg]; exact Nat.ne_of_lt (blk_lt (g := gb132) (o := .cells #[.int .i64 a1_0, .int .i64 a1_1, .string a1_2, .string a1_3, .string a1_4, .string a1_5, .string a1_6, .string a1_7, .int .i64 a1_8, .int .i64 a1_9, .int .i64 a1_10, .slice A1_11 l1_11.length c1_11] 25 (0, 0)) (by (with_reducible repeat (first | refine blk_drewN ?_ _ | refine blk_drew ?_ | refine blk_alloc ?_ _)); exact BK132.out)) : gb132 ≠ gb136)); have n9_ := Aside0.mk ((by rw [hg]; exact Nat.ne_of_gt (blk_lt (g := gb132) (o := .cells #[.int .i64 a1_0, .int .i64 a1_1, .string a1_2, .string a1_3, .string a1_4, .string a1_5, .string a1_6, .string a1_7, .int .i64 a1_8, .int .i64 a1_9, .int .i64 a1_10, .slice A1_11 l1_11.length c1_11] 25 (0, 0)) (by (with_reducible repeat (first | refine blk_drewN ?_ _ | refine blk_drew ?_ | refine blk_alloc ?_ _)); exact BK132.out)) : gb136 ≠ gb132)); clear BK131; clear BK132; clear HB; have BK131 := n0_; have BK132 := n1_; have HB := n2_; have BK136 := n3_; have GW136 := n4_; have GE136 := n5_; have NB131_136 := n6_; have NB136_131 := n7_; have NB132_136 := n8_; have NB136_132 := n9_; clear n0_ n1_ n2_ n3_ n4_ n5_ n6_ n7_ n8_ n9_; clear hb hbox hg; have hnb29 := NB136_131.out; have hnc29 := NB131_136.out; have hnb30 := NB136_132.out; have hnc30 := NB132_136.out; have hcz31_0 : w28.cell? ⟨gb136, 0, none⟩ = some (.int .i64 0) := (blk_cell BK136.out 0).trans rfl; have hcz31_1 : w28.cell? ⟨gb136, 1, none⟩ = some (.int .i64 0) := (blk_cell BK136.out 1).trans rfl; have hcz31_2 : w28.cell? ⟨gb136, 2, none⟩ = some (.string (⟨#[]⟩ : ByteArray)) := (blk_cell BK136.out 2).trans rfl; have hcz31_3 : w28.cell? ⟨gb136, 3, none⟩ = some (.string (⟨#[]⟩ : ByteArray)) := (blk_cell BK136.out 3).trans rfl; have hcz31_4 : w28.cell? ⟨gb136, 4, none⟩ = some (.string (⟨#[]⟩ : ByteArray)) := (blk_cell BK136.out 4).trans rfl; have hcz31_5 : w28.cell? ⟨gb136, 5, none⟩ = some (.string (⟨#[]⟩ : ByteArray)) := (blk_cell BK136.out 5).trans rfl; have hcz31_6 : w28.cell? ⟨gb136, 6, none⟩ = some (.string (⟨#[]⟩ : ByteArray)) := (blk_cell BK136.out 6).trans rfl; have hcz31_7 : w28.cell? ⟨gb136, 7, none⟩ = some (.string (⟨#[]⟩ : ByteArray)) := (blk_cell BK136.out 7).trans rfl; have hcz31_8 : w28.cell? ⟨gb136, 8, none⟩ = some (.int .i64 0) := (blk_cell BK136.out 8).trans rfl; have hcz31_9 : w28.cell? ⟨gb136, 9, none⟩ = some (.int .i64 0) := (blk_cell BK136.out 9).trans rfl; have hcz31_10 : w28.cell? ⟨gb136, 10, none⟩ = some (.int .i64 0) := (blk_cell BK136.out 10).trans rfl; have hcz31_11 : w28.cell? ⟨gb136, 11, none⟩ = some (.slice none 0 0) := (blk_cell BK136.out 11).trans rfl; have hfz31_0 := blk_frozen BK136.out 0; have hfz31_1 := blk_frozen BK136.out 1; have hfz31_2 := blk_frozen BK136.out 2; have hfz31_3 := blk_frozen BK136.out 3; have hfz31_4 := blk_frozen BK136.out 4; have hfz31_5 := blk_frozen BK136.out 5; have hfz31_6 := blk_frozen BK136.out 6; have hfz31_7 := blk_frozen BK136.out 7; have hfz31_8 := blk_frozen BK136.out 8; have hfz31_9 := blk_frozen BK136.out 9; have hfz31_10 := blk_frozen BK136.out 10; have hfz31_11 := blk_frozen BK136.out 11))
                      have n0_ : Aside0 (((((((((((((w28.setCell ⟨gb136, 0, none⟩ (.int .i64 ((rd_T25 l0_11 x43_2).f0))).setCell ⟨gb136, 1, none⟩ (.int .i64 ((rd_T25 l0_11 x43_2).f1))).setCell ⟨gb136, 2, none⟩ (.string ((rd_T25 l0_11 x43_2).f2))).setCell ⟨gb136, 3, none⟩ (.string ((rd_T25 l0_11 x43_2).f3))).setCell ⟨gb136, 4, none⟩ (.string ((rd_T25 l0_11 x43_2).f4))).setCell ⟨gb136, 5, none⟩ (.string ((rd_T25 l0_11 x43_2).f5))).setCell ⟨gb136, 6, none⟩ (.string ((rd_T25 l0_11 x43_2).f6))).setCell ⟨gb136, 7, none⟩ (.string ((rd_T25 l0_11 x43_2).f7))).setCell ⟨gb136, 8, none⟩ (.int .i64 ((rd_T25 l0_11 x43_2).f8))).setCell ⟨gb136, 9, none⟩ (.int .i64 ((rd_T25 l0_11 x43_2).f9))).setCell ⟨gb136, 10, none⟩ (.int .i64 ((rd_T25 l0_11 x43_2).f10))).setCell ⟨gb136, 11, none⟩ (.slice A135_11 ((rd_T25 l0_11 x43_2).f11).length c135_11)).heap[gb131]? = some (.cells #[.int .i64 a0_0, .int .i64 a0_1, .string a0_2, .string a0_3, .string a0_4, .string a0_5, .string a0_6, .string a0_7, .int .i64 a0_8, .int .i64 a0_9, .int .i64 a0_10, .slice (some ad135) l0_11.length c0_11] 25 (0, 0))) := ⟨by (with_reducible repeat (first | refine blk_drewN ?_ _ | refine blk_drew ?_ | refine blk_alloc ?_ _)); refine blk_far ?_ NB131_136.out _; (with_reducible repeat (first | refine blk_drewN ?_ _ | refine blk_drew ?_ | refine blk_alloc ?_ _)); refine blk_far ?_ NB131_136.out _; (with_reducible repeat (first | refine blk_drewN ?_ _ | refine blk_drew ?_ | refine blk_alloc ?_ _)); refine blk_far ?_ NB131_136.out _; (with_reducible repeat (first | refine blk_drewN ?_ _ | refine blk_drew ?_ | refine blk_alloc ?_ _)); refine blk_far ?_ NB131_136.out _; (with_reducible repeat (first | refine blk_drewN ?_ _ | refine blk_drew ?_ | refine blk_alloc ?_ _)); refine blk_far ?_ NB131_136.out _; (with_reducible repeat (first | refine blk_drewN ?_ _ | refine blk_drew ?_ | refine blk_alloc ?_ _)); refine blk_far ?_ NB131_136.out _; (with_reducible repeat (first | refine blk_drewN ?_ _ | refine blk_drew ?_ | refine blk_alloc ?_ _)); refine blk_far ?_ NB131_136.out _; (with_reducible repeat (first | refine blk_drewN ?_ _ | refine blk_drew ?_ | refine blk_alloc ?_ _)); refine blk_far ?_ NB131_136.out _; (with_reducible repeat (first | refine blk_drewN ?_ _ | refine blk_drew ?_ | refine blk_alloc ?_ _)); refine blk_far ?_ NB131_136.out _; (with_reducible repeat (first | refine blk_drewN ?_ _ | refine blk_drew ?_ | refine blk_alloc ?_ _)); refine blk_far ?_ NB131_136.out _; (with_reducible repeat (first | refine blk_drewN ?_ _ | refine blk_drew ?_ | refine blk_alloc ?_ _)); refine blk_far ?_ NB131_136.out _; (with_reducible repeat (first | refine blk_drewN ?_ _ | refine blk_drew ?_ | refine blk_alloc ?_ _)); refine blk_far ?_ NB131_136.out _; (with_reducible repeat (first | refine blk_drewN ?_ _ | refine blk_drew ?_ | refine blk_alloc ?_ _)); exact BK131.out⟩
                      have n1_ : Aside0 (((((((((((((w28.setCell ⟨gb136, 0, none⟩ (.int .i64 ((rd_T25 l0_11 x43_2).f0))).setCell ⟨gb136, 1, none⟩ (.int .i64 ((rd_T25 l0_11 x43_2).f1))).setCell ⟨gb136, 2, none⟩ (.string ((rd_T25 l0_11 x43_2).f2))).setCell ⟨gb136, 3, none⟩ (.string ((rd_T25 l0_11 x43_2).f3))).setCell ⟨gb136, 4, none⟩ (.string ((rd_T25 l0_11 x43_2).f4))).setCell ⟨gb136, 5, none⟩ (.string ((rd_T25 l0_11 x43_2).f5))).setCell ⟨gb136, 6, none⟩ (.string ((rd_T25 l0_11 x43_2).f6))).setCell ⟨gb136, 7, none⟩ (.string ((rd_T25 l0_11 x43_2).f7))).setCell ⟨gb136, 8, none⟩ (.int .i64 ((rd_T25 l0_11 x43_2).f8))).setCell ⟨gb136, 9, none⟩ (.int .i64 ((rd_T25 l0_11 x43_2).f9))).setCell ⟨gb136, 10, none⟩ (.int .i64 ((rd_T25 l0_11 x43_2).f10))).setCell ⟨gb136, 11, none⟩ (.slice A135_11 ((rd_T25 l0_11 x43_2).f11).length c135_11)).heap[gb132]? = some (.cells #[.int .i64 a1_0, .int .i64 a1_1, .string a1_2, .string a1_3, .string a1_4, .string a1_5, .string a1_6, .string a1_7, .int .i64 a1_8, .int .i64 a1_9, .int .i64 a1_10, .slice A1_11 l1_11.length c1_11] 25 (0, 0))) := ⟨by (with_reducible repeat (first | refine blk_drewN ?_ _ | refine blk_drew ?_ | refine blk_alloc ?_ _)); refine blk_far ?_ NB132_136.out _; (with_reducible repeat (first | refine blk_drewN ?_ _ | refine blk_drew ?_ | refine blk_alloc ?_ _)); refine blk_far ?_ NB132_136.out _; (with_reducible repeat (first | refine blk_drewN ?_ _ | refine blk_drew ?_ | refine blk_alloc ?_ _)); refine blk_far ?_ NB132_136.out _; (with_reducible repeat (first | refine blk_drewN ?_ _ | refine blk_drew ?_ | refine blk_alloc ?_ _)); refine blk_far ?_ NB132_136.out _; (with_reducible repeat (first | refine blk_drewN ?_ _ | refine blk_drew ?_ | refine blk_alloc ?_ _)); refine blk_far ?_ NB132_136.out _; (with_reducible repeat (first | refine blk_drewN ?_ _ | refine blk_drew ?_ | refine blk_alloc ?_ _)); refine blk_far ?_ NB132_136.out _; (with_reducible repeat (first | refine blk_drewN ?_ _ | refine blk_drew ?_ | refine blk_alloc ?_ _)); refine blk_far ?_ NB132_136.out _; (with_reducible repeat (first | refine blk_drewN ?_ _ | refine blk_drew ?_ | refine blk_alloc ?_ _)); refine blk_far ?_ NB132_136.out _; (with_reducible repeat (first | refine blk_drewN ?_ _ | refine blk_drew ?_ | refine blk_alloc ?_ _)); refine blk_far ?_ NB132_136.out _; (with_reducible repeat (first | refine blk_drewN ?_ _ | refine blk_drew ?_ | refine blk_alloc ?_ _)); refine blk_far ?_ NB132_136.out _; (with_reducible repeat (first | refine blk_drewN ?_ _ | refine blk_drew ?_ | refine blk_alloc ?_ _)); refine blk_far ?_ NB132_136.out _; (with_reducible repeat (first | refine blk_drewN ?_ _ | refine blk_drew ?_ | refine blk_alloc ?_ _)); refine blk_far ?_ NB132_136.out _; (with_reducible repeat (first | refine blk_drewN ?_ _ | refine blk_drew ?_ | refine blk_alloc ?_ _)); exact BK132.out⟩
                      have n2_ : Aside0 (((((((((((((w28.setCell ⟨gb136, 0, none⟩ (.int .i64 ((rd_T25 l0_11 x43_2).f0))).setCell ⟨gb136, 1, none⟩ (.int .i64 ((rd_T25 l0_11 x43_2).f1))).setCell ⟨gb136, 2, none⟩ (.string ((rd_T25 l0_11 x43_2).f2))).setCell ⟨gb136, 3, none⟩ (.string ((rd_T25 l0_11 x43_2).f3))).setCell ⟨gb136, 4, none⟩ (.string ((rd_T25 l0_11 x43_2).f4))).setCell ⟨gb136, 5, none⟩ (.string ((rd_T25 l0_11 x43_2).f5))).setCell ⟨gb136, 6, none⟩ (.string ((rd_T25 l0_11 x43_2).f6))).setCell ⟨gb136, 7, none⟩ (.string ((rd_T25 l0_11 x43_2).f7))).setCell ⟨gb136, 8, none⟩ (.int .i64 ((rd_T25 l0_11 x43_2).f8))).setCell ⟨gb136, 9, none⟩ (.int .i64 ((rd_T25 l0_11 x43_2).f9))).setCell ⟨gb136, 10, none⟩ (.int .i64 ((rd_T25 l0_11 x43_2).f10))).setCell ⟨gb136, 11, none⟩ (.slice A135_11 ((rd_T25 l0_11 x43_2).f11).length c135_11)).heap[gb136]? = some (.cells #[.int .i64 ((rd_T25 l0_11 x43_2).f0), .int .i64 ((rd_T25 l0_11 x43_2).f1), .string ((rd_T25 l0_11 x43_2).f2), .string ((rd_T25 l0_11 x43_2).f3), .string ((rd_T25 l0_11 x43_2).f4), .string ((rd_T25 l0_11 x43_2).f5), .string ((rd_T25 l0_11 x43_2).f6), .string ((rd_T25 l0_11 x43_2).f7), .int .i64 ((rd_T25 l0_11 x43_2).f8), .int .i64 ((rd_T25 l0_11 x43_2).f9), .int .i64 ((rd_T25 l0_11 x43_2).f10), .slice A135_11 ((rd_T25 l0_11 x43_2).f11).length c135_11] 25 (0, 0))) := ⟨by (with_reducible repeat (first | refine blk_drewN ?_ _ | refine blk_drew ?_ | refine blk_alloc ?_ _)); refine blk_put (cs := #[.int .i64 ((rd_T25 l0_11 x43_2).f0), .int .i64 ((rd_T25 l0_11 x43_2).f1), .string ((rd_T25 l0_11 x43_2).f2), .string ((rd_T25 l0_11 x43_2).f3), .string ((rd_T25 l0_11 x43_2).f4), .string ((rd_T25 l0_11 x43_2).f5), .string ((rd_T25 l0_11 x43_2).f6), .string ((rd_T25 l0_11 x43_2).f7), .int .i64 ((rd_T25 l0_11 x43_2).f8), .int .i64 ((rd_T25 l0_11 x43_2).f9), .int .i64 ((rd_T25 l0_11 x43_2).f10), .slice none 0 0]) ?_ 11 _ rfl; (with_reducible repeat (first | refine blk_drewN ?_ _ | refine blk_drew ?_ | refine blk_alloc ?_ _)); refine blk_put (cs := #[.int .i64 ((rd_T25 l0_11 x43_2).f0), .int .i64 ((rd_T25 l0_11 x43_2).f1), .string ((rd_T25 l0_11 x43_2).f2), .string ((rd_T25 l0_11 x43_2).f3), .string ((rd_T25 l0_11 x43_2).f4), .string ((rd_T25 l0_11 x43_2).f5), .string ((rd_T25 l0_11 x43_2).f6), .string ((rd_T25 l0_11 x43_2).f7), .int .i64 ((rd_T25 l0_11 x43_2).f8), .int .i64 ((rd_T25 l0_11 x43_2).f9), .int .i64 0, .slice none 0 0]) ?_ 10 _ rfl; (with_reducible repeat (first | refine blk_drewN ?_ _ | refine blk_drew ?_ | refine blk_alloc ?_ _)); refine blk_put (cs := #[.int .i64 ((rd_T25 l0_11 x43_2).f0), .int .i64 ((rd_T25 l0_11 x43_2).f1), .string ((rd_T25 l0_11 x43_2).f2), .string ((rd_T25 l0_11 x43_2).f3), .string ((rd_T25 l0_11 x43_2).f4), .string ((rd_T25 l0_11 x43_2).f5), .string ((rd_T25 l0_11 x43_2).f6), .string ((rd_T25 l0_11 x43_2).f7), .int .i64 ((rd_T25 l0_11 x43_2).f8), .int .i64 0, .int .i64 0, .slice none 0 0]) ?_ 9 _ rfl; (with_reducible repeat (first | refine blk_drewN ?_ _ | refine blk_drew ?_ | refine blk_alloc ?_ _)); refine blk_put (cs := #[.int .i64 ((rd_T25 l0_11 x43_2).f0), .int .i64 ((rd_T25 l0_11 x43_2).f1), .string ((rd_T25 l0_11 x43_2).f2), .string ((rd_T25 l0_11 x43_2).f3), .string ((rd_T25 l0_11 x43_2).f4), .string ((rd_T25 l0_11 x43_2).f5), .string ((rd_T25 l0_11 x43_2).f6), .string ((rd_T25 l0_11 x43_2).f7), .int .i64 0, .int .i64 0, .int .i64 0, .slice none 0 0]) ?_ 8 _ rfl; (with_reducible repeat (first | refine blk_drewN ?_ _ | refine blk_drew ?_ | refine blk_alloc ?_ _)); refine blk_put (cs := #[.int .i64 ((rd_T25 l0_11 x43_2).f0), .int .i64 ((rd_T25 l0_11 x43_2).f1), .string ((rd_T25 l0_11 x43_2).f2), .string ((rd_T25 l0_11 x43_2).f3), .string ((rd_T25 l0_11 x43_2).f4), .string ((rd_T25 l0_11 x43_2).f5), .string ((rd_T25 l0_11 x43_2).f6), .string (⟨#[]⟩ : ByteArray), .int .i64 0, .int .i64 0, .int .i64 0, .slice none 0 0]) ?_ 7 _ rfl; (with_reducible repeat (first | refine blk_drewN ?_ _ | refine blk_drew ?_ | refine blk_alloc ?_ _)); refine blk_put (cs := #[.int .i64 ((rd_T25 l0_11 x43_2).f0), .int .i64 ((rd_T25 l0_11 x43_2).f1), .string ((rd_T25 l0_11 x43_2).f2), .string ((rd_T25 l0_11 x43_2).f3), .string ((rd_T25 l0_11 x43_2).f4), .string ((rd_T25 l0_11 x43_2).f5), .string (⟨#[]⟩ : ByteArray), .string (⟨#[]⟩ : ByteArray), .int .i64 0, .int .i64 0, .int .i64 0, .slice none 0 0]) ?_ 6 _ rfl; (with_reducible repeat (first | refine blk_drewN ?_ _ | refine blk_drew ?_ | refine blk_alloc ?_ _)); refine blk_put (cs := #[.int .i64 ((rd_T25 l0_11 x43_2).f0), .int .i64 ((rd_T25 l0_11 x43_2).f1), .string ((rd_T25 l0_11 x43_2).f2), .string ((rd_T25 l0_11 x43_2).f3), .string ((rd_T25 l0_11 x43_2).f4), .string (⟨#[]⟩ : ByteArray), .string (⟨#[]⟩ : ByteArray), .string (⟨#[]⟩ : ByteArray), .int .i64 0, .int .i64 0, .int .i64 0, .slice none 0 0]) ?_ 5 _ rfl; (with_reducible repeat (first | refine blk_drewN ?_ _ | refine blk_drew ?_ | refine blk_alloc ?_ _)); refine blk_put (cs := #[.int .i64 ((rd_T25 l0_11 x43_2).f0), .int .i64 ((rd_T25 l0_11 x43_2).f1), .string ((rd_T25 l0_11 x43_2).f2), .string ((rd_T25 l0_11 x43_2).f3), .string (⟨#[]⟩ : ByteArray), .string (⟨#[]⟩ : ByteArray), .string (⟨#[]⟩ : ByteArray), .string (⟨#[]⟩ : ByteArray), .int .i64 0, .int .i64 0, .int .i64 0, .slice none 0 0]) ?_ 4 _ rfl; (with_reducible repeat (first | refine blk_drewN ?_ _ | refine blk_drew ?_ | refine blk_alloc ?_ _)); refine blk_put (cs := #[.int .i64 ((rd_T25 l0_11 x43_2).f0), .int .i64 ((rd_T25 l0_11 x43_2).f1), .string ((rd_T25 l0_11 x43_2).f2), .string (⟨#[]⟩ : ByteArray), .string (⟨#[]⟩ : ByteArray), .string (⟨#[]⟩ : ByteArray), .string (⟨#[]⟩ : ByteArray), .string (⟨#[]⟩ : ByteArray), .int .i64 0, .int .i64 0, .int .i64 0, .slice none 0 0]) ?_ 3 _ rfl; (with_reducible repeat (first | refine blk_drewN ?_ _ | refine blk_drew ?_ | refine blk_alloc ?_ _)); refine blk_put (cs := #[.int .i64 ((rd_T25 l0_11 x43_2).f0), .int .i64 ((rd_T25 l0_11 x43_2).f1), .string (⟨#[]⟩ : ByteArray), .string (⟨#[]⟩ : ByteArray), .string (⟨#[]⟩ : ByteArray), .string (⟨#[]⟩ : ByteArray), .string (⟨#[]⟩ : ByteArray), .string (⟨#[]⟩ : ByteArray), .int .i64 0, .int .i64 0, .int .i64 0, .slice none 0 0]) ?_ 2 _ rfl; (with_reducible repeat (first | refine blk_drewN ?_ _ | refine blk_drew ?_ | refine blk_alloc ?_ _)); refine blk_put (cs := #[.int .i64 ((rd_T25 l0_11 x43_2).f0), .int .i64 0, .string (⟨#[]⟩ : ByteArray), .string (⟨#[]⟩ : ByteArray), .string (⟨#[]⟩ : ByteArray), .string (⟨#[]⟩ : ByteArray), .string (⟨#[]⟩ : ByteArray), .string (⟨#[]⟩ : ByteArray), .int .i64 0, .int .i64 0, .int .i64 0, .slice none 0 0]) ?_ 1 _ rfl; (with_reducible repeat (first | refine blk_drewN ?_ _ | refine blk_drew ?_ | refine blk_alloc ?_ _)); refine blk_put (cs := #[.int .i64 0, .int .i64 0, .string (⟨#[]⟩ : ByteArray), .string (⟨#[]⟩ : ByteArray), .string (⟨#[]⟩ : ByteArray), .string (⟨#[]⟩ : ByteArray), .string (⟨#[]⟩ : ByteArray), .string (⟨#[]⟩ : ByteArray), .int .i64 0, .int .i64 0, .int .i64 0, .slice none 0 0]) ?_ 0 _ rfl; (with_reducible repeat (first | refine blk_drewN ?_ _ | refine blk_drew ?_ | refine blk_alloc ?_ _)); exact BK136.out⟩
                      have n3_ : Aside0 (Below w.heap.size w ((((((((((((w28.setCell ⟨gb136, 0, none⟩ (.int .i64 ((rd_T25 l0_11 x43_2).f0))).setCell ⟨gb136, 1, none⟩ (.int .i64 ((rd_T25 l0_11 x43_2).f1))).setCell ⟨gb136, 2, none⟩ (.string ((rd_T25 l0_11 x43_2).f2))).setCell ⟨gb136, 3, none⟩ (.string ((rd_T25 l0_11 x43_2).f3))).setCell ⟨gb136, 4, none⟩ (.string ((rd_T25 l0_11 x43_2).f4))).setCell ⟨gb136, 5, none⟩ (.string ((rd_T25 l0_11 x43_2).f5))).setCell ⟨gb136, 6, none⟩ (.string ((rd_T25 l0_11 x43_2).f6))).setCell ⟨gb136, 7, none⟩ (.string ((rd_T25 l0_11 x43_2).f7))).setCell ⟨gb136, 8, none⟩ (.int .i64 ((rd_T25 l0_11 x43_2).f8))).setCell ⟨gb136, 9, none⟩ (.int .i64 ((rd_T25 l0_11 x43_2).f9))).setCell ⟨gb136, 10, none⟩ (.int .i64 ((rd_T25 l0_11 x43_2).f10))).setCell ⟨gb136, 11, none⟩ (.slice A135_11 ((rd_T25 l0_11 x43_2).f11).length c135_11))) := ⟨by repeat (first | (with_reducible first | exact HB.out | apply below_alloc | apply pw_below_drewN | apply below_drew1 | refine below_set ?_ GE131.out | refine below_set ?_ GE132.out | refine below_set ?_ GE136.out) | exact HB.out)⟩
                      (try clear BK131)
                      (try clear BK132)
                      (try clear BK136)
                      (try clear HB)
                      generalize ((((((((((((w28.setCell ⟨gb136, 0, none⟩ (.int .i64 ((rd_T25 l0_11 x43_2).f0))).setCell ⟨gb136, 1, none⟩ (.int .i64 ((rd_T25 l0_11 x43_2).f1))).setCell ⟨gb136, 2, none⟩ (.string ((rd_T25 l0_11 x43_2).f2))).setCell ⟨gb136, 3, none⟩ (.string ((rd_T25 l0_11 x43_2).f3))).setCell ⟨gb136, 4, none⟩ (.string ((rd_T25 l0_11 x43_2).f4))).setCell ⟨gb136, 5, none⟩ (.string ((rd_T25 l0_11 x43_2).f5))).setCell ⟨gb136, 6, none⟩ (.string ((rd_T25 l0_11 x43_2).f6))).setCell ⟨gb136, 7, none⟩ (.string ((rd_T25 l0_11 x43_2).f7))).setCell ⟨gb136, 8, none⟩ (.int .i64 ((rd_T25 l0_11 x43_2).f8))).setCell ⟨gb136, 9, none⟩ (.int .i64 ((rd_T25 l0_11 x43_2).f9))).setCell ⟨gb136, 10, none⟩ (.int .i64 ((rd_T25 l0_11 x43_2).f10))).setCell ⟨gb136, 11, none⟩ (.slice A135_11 ((rd_T25 l0_11 x43_2).f11).length c135_11)) = w32 at n0_ n1_ n2_ n3_ ⊢
                      have BK131 := n0_
                      have BK132 := n1_
                      have BK136 := n2_
                      have HB := n3_
                      clear n0_ n1_ n2_ n3_
                      have n0_ := Aside0.mk (blk_drew BK131.out)
                      have n1_ := Aside0.mk (blk_drew BK132.out)
                      have n2_ := Aside0.mk (blk_drew BK136.out)
                      have n3_ := Aside0.mk (below_drew1 HB.out)
                      clear BK131
                      clear BK132
                      clear BK136
                      clear HB
                      have BK131 := n0_
                      have BK132 := n1_
                      have BK136 := n2_
                      have HB := n3_
                      clear n0_ n1_ n2_ n3_
                      have p137 : 0 ≤ (x43_2 : Int) := of_decide_eq_true (by first | (with_reducible assumption) | assumption)
                      have q137 : x43_2 < (l1_11.length : Int) := of_decide_eq_true (by first | (with_reducible assumption) | assumption)
                      obtain ⟨ad137, A137_11, c137_11, e137, hx137_0, hx137_1, hx137_2, hx137_3, hx137_4, hx137_5, hx137_6, hx137_7, hx137_8, hx137_9, hx137_10, hx137_11, hl137_11, hi137_11⟩ := at_T25 HR1_11.out x43_2 p137 q137
                      have hw137_11 := hx137_11
                      have hw137_10 := hx137_10
                      have hw137_9 := hx137_9
                      have hw137_8 := hx137_8
                      have hw137_7 := hx137_7
                      have hw137_6 := hx137_6
                      have hw137_5 := hx137_5
                      have hw137_4 := hx137_4
                      have hw137_3 := hx137_3
                      have hw137_2 := hx137_2
                      have hw137_1 := hx137_1
                      have hw137_0 := hx137_0
                      cases e137
                      replace hx137_0 := (HB.out.cell (World.block_lt_of_cell? w _ hx137_0)).trans hx137_0
                      replace hx137_1 := (HB.out.cell (World.block_lt_of_cell? w _ hx137_1)).trans hx137_1
                      replace hx137_2 := (HB.out.cell (World.block_lt_of_cell? w _ hx137_2)).trans hx137_2
                      replace hx137_3 := (HB.out.cell (World.block_lt_of_cell? w _ hx137_3)).trans hx137_3
                      replace hx137_4 := (HB.out.cell (World.block_lt_of_cell? w _ hx137_4)).trans hx137_4
                      replace hx137_5 := (HB.out.cell (World.block_lt_of_cell? w _ hx137_5)).trans hx137_5
                      replace hx137_6 := (HB.out.cell (World.block_lt_of_cell? w _ hx137_6)).trans hx137_6
                      replace hx137_7 := (HB.out.cell (World.block_lt_of_cell? w _ hx137_7)).trans hx137_7
                      replace hx137_8 := (HB.out.cell (World.block_lt_of_cell? w _ hx137_8)).trans hx137_8
                      replace hx137_9 := (HB.out.cell (World.block_lt_of_cell? w _ hx137_9)).trans hx137_9
                      replace hx137_10 := (HB.out.cell (World.block_lt_of_cell? w _ hx137_10)).trans hx137_10
                      replace hx137_11 := (HB.out.cell (World.block_lt_of_cell? w _ hx137_11)).trans hx137_11
                      have HR137_11 := Aside0.mk hi137_11
                      have HC137_11 := Aside0.mk hl137_11
                      clear hi137_11 hl137_11
                      replace p137 := eq_true p137
                      replace q137 := eq_true q137
                      refine start_ (n := 8) (S := fun w' => w'.cell? ⟨gb136, 0, none⟩ = some (.int .i64 ((rd_T25 l0_11 x43_2).f0)) ∧ w'.cell? ⟨gb136, 1, none⟩ = some (.int .i64 ((rd_T25 l0_11 x43_2).f1)) ∧ w'.cell? ⟨gb136, 2, none⟩ = some (.string ((rd_T25 l0_11 x43_2).f2)) ∧ w'.cell? ⟨gb136, 3, none⟩ = some (.string ((rd_T25 l0_11 x43_2).f3)) ∧ w'.cell? ⟨gb136, 4, none⟩ = some (.string ((rd_T25 l0_11 x43_2).f4)) ∧ w'.cell? ⟨gb136, 5, none⟩ = some (.string ((rd_T25 l0_11 x43_2).f5)) ∧ w'.cell? ⟨gb136, 6, none⟩ = some (.string ((rd_T25 l0_11 x43_2).f6)) ∧ w'.cell? ⟨gb136, 7, none⟩ = some (.string ((rd_T25 l0_11 x43_2).f7)) ∧ w'.cell? ⟨gb136, 8, none⟩ = some (.int .i64 ((rd_T25 l0_11 x43_2).f8)) ∧ w'.cell? ⟨gb136, 9, none⟩ = some (.int .i64 ((rd_T25 l0_11 x43_2).f9)) ∧ w'.cell? ⟨gb136, 10, none⟩ = some (.int .i64 ((rd_T25 l0_11 x43_2).f10)) ∧ w'.cell? ⟨gb136, 11, none⟩ = some (.slice A135_11 ((rd_T25 l0_11 x43_2).f11).length c135_11) ∧ w'.cell? ⟨gb132, 0, none⟩ = some (.int .i64 a1_0) ∧ w'.cell? ⟨gb132, 1, none⟩ = some (.int .i64 a1_1) ∧ w'.cell? ⟨gb132, 2, none⟩ = some (.string a1_2) ∧ w'.cell? ⟨gb132, 3, none⟩ = some (.string a1_3) ∧ w'.cell? ⟨gb132, 4, none⟩ = some (.string a1_4) ∧ w'.cell? ⟨gb132, 5, none⟩ = some (.string a1_5) ∧ w'.cell? ⟨gb132, 6, none⟩ = some (.string a1_6) ∧ w'.cell? ⟨gb132, 7, none⟩ = some (.string a1_7) ∧ w'.cell? ⟨gb132, 8, none⟩ = some (.int .i64 a1_8) ∧ w'.cell? ⟨gb132, 9, none⟩ = some (.int .i64 a1_9) ∧ w'.cell? ⟨gb132, 10, none⟩ = some (.int .i64 a1_10) ∧ w'.cell? ⟨gb132, 11, none⟩ = some (.slice (some ad137) l1_11.length c1_11) ∧ w'.cell? (ad137.add ((x43_2).toNat * 12)) = some (.int .i64 ((rd_T25 l1_11 x43_2).f0)) ∧ w'.cell? ⟨(ad137.add ((x43_2).toNat * 12)).block, (ad137.add ((x43_2).toNat * 12)).off + 1, none⟩ = some (.int .i64 ((rd_T25 l1_11 x43_2).f1)) ∧ w'.cell? ⟨(ad137.add ((x43_2).toNat * 12)).block, (ad137.add ((x43_2).toNat * 12)).off + 2, none⟩ = some (.string ((rd_T25 l1_11 x43_2).f2)) ∧ w'.cell? ⟨(ad137.add ((x43_2).toNat * 12)).block, (ad137.add ((x43_2).toNat * 12)).off + 3, none⟩ = some (.string ((rd_T25 l1_11 x43_2).f3)) ∧ w'.cell? ⟨(ad137.add ((x43_2).toNat * 12)).block, (ad137.add ((x43_2).toNat * 12)).off + 4, none⟩ = some (.string ((rd_T25 l1_11 x43_2).f4)) ∧ w'.cell? ⟨(ad137.add ((x43_2).toNat * 12)).block, (ad137.add ((x43_2).toNat * 12)).off + 5, none⟩ = some (.string ((rd_T25 l1_11 x43_2).f5)) ∧ w'.cell? ⟨(ad137.add ((x43_2).toNat * 12)).block, (ad137.add ((x43_2).toNat * 12)).off + 6, none⟩ = some (.string ((rd_T25 l1_11 x43_2).f6)) ∧ w'.cell? ⟨(ad137.add ((x43_2).toNat * 12)).block, (ad137.add ((x43_2).toNat * 12)).off + 7, none⟩ = some (.string ((rd_T25 l1_11 x43_2).f7)) ∧ w'.cell? ⟨(ad137.add ((x43_2).toNat * 12)).block, (ad137.add ((x43_2).toNat * 12)).off + 8, none⟩ = some (.int .i64 ((rd_T25 l1_11 x43_2).f8)) ∧ w'.cell? ⟨(ad137.add ((x43_2).toNat * 12)).block, (ad137.add ((x43_2).toNat * 12)).off + 9, none⟩ = some (.int .i64 ((rd_T25 l1_11 x43_2).f9)) ∧ w'.cell? ⟨(ad137.add ((x43_2).toNat * 12)).block, (ad137.add ((x43_2).toNat * 12)).off + 10, none⟩ = some (.int .i64 ((rd_T25 l1_11 x43_2).f10)) ∧ w'.cell? ⟨(ad137.add ((x43_2).toNat * 12)).block, (ad137.add ((x43_2).toNat * 12)).off + 11, none⟩ = some (.slice A137_11 ((rd_T25 l1_11 x43_2).f11).length c137_11)) (ds := []) #[false, false, false, false, false, false, false, false] (by kernel_rfl) rfl rfl ⟨(blk_cell BK136.out 0).trans rfl, (blk_cell BK136.out 1).trans rfl, (blk_cell BK136.out 2).trans rfl, (blk_cell BK136.out 3).trans rfl, (blk_cell BK136.out 4).trans rfl, (blk_cell BK136.out 5).trans rfl, (blk_cell BK136.out 6).trans rfl, (blk_cell BK136.out 7).trans rfl, (blk_cell BK136.out 8).trans rfl, (blk_cell BK136.out 9).trans rfl, (blk_cell BK136.out 10).trans rfl, (blk_cell BK136.out 11).trans rfl, (blk_cell BK132.out 0).trans rfl, (blk_cell BK132.out 1).trans rfl, (blk_cell BK132.out 2).trans rfl, (blk_cell BK132.out 3).trans rfl, (blk_cell BK132.out 4).trans rfl, (blk_cell BK132.out 5).trans rfl, (blk_cell BK132.out 6).trans rfl, (blk_cell BK132.out 7).trans rfl, (blk_cell BK132.out 8).trans rfl, (blk_cell BK132.out 9).trans rfl, (blk_cell BK132.out 10).trans rfl, (blk_cell BK132.out 11).trans rfl, ((HB.out.cell (World.block_lt_of_cell? w _ hw137_0)).trans hw137_0), ((HB.out.cell (World.block_lt_of_cell? w _ hw137_1)).trans hw137_1), ((HB.out.cell (World.block_lt_of_cell? w _ hw137_2)).trans hw137_2), ((HB.out.cell (World.block_lt_of_cell? w _ hw137_3)).trans hw137_3), ((HB.out.cell (World.block_lt_of_cell? w _ hw137_4)).trans hw137_4), ((HB.out.cell (World.block_lt_of_cell? w _ hw137_5)).trans hw137_5), ((HB.out.cell (World.block_lt_of_cell? w _ hw137_6)).trans hw137_6), ((HB.out.cell (World.block_lt_of_cell? w _ hw137_7)).trans hw137_7), ((HB.out.cell (World.block_lt_of_cell? w _ hw137_8)).trans hw137_8), ((HB.out.cell (World.block_lt_of_cell? w _ hw137_9)).trans hw137_9), ((HB.out.cell (World.block_lt_of_cell? w _ hw137_10)).trans hw137_10), ((HB.out.cell (World.block_lt_of_cell? w _ hw137_11)).trans hw137_11)⟩ (fun hHeld => ?_); refine with_tabW spec_SameTree.tab6 spec_SameTree.bits6 (fun HT_ HW_ => ?_)
                      generalize w32.drew = w33 at BK131 BK132 BK136 HB HR137_11 hx137_0 hx137_1 hx137_10 hx137_11 hx137_2 hx137_3 hx137_4 hx137_5 hx137_6 hx137_7 hx137_8 hx137_9 hHeld ⊢
                      refine pure_ (i := 1) (N := some 49) (v := ?_) (a' := ?_) #[false, true, false, false, false, false, false, false] rfl rfl (any_of HT_.out (by kernel_rfl)) (fun _ _ _ h => h) (Or.inl ⟨by rfl, ?_⟩) ?_ ?_
                      rotate_left
                      · intro w'
                        go_simp
                        with_reducible rfl
                      rotate_left
                      · simp only [Act.put, List.setIfInBounds_toArray, List.set_cons_zero, List.set_cons_succ, i64_w, i32_w]
                        rfl
                      refine pure_ (i := 3) (N := some 51) (v := ?_) (a' := ?_) #[false, true, false, true, false, false, false, false] rfl rfl (any_of HT_.out (by kernel_rfl)) (fun _ _ _ h => h) (Or.inl ⟨by rfl, ?_⟩) ?_ ?_
                      rotate_left
                      · intro w'
                        go_simp
                        with_reducible rfl
                      rotate_left
                      · simp only [Act.put, List.setIfInBounds_toArray, List.set_cons_zero, List.set_cons_succ, i64_w, i32_w]
                        rfl
                      refine take_ (i := 0) (N := some 48) (v := ?_) (a' := ?_) #[true, true, false, true, false, false, false, false] rfl rfl (take_ofW HT_.out HW_.out (by kernel_rfl)) (fun _ _ _ h => h) (Or.inl ⟨by rfl, ?_⟩) hHeld ?_ ?_
                      rotate_left
                      · rintro w' ⟨s0, s1, s2, s3, s4, s5, s6, s7, s8, s9, s10, s11, s12, s13, s14, s15, s16, s17, s18, s19, s20, s21, s22, s23, s24, s25, s26, s27, s28, s29, s30, s31, s32, s33, s34, s35⟩
                        go_simp
                        with_reducible rfl
                      rotate_left
                      · simp only [Act.put, List.setIfInBounds_toArray, List.set_cons_zero, List.set_cons_succ, i64_w, i32_w]
                        rfl
                      refine take_ (i := 2) (N := some 50) (v := ?_) (a' := ?_) #[true, true, true, true, false, false, false, false] rfl rfl (take_ofW HT_.out HW_.out (by kernel_rfl)) (fun _ _ _ h => h) (Or.inl ⟨by rfl, ?_⟩) hHeld ?_ ?_
                      rotate_left
                      · rintro w' ⟨s0, s1, s2, s3, s4, s5, s6, s7, s8, s9, s10, s11, s12, s13, s14, s15, s16, s17, s18, s19, s20, s21, s22, s23, s24, s25, s26, s27, s28, s29, s30, s31, s32, s33, s34, s35⟩
                        go_simp
                        with_reducible rfl
                      rotate_left
                      · simp only [Act.put, List.setIfInBounds_toArray, List.set_cons_zero, List.set_cons_succ, i64_w, i32_w]
                        rfl
                      refine pure_ (i := 4) (N := some 52) (v := ?_) (a' := ?_) #[true, true, true, true, true, false, false, false] rfl rfl (any_of HT_.out (by kernel_rfl)) (fun _ _ _ h => h) (Or.inl ⟨by rfl, ?_⟩) ?_ ?_
                      rotate_left
                      · intro w'
                        go_simp
                        with_reducible rfl
                      rotate_left
                      · simp only [Act.put, List.setIfInBounds_toArray, List.set_cons_zero, List.set_cons_succ, i64_w, i32_w]
                        rfl
                      refine take_ (i := 5) (N := some 53) (v := ?_) (a' := ?_) #[true, true, true, true, true, true, false, false] rfl rfl (take_ofW HT_.out HW_.out (by kernel_rfl)) (fun _ _ _ h => h) (Or.inl ⟨by rfl, ?_⟩) hHeld ?_ ?_
                      rotate_left
                      · rintro w' ⟨s0, s1, s2, s3, s4, s5, s6, s7, s8, s9, s10, s11, s12, s13, s14, s15, s16, s17, s18, s19, s20, s21, s22, s23, s24, s25, s26, s27, s28, s29, s30, s31, s32, s33, s34, s35⟩
                        go_simp
                        with_reducible rfl
                      rotate_left
                      · simp only [Act.put, List.setIfInBounds_toArray, List.set_cons_zero, List.set_cons_succ, i64_w, i32_w]
                        rfl
                      refine one_ (i := 6) (N := some 54) #[true, true, true, true, true, true, true, false] rfl rfl (one_of HT_.out (by kernel_rfl)) (by decide) (fun K hK => ?_)
                      refine goes_ Tryd.func6 (by kernel_rfl) rfl #[.agg #[.int .i64 ((rd_T25 l0_11 x43_2).f0), .int .i64 ((rd_T25 l0_11 x43_2).f1), .string ((rd_T25 l0_11 x43_2).f2), .string ((rd_T25 l0_11 x43_2).f3), .string ((rd_T25 l0_11 x43_2).f4), .string ((rd_T25 l0_11 x43_2).f5), .string ((rd_T25 l0_11 x43_2).f6), .string ((rd_T25 l0_11 x43_2).f7), .int .i64 ((rd_T25 l0_11 x43_2).f8), .int .i64 ((rd_T25 l0_11 x43_2).f9), .int .i64 ((rd_T25 l0_11 x43_2).f10), .slice A135_11 ((rd_T25 l0_11 x43_2).f11).length c135_11], .agg #[.int .i64 ((rd_T25 l1_11 x43_2).f0), .int .i64 ((rd_T25 l1_11 x43_2).f1), .string ((rd_T25 l1_11 x43_2).f2), .string ((rd_T25 l1_11 x43_2).f3), .string ((rd_T25 l1_11 x43_2).f4), .string ((rd_T25 l1_11 x43_2).f5), .string ((rd_T25 l1_11 x43_2).f6), .string ((rd_T25 l1_11 x43_2).f7), .int .i64 ((rd_T25 l1_11 x43_2).f8), .int .i64 ((rd_T25 l1_11 x43_2).f9), .int .i64 ((rd_T25 l1_11 x43_2).f10), .slice A137_11 ((rd_T25 l1_11 x43_2).f11).length c137_11]] (by rfl) rfl rfl (by (try simp only [List.map_toArray, List.map_cons, List.map_nil]); first | done | rfl | (simp only [List.length_drop, List.length_take]; rfl)) ?_
                      with_reducible refine (ih k2 (by have := HJ2.out; have := HK2.out; omega) ((rd_T25 l0_11 x43_2).f0) ((rd_T25 l0_11 x43_2).f1) ((rd_T25 l0_11 x43_2).f2) ((rd_T25 l0_11 x43_2).f3) ((rd_T25 l0_11 x43_2).f4) ((rd_T25 l0_11 x43_2).f5) ((rd_T25 l0_11 x43_2).f6) ((rd_T25 l0_11 x43_2).f7) ((rd_T25 l0_11 x43_2).f8) ((rd_T25 l0_11 x43_2).f9) ((rd_T25 l0_11 x43_2).f10) _ _ ((rd_T25 l0_11 x43_2).f11) ((rd_T25 l1_11 x43_2).f0) ((rd_T25 l1_11 x43_2).f1) ((rd_T25 l1_11 x43_2).f2) ((rd_T25 l1_11 x43_2).f3) ((rd_T25 l1_11 x43_2).f4) ((rd_T25 l1_11 x43_2).f5) ((rd_T25 l1_11 x43_2).f6) ((rd_T25 l1_11 x43_2).f7) ((rd_T25 l1_11 x43_2).f8) ((rd_T25 l1_11 x43_2).f9) ((rd_T25 l1_11 x43_2).f10) _ _ ((rd_T25 l1_11 x43_2).f11) true _ ?side1 ?side2 ?side3 ?side4 A26.out).mono ?_
                      (case side1 => repeat (first | exact (Kd.C_below HR135_11.out HB.out) | (with_reducible refine Kd.C_alloc ?_ _) | (with_reducible refine Kd.C_drewN ?_ _) | (with_reducible refine Kd.C_drew ?_)))
                      (case side2 => exact HC135_11.out)
                      (case side3 => repeat (first | exact (Kd.C_below HR137_11.out HB.out) | (with_reducible refine Kd.C_alloc ?_ _) | (with_reducible refine Kd.C_drewN ?_ _) | (with_reducible refine Kd.C_drew ?_)))
                      (case side4 => exact HC137_11.out)
                      rintro e w34 ⟨rfl, hb⟩
                      refine ⟨_, rfl, ?_⟩
                      have n0_ := Aside0.mk (blk_below (g := gb131) (o := .cells #[.int .i64 a0_0, .int .i64 a0_1, .string a0_2, .string a0_3, .string a0_4, .string a0_5, .string a0_6, .string a0_7, .int .i64 a0_8, .int .i64 a0_9, .int .i64 a0_10, .slice (some ad135) l0_11.length c0_11] 25 (0, 0)) (by (with_reducible repeat (first | refine blk_drewN ?_ _ | refine blk_drew ?_ | refine blk_alloc ?_ _)); exact BK131.out) hb)
                      have n1_ := Aside0.mk (blk_below (g := gb132) (o := .cells #[.int .i64 a1_0, .int .i64 a1_1, .string a1_2, .string a1_3, .string a1_4, .string a1_5, .string a1_6, .string a1_7, .int .i64 a1_8, .int .i64 a1_9, .int .i64 a1_10, .slice (some ad137) l1_11.length c1_11] 25 (0, 0)) (by (with_reducible repeat (first | refine blk_drewN ?_ _ | refine blk_drew ?_ | refine blk_alloc ?_ _)); exact BK132.out) hb)
                      have n2_ := Aside0.mk (blk_below (g := gb136) (o := .cells #[.int .i64 ((rd_T25 l0_11 x43_2).f0), .int .i64 ((rd_T25 l0_11 x43_2).f1), .string ((rd_T25 l0_11 x43_2).f2), .string ((rd_T25 l0_11 x43_2).f3), .string ((rd_T25 l0_11 x43_2).f4), .string ((rd_T25 l0_11 x43_2).f5), .string ((rd_T25 l0_11 x43_2).f6), .string ((rd_T25 l0_11 x43_2).f7), .int .i64 ((rd_T25 l0_11 x43_2).f8), .int .i64 ((rd_T25 l0_11 x43_2).f9), .int .i64 ((rd_T25 l0_11 x43_2).f10), .slice A135_11 ((rd_T25 l0_11 x43_2).f11).length c135_11] 25 (0, 0)) (by (with_reducible repeat (first | refine blk_drewN ?_ _ | refine blk_drew ?_ | refine blk_alloc ?_ _)); exact BK136.out) hb)
                      have n3_ := Aside0.mk (below_step (by repeat (first | (with_reducible first | exact HB.out | apply below_alloc | apply pw_below_drewN | apply below_drew1 | refine below_set ?_ GE131.out | refine below_set ?_ GE132.out | refine below_set ?_ GE136.out) | exact HB.out)) hb)
                      clear BK131
                      clear BK132
                      clear BK136
                      clear HB
                      have BK131 := n0_
                      have BK132 := n1_
                      have BK136 := n2_
                      have HB := n3_
                      clear n0_ n1_ n2_ n3_
                      (try clear hb)
                      (try clear hb2)
                      (try clear hk)
                      (try clear hi)
                      refine hK.out _ _ ⟨(blk_cell BK136.out 0).trans rfl, (blk_cell BK136.out 1).trans rfl, (blk_cell BK136.out 2).trans rfl, (blk_cell BK136.out 3).trans rfl, (blk_cell BK136.out 4).trans rfl, (blk_cell BK136.out 5).trans rfl, (blk_cell BK136.out 6).trans rfl, (blk_cell BK136.out 7).trans rfl, (blk_cell BK136.out 8).trans rfl, (blk_cell BK136.out 9).trans rfl, (blk_cell BK136.out 10).trans rfl, (blk_cell BK136.out 11).trans rfl, (blk_cell BK132.out 0).trans rfl, (blk_cell BK132.out 1).trans rfl, (blk_cell BK132.out 2).trans rfl, (blk_cell BK132.out 3).trans rfl, (blk_cell BK132.out 4).trans rfl, (blk_cell BK132.out 5).trans rfl, (blk_cell BK132.out 6).trans rfl, (blk_cell BK132.out 7).trans rfl, (blk_cell BK132.out 8).trans rfl, (blk_cell BK132.out 9).trans rfl, (blk_cell BK132.out 10).trans rfl, (blk_cell BK132.out 11).trans rfl, ((HB.out.cell (World.block_lt_of_cell? w _ hw137_0)).trans hw137_0), ((HB.out.cell (World.block_lt_of_cell? w _ hw137_1)).trans hw137_1), ((HB.out.cell (World.block_lt_of_cell? w _ hw137_2)).trans hw137_2), ((HB.out.cell (World.block_lt_of_cell? w _ hw137_3)).trans hw137_3), ((HB.out.cell (World.block_lt_of_cell? w _ hw137_4)).trans hw137_4), ((HB.out.cell (World.block_lt_of_cell? w _ hw137_5)).trans hw137_5), ((HB.out.cell (World.block_lt_of_cell? w _ hw137_6)).trans hw137_6), ((HB.out.cell (World.block_lt_of_cell? w _ hw137_7)).trans hw137_7), ((HB.out.cell (World.block_lt_of_cell? w _ hw137_8)).trans hw137_8), ((HB.out.cell (World.block_lt_of_cell? w _ hw137_9)).trans hw137_9), ((HB.out.cell (World.block_lt_of_cell? w _ hw137_10)).trans hw137_10), ((HB.out.cell (World.block_lt_of_cell? w _ hw137_11)).trans hw137_11)⟩ (fun hHeld => ?_)
                      clear hK K
                      refine norm_ (a' := ?_) ?_ ?_
                      rotate_left
                      · show Act.put _ (some 54) _ = _
                        simp only [Act.put, List.setIfInBounds_toArray, List.set_cons_zero, List.set_cons_succ, i64_w, i32_w]
                        rfl
                      refine pure_ (i := 7) (N := some 55) (v := ?_) (a' := ?_) #[true, true, true, true, true, true, true, true] rfl rfl (any_of HT_.out (by kernel_rfl)) (fun _ _ _ h => h) (Or.inl ⟨by rfl, ?_⟩) ?_ ?_
                      rotate_left
                      · intro w'
                        go_simp
                        with_reducible rfl
                      rotate_left
                      · simp only [Act.put, List.setIfInBounds_toArray, List.set_cons_zero, List.set_cons_succ, i64_w, i32_w]
                        rfl
                      refine done_ (done_of HT_.out (by kernel_rfl)) ?_
                      try go_wp2
                      go_roundg k2
                      case measure => have := HJ2.out; have := HK2.out; omega
                      case rel => exact ⟨(wrap64 (x43_2 + 1)), (by first | rfl | (simp; done) | (simp [*]; done)), H', ⟨by have := HJ2.out; have := HK2.out; omega⟩, ⟨by (with_reducible repeat (first | refine blk_drewN ?_ _ | refine blk_drew ?_ | refine blk_alloc ?_ _)); exact BK131.out⟩, ⟨by (with_reducible repeat (first | refine blk_drewN ?_ _ | refine blk_drew ?_ | refine blk_alloc ?_ _)); exact BK132.out⟩, ⟨by repeat (first | (with_reducible first | exact HB.out | apply below_alloc | apply pw_below_drewN | apply below_drew1 | refine below_set ?_ GE131.out | refine below_set ?_ GE132.out | refine below_set ?_ GE136.out) | exact HB.out)⟩⟩
                    · replace c27 := Bool.eq_false_iff.mpr c27
                      subst c27
                      have H1 : (some false) = some r := by rw [if_neg (show ¬ (false = true) by decide)] at H; exact H
                      clear H
                      have H := H1
                      clear H1
                      obtain rfl := Option.some.inj H
                      have p135 : 0 ≤ (x43_2 : Int) := of_decide_eq_true (by first | (with_reducible assumption) | assumption)
                      have q135 : x43_2 < (l0_11.length : Int) := of_decide_eq_true (by first | (with_reducible assumption) | assumption)
                      obtain ⟨ad135, A135_11, c135_11, e135, hx135_0, hx135_1, hx135_2, hx135_3, hx135_4, hx135_5, hx135_6, hx135_7, hx135_8, hx135_9, hx135_10, hx135_11, hl135_11, hi135_11⟩ := at_T25 HR0_11.out x43_2 p135 q135
                      cases e135
                      replace hx135_0 := (HB.out.cell (World.block_lt_of_cell? w _ hx135_0)).trans hx135_0
                      replace hx135_1 := (HB.out.cell (World.block_lt_of_cell? w _ hx135_1)).trans hx135_1
                      replace hx135_2 := (HB.out.cell (World.block_lt_of_cell? w _ hx135_2)).trans hx135_2
                      replace hx135_3 := (HB.out.cell (World.block_lt_of_cell? w _ hx135_3)).trans hx135_3
                      replace hx135_4 := (HB.out.cell (World.block_lt_of_cell? w _ hx135_4)).trans hx135_4
                      replace hx135_5 := (HB.out.cell (World.block_lt_of_cell? w _ hx135_5)).trans hx135_5
                      replace hx135_6 := (HB.out.cell (World.block_lt_of_cell? w _ hx135_6)).trans hx135_6
                      replace hx135_7 := (HB.out.cell (World.block_lt_of_cell? w _ hx135_7)).trans hx135_7
                      replace hx135_8 := (HB.out.cell (World.block_lt_of_cell? w _ hx135_8)).trans hx135_8
                      replace hx135_9 := (HB.out.cell (World.block_lt_of_cell? w _ hx135_9)).trans hx135_9
                      replace hx135_10 := (HB.out.cell (World.block_lt_of_cell? w _ hx135_10)).trans hx135_10
                      replace hx135_11 := (HB.out.cell (World.block_lt_of_cell? w _ hx135_11)).trans hx135_11
                      have HR135_11 := Aside0.mk hi135_11
                      have HC135_11 := Aside0.mk hl135_11
                      clear hi135_11 hl135_11
                      replace p135 := eq_true p135
                      replace q135 := eq_true q135
                      try go_wp2_with (first | ((with_reducible refine gate_dst (N := 6) rfl ?_); (try (refine gate_guard (by rfl) ?_; dsimp only)); refine box_event ?hg (N := 6) ?hd (cs := #[.int .i64 0, .int .i64 0, .string (⟨#[]⟩ : ByteArray), .string (⟨#[]⟩ : ByteArray), .string (⟨#[]⟩ : ByteArray), .string (⟨#[]⟩ : ByteArray), .string (⟨#[]⟩ : ByteArray), .string (⟨#[]⟩ : ByteArray), .int .i64 0, .int .i64 0, .int .i64 0, .slice none 0 0]) (t := 25) ?hr ?_; (case hd => rfl); (case hg => rfl); (case hr => first | (go_simp; done) | (go_simp; rfl)); intro gb136 hg w35 hbox hb; have n0_ := Aside0.mk (blk_below (g := gb131) (o := .cells #[.int .i64 a0_0, .int .i64 a0_1, .string a0_2, .string a0_3, .string a0_4, .string a0_5, .string a0_6, .string a0_7, .int .i64 a0_8, .int .i64 a0_9, .int .i64 a0_10, .slice (some ad135) l0_11.length c0_11] 25 (0, 0)) (by (with_reducible repeat (first | refine blk_drewN ?_ _ | refine blk_drew ?_ | refine blk_alloc ?_ _)); exact BK131.out) hb); have n1_ := Aside0.mk (blk_below (g := gb132) (o := .cells #[.int .i64 a1_0, .int .i64 a1_1, .string a1_2, .string a1_3, .string a1_4, .string a1_5, .string a1_6, .string a1_7, .int .i64 a1_8, .int .i64 a1_9, .int .i64 a1_10, .slice A1_11 l1_11.length c1_11] 25 (0, 0)) (by (with_reducible repeat (first | refine blk_drewN ?_ _ | refine blk_drew ?_ | refine blk_alloc ?_ _)); exact BK132.out) hb); have n2_ := Aside0.mk (below_step (by repeat (first | (with_reducible first | exact HB.out | apply below_alloc | apply pw_below_drewN | apply below_drew1 | refine below_set ?_ GE131.out | refine below_set ?_ GE132.out) | exact HB.out)) hb); have n3_ := Aside0.mk (hbox); have n4_ := Aside0.mk ((by rw [hg]; exact (below_size (by repeat (first | (with_reducible first | exact HB.out | apply below_alloc | apply pw_below_drewN | apply below_drew1 | refine below_set ?_ GE131.out | refine below_set ?_ GE132.out) | exact HB.out))) : w.heap.size ≤ gb136)); have n5_ := Aside0.mk ((by rw [hg]; exact (below_size (by repeat (first | (with_reducible first | exact HB.out | apply below_alloc | apply pw_below_drewN | apply below_drew1 | refine below_set ?_ GE131.out | refine below_set ?_ GE132.out) | exact HB.out))) : w.heap.size ≤ gb136)); have n6_ := Aside0.mk ((by rw [hg]; exact Nat.ne_of_lt (blk_lt (g := gb131) (o := .cells #[.int .i64 a0_0, .int .i64 a0_1, .string a0_2, .string a0_3, .string a0_4, .string a0_5, .string a0_6, .string a0_7, .int .i64 a0_8, .int .i64 a0_9, .int .i64 a0_10, .slice (some ad135) l0_11.length c0_11] 25 (0, 0)) (by (with_reducible repeat (first | refine blk_drewN ?_ _ | refine blk_drew ?_ | refine blk_alloc ?_ _)); exact BK131.out)) : gb131 ≠ gb136)); have n7_ := Aside0.mk ((by rw [hg]; exact Nat.ne_of_gt (blk_lt (g := gb131) (o := .cells #[.int .i64 a0_0, .int .i64 a0_1, .string a0_2, .string a0_3, .string a0_4, .string a0_5, .string a0_6, .string a0_7, .int .i64 a0_8, .int .i64 a0_9, .int .i64 a0_10, .slice (some ad135) l0_11.length c0_11] 25 (0, 0)) (by (with_reducible repeat (first | refine blk_drewN ?_ _ | refine blk_drew ?_ | refine blk_alloc ?_ _)); exact BK131.out)) : gb136 ≠ gb131)); have n8_ := Aside0.mk ((by rw [hg]; exact Nat.ne_of_lt (blk_lt (g := gb132) (o := .cells #[.int .i64 a1_0, .int .i64 a1_1, .string a1_2, .string a1_3, .string a1_4, .string a1_5, .string a1_6, .string a1_7, .int .i64 a1_8, .int .i64 a1_9, .int .i64 a1_10, .slice A1_11 l1_11.length c1_11] 25 (0, 0)) (by (with_reducible repeat (first | refine blk_drewN ?_ _ | refine blk_drew ?_ | refine blk_alloc ?_ _)); exact BK132.out)) : gb132 ≠ gb136)); have n9_ := Aside0.mk ((by rw [hg]; exact Nat.ne_of_gt (blk_lt (g := gb132) (o := .cells #[.int .i64 a1_0, .int .i64 a1_1, .string a1_2, .string a1_3, .string a1_4, .string a1_5, .string a1_6, .string a1_7, .int .i64 a1_8, .int .i64 a1_9, .int .i64 a1_10, .slice A1_11 l1_11.length c1_11] 25 (0, 0)) (by (with_reducible repeat (first | refine blk_drewN ?_ _ | refine blk_drew ?_ | refine blk_alloc ?_ _)); exact BK132.out)) : gb136 ≠ gb132)); clear BK131; clear BK132; clear HB; have BK131 := n0_; have BK132 := n1_; have HB := n2_; have BK136 := n3_; have GW136 := n4_; have GE136 := n5_; have NB131_136 := n6_; have NB136_131 := n7_; have NB132_136 := n8_; have NB136_132 := n9_; clear n0_ n1_ n2_ n3_ n4_ n5_ n6_ n7_ n8_ n9_; clear hb hbox hg; have hnb36 := NB136_131.out; have hnc36 := NB131_136.out; have hnb37 := NB136_132.out; have hnc37 := NB132_136.out; have hcz38_0 : w35.cell? ⟨gb136, 0, none⟩ = some (.int .i64 0) := (blk_cell BK136.out 0).trans rfl; have hcz38_1 : w35.cell? ⟨gb136, 1, none⟩ = some (.int .i64 0) := (blk_cell BK136.out 1).trans rfl; have hcz38_2 : w35.cell? ⟨gb136, 2, none⟩ = some (.string (⟨#[]⟩ : ByteArray)) := (blk_cell BK136.out 2).trans rfl; have hcz38_3 : w35.cell? ⟨gb136, 3, none⟩ = some (.string (⟨#[]⟩ : ByteArray)) := (blk_cell BK136.out 3).trans rfl; have hcz38_4 : w35.cell? ⟨gb136, 4, none⟩ = some (.string (⟨#[]⟩ : ByteArray)) := (blk_cell BK136.out 4).trans rfl; have hcz38_5 : w35.cell? ⟨gb136, 5, none⟩ = some (.string (⟨#[]⟩ : ByteArray)) := (blk_cell BK136.out 5).trans rfl; have hcz38_6 : w35.cell? ⟨gb136, 6, none⟩ = some (.string (⟨#[]⟩ : ByteArray)) := (blk_cell BK136.out 6).trans rfl; have hcz38_7 : w35.cell? ⟨gb136, 7, none⟩ = some (.string (⟨#[]⟩ : ByteArray)) := (blk_cell BK136.out 7).trans rfl; have hcz38_8 : w35.cell? ⟨gb136, 8, none⟩ = some (.int .i64 0) := (blk_cell BK136.out 8).trans rfl; have hcz38_9 : w35.cell? ⟨gb136, 9, none⟩ = some (.int .i64 0) := (blk_cell BK136.out 9).trans rfl; have hcz38_10 : w35.cell? ⟨gb136, 10, none⟩ = some (.int .i64 0) := (blk_cell BK136.out 10).trans rfl; have hcz38_11 : w35.cell? ⟨gb136, 11, none⟩ = some (.slice none 0 0) := (blk_cell BK136.out 11).trans rfl; have hfz38_0 := blk_frozen BK136.out 0; have hfz38_1 := blk_frozen BK136.out 1; have hfz38_2 := blk_frozen BK136.out 2; have hfz38_3 := blk_frozen BK136.out 3; have hfz38_4 := blk_frozen BK136.out 4; have hfz38_5 := blk_frozen BK136.out 5; have hfz38_6 := blk_frozen BK136.out 6; have hfz38_7 := blk_frozen BK136.out 7; have hfz38_8 := blk_frozen BK136.out 8; have hfz38_9 := blk_frozen BK136.out 9; have hfz38_10 := blk_frozen BK136.out 10; have hfz38_11 := blk_frozen BK136.out 11))
                      have n0_ : Aside0 (((((((((((((w35.setCell ⟨gb136, 0, none⟩ (.int .i64 ((rd_T25 l0_11 x43_2).f0))).setCell ⟨gb136, 1, none⟩ (.int .i64 ((rd_T25 l0_11 x43_2).f1))).setCell ⟨gb136, 2, none⟩ (.string ((rd_T25 l0_11 x43_2).f2))).setCell ⟨gb136, 3, none⟩ (.string ((rd_T25 l0_11 x43_2).f3))).setCell ⟨gb136, 4, none⟩ (.string ((rd_T25 l0_11 x43_2).f4))).setCell ⟨gb136, 5, none⟩ (.string ((rd_T25 l0_11 x43_2).f5))).setCell ⟨gb136, 6, none⟩ (.string ((rd_T25 l0_11 x43_2).f6))).setCell ⟨gb136, 7, none⟩ (.string ((rd_T25 l0_11 x43_2).f7))).setCell ⟨gb136, 8, none⟩ (.int .i64 ((rd_T25 l0_11 x43_2).f8))).setCell ⟨gb136, 9, none⟩ (.int .i64 ((rd_T25 l0_11 x43_2).f9))).setCell ⟨gb136, 10, none⟩ (.int .i64 ((rd_T25 l0_11 x43_2).f10))).setCell ⟨gb136, 11, none⟩ (.slice A135_11 ((rd_T25 l0_11 x43_2).f11).length c135_11)).heap[gb131]? = some (.cells #[.int .i64 a0_0, .int .i64 a0_1, .string a0_2, .string a0_3, .string a0_4, .string a0_5, .string a0_6, .string a0_7, .int .i64 a0_8, .int .i64 a0_9, .int .i64 a0_10, .slice (some ad135) l0_11.length c0_11] 25 (0, 0))) := ⟨by (with_reducible repeat (first | refine blk_drewN ?_ _ | refine blk_drew ?_ | refine blk_alloc ?_ _)); refine blk_far ?_ NB131_136.out _; (with_reducible repeat (first | refine blk_drewN ?_ _ | refine blk_drew ?_ | refine blk_alloc ?_ _)); refine blk_far ?_ NB131_136.out _; (with_reducible repeat (first | refine blk_drewN ?_ _ | refine blk_drew ?_ | refine blk_alloc ?_ _)); refine blk_far ?_ NB131_136.out _; (with_reducible repeat (first | refine blk_drewN ?_ _ | refine blk_drew ?_ | refine blk_alloc ?_ _)); refine blk_far ?_ NB131_136.out _; (with_reducible repeat (first | refine blk_drewN ?_ _ | refine blk_drew ?_ | refine blk_alloc ?_ _)); refine blk_far ?_ NB131_136.out _; (with_reducible repeat (first | refine blk_drewN ?_ _ | refine blk_drew ?_ | refine blk_alloc ?_ _)); refine blk_far ?_ NB131_136.out _; (with_reducible repeat (first | refine blk_drewN ?_ _ | refine blk_drew ?_ | refine blk_alloc ?_ _)); refine blk_far ?_ NB131_136.out _; (with_reducible repeat (first | refine blk_drewN ?_ _ | refine blk_drew ?_ | refine blk_alloc ?_ _)); refine blk_far ?_ NB131_136.out _; (with_reducible repeat (first | refine blk_drewN ?_ _ | refine blk_drew ?_ | refine blk_alloc ?_ _)); refine blk_far ?_ NB131_136.out _; (with_reducible repeat (first | refine blk_drewN ?_ _ | refine blk_drew ?_ | refine blk_alloc ?_ _)); refine blk_far ?_ NB131_136.out _; (with_reducible repeat (first | refine blk_drewN ?_ _ | refine blk_drew ?_ | refine blk_alloc ?_ _)); refine blk_far ?_ NB131_136.out _; (with_reducible repeat (first | refine blk_drewN ?_ _ | refine blk_drew ?_ | refine blk_alloc ?_ _)); refine blk_far ?_ NB131_136.out _; (with_reducible repeat (first | refine blk_drewN ?_ _ | refine blk_drew ?_ | refine blk_alloc ?_ _)); exact BK131.out⟩
                      have n1_ : Aside0 (((((((((((((w35.setCell ⟨gb136, 0, none⟩ (.int .i64 ((rd_T25 l0_11 x43_2).f0))).setCell ⟨gb136, 1, none⟩ (.int .i64 ((rd_T25 l0_11 x43_2).f1))).setCell ⟨gb136, 2, none⟩ (.string ((rd_T25 l0_11 x43_2).f2))).setCell ⟨gb136, 3, none⟩ (.string ((rd_T25 l0_11 x43_2).f3))).setCell ⟨gb136, 4, none⟩ (.string ((rd_T25 l0_11 x43_2).f4))).setCell ⟨gb136, 5, none⟩ (.string ((rd_T25 l0_11 x43_2).f5))).setCell ⟨gb136, 6, none⟩ (.string ((rd_T25 l0_11 x43_2).f6))).setCell ⟨gb136, 7, none⟩ (.string ((rd_T25 l0_11 x43_2).f7))).setCell ⟨gb136, 8, none⟩ (.int .i64 ((rd_T25 l0_11 x43_2).f8))).setCell ⟨gb136, 9, none⟩ (.int .i64 ((rd_T25 l0_11 x43_2).f9))).setCell ⟨gb136, 10, none⟩ (.int .i64 ((rd_T25 l0_11 x43_2).f10))).setCell ⟨gb136, 11, none⟩ (.slice A135_11 ((rd_T25 l0_11 x43_2).f11).length c135_11)).heap[gb132]? = some (.cells #[.int .i64 a1_0, .int .i64 a1_1, .string a1_2, .string a1_3, .string a1_4, .string a1_5, .string a1_6, .string a1_7, .int .i64 a1_8, .int .i64 a1_9, .int .i64 a1_10, .slice A1_11 l1_11.length c1_11] 25 (0, 0))) := ⟨by (with_reducible repeat (first | refine blk_drewN ?_ _ | refine blk_drew ?_ | refine blk_alloc ?_ _)); refine blk_far ?_ NB132_136.out _; (with_reducible repeat (first | refine blk_drewN ?_ _ | refine blk_drew ?_ | refine blk_alloc ?_ _)); refine blk_far ?_ NB132_136.out _; (with_reducible repeat (first | refine blk_drewN ?_ _ | refine blk_drew ?_ | refine blk_alloc ?_ _)); refine blk_far ?_ NB132_136.out _; (with_reducible repeat (first | refine blk_drewN ?_ _ | refine blk_drew ?_ | refine blk_alloc ?_ _)); refine blk_far ?_ NB132_136.out _; (with_reducible repeat (first | refine blk_drewN ?_ _ | refine blk_drew ?_ | refine blk_alloc ?_ _)); refine blk_far ?_ NB132_136.out _; (with_reducible repeat (first | refine blk_drewN ?_ _ | refine blk_drew ?_ | refine blk_alloc ?_ _)); refine blk_far ?_ NB132_136.out _; (with_reducible repeat (first | refine blk_drewN ?_ _ | refine blk_drew ?_ | refine blk_alloc ?_ _)); refine blk_far ?_ NB132_136.out _; (with_reducible repeat (first | refine blk_drewN ?_ _ | refine blk_drew ?_ | refine blk_alloc ?_ _)); refine blk_far ?_ NB132_136.out _; (with_reducible repeat (first | refine blk_drewN ?_ _ | refine blk_drew ?_ | refine blk_alloc ?_ _)); refine blk_far ?_ NB132_136.out _; (with_reducible repeat (first | refine blk_drewN ?_ _ | refine blk_drew ?_ | refine blk_alloc ?_ _)); refine blk_far ?_ NB132_136.out _; (with_reducible repeat (first | refine blk_drewN ?_ _ | refine blk_drew ?_ | refine blk_alloc ?_ _)); refine blk_far ?_ NB132_136.out _; (with_reducible repeat (first | refine blk_drewN ?_ _ | refine blk_drew ?_ | refine blk_alloc ?_ _)); refine blk_far ?_ NB132_136.out _; (with_reducible repeat (first | refine blk_drewN ?_ _ | refine blk_drew ?_ | refine blk_alloc ?_ _)); exact BK132.out⟩
                      have n2_ : Aside0 (((((((((((((w35.setCell ⟨gb136, 0, none⟩ (.int .i64 ((rd_T25 l0_11 x43_2).f0))).setCell ⟨gb136, 1, none⟩ (.int .i64 ((rd_T25 l0_11 x43_2).f1))).setCell ⟨gb136, 2, none⟩ (.string ((rd_T25 l0_11 x43_2).f2))).setCell ⟨gb136, 3, none⟩ (.string ((rd_T25 l0_11 x43_2).f3))).setCell ⟨gb136, 4, none⟩ (.string ((rd_T25 l0_11 x43_2).f4))).setCell ⟨gb136, 5, none⟩ (.string ((rd_T25 l0_11 x43_2).f5))).setCell ⟨gb136, 6, none⟩ (.string ((rd_T25 l0_11 x43_2).f6))).setCell ⟨gb136, 7, none⟩ (.string ((rd_T25 l0_11 x43_2).f7))).setCell ⟨gb136, 8, none⟩ (.int .i64 ((rd_T25 l0_11 x43_2).f8))).setCell ⟨gb136, 9, none⟩ (.int .i64 ((rd_T25 l0_11 x43_2).f9))).setCell ⟨gb136, 10, none⟩ (.int .i64 ((rd_T25 l0_11 x43_2).f10))).setCell ⟨gb136, 11, none⟩ (.slice A135_11 ((rd_T25 l0_11 x43_2).f11).length c135_11)).heap[gb136]? = some (.cells #[.int .i64 ((rd_T25 l0_11 x43_2).f0), .int .i64 ((rd_T25 l0_11 x43_2).f1), .string ((rd_T25 l0_11 x43_2).f2), .string ((rd_T25 l0_11 x43_2).f3), .string ((rd_T25 l0_11 x43_2).f4), .string ((rd_T25 l0_11 x43_2).f5), .string ((rd_T25 l0_11 x43_2).f6), .string ((rd_T25 l0_11 x43_2).f7), .int .i64 ((rd_T25 l0_11 x43_2).f8), .int .i64 ((rd_T25 l0_11 x43_2).f9), .int .i64 ((rd_T25 l0_11 x43_2).f10), .slice A135_11 ((rd_T25 l0_11 x43_2).f11).length c135_11] 25 (0, 0))) := ⟨by (with_reducible repeat (first | refine blk_drewN ?_ _ | refine blk_drew ?_ | refine blk_alloc ?_ _)); refine blk_put (cs := #[.int .i64 ((rd_T25 l0_11 x43_2).f0), .int .i64 ((rd_T25 l0_11 x43_2).f1), .string ((rd_T25 l0_11 x43_2).f2), .string ((rd_T25 l0_11 x43_2).f3), .string ((rd_T25 l0_11 x43_2).f4), .string ((rd_T25 l0_11 x43_2).f5), .string ((rd_T25 l0_11 x43_2).f6), .string ((rd_T25 l0_11 x43_2).f7), .int .i64 ((rd_T25 l0_11 x43_2).f8), .int .i64 ((rd_T25 l0_11 x43_2).f9), .int .i64 ((rd_T25 l0_11 x43_2).f10), .slice none 0 0]) ?_ 11 _ rfl; (with_reducible repeat (first | refine blk_drewN ?_ _ | refine blk_drew ?_ | refine blk_alloc ?_ _)); refine blk_put (cs := #[.int .i64 ((rd_T25 l0_11 x43_2).f0), .int .i64 ((rd_T25 l0_11 x43_2).f1), .string ((rd_T25 l0_11 x43_2).f2), .string ((rd_T25 l0_11 x43_2).f3), .string ((rd_T25 l0_11 x43_2).f4), .string ((rd_T25 l0_11 x43_2).f5), .string ((rd_T25 l0_11 x43_2).f6), .string ((rd_T25 l0_11 x43_2).f7), .int .i64 ((rd_T25 l0_11 x43_2).f8), .int .i64 ((rd_T25 l0_11 x43_2).f9), .int .i64 0, .slice none 0 0]) ?_ 10 _ rfl; (with_reducible repeat (first | refine blk_drewN ?_ _ | refine blk_drew ?_ | refine blk_alloc ?_ _)); refine blk_put (cs := #[.int .i64 ((rd_T25 l0_11 x43_2).f0), .int .i64 ((rd_T25 l0_11 x43_2).f1), .string ((rd_T25 l0_11 x43_2).f2), .string ((rd_T25 l0_11 x43_2).f3), .string ((rd_T25 l0_11 x43_2).f4), .string ((rd_T25 l0_11 x43_2).f5), .string ((rd_T25 l0_11 x43_2).f6), .string ((rd_T25 l0_11 x43_2).f7), .int .i64 ((rd_T25 l0_11 x43_2).f8), .int .i64 0, .int .i64 0, .slice none 0 0]) ?_ 9 _ rfl; (with_reducible repeat (first | refine blk_drewN ?_ _ | refine blk_drew ?_ | refine blk_alloc ?_ _)); refine blk_put (cs := #[.int .i64 ((rd_T25 l0_11 x43_2).f0), .int .i64 ((rd_T25 l0_11 x43_2).f1), .string ((rd_T25 l0_11 x43_2).f2), .string ((rd_T25 l0_11 x43_2).f3), .string ((rd_T25 l0_11 x43_2).f4), .string ((rd_T25 l0_11 x43_2).f5), .string ((rd_T25 l0_11 x43_2).f6), .string ((rd_T25 l0_11 x43_2).f7), .int .i64 0, .int .i64 0, .int .i64 0, .slice none 0 0]) ?_ 8 _ rfl; (with_reducible repeat (first | refine blk_drewN ?_ _ | refine blk_drew ?_ | refine blk_alloc ?_ _)); refine blk_put (cs := #[.int .i64 ((rd_T25 l0_11 x43_2).f0), .int .i64 ((rd_T25 l0_11 x43_2).f1), .string ((rd_T25 l0_11 x43_2).f2), .string ((rd_T25 l0_11 x43_2).f3), .string ((rd_T25 l0_11 x43_2).f4), .string ((rd_T25 l0_11 x43_2).f5), .string ((rd_T25 l0_11 x43_2).f6), .string (⟨#[]⟩ : ByteArray), .int .i64 0, .int .i64 0, .int .i64 0, .slice none 0 0]) ?_ 7 _ rfl; (with_reducible repeat (first | refine blk_drewN ?_ _ | refine blk_drew ?_ | refine blk_alloc ?_ _)); refine blk_put (cs := #[.int .i64 ((rd_T25 l0_11 x43_2).f0), .int .i64 ((rd_T25 l0_11 x43_2).f1), .string ((rd_T25 l0_11 x43_2).f2), .string ((rd_T25 l0_11 x43_2).f3), .string ((rd_T25 l0_11 x43_2).f4), .string ((rd_T25 l0_11 x43_2).f5), .string (⟨#[]⟩ : ByteArray), .string (⟨#[]⟩ : ByteArray), .int .i64 0, .int .i64 0, .int .i64 0, .slice none 0 0]) ?_ 6 _ rfl; (with_reducible repeat (first | refine blk_drewN ?_ _ | refine blk_drew ?_ | refine blk_alloc ?_ _)); refine blk_put (cs := #[.int .i64 ((rd_T25 l0_11 x43_2).f0), .int .i64 ((rd_T25 l0_11 x43_2).f1), .string ((rd_T25 l0_11 x43_2).f2), .string ((rd_T25 l0_11 x43_2).f3), .string ((rd_T25 l0_11 x43_2).f4), .string (⟨#[]⟩ : ByteArray), .string (⟨#[]⟩ : ByteArray), .string (⟨#[]⟩ : ByteArray), .int .i64 0, .int .i64 0, .int .i64 0, .slice none 0 0]) ?_ 5 _ rfl; (with_reducible repeat (first | refine blk_drewN ?_ _ | refine blk_drew ?_ | refine blk_alloc ?_ _)); refine blk_put (cs := #[.int .i64 ((rd_T25 l0_11 x43_2).f0), .int .i64 ((rd_T25 l0_11 x43_2).f1), .string ((rd_T25 l0_11 x43_2).f2), .string ((rd_T25 l0_11 x43_2).f3), .string (⟨#[]⟩ : ByteArray), .string (⟨#[]⟩ : ByteArray), .string (⟨#[]⟩ : ByteArray), .string (⟨#[]⟩ : ByteArray), .int .i64 0, .int .i64 0, .int .i64 0, .slice none 0 0]) ?_ 4 _ rfl; (with_reducible repeat (first | refine blk_drewN ?_ _ | refine blk_drew ?_ | refine blk_alloc ?_ _)); refine blk_put (cs := #[.int .i64 ((rd_T25 l0_11 x43_2).f0), .int .i64 ((rd_T25 l0_11 x43_2).f1), .string ((rd_T25 l0_11 x43_2).f2), .string (⟨#[]⟩ : ByteArray), .string (⟨#[]⟩ : ByteArray), .string (⟨#[]⟩ : ByteArray), .string (⟨#[]⟩ : ByteArray), .string (⟨#[]⟩ : ByteArray), .int .i64 0, .int .i64 0, .int .i64 0, .slice none 0 0]) ?_ 3 _ rfl; (with_reducible repeat (first | refine blk_drewN ?_ _ | refine blk_drew ?_ | refine blk_alloc ?_ _)); refine blk_put (cs := #[.int .i64 ((rd_T25 l0_11 x43_2).f0), .int .i64 ((rd_T25 l0_11 x43_2).f1), .string (⟨#[]⟩ : ByteArray), .string (⟨#[]⟩ : ByteArray), .string (⟨#[]⟩ : ByteArray), .string (⟨#[]⟩ : ByteArray), .string (⟨#[]⟩ : ByteArray), .string (⟨#[]⟩ : ByteArray), .int .i64 0, .int .i64 0, .int .i64 0, .slice none 0 0]) ?_ 2 _ rfl; (with_reducible repeat (first | refine blk_drewN ?_ _ | refine blk_drew ?_ | refine blk_alloc ?_ _)); refine blk_put (cs := #[.int .i64 ((rd_T25 l0_11 x43_2).f0), .int .i64 0, .string (⟨#[]⟩ : ByteArray), .string (⟨#[]⟩ : ByteArray), .string (⟨#[]⟩ : ByteArray), .string (⟨#[]⟩ : ByteArray), .string (⟨#[]⟩ : ByteArray), .string (⟨#[]⟩ : ByteArray), .int .i64 0, .int .i64 0, .int .i64 0, .slice none 0 0]) ?_ 1 _ rfl; (with_reducible repeat (first | refine blk_drewN ?_ _ | refine blk_drew ?_ | refine blk_alloc ?_ _)); refine blk_put (cs := #[.int .i64 0, .int .i64 0, .string (⟨#[]⟩ : ByteArray), .string (⟨#[]⟩ : ByteArray), .string (⟨#[]⟩ : ByteArray), .string (⟨#[]⟩ : ByteArray), .string (⟨#[]⟩ : ByteArray), .string (⟨#[]⟩ : ByteArray), .int .i64 0, .int .i64 0, .int .i64 0, .slice none 0 0]) ?_ 0 _ rfl; (with_reducible repeat (first | refine blk_drewN ?_ _ | refine blk_drew ?_ | refine blk_alloc ?_ _)); exact BK136.out⟩
                      have n3_ : Aside0 (Below w.heap.size w ((((((((((((w35.setCell ⟨gb136, 0, none⟩ (.int .i64 ((rd_T25 l0_11 x43_2).f0))).setCell ⟨gb136, 1, none⟩ (.int .i64 ((rd_T25 l0_11 x43_2).f1))).setCell ⟨gb136, 2, none⟩ (.string ((rd_T25 l0_11 x43_2).f2))).setCell ⟨gb136, 3, none⟩ (.string ((rd_T25 l0_11 x43_2).f3))).setCell ⟨gb136, 4, none⟩ (.string ((rd_T25 l0_11 x43_2).f4))).setCell ⟨gb136, 5, none⟩ (.string ((rd_T25 l0_11 x43_2).f5))).setCell ⟨gb136, 6, none⟩ (.string ((rd_T25 l0_11 x43_2).f6))).setCell ⟨gb136, 7, none⟩ (.string ((rd_T25 l0_11 x43_2).f7))).setCell ⟨gb136, 8, none⟩ (.int .i64 ((rd_T25 l0_11 x43_2).f8))).setCell ⟨gb136, 9, none⟩ (.int .i64 ((rd_T25 l0_11 x43_2).f9))).setCell ⟨gb136, 10, none⟩ (.int .i64 ((rd_T25 l0_11 x43_2).f10))).setCell ⟨gb136, 11, none⟩ (.slice A135_11 ((rd_T25 l0_11 x43_2).f11).length c135_11))) := ⟨by repeat (first | (with_reducible first | exact HB.out | apply below_alloc | apply pw_below_drewN | apply below_drew1 | refine below_set ?_ GE131.out | refine below_set ?_ GE132.out | refine below_set ?_ GE136.out) | exact HB.out)⟩
                      (try clear BK131)
                      (try clear BK132)
                      (try clear BK136)
                      (try clear HB)
                      generalize ((((((((((((w35.setCell ⟨gb136, 0, none⟩ (.int .i64 ((rd_T25 l0_11 x43_2).f0))).setCell ⟨gb136, 1, none⟩ (.int .i64 ((rd_T25 l0_11 x43_2).f1))).setCell ⟨gb136, 2, none⟩ (.string ((rd_T25 l0_11 x43_2).f2))).setCell ⟨gb136, 3, none⟩ (.string ((rd_T25 l0_11 x43_2).f3))).setCell ⟨gb136, 4, none⟩ (.string ((rd_T25 l0_11 x43_2).f4))).setCell ⟨gb136, 5, none⟩ (.string ((rd_T25 l0_11 x43_2).f5))).setCell ⟨gb136, 6, none⟩ (.string ((rd_T25 l0_11 x43_2).f6))).setCell ⟨gb136, 7, none⟩ (.string ((rd_T25 l0_11 x43_2).f7))).setCell ⟨gb136, 8, none⟩ (.int .i64 ((rd_T25 l0_11 x43_2).f8))).setCell ⟨gb136, 9, none⟩ (.int .i64 ((rd_T25 l0_11 x43_2).f9))).setCell ⟨gb136, 10, none⟩ (.int .i64 ((rd_T25 l0_11 x43_2).f10))).setCell ⟨gb136, 11, none⟩ (.slice A135_11 ((rd_T25 l0_11 x43_2).f11).length c135_11)) = w39 at n0_ n1_ n2_ n3_ ⊢
                      have BK131 := n0_
                      have BK132 := n1_
                      have BK136 := n2_
                      have HB := n3_
                      clear n0_ n1_ n2_ n3_
                      have n0_ := Aside0.mk (blk_drew BK131.out)
                      have n1_ := Aside0.mk (blk_drew BK132.out)
                      have n2_ := Aside0.mk (blk_drew BK136.out)
                      have n3_ := Aside0.mk (below_drew1 HB.out)
                      clear BK131
                      clear BK132
                      clear BK136
                      clear HB
                      have BK131 := n0_
                      have BK132 := n1_
                      have BK136 := n2_
                      have HB := n3_
                      clear n0_ n1_ n2_ n3_
                      have p137 : 0 ≤ (x43_2 : Int) := of_decide_eq_true (by first | (with_reducible assumption) | assumption)
                      have q137 : x43_2 < (l1_11.length : Int) := of_decide_eq_true (by first | (with_reducible assumption) | assumption)
                      obtain ⟨ad137, A137_11, c137_11, e137, hx137_0, hx137_1, hx137_2, hx137_3, hx137_4, hx137_5, hx137_6, hx137_7, hx137_8, hx137_9, hx137_10, hx137_11, hl137_11, hi137_11⟩ := at_T25 HR1_11.out x43_2 p137 q137
                      have hw137_11 := hx137_11
                      have hw137_10 := hx137_10
                      have hw137_9 := hx137_9
                      have hw137_8 := hx137_8
                      have hw137_7 := hx137_7
                      have hw137_6 := hx137_6
                      have hw137_5 := hx137_5
                      have hw137_4 := hx137_4
                      have hw137_3 := hx137_3
                      have hw137_2 := hx137_2
                      have hw137_1 := hx137_1
                      have hw137_0 := hx137_0
                      cases e137
                      replace hx137_0 := (HB.out.cell (World.block_lt_of_cell? w _ hx137_0)).trans hx137_0
                      replace hx137_1 := (HB.out.cell (World.block_lt_of_cell? w _ hx137_1)).trans hx137_1
                      replace hx137_2 := (HB.out.cell (World.block_lt_of_cell? w _ hx137_2)).trans hx137_2
                      replace hx137_3 := (HB.out.cell (World.block_lt_of_cell? w _ hx137_3)).trans hx137_3
                      replace hx137_4 := (HB.out.cell (World.block_lt_of_cell? w _ hx137_4)).trans hx137_4
                      replace hx137_5 := (HB.out.cell (World.block_lt_of_cell? w _ hx137_5)).trans hx137_5
                      replace hx137_6 := (HB.out.cell (World.block_lt_of_cell? w _ hx137_6)).trans hx137_6
                      replace hx137_7 := (HB.out.cell (World.block_lt_of_cell? w _ hx137_7)).trans hx137_7
                      replace hx137_8 := (HB.out.cell (World.block_lt_of_cell? w _ hx137_8)).trans hx137_8
                      replace hx137_9 := (HB.out.cell (World.block_lt_of_cell? w _ hx137_9)).trans hx137_9
                      replace hx137_10 := (HB.out.cell (World.block_lt_of_cell? w _ hx137_10)).trans hx137_10
                      replace hx137_11 := (HB.out.cell (World.block_lt_of_cell? w _ hx137_11)).trans hx137_11
                      have HR137_11 := Aside0.mk hi137_11
                      have HC137_11 := Aside0.mk hl137_11
                      clear hi137_11 hl137_11
                      replace p137 := eq_true p137
                      replace q137 := eq_true q137
                      refine start_ (n := 8) (S := fun w' => w'.cell? ⟨gb136, 0, none⟩ = some (.int .i64 ((rd_T25 l0_11 x43_2).f0)) ∧ w'.cell? ⟨gb136, 1, none⟩ = some (.int .i64 ((rd_T25 l0_11 x43_2).f1)) ∧ w'.cell? ⟨gb136, 2, none⟩ = some (.string ((rd_T25 l0_11 x43_2).f2)) ∧ w'.cell? ⟨gb136, 3, none⟩ = some (.string ((rd_T25 l0_11 x43_2).f3)) ∧ w'.cell? ⟨gb136, 4, none⟩ = some (.string ((rd_T25 l0_11 x43_2).f4)) ∧ w'.cell? ⟨gb136, 5, none⟩ = some (.string ((rd_T25 l0_11 x43_2).f5)) ∧ w'.cell? ⟨gb136, 6, none⟩ = some (.string ((rd_T25 l0_11 x43_2).f6)) ∧ w'.cell? ⟨gb136, 7, none⟩ = some (.string ((rd_T25 l0_11 x43_2).f7)) ∧ w'.cell? ⟨gb136, 8, none⟩ = some (.int .i64 ((rd_T25 l0_11 x43_2).f8)) ∧ w'.cell? ⟨gb136, 9, none⟩ = some (.int .i64 ((rd_T25 l0_11 x43_2).f9)) ∧ w'.cell? ⟨gb136, 10, none⟩ = some (.int .i64 ((rd_T25 l0_11 x43_2).f10)) ∧ w'.cell? ⟨gb136, 11, none⟩ = some (.slice A135_11 ((rd_T25 l0_11 x43_2).f11).length c135_11) ∧ w'.cell? ⟨gb132, 0, none⟩ = some (.int .i64 a1_0) ∧ w'.cell? ⟨gb132, 1, none⟩ = some (.int .i64 a1_1) ∧ w'.cell? ⟨gb132, 2, none⟩ = some (.string a1_2) ∧ w'.cell? ⟨gb132, 3, none⟩ = some (.string a1_3) ∧ w'.cell? ⟨gb132, 4, none⟩ = some (.string a1_4) ∧ w'.cell? ⟨gb132, 5, none⟩ = some (.string a1_5) ∧ w'.cell? ⟨gb132, 6, none⟩ = some (.string a1_6) ∧ w'.cell? ⟨gb132, 7, none⟩ = some (.string a1_7) ∧ w'.cell? ⟨gb132, 8, none⟩ = some (.int .i64 a1_8) ∧ w'.cell? ⟨gb132, 9, none⟩ = some (.int .i64 a1_9) ∧ w'.cell? ⟨gb132, 10, none⟩ = some (.int .i64 a1_10) ∧ w'.cell? ⟨gb132, 11, none⟩ = some (.slice (some ad137) l1_11.length c1_11) ∧ w'.cell? (ad137.add ((x43_2).toNat * 12)) = some (.int .i64 ((rd_T25 l1_11 x43_2).f0)) ∧ w'.cell? ⟨(ad137.add ((x43_2).toNat * 12)).block, (ad137.add ((x43_2).toNat * 12)).off + 1, none⟩ = some (.int .i64 ((rd_T25 l1_11 x43_2).f1)) ∧ w'.cell? ⟨(ad137.add ((x43_2).toNat * 12)).block, (ad137.add ((x43_2).toNat * 12)).off + 2, none⟩ = some (.string ((rd_T25 l1_11 x43_2).f2)) ∧ w'.cell? ⟨(ad137.add ((x43_2).toNat * 12)).block, (ad137.add ((x43_2).toNat * 12)).off + 3, none⟩ = some (.string ((rd_T25 l1_11 x43_2).f3)) ∧ w'.cell? ⟨(ad137.add ((x43_2).toNat * 12)).block, (ad137.add ((x43_2).toNat * 12)).off + 4, none⟩ = some (.string ((rd_T25 l1_11 x43_2).f4)) ∧ w'.cell? ⟨(ad137.add ((x43_2).toNat * 12)).block, (ad137.add ((x43_2).toNat * 12)).off + 5, none⟩ = some (.string ((rd_T25 l1_11 x43_2).f5)) ∧ w'.cell? ⟨(ad137.add ((x43_2).toNat * 12)).block, (ad137.add ((x43_2).toNat * 12)).off + 6, none⟩ = some (.string ((rd_T25 l1_11 x43_2).f6)) ∧ w'.cell? ⟨(ad137.add ((x43_2).toNat * 12)).block, (ad137.add ((x43_2).toNat * 12)).off + 7, none⟩ = some (.string ((rd_T25 l1_11 x43_2).f7)) ∧ w'.cell? ⟨(ad137.add ((x43_2).toNat * 12)).block, (ad137.add ((x43_2).toNat * 12)).off + 8, none⟩ = some (.int .i64 ((rd_T25 l1_11 x43_2).f8)) ∧ w'.cell? ⟨(ad137.add ((x43_2).toNat * 12)).block, (ad137.add ((x43_2).toNat * 12)).off + 9, none⟩ = some (.int .i64 ((rd_T25 l1_11 x43_2).f9)) ∧ w'.cell? ⟨(ad137.add ((x43_2).toNat * 12)).block, (ad137.add ((x43_2).toNat * 12)).off + 10, none⟩ = some (.int .i64 ((rd_T25 l1_11 x43_2).f10)) ∧ w'.cell? ⟨(ad137.add ((x43_2).toNat * 12)).block, (ad137.add ((x43_2).toNat * 12)).off + 11, none⟩ = some (.slice A137_11 ((rd_T25 l1_11 x43_2).f11).length c137_11)) (ds := []) #[false, false, false, false, false, false, false, false] (by kernel_rfl) rfl rfl ⟨(blk_cell BK136.out 0).trans rfl, (blk_cell BK136.out 1).trans rfl, (blk_cell BK136.out 2).trans rfl, (blk_cell BK136.out 3).trans rfl, (blk_cell BK136.out 4).trans rfl, (blk_cell BK136.out 5).trans rfl, (blk_cell BK136.out 6).trans rfl, (blk_cell BK136.out 7).trans rfl, (blk_cell BK136.out 8).trans rfl, (blk_cell BK136.out 9).trans rfl, (blk_cell BK136.out 10).trans rfl, (blk_cell BK136.out 11).trans rfl, (blk_cell BK132.out 0).trans rfl, (blk_cell BK132.out 1).trans rfl, (blk_cell BK132.out 2).trans rfl, (blk_cell BK132.out 3).trans rfl, (blk_cell BK132.out 4).trans rfl, (blk_cell BK132.out 5).trans rfl, (blk_cell BK132.out 6).trans rfl, (blk_cell BK132.out 7).trans rfl, (blk_cell BK132.out 8).trans rfl, (blk_cell BK132.out 9).trans rfl, (blk_cell BK132.out 10).trans rfl, (blk_cell BK132.out 11).trans rfl, ((HB.out.cell (World.block_lt_of_cell? w _ hw137_0)).trans hw137_0), ((HB.out.cell (World.block_lt_of_cell? w _ hw137_1)).trans hw137_1), ((HB.out.cell (World.block_lt_of_cell? w _ hw137_2)).trans hw137_2), ((HB.out.cell (World.block_lt_of_cell? w _ hw137_3)).trans hw137_3), ((HB.out.cell (World.block_lt_of_cell? w _ hw137_4)).trans hw137_4), ((HB.out.cell (World.block_lt_of_cell? w _ hw137_5)).trans hw137_5), ((HB.out.cell (World.block_lt_of_cell? w _ hw137_6)).trans hw137_6), ((HB.out.cell (World.block_lt_of_cell? w _ hw137_7)).trans hw137_7), ((HB.out.cell (World.block_lt_of_cell? w _ hw137_8)).trans hw137_8), ((HB.out.cell (World.block_lt_of_cell? w _ hw137_9)).trans hw137_9), ((HB.out.cell (World.block_lt_of_cell? w _ hw137_10)).trans hw137_10), ((HB.out.cell (World.block_lt_of_cell? w _ hw137_11)).trans hw137_11)⟩ (fun hHeld => ?_); refine with_tabW spec_SameTree.tab6 spec_SameTree.bits6 (fun HT_ HW_ => ?_)
                      generalize w39.drew = w40 at BK131 BK132 BK136 HB HR137_11 hx137_0 hx137_1 hx137_10 hx137_11 hx137_2 hx137_3 hx137_4 hx137_5 hx137_6 hx137_7 hx137_8 hx137_9 hHeld ⊢
                      refine pure_ (i := 1) (N := some 49) (v := ?_) (a' := ?_) #[false, true, false, false, false, false, false, false] rfl rfl (any_of HT_.out (by kernel_rfl)) (fun _ _ _ h => h) (Or.inl ⟨by rfl, ?_⟩) ?_ ?_
                      rotate_left
                      · intro w'
                        go_simp
                        with_reducible rfl
                      rotate_left
                      · simp only [Act.put, List.setIfInBounds_toArray, List.set_cons_zero, List.set_cons_succ, i64_w, i32_w]
                        rfl
                      refine pure_ (i := 3) (N := some 51) (v := ?_) (a' := ?_) #[false, true, false, true, false, false, false, false] rfl rfl (any_of HT_.out (by kernel_rfl)) (fun _ _ _ h => h) (Or.inl ⟨by rfl, ?_⟩) ?_ ?_
                      rotate_left
                      · intro w'
                        go_simp
                        with_reducible rfl
                      rotate_left
                      · simp only [Act.put, List.setIfInBounds_toArray, List.set_cons_zero, List.set_cons_succ, i64_w, i32_w]
                        rfl
                      refine take_ (i := 0) (N := some 48) (v := ?_) (a' := ?_) #[true, true, false, true, false, false, false, false] rfl rfl (take_ofW HT_.out HW_.out (by kernel_rfl)) (fun _ _ _ h => h) (Or.inl ⟨by rfl, ?_⟩) hHeld ?_ ?_
                      rotate_left
                      · rintro w' ⟨s0, s1, s2, s3, s4, s5, s6, s7, s8, s9, s10, s11, s12, s13, s14, s15, s16, s17, s18, s19, s20, s21, s22, s23, s24, s25, s26, s27, s28, s29, s30, s31, s32, s33, s34, s35⟩
                        go_simp
                        with_reducible rfl
                      rotate_left
                      · simp only [Act.put, List.setIfInBounds_toArray, List.set_cons_zero, List.set_cons_succ, i64_w, i32_w]
                        rfl
                      refine take_ (i := 2) (N := some 50) (v := ?_) (a' := ?_) #[true, true, true, true, false, false, false, false] rfl rfl (take_ofW HT_.out HW_.out (by kernel_rfl)) (fun _ _ _ h => h) (Or.inl ⟨by rfl, ?_⟩) hHeld ?_ ?_
                      rotate_left
                      · rintro w' ⟨s0, s1, s2, s3, s4, s5, s6, s7, s8, s9, s10, s11, s12, s13, s14, s15, s16, s17, s18, s19, s20, s21, s22, s23, s24, s25, s26, s27, s28, s29, s30, s31, s32, s33, s34, s35⟩
                        go_simp
                        with_reducible rfl
                      rotate_left
                      · simp only [Act.put, List.setIfInBounds_toArray, List.set_cons_zero, List.set_cons_succ, i64_w, i32_w]
                        rfl
                      refine pure_ (i := 4) (N := some 52) (v := ?_) (a' := ?_) #[true, true, true, true, true, false, false, false] rfl rfl (any_of HT_.out (by kernel_rfl)) (fun _ _ _ h => h) (Or.inl ⟨by rfl, ?_⟩) ?_ ?_
                      rotate_left
                      · intro w'
                        go_simp
                        with_reducible rfl
                      rotate_left
                      · simp only [Act.put, List.setIfInBounds_toArray, List.set_cons_zero, List.set_cons_succ, i64_w, i32_w]
                        rfl
                      refine take_ (i := 5) (N := some 53) (v := ?_) (a' := ?_) #[true, true, true, true, true, true, false, false] rfl rfl (take_ofW HT_.out HW_.out (by kernel_rfl)) (fun _ _ _ h => h) (Or.inl ⟨by rfl, ?_⟩) hHeld ?_ ?_
                      rotate_left
                      · rintro w' ⟨s0, s1, s2, s3, s4, s5, s6, s7, s8, s9, s10, s11, s12, s13, s14, s15, s16, s17, s18, s19, s20, s21, s22, s23, s24, s25, s26, s27, s28, s29, s30, s31, s32, s33, s34, s35⟩
                        go_simp
                        with_reducible rfl
                      rotate_left
                      · simp only [Act.put, List.setIfInBounds_toArray, List.set_cons_zero, List.set_cons_succ, i64_w, i32_w]
                        rfl
                      refine one_ (i := 6) (N := some 54) #[true, true, true, true, true, true, true, false] rfl rfl (one_of HT_.out (by kernel_rfl)) (by decide) (fun K hK => ?_)
                      refine goes_ Tryd.func6 (by kernel_rfl) rfl #[.agg #[.int .i64 ((rd_T25 l0_11 x43_2).f0), .int .i64 ((rd_T25 l0_11 x43_2).f1), .string ((rd_T25 l0_11 x43_2).f2), .string ((rd_T25 l0_11 x43_2).f3), .string ((rd_T25 l0_11 x43_2).f4), .string ((rd_T25 l0_11 x43_2).f5), .string ((rd_T25 l0_11 x43_2).f6), .string ((rd_T25 l0_11 x43_2).f7), .int .i64 ((rd_T25 l0_11 x43_2).f8), .int .i64 ((rd_T25 l0_11 x43_2).f9), .int .i64 ((rd_T25 l0_11 x43_2).f10), .slice A135_11 ((rd_T25 l0_11 x43_2).f11).length c135_11], .agg #[.int .i64 ((rd_T25 l1_11 x43_2).f0), .int .i64 ((rd_T25 l1_11 x43_2).f1), .string ((rd_T25 l1_11 x43_2).f2), .string ((rd_T25 l1_11 x43_2).f3), .string ((rd_T25 l1_11 x43_2).f4), .string ((rd_T25 l1_11 x43_2).f5), .string ((rd_T25 l1_11 x43_2).f6), .string ((rd_T25 l1_11 x43_2).f7), .int .i64 ((rd_T25 l1_11 x43_2).f8), .int .i64 ((rd_T25 l1_11 x43_2).f9), .int .i64 ((rd_T25 l1_11 x43_2).f10), .slice A137_11 ((rd_T25 l1_11 x43_2).f11).length c137_11]] (by rfl) rfl rfl (by (try simp only [List.map_toArray, List.map_cons, List.map_nil]); first | done | rfl | (simp only [List.length_drop, List.length_take]; rfl)) ?_
                      with_reducible refine (ih k2 (by have := HJ2.out; have := HK2.out; omega) ((rd_T25 l0_11 x43_2).f0) ((rd_T25 l0_11 x43_2).f1) ((rd_T25 l0_11 x43_2).f2) ((rd_T25 l0_11 x43_2).f3) ((rd_T25 l0_11 x43_2).f4) ((rd_T25 l0_11 x43_2).f5) ((rd_T25 l0_11 x43_2).f6) ((rd_T25 l0_11 x43_2).f7) ((rd_T25 l0_11 x43_2).f8) ((rd_T25 l0_11 x43_2).f9) ((rd_T25 l0_11 x43_2).f10) _ _ ((rd_T25 l0_11 x43_2).f11) ((rd_T25 l1_11 x43_2).f0) ((rd_T25 l1_11 x43_2).f1) ((rd_T25 l1_11 x43_2).f2) ((rd_T25 l1_11 x43_2).f3) ((rd_T25 l1_11 x43_2).f4) ((rd_T25 l1_11 x43_2).f5) ((rd_T25 l1_11 x43_2).f6) ((rd_T25 l1_11 x43_2).f7) ((rd_T25 l1_11 x43_2).f8) ((rd_T25 l1_11 x43_2).f9) ((rd_T25 l1_11 x43_2).f10) _ _ ((rd_T25 l1_11 x43_2).f11) false _ ?side1 ?side2 ?side3 ?side4 A26.out).mono ?_
                      (case side1 => repeat (first | exact (Kd.C_below HR135_11.out HB.out) | (with_reducible refine Kd.C_alloc ?_ _) | (with_reducible refine Kd.C_drewN ?_ _) | (with_reducible refine Kd.C_drew ?_)))
                      (case side2 => exact HC135_11.out)
                      (case side3 => repeat (first | exact (Kd.C_below HR137_11.out HB.out) | (with_reducible refine Kd.C_alloc ?_ _) | (with_reducible refine Kd.C_drewN ?_ _) | (with_reducible refine Kd.C_drew ?_)))
                      (case side4 => exact HC137_11.out)
                      rintro e w41 ⟨rfl, hb⟩
                      refine ⟨_, rfl, ?_⟩
                      have n0_ := Aside0.mk (blk_below (g := gb131) (o := .cells #[.int .i64 a0_0, .int .i64 a0_1, .string a0_2, .string a0_3, .string a0_4, .string a0_5, .string a0_6, .string a0_7, .int .i64 a0_8, .int .i64 a0_9, .int .i64 a0_10, .slice (some ad135) l0_11.length c0_11] 25 (0, 0)) (by (with_reducible repeat (first | refine blk_drewN ?_ _ | refine blk_drew ?_ | refine blk_alloc ?_ _)); exact BK131.out) hb)
                      have n1_ := Aside0.mk (blk_below (g := gb132) (o := .cells #[.int .i64 a1_0, .int .i64 a1_1, .string a1_2, .string a1_3, .string a1_4, .string a1_5, .string a1_6, .string a1_7, .int .i64 a1_8, .int .i64 a1_9, .int .i64 a1_10, .slice (some ad137) l1_11.length c1_11] 25 (0, 0)) (by (with_reducible repeat (first | refine blk_drewN ?_ _ | refine blk_drew ?_ | refine blk_alloc ?_ _)); exact BK132.out) hb)
                      have n2_ := Aside0.mk (blk_below (g := gb136) (o := .cells #[.int .i64 ((rd_T25 l0_11 x43_2).f0), .int .i64 ((rd_T25 l0_11 x43_2).f1), .string ((rd_T25 l0_11 x43_2).f2), .string ((rd_T25 l0_11 x43_2).f3), .string ((rd_T25 l0_11 x43_2).f4), .string ((rd_T25 l0_11 x43_2).f5), .string ((rd_T25 l0_11 x43_2).f6), .string ((rd_T25 l0_11 x43_2).f7), .int .i64 ((rd_T25 l0_11 x43_2).f8), .int .i64 ((rd_T25 l0_11 x43_2).f9), .int .i64 ((rd_T25 l0_11 x43_2).f10), .slice A135_11 ((rd_T25 l0_11 x43_2).f11).length c135_11] 25 (0, 0)) (by (with_reducible repeat (first | refine blk_drewN ?_ _ | refine blk_drew ?_ | refine blk_alloc ?_ _)); exact BK136.out) hb)
                      have n3_ := Aside0.mk (below_step (by repeat (first | (with_reducible first | exact HB.out | apply below_alloc | apply pw_below_drewN | apply below_drew1 | refine below_set ?_ GE131.out | refine below_set ?_ GE132.out | refine below_set ?_ GE136.out) | exact HB.out)) hb)
                      clear BK131
                      clear BK132
                      clear BK136
                      clear HB
                      have BK131 := n0_
                      have BK132 := n1_
                      have BK136 := n2_
                      have HB := n3_
                      clear n0_ n1_ n2_ n3_
                      (try clear hb)
                      (try clear hb2)
                      (try clear hk)
                      (try clear hi)
                      refine hK.out _ _ ⟨(blk_cell BK136.out 0).trans rfl, (blk_cell BK136.out 1).trans rfl, (blk_cell BK136.out 2).trans rfl, (blk_cell BK136.out 3).trans rfl, (blk_cell BK136.out 4).trans rfl, (blk_cell BK136.out 5).trans rfl, (blk_cell BK136.out 6).trans rfl, (blk_cell BK136.out 7).trans rfl, (blk_cell BK136.out 8).trans rfl, (blk_cell BK136.out 9).trans rfl, (blk_cell BK136.out 10).trans rfl, (blk_cell BK136.out 11).trans rfl, (blk_cell BK132.out 0).trans rfl, (blk_cell BK132.out 1).trans rfl, (blk_cell BK132.out 2).trans rfl, (blk_cell BK132.out 3).trans rfl, (blk_cell BK132.out 4).trans rfl, (blk_cell BK132.out 5).trans rfl, (blk_cell BK132.out 6).trans rfl, (blk_cell BK132.out 7).trans rfl, (blk_cell BK132.out 8).trans rfl, (blk_cell BK132.out 9).trans rfl, (blk_cell BK132.out 10).trans rfl, (blk_cell BK132.out 11).trans rfl, ((HB.out.cell (World.block_lt_of_cell? w _ hw137_0)).trans hw137_0), ((HB.out.cell (World.block_lt_of_cell? w _ hw137_1)).trans hw137_1), ((HB.out.cell (World.block_lt_of_cell? w _ hw137_2)).trans hw137_2), ((HB.out.cell (World.block_lt_of_cell? w _ hw137_3)).trans hw137_3), ((HB.out.cell (World.block_lt_of_cell? w _ hw137_4)).trans hw137_4), ((HB.out.cell (World.block_lt_of_cell? w _ hw137_5)).trans hw137_5), ((HB.out.cell (World.block_lt_of_cell? w _ hw137_6)).trans hw137_6), ((HB.out.cell (World.block_lt_of_cell? w _ hw137_7)).trans hw137_7), ((HB.out.cell (World.block_lt_of_cell? w _ hw137_8)).trans hw137_8), ((HB.out.cell (World.block_lt_of_cell? w _ hw137_9)).trans hw137_9), ((HB.out.cell (World.block_lt_of_cell? w _ hw137_10)).trans hw137_10), ((HB.out.cell (World.block_lt_of_cell? w _ hw137_11)).trans hw137_11)⟩ (fun hHeld => ?_)
                      clear hK K
                      refine norm_ (a' := ?_) ?_ ?_
                      rotate_left
                      · show Act.put _ (some 54) _ = _
                        simp only [Act.put, List.setIfInBounds_toArray, List.set_cons_zero, List.set_cons_succ, i64_w, i32_w]
                        rfl
                      refine pure_ (i := 7) (N := some 55) (v := ?_) (a' := ?_) #[true, true, true, true, true, true, true, true] rfl rfl (any_of HT_.out (by kernel_rfl)) (fun _ _ _ h => h) (Or.inl ⟨by rfl, ?_⟩) ?_ ?_
                      rotate_left
                      · intro w'
                        go_simp
                        with_reducible rfl
                      rotate_left
                      · simp only [Act.put, List.setIfInBounds_toArray, List.set_cons_zero, List.set_cons_succ, i64_w, i32_w]
                        rfl
                      refine done_ (done_of HT_.out (by kernel_rfl)) ?_
                      try go_wp2
                      go_ret
                      exact ⟨by first | rfl | (simp [errW_none, errW_some] <;> rfl) | (simp [*, errW_none, errW_some] <;> rfl), by repeat (first | (with_reducible first | exact HB.out | apply below_alloc | apply pw_below_drewN | apply below_drew1 | refine below_set ?_ GE131.out | refine below_set ?_ GE132.out | refine below_set ?_ GE136.out) | exact HB.out)⟩
                  · rw [if_neg c25] at H
                    exact absurd H (by simp)
                · rw [if_neg c24] at H
                  exact absurd H (by simp)
              · rw [if_neg c23] at H
                exact absurd H (by simp)
            · rw [if_neg c22] at H
              have c22b0 : decide (x43_2 < (l0_11.length : Int)) = false := decide_eq_false c22
              clear c22
              obtain rfl := Option.some.inj H
              go_wp2
              go_ret
              exact ⟨by first | rfl | (simp [errW_none, errW_some] <;> rfl) | (simp [*, errW_none, errW_some] <;> rfl), by repeat (first | (with_reducible first | exact HB.out | apply below_alloc | apply pw_below_drewN | apply below_drew1 | refine below_set ?_ GE131.out | refine below_set ?_ GE132.out) | exact HB.out)⟩

end Go.Proofs.YtgdmianocepafaaDoor.PFnTreeOfText
