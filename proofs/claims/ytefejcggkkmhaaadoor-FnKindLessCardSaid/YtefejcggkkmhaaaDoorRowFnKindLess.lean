/- The row of FnKindLess: for every input the law returns true, and each argument reads afterwards as it read before; out of the walk of YtefejcggkkmhaaaDoorHKindLess. -/
import Derived.Test.YtefejcggkkmhaaaDoorRows
import Derived.Test.YtefejcggkkmhaaaDoorHKindLess
import Derived.Test.YtefejcggkkmhaaaDoorOpens
import Derived.WalkKit
import Derived.ProofKit
import Derived.OpenShut
import Derived.ShutString
import Derived.ChangeOld
import Derived.Below
import Derived.SizedLaws
import Derived.LaidMore
import Derived.OpenVars
import Derived.Stop.Joined
import Derived.SevenTiedAt
import Derived.Test.YtefejcggkkmhaaaDoorTie
import Derived.Test.YtefejcggkkmhaaaDoorCards
namespace Go.Proofs.YtefejcggkkmhaaaDoor.fnKindLess
open Go.ChangeShapes Go.WideShapes Go.ChangeAt Go.RowKit Go.Proofs.YtefejcggkkmhaaaDoorW.PrintWords
open Go.ChangeMaps (open_string shut_string)
set_option linter.unusedVariables false
theorem own : ownKnob Tryd.prog.godebug = none := by kernel_rfl
theorem laidOut : laidOutB Tryd.prog = true := by kernel_rfl
/-- The door's own heap meets the condition. -/
theorem door_met (os : Os) (args : Array Value) : laidMetH Tryd.prog Rows.fnKindLessRow.laid ((World.doorLaid Tryd.prog 400 os).forCall (fun _ _ => 0) ⟨#[], args, []⟩).memory :=
  laidMetH_of_parts3 (fuel := 8) (laidMet_of_run' 8 (by kernel_rfl) (by kernel_rfl)) (by kernel_rfl) (by kernel_rfl)
theorem vars_len {H : Type} {enc : TypeId × Value → H} {P : Program} {w : World} {sp : Nat → Bool} : ∀ {ns : List String} {ds : List (DataW H)} {ps : List MemPlace}, DataW.TrodVars enc P w sp ns ds ps → ds.length = ns.length
  | [], [], _, _ => rfl
  | [], _ :: _, _, h => h.elim
  | _ :: _, [], _, h => h.elim
  | _ :: _, _ :: _, _, h => by
    obtain ⟨_, _, _, _, _, _, _, _, _, _, hq, _⟩ := h
    simp [vars_len hq]
set_option maxRecDepth 100000 in
theorem lifted (os : Os) (started : os.Started) (H : Type) (enc : TypeId × Value → H) :
    ReturnsInHanded {} Tryd.checked os 4 .any (fun w args => (Rows.fnKindLessSpec.pre enc Tryd.prog Tryd.f4 [] false w args ∧ laidMetH Tryd.prog Rows.fnKindLessRow.laid w) ∧ sizedMet enc Tryd.prog Tryd.f4 (OpenSpec.ofChange Rows.fnKindLessSpec) false w args)
      (Rows.fnKindLessSpec.post enc Tryd.prog Tryd.f4 false true false false) := by
  refine returnsInHanded_of_change_and (C := Tryd.checked) (X := fun w _ => laidMetH Tryd.prog Rows.fnKindLessRow.laid w) (fun _ _ _ hh h => h.of_heap hh) own started (by kernel_rfl) Tryd.func4
    (ChangeSpec.witness_shaped (enc := enc) (C := Tryd.checked) (os := os) (X := fun w _ => laidMetH Tryd.prog Rows.fnKindLessRow.laid w) false (World.doorLaid Tryd.prog 400 os) #[.string ByteArray.empty, .string ByteArray.empty, .string ByteArray.empty, .bool false] 8 rfl (World.shaped_of_RefB (by kernel_rfl) (by kernel_rfl)) (by kernel_rfl) (by kernel_rfl) (by kernel_rfl) (door_met os _)) ?_
  intro W base args ds gs before hval0 hW hcnd hsz0 hL _
  have hsz : (DataW.weightsEach Tryd.prog (Tryd.f4.params.toList ++ Rows.fnKindLessSpec.plain.varTypes Tryd.prog) (ds ++ gs)).all (· ≤ reachBytes) = true := hsz0
  have hval : ∀ (j : Nat) t v, Tryd.f4.params[j]? = some t → args[j]? = some v → Value.okWide Tryd.prog W .any base t v := hval0
  have hW' := hW
  obtain ⟨p, q, hA0, hV, rfl, hfz, hnd⟩ := hW
  have hA : DataW.TrodAll enc Tryd.prog W 0 (fun _ => true) true Tryd.f4.params.toList args.toList ds p := hA0
  rw [Tryd.params4] at hA hval hsz
  obtain ⟨v0, vs0, d0, ds0, p0, q0, hargs, rfl, rfl, h0, r0⟩ := trodAll_cons hA
  obtain ⟨v1, vs1, d1, ds1, p1, q1, rfl, rfl, rfl, h1, r1⟩ := trodAll_cons r0
  obtain ⟨v2, vs2, d2, ds2, p2, q2, rfl, rfl, rfl, h2, r2⟩ := trodAll_cons r1
  obtain ⟨v3, vs3, d3, ds3, p3, q3, rfl, rfl, rfl, h3, r3⟩ := trodAll_cons r2
  obtain ⟨rfl, rfl, rfl⟩ := trodAll_nil r3
  obtain rfl : args = #[v0, v1, v2, v3] := by cases args; simp_all
  obtain ⟨g0, g1, rfl⟩ : ∃ g0 g1, gs = [g0, g1] := by have hlen := vars_len hV; rcases gs with _ | ⟨_, _ | ⟨_, _ | ⟨_, _⟩⟩⟩ <;> first | exact ⟨_, _, rfl⟩ | simp [Rows.fnKindLessSpec] at hlen
  obtain ⟨a0, rfl, rfl, rfl, y0⟩ := open_string Tryd.underlying9 (hval 0 9 v0 rfl rfl) h0
  have w0 : a0.size ≤ 140737488351232 := by
    have z := sized_string hsz (j := 0) (t := 9) rfl rfl
    rw [Array.length_toList] at z
    exact z
  obtain ⟨a1, rfl, rfl, rfl, y1⟩ := open_string Tryd.underlying9 (hval 1 9 v1 rfl rfl) h1
  have w1 : a1.size ≤ 140737488351232 := by
    have z := sized_string hsz (j := 1) (t := 9) rfl rfl
    rw [Array.length_toList] at z
    exact z
  obtain ⟨a2, rfl, rfl, rfl, y2⟩ := open_string Tryd.underlying9 (hval 2 9 v2 rfl rfl) h2
  have w2 : a2.size ≤ 140737488351232 := by
    have z := sized_string hsz (j := 2) (t := 9) rfl rfl
    rw [Array.length_toList] at z
    exact z
  obtain ⟨a3, rfl, rfl, rfl⟩ := open_bool Tryd.underlying4 (hval 3 4 v3 rfl rfl) h3
  clear hA0 hval0 hsz0 hsz
  refine (HKind.less_row a0 a1 a2 a3 W w0 w1 w2  hL).mono fun e W' ⟨he, bel0⟩ => ?_
  have bel : Below W.heap.size W W' := by first | exact bel0 | exact Drawn0.below ⟨bel0⟩
  subst he
  exact ⟨_, rfl, _, _, _, [], _, _, hW', trodAll_mk1 (shut_bool Tryd.underlying4 _), (trodAll_cons_mk (shut_string Tryd.underlying9 y0) (trodAll_cons_mk (shut_string Tryd.underlying9 y1) (trodAll_cons_mk (shut_string Tryd.underlying9 y2) (trodAll_cons_mk (shut_bool Tryd.underlying4 _) trodAll_mk0)))), Below.trodVars laidOut bel (by kernel_rfl) hV, bel.frame _, fun h => by cases h⟩
theorem over : Rows.fnKindLessRow.holds Tryd.pinned (OpenSpec.ofChange Rows.fnKindLessSpec) :=
  OpenClaim.holds_of_wide 4 Tryd.f4 rfl rfl rfl rfl rfl rfl rfl ⟨rfl, rfl, rfl, rfl, rfl⟩ rfl rfl rfl rfl rfl (by kernel_rfl) Tryd.func4 (by kernel_rfl)
    (of_decide_eq_true (by kernel_rfl)) (by unfold Func.isWrapper; first | (rw [if_pos (by decide +kernel)]; kernel_rfl) | (rw [if_neg (by decide +kernel)]; exact ⟨rfl, rfl⟩))
    (fun os started H enc _ => lifted os started H enc)
theorem proved : Rows.FnKindLessSaid := over
end Go.Proofs.YtefejcggkkmhaaaDoor.fnKindLess
namespace Go.Proofs.YtefejcggkkmhaaaDoor
open Go in
/-- The tied card. -/
theorem fnKindLess_holds : Rows.FnKindLessCardSaid :=
  Claim7.holds_tied_plain_at .later [] [.widerDeep, .widerDeep] true (true, "061a317493e30d476ce9943d83f8b1e9efc62bf20fbf6758b4d05da743fbaefe") false
    fnKindLess.proved (fun _ h => by cases h) (by kernel_rfl) (fun _ h => by cases h) fnKindLess_row_tie rfl ⟨rfl, rfl⟩ (by kernel_rfl) rfl
    (fun f fn hf hfn => by
      obtain rfl : f = 4 := Option.some.inj ((show Tryd.prog.funcNamed "given.example/pub-antistrophe/laws.FnKindLess" = some 4 by kernel_rfl).symm.trans hf) |>.symm
      obtain rfl : fn = Tryd.f4 := (Option.some.inj (Tryd.func4.symm.trans hfn)).symm
      exact ⟨by kernel_rfl, fun j t ht => by
        rw [Tryd.params4] at ht
        have hm : t ∈ [9, 9, 9, 4] := by simpa using Array.mem_of_getElem? ht
        have hall : ([9, 9, 9, 4].all fun u => !Tryd.prog.wantsStandIn u) = true := by kernel_rfl
        exact (show Tryd.prog.wantsStandIn t = false by simpa using List.all_eq_true.1 hall t hm)⟩)
    (by kernel_rfl)
#print axioms fnKindLess_holds
end Go.Proofs.YtefejcggkkmhaaaDoor
