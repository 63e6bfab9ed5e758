/- The row of FnGvkLess: for every input the law returns true, and each argument reads afterwards as it read before; out of the walk of YtfdgbgjbncakfaaDoorHFnRow. -/
import Derived.Test.YtfdgbgjbncakfaaDoorRows
import Derived.Test.YtfdgbgjbncakfaaDoorHFnRow
import Derived.Test.YtfdgbgjbncakfaaDoorOpens
import Derived.WalkKit
import Derived.ProofKit
import Derived.OpenShut
import Derived.ShutString
import Derived.ChangeOld
import Derived.Below
import Derived.SizedLaws
import Derived.LaidMore
import Derived.OpenVars
import Derived.Stop.Joined
import Derived.SevenTiedAt
import Derived.Test.YtfdgbgjbncakfaaDoorTie
import Derived.Test.YtfdgbgjbncakfaaDoorCards
namespace Go.Proofs.YtfdgbgjbncakfaaDoor.fnGvkLess
open Go.ChangeShapes Go.WideShapes Go.ChangeAt Go.RowKit Go.Proofs.YtfdgbgjbncakfaaDoorW.PrintWords
open Go.ChangeMaps (open_string shut_string)
set_option linter.unusedVariables false
theorem own : ownKnob Tryd.prog.godebug = none := by kernel_rfl
theorem laidOut : laidOutB Tryd.prog = true := by kernel_rfl
theorem op0 (m : Nat) : Opens.OpensAt Tryd.prog (m + 1) 23 (Kd.pair Kd.string (Kd.pair Kd.string (Kd.pair Kd.string (Kd.pair Kd.string Kd.string)))) (fun x : (ByteArray × (ByteArray × (ByteArray × (ByteArray × ByteArray)))) => (fun s : ByteArray => s.size ≤ 140737488351232) x.1 ∧ (fun s : ByteArray => s.size ≤ 140737488351232) x.2.1 ∧ (fun s : ByteArray => s.size ≤ 140737488351232) x.2.2.1 ∧ (fun s : ByteArray => s.size ≤ 140737488351232) x.2.2.2.1 ∧ (fun s : ByteArray => s.size ≤ 140737488351232) x.2.2.2.2) := (Opens.opens_struct (P := Tryd.prog) (t := 23) (ts := [9, 9, 9, 9, 9]) id id (fun _ => rfl) Tryd.underlying23 rfl (Opens.off_of (by kernel_rfl)) (by kernel_rfl) (Opens.opensRow_cons (Opens.opens_string (P := Tryd.prog) (t := 9) m Tryd.underlying9) (by kernel_rfl) (Opens.opensRow_cons (Opens.opens_string (P := Tryd.prog) (t := 9) m Tryd.underlying9) (by kernel_rfl) (Opens.opensRow_cons (Opens.opens_string (P := Tryd.prog) (t := 9) m Tryd.underlying9) (by kernel_rfl) (Opens.opensRow_cons (Opens.opens_string (P := Tryd.prog) (t := 9) m Tryd.underlying9) (by kernel_rfl) (Opens.opensRow_one (Opens.opens_string (P := Tryd.prog) (t := 9) m Tryd.underlying9) (by kernel_rfl))))))).imp (fun _ h => h)
theorem op1 (m : Nat) : Opens.OpensAt Tryd.prog (m + 1) 23 (Kd.pair Kd.string (Kd.pair Kd.string (Kd.pair Kd.string (Kd.pair Kd.string Kd.string)))) (fun x : (ByteArray × (ByteArray × (ByteArray × (ByteArray × ByteArray)))) => (fun s : ByteArray => s.size ≤ 140737488351232) x.1 ∧ (fun s : ByteArray => s.size ≤ 140737488351232) x.2.1 ∧ (fun s : ByteArray => s.size ≤ 140737488351232) x.2.2.1 ∧ (fun s : ByteArray => s.size ≤ 140737488351232) x.2.2.2.1 ∧ (fun s : ByteArray => s.size ≤ 140737488351232) x.2.2.2.2) := (Opens.opens_struct (P := Tryd.prog) (t := 23) (ts := [9, 9, 9, 9, 9]) id id (fun _ => rfl) Tryd.underlying23 rfl (Opens.off_of (by kernel_rfl)) (by kernel_rfl) (Opens.opensRow_cons (Opens.opens_string (P := Tryd.prog) (t := 9) m Tryd.underlying9) (by kernel_rfl) (Opens.opensRow_cons (Opens.opens_string (P := Tryd.prog) (t := 9) m Tryd.underlying9) (by kernel_rfl) (Opens.opensRow_cons (Opens.opens_string (P := Tryd.prog) (t := 9) m Tryd.underlying9) (by kernel_rfl) (Opens.opensRow_cons (Opens.opens_string (P := Tryd.prog) (t := 9) m Tryd.underlying9) (by kernel_rfl) (Opens.opensRow_one (Opens.opens_string (P := Tryd.prog) (t := 9) m Tryd.underlying9) (by kernel_rfl))))))).imp (fun _ h => h)
theorem op2 (m : Nat) : Opens.OpensAt Tryd.prog (m + 1) 23 (Kd.pair Kd.string (Kd.pair Kd.string (Kd.pair Kd.string (Kd.pair Kd.string Kd.string)))) (fun x : (ByteArray × (ByteArray × (ByteArray × (ByteArray × ByteArray)))) => (fun s : ByteArray => s.size ≤ 140737488351232) x.1 ∧ (fun s : ByteArray => s.size ≤ 140737488351232) x.2.1 ∧ (fun s : ByteArray => s.size ≤ 140737488351232) x.2.2.1 ∧ (fun s : ByteArray => s.size ≤ 140737488351232) x.2.2.2.1 ∧ (fun s : ByteArray => s.size ≤ 140737488351232) x.2.2.2.2) := (Opens.opens_struct (P := Tryd.prog) (t := 23) (ts := [9, 9, 9, 9, 9]) id id (fun _ => rfl) Tryd.underlying23 rfl (Opens.off_of (by kernel_rfl)) (by kernel_rfl) (Opens.opensRow_cons (Opens.opens_string (P := Tryd.prog) (t := 9) m Tryd.underlying9) (by kernel_rfl) (Opens.opensRow_cons (Opens.opens_string (P := Tryd.prog) (t := 9) m Tryd.underlying9) (by kernel_rfl) (Opens.opensRow_cons (Opens.opens_string (P := Tryd.prog) (t := 9) m Tryd.underlying9) (by kernel_rfl) (Opens.opensRow_cons (Opens.opens_string (P := Tryd.prog) (t := 9) m Tryd.underlying9) (by kernel_rfl) (Opens.opensRow_one (Opens.opens_string (P := Tryd.prog) (t := 9) m Tryd.underlying9) (by kernel_rfl))))))).imp (fun _ h => h)
/-- The door's own heap meets the condition. -/
theorem door_met (os : Os) (args : Array Value) : laidMetH Tryd.prog Rows.fnGvkLessRow.laid ((World.doorLaid Tryd.prog 400 os).forCall (fun _ _ => 0) ⟨#[], args, []⟩).memory :=
  laidMetH_of_parts3 (fuel := 8) (laidMet_of_run' 8 (by kernel_rfl) (by kernel_rfl)) (by kernel_rfl) (by kernel_rfl)
theorem vars_len {H : Type} {enc : TypeId × Value → H} {P : Program} {w : World} {sp : Nat → Bool} : ∀ {ns : List String} {ds : List (DataW H)} {ps : List MemPlace}, DataW.TrodVars enc P w sp ns ds ps → ds.length = ns.length
  | [], [], _, _ => rfl
  | [], _ :: _, _, h => h.elim
  | _ :: _, [], _, h => h.elim
  | _ :: _, _ :: _, _, h => by
    obtain ⟨_, _, _, _, _, _, _, _, _, _, hq, _⟩ := h
    simp [vars_len hq]
set_option maxRecDepth 100000 in
theorem lifted (os : Os) (started : os.Started) (H : Type) (enc : TypeId × Value → H) :
    ReturnsInHanded {} Tryd.checked os 3 .any (fun w args => (Rows.fnGvkLessSpec.pre enc Tryd.prog Tryd.f3 [] false w args ∧ laidMetH Tryd.prog Rows.fnGvkLessRow.laid w) ∧ sizedMet enc Tryd.prog Tryd.f3 (OpenSpec.ofChange Rows.fnGvkLessSpec) false w args)
      (Rows.fnGvkLessSpec.post enc Tryd.prog Tryd.f3 false true false false) := by
  refine returnsInHanded_of_change_and (C := Tryd.checked) (X := fun w _ => laidMetH Tryd.prog Rows.fnGvkLessRow.laid w) (fun _ _ _ hh h => h.of_heap hh) own started (by kernel_rfl) Tryd.func3
    (ChangeSpec.witness_shaped (enc := enc) (C := Tryd.checked) (os := os) (X := fun w _ => laidMetH Tryd.prog Rows.fnGvkLessRow.laid w) false (World.doorLaid Tryd.prog 400 os) #[.agg #[.string ByteArray.empty, .string ByteArray.empty, .string ByteArray.empty, .string ByteArray.empty, .string ByteArray.empty], .agg #[.string ByteArray.empty, .string ByteArray.empty, .string ByteArray.empty, .string ByteArray.empty, .string ByteArray.empty], .agg #[.string ByteArray.empty, .string ByteArray.empty, .string ByteArray.empty, .string ByteArray.empty, .string ByteArray.empty]] 8 rfl (World.shaped_of_RefB (by kernel_rfl) (by kernel_rfl)) (by kernel_rfl) (by kernel_rfl) (by kernel_rfl) (door_met os _)) ?_
  intro W base args ds gs before hval0 hW hcnd hsz0 hL _
  have hsz : (DataW.weightsEach Tryd.prog (Tryd.f3.params.toList ++ Rows.fnGvkLessSpec.plain.varTypes Tryd.prog) (ds ++ gs)).all (· ≤ reachBytes) = true := hsz0
  have hval : ∀ (j : Nat) t v, Tryd.f3.params[j]? = some t → args[j]? = some v → Value.okWide Tryd.prog W .any base t v := hval0
  have hW' := hW
  obtain ⟨p, q, hA0, hV, rfl, hfz, hnd⟩ := hW
  have hA : DataW.TrodAll enc Tryd.prog W 0 (fun _ => true) true Tryd.f3.params.toList args.toList ds p := hA0
  rw [Tryd.params3] at hA hval hsz
  obtain ⟨v0, vs0, d0, ds0, p0, q0, hargs, rfl, rfl, h0, r0⟩ := trodAll_cons hA
  obtain ⟨v1, vs1, d1, ds1, p1, q1, rfl, rfl, rfl, h1, r1⟩ := trodAll_cons r0
  obtain ⟨v2, vs2, d2, ds2, p2, q2, rfl, rfl, rfl, h2, r2⟩ := trodAll_cons r1
  obtain ⟨rfl, rfl, rfl⟩ := trodAll_nil r2
  obtain rfl : args = #[v0, v1, v2] := by cases args; simp_all
  obtain ⟨g0, g1, rfl⟩ : ∃ g0 g1, gs = [g0, g1] := by have hlen := vars_len hV; rcases gs with _ | ⟨_, _ | ⟨_, _ | ⟨_, _⟩⟩⟩ <;> first | exact ⟨_, _, rfl⟩ | simp [Rows.fnGvkLessSpec] at hlen
  obtain ⟨cs0, rfl, _⟩ := okWide_struct Tryd.underlying23 (hval 0 23 v0 rfl rfl)
  have k0 := h0
  have lt0 : ∀ x ∈ p0, x.block < W.heap.size := by obtain ⟨m, hm⟩ := k0; exact DataW.trod_lt m _ _ _ hm
  obtain ⟨l0, K0, w0⟩ := Opens.open_at (fun m => (op0 m).less (Nat.le_add_right _ _)) hsz (j := 0) (t := 23) rfl rfl h0
  obtain ⟨_, _, E0, rfl, _, _, rfl, rfl, _, _, rfl, rfl, _, _, rfl, rfl, rfl⟩ := K0
  obtain rfl : cs0 = #[.string l0.1, .string l0.2.1, .string l0.2.2.1, .string l0.2.2.2.1, .string l0.2.2.2.2] := by cases cs0; simpa [Value.cells] using E0
  obtain ⟨cs1, rfl, _⟩ := okWide_struct Tryd.underlying23 (hval 1 23 v1 rfl rfl)
  have k1 := h1
  have lt1 : ∀ x ∈ p1, x.block < W.heap.size := by obtain ⟨m, hm⟩ := k1; exact DataW.trod_lt m _ _ _ hm
  obtain ⟨l1, K1, w1⟩ := Opens.open_at (fun m => (op1 m).less (Nat.le_add_right _ _)) hsz (j := 1) (t := 23) rfl rfl h1
  obtain ⟨_, _, E1, rfl, _, _, rfl, rfl, _, _, rfl, rfl, _, _, rfl, rfl, rfl⟩ := K1
  obtain rfl : cs1 = #[.string l1.1, .string l1.2.1, .string l1.2.2.1, .string l1.2.2.2.1, .string l1.2.2.2.2] := by cases cs1; simpa [Value.cells] using E1
  obtain ⟨cs2, rfl, _⟩ := okWide_struct Tryd.underlying23 (hval 2 23 v2 rfl rfl)
  have k2 := h2
  have lt2 : ∀ x ∈ p2, x.block < W.heap.size := by obtain ⟨m, hm⟩ := k2; exact DataW.trod_lt m _ _ _ hm
  obtain ⟨l2, K2, w2⟩ := Opens.open_at (fun m => (op2 m).less (Nat.le_add_right _ _)) hsz (j := 2) (t := 23) rfl rfl h2
  obtain ⟨_, _, E2, rfl, _, _, rfl, rfl, _, _, rfl, rfl, _, _, rfl, rfl, rfl⟩ := K2
  obtain rfl : cs2 = #[.string l2.1, .string l2.2.1, .string l2.2.2.1, .string l2.2.2.2.1, .string l2.2.2.2.2] := by cases cs2; simpa [Value.cells] using E2
  clear hA0 hval0 hsz0 hsz
  refine (Go.Proofs.YtfdgbgjbncakfaaDoor.HFn.row_calls l0.1 l0.2.1 l0.2.2.1 l0.2.2.2.1 l0.2.2.2.2 l1.1 l1.2.1 l1.2.2.1 l1.2.2.2.1 l1.2.2.2.2 l2.1 l2.2.1 l2.2.2.1 l2.2.2.2.1 l2.2.2.2.2 W w0 w1 w2 hL).mono fun e W' ⟨he, bel0⟩ => ?_
  have bel : Below W.heap.size W W' := by first | exact bel0 | exact Drawn0.below ⟨bel0⟩
  subst he
  exact ⟨_, rfl, _, _, _, [], _, _, hW', trodAll_mk1 (shut_bool Tryd.underlying4 _), (trodAll_cons_mk (Below.trod laidOut (by kernel_rfl) (of_decide_eq_true (by kernel_rfl)) k0 bel lt0) (trodAll_cons_mk (Below.trod laidOut (by kernel_rfl) (of_decide_eq_true (by kernel_rfl)) k1 bel lt1) (trodAll_cons_mk (Below.trod laidOut (by kernel_rfl) (of_decide_eq_true (by kernel_rfl)) k2 bel lt2) trodAll_mk0))), Below.trodVars laidOut bel (by kernel_rfl) hV, bel.frame _, fun h => by cases h⟩
theorem over : Rows.fnGvkLessRow.holds Tryd.pinned (OpenSpec.ofChange Rows.fnGvkLessSpec) :=
  OpenClaim.holds_of_wide 3 Tryd.f3 rfl rfl rfl rfl rfl rfl rfl ⟨rfl, rfl, rfl, rfl, rfl⟩ rfl rfl rfl rfl rfl (by kernel_rfl) Tryd.func3 (by kernel_rfl)
    (of_decide_eq_true (by kernel_rfl)) (by unfold Func.isWrapper; first | (rw [if_pos (by decide +kernel)]; kernel_rfl) | (rw [if_neg (by decide +kernel)]; exact ⟨rfl, rfl⟩))
    (fun os started H enc _ => lifted os started H enc)
theorem proved : Rows.FnGvkLessSaid := over
end Go.Proofs.YtfdgbgjbncakfaaDoor.fnGvkLess
namespace Go.Proofs.YtfdgbgjbncakfaaDoor
open Go in
/-- The tied card. -/
theorem fnGvkLess_holds : Rows.FnGvkLessCardSaid :=
  Claim7.holds_tied_plain_at .later [] [.data, .data] true (true, "f753fbc8beb518265a74a36e10ce9b90640e03c947a109fd6deae1f7c881615d") false
    fnGvkLess.proved (fun _ h => by cases h) (by kernel_rfl) (fun _ h => by cases h) fnGvkLess_row_tie rfl ⟨rfl, rfl⟩ (by kernel_rfl) rfl
    (fun f fn hf hfn => by
      obtain rfl : f = 3 := Option.some.inj ((show Tryd.prog.funcNamed "given.example/pub-antistrophe/laws.FnGvkLess" = some 3 by kernel_rfl).symm.trans hf) |>.symm
      obtain rfl : fn = Tryd.f3 := (Option.some.inj (Tryd.func3.symm.trans hfn)).symm
      exact ⟨by kernel_rfl, fun j t ht => by
        rw [Tryd.params3] at ht
        have hm : t ∈ [23, 23, 23] := by simpa using Array.mem_of_getElem? ht
        have hall : ([23, 23, 23].all fun u => !Tryd.prog.wantsStandIn u) = true := by kernel_rfl
        exact (show Tryd.prog.wantsStandIn t = false by simpa using List.all_eq_true.1 hall t hm)⟩)
    (by kernel_rfl)
#print axioms fnGvkLess_holds
end Go.Proofs.YtfdgbgjbncakfaaDoor
