/- The row of FnPathSmart: for every input the law returns true, and each argument reads afterwards as it read before; out of the walk of YtgdffbjkafbkcaaHSmartLaw. -/
import Derived.Test.YtgdffbjkafbkcaaRows
import Derived.Test.YtgdffbjkafbkcaaHSmartLaw
import Derived.Test.YtgdffbjkafbkcaaOpens
import Derived.WalkKit
import Derived.ProofKit
import Derived.OpenShut
import Derived.ShutString
import Derived.ChangeOld
import Derived.Below
import Derived.SizedLaws
namespace Go.Proofs.Ytgdffbjkafbkcaa.fnPathSmart
open Go.ChangeShapes Go.WideShapes Go.ChangeAt Go.RowKit Go.Proofs.YtgdffbjkafbkcaaW.PrintWords
open Go.ChangeMaps (open_string shut_string)
set_option linter.unusedVariables false
theorem own : ownKnob Try.prog.godebug = none := by kernel_rfl
theorem laidOut : laidOutB Try.prog = true := by kernel_rfl
theorem op0 (m : Nat) : Opens.OpensAt Try.prog (m + 1) 22 (Kd.slice 9 Kd.string) (fun l : List ByteArray => l.length ≤ maxLen ∧ l.length * 16 ≤ 140737488351232 ∧ ∀ a ∈ l, (fun s : ByteArray => s.size ≤ 140737488351232) a) := (Opens.opens_slice (P := Try.prog) (t := 22) (e := 9) (e' := 9) Try.underlying22 (by kernel_rfl) (by kernel_rfl) (Opens.opens_string (P := Try.prog) (t := 9) m Try.underlying9))
theorem op1 (m : Nat) : Opens.OpensAt Try.prog (m + 1) 32 (Kd.slice 5 (Kd.int .u8)) (fun l : List Int => l.length ≤ maxLen ∧ l.length * 1 ≤ 140737488351232 ∧ ∀ a ∈ l, (fun n : Int => (Lit.int .u8 n).wf = true) a) := (Opens.opens_slice (P := Try.prog) (t := 32) (e := 5) (e' := 5) Try.underlying32 (by kernel_rfl) (by kernel_rfl) (Opens.opens_int (P := Try.prog) (t := 5) m Try.underlying5))
set_option maxRecDepth 100000 in
theorem lifted (os : Os) (started : os.Started) (H : Type) (enc : TypeId × Value → H) :
    ReturnsInHanded {} Try.checked os 5 .any (Rows.fnPathSmartSpec.pre6 enc Try.prog Try.f5 Rows.fnPathSmartRow.domain false) (Rows.fnPathSmartSpec.post enc Try.prog Try.f5 false true false false) := by
  refine returnsInHanded_of_change_sized (C := Try.checked) own started (by kernel_rfl) Try.func5
    (ChangeSpec.witness6 (enc := enc) (C := Try.checked) false ⟨#[], #[.slice none 0 0, .slice none 0 0], []⟩ 8 (by kernel_rfl) (by kernel_rfl) (by kernel_rfl) (by kernel_rfl)) ?_
  intro W base args ds gs before hval0 hW hcnd hsz0 _
  have hsz : (DataW.weightsEach Try.prog (Try.f5.params.toList ++ Rows.fnPathSmartSpec.plain.varTypes Try.prog) (ds ++ gs)).all (· ≤ reachBytes) = true := hsz0
  have hval : ∀ (j : Nat) t v, Try.f5.params[j]? = some t → args[j]? = some v → Value.okWide Try.prog W .any base t v := hval0
  have hW' := hW
  obtain ⟨p, q, hA0, hV, rfl, hfz, hnd⟩ := hW
  have hA : DataW.TrodAll enc Try.prog W 0 (fun _ => true) true Try.f5.params.toList args.toList ds p := hA0
  rw [Try.params5] at hA hval hsz
  obtain ⟨v0, vs0, d0, ds0, p0, q0, hargs, rfl, rfl, h0, r0⟩ := trodAll_cons hA
  obtain ⟨v1, vs1, d1, ds1, p1, q1, rfl, rfl, rfl, h1, r1⟩ := trodAll_cons r0
  obtain ⟨rfl, rfl, rfl⟩ := trodAll_nil r1
  obtain rfl : args = #[v0, v1] := by cases args; simp_all
  obtain ⟨rfl, rfl⟩ := trodVars_none hV
  obtain ⟨A0, n0, c0, rfl⟩ := okWide_slice Try.underlying22 (hval 0 22 v0 rfl rfl)
  have k0 := h0
  have lt0 : ∀ x ∈ p0, x.block < W.heap.size := by obtain ⟨m, hm⟩ := k0; exact DataW.trod_lt m _ _ _ hm
  obtain ⟨l0, K0, w0⟩ := Opens.open_at (fun m => (op0 m).less (Nat.le_add_right _ _)) hsz (j := 0) (t := 22) rfl rfl h0
  obtain ⟨A0', c0', e0, hc0, hr0⟩ := K0
  simp only [Value.cells, List.cons.injEq, and_true, Value.slice.injEq] at e0
  obtain ⟨rfl, rfl, rfl⟩ := e0
  obtain ⟨A1, n1, c1, rfl⟩ := okWide_slice Try.underlying32 (hval 1 32 v1 rfl rfl)
  have k1 := h1
  have lt1 : ∀ x ∈ p1, x.block < W.heap.size := by obtain ⟨m, hm⟩ := k1; exact DataW.trod_lt m _ _ _ hm
  obtain ⟨l1, K1, w1⟩ := Opens.open_at (fun m => (op1 m).less (Nat.le_add_right _ _)) hsz (j := 1) (t := 32) rfl rfl h1
  obtain ⟨A1', c1', e1, hc1, hr1⟩ := K1
  simp only [Value.cells, List.cons.injEq, and_true, Value.slice.injEq] at e1
  obtain ⟨rfl, rfl, rfl⟩ := e1
  clear hA0 hval0 hsz0 hsz
  refine (HSmart.smart_row _ _ l0 _ _ l1 W hr0 hc0 w0 hr1 hc1 w1).mono fun e W' ⟨he, bel0⟩ => ?_
  have bel : Below W.heap.size W W' := by first | exact bel0 | exact Drawn0.below ⟨bel0⟩
  subst he
  exact ⟨_, rfl, _, _, _, [], _, [], hW', trodAll_mk1 (shut_bool Try.underlying4 _), (trodAll_cons_mk (Below.trod laidOut (by kernel_rfl) (of_decide_eq_true (by kernel_rfl)) k0 bel lt0) (trodAll_cons_mk (Below.trod laidOut (by kernel_rfl) (of_decide_eq_true (by kernel_rfl)) k1 bel lt1) trodAll_mk0)), rfl, bel.frame _, fun h => by cases h⟩
theorem over : Rows.fnPathSmartRow.holds Try.pinned (OpenSpec.ofChange Rows.fnPathSmartSpec) :=
  OpenClaim.holds_of_wide 5 Try.f5 rfl rfl rfl rfl rfl rfl rfl ⟨rfl, rfl, rfl, rfl, rfl⟩ rfl rfl rfl rfl rfl (by kernel_rfl) Try.func5 (by kernel_rfl)
    (of_decide_eq_true (by kernel_rfl)) (by unfold Func.isWrapper; first | (rw [if_pos (by decide +kernel)]; kernel_rfl) | (rw [if_neg (by decide +kernel)]; exact ⟨rfl, rfl⟩))
    (fun os started H enc _ => lifted os started H enc)
theorem proved : Rows.FnPathSmartSaid := over
end Go.Proofs.Ytgdffbjkafbkcaa.fnPathSmart
namespace Go.Proofs.Ytgdffbjkafbkcaa
/-- The row, under a short name, for the claim. -/
theorem fnPathSmart_holds : Rows.FnPathSmartSaid := fnPathSmart.proved
#print axioms fnPathSmart_holds
end Go.Proofs.Ytgdffbjkafbkcaa
