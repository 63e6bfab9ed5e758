/- The row of FnTablesCoalesce: for every input the law returns true, and each argument reads afterwards as it read before; out of the walk of YtjfbjkodjjlkiaaCG. -/
import Derived.Test.YtjfbjkodjjlkiaaRows
import Derived.Test.YtjfbjkodjjlkiaaCG
import Derived.Test.YtjfbjkodjjlkiaaOpens
import Derived.Test.YtjfbjkodjjlkiaaHOpenQ
import Derived.WalkKit
import Derived.ProofKit
import Derived.OpenShut
import Derived.ShutString
import Derived.ChangeOld
import Derived.Below
import Derived.SizedLaws
namespace Go.Proofs.Ytjfbjkodjjlkiaa.fnTablesCoalesce
open Go.ChangeShapes Go.WideShapes Go.ChangeAt Go.RowKit Go.Proofs.YtjfbjkodjjlkiaaW.PrintWords Go.Proofs.Ytjfbjkodjjlkiaa.GTab
open Go.ChangeMaps (open_string shut_string)
set_option linter.unusedVariables false
theorem own : ownKnob Try.prog.godebug = none := by kernel_rfl
theorem laidOut : laidOutB Try.prog = true := by kernel_rfl
theorem op0 (m : Nat) : Opens.OpensAt Try.prog (m + 1) 26 k26 Opens.Szq := (Opens.opens26q (m + 1))
theorem op1 (m : Nat) : Opens.OpensAt Try.prog (m + 1) 26 k26 Opens.Szq := (Opens.opens26q (m + 1))
set_option maxRecDepth 100000 in
theorem lifted (os : Os) (started : os.Started) (H : Type) (enc : TypeId × Value → H) :
    ReturnsInHanded {} Try.checked os 4 .any (Rows.fnTablesCoalesceSpec.pre6 enc Try.prog Try.f4 Rows.fnTablesCoalesceRow.domain false) (Rows.fnTablesCoalesceSpec.post enc Try.prog Try.f4 false true false false) := by
  refine returnsInHanded_of_change_sized (C := Try.checked) own started (by kernel_rfl) Try.func4
    (ChangeSpec.witness6 (enc := enc) (C := Try.checked) false ⟨#[], #[.agg #[.int .i64 0, .bool false, .int .i64 0, .float .f64 0, .string ByteArray.empty, .slice none 0 0, .slice none 0 0], .agg #[.int .i64 0, .bool false, .int .i64 0, .float .f64 0, .string ByteArray.empty, .slice none 0 0, .slice none 0 0]], []⟩ 8 (by kernel_rfl) (by kernel_rfl) (by kernel_rfl) (by kernel_rfl)) ?_
  intro W base args ds gs before hval0 hW hcnd hsz0 _
  have hsz : (DataW.weightsEach Try.prog (Try.f4.params.toList ++ Rows.fnTablesCoalesceSpec.plain.varTypes Try.prog) (ds ++ gs)).all (· ≤ reachBytes) = true := hsz0
  have hval : ∀ (j : Nat) t v, Try.f4.params[j]? = some t → args[j]? = some v → Value.okWide Try.prog W .any base t v := hval0
  have hW' := hW
  obtain ⟨p, q, hA0, hV, rfl, hfz, hnd⟩ := hW
  have hA : DataW.TrodAll enc Try.prog W 0 (fun _ => true) true Try.f4.params.toList args.toList ds p := hA0
  rw [Try.params4] at hA hval hsz
  obtain ⟨v0, vs0, d0, ds0, p0, q0, hargs, rfl, rfl, h0, r0⟩ := trodAll_cons hA
  obtain ⟨v1, vs1, d1, ds1, p1, q1, rfl, rfl, rfl, h1, r1⟩ := trodAll_cons r0
  obtain ⟨rfl, rfl, rfl⟩ := trodAll_nil r1
  obtain rfl : args = #[v0, v1] := by cases args; simp_all
  obtain ⟨rfl, rfl⟩ := trodVars_none hV
  obtain ⟨cs0, rfl, _⟩ := okWide_struct Try.underlying26 (hval 0 26 v0 rfl rfl)
  have k0 := h0
  have lt0 : ∀ x ∈ p0, x.block < W.heap.size := by obtain ⟨m, hm⟩ := k0; exact DataW.trod_lt m _ _ _ hm
  obtain ⟨l0, K0, w0⟩ := Opens.open_at (fun m => (op0 m).less (Nat.le_add_right _ _)) hsz (j := 0) (t := 26) rfl rfl h0
  obtain ⟨B0_5, d0_5, B0_6, d0_6, E0, hc0_5, hr0_5, hc0_6, hr0_6⟩ := k26_open K0
  obtain rfl : cs0 = #[.int .i64 l0.f0, .bool l0.f1, .int .i64 l0.f2, .float .f64 l0.f3, .string l0.f4, .slice B0_5 l0.f5.length d0_5, .slice B0_6 l0.f6.length d0_6] := by cases cs0; simpa [Value.cells] using E0
  obtain ⟨cs1, rfl, _⟩ := okWide_struct Try.underlying26 (hval 1 26 v1 rfl rfl)
  have k1 := h1
  have lt1 : ∀ x ∈ p1, x.block < W.heap.size := by obtain ⟨m, hm⟩ := k1; exact DataW.trod_lt m _ _ _ hm
  obtain ⟨l1, K1, w1⟩ := Opens.open_at (fun m => (op1 m).less (Nat.le_add_right _ _)) hsz (j := 1) (t := 26) rfl rfl h1
  obtain ⟨B1_5, d1_5, B1_6, d1_6, E1, hc1_5, hr1_5, hc1_6, hr1_6⟩ := k26_open K1
  obtain rfl : cs1 = #[.int .i64 l1.f0, .bool l1.f1, .int .i64 l1.f2, .float .f64 l1.f3, .string l1.f4, .slice B1_5 l1.f5.length d1_5, .slice B1_6 l1.f6.length d1_6] := by cases cs1; simpa [Value.cells] using E1
  clear hA0 hval0 hsz0 hsz
  refine (HVal.coalesce_law l0 B0_5 d0_5 B0_6 d0_6 l1 B1_5 d1_5 B1_6 d1_6 W hr0_5 hc0_5 hr0_6 hc0_6 w0 hr1_5 hc1_5 hr1_6 hc1_6 w1).mono fun e W' ⟨he, bel0⟩ => ?_
  have bel : Below W.heap.size W W' := by first | exact bel0 | exact Drawn0.below ⟨bel0⟩
  subst he
  exact ⟨_, rfl, _, _, _, [], _, [], hW', trodAll_mk1 (shut_bool Try.underlying4 _), (trodAll_cons_mk (Below.trod laidOut (by kernel_rfl) (of_decide_eq_true (by kernel_rfl)) k0 bel lt0) (trodAll_cons_mk (Below.trod laidOut (by kernel_rfl) (of_decide_eq_true (by kernel_rfl)) k1 bel lt1) trodAll_mk0)), rfl, bel.frame _, fun h => by cases h⟩
theorem over : Rows.fnTablesCoalesceRow.holds Try.pinned (OpenSpec.ofChange Rows.fnTablesCoalesceSpec) :=
  OpenClaim.holds_of_wide 4 Try.f4 rfl rfl rfl rfl rfl rfl rfl ⟨rfl, rfl, rfl, rfl, rfl⟩ rfl rfl rfl rfl rfl (by kernel_rfl) Try.func4 (by kernel_rfl)
    (of_decide_eq_true (by kernel_rfl)) (by unfold Func.isWrapper; first | (rw [if_pos (by decide +kernel)]; kernel_rfl) | (rw [if_neg (by decide +kernel)]; exact ⟨rfl, rfl⟩))
    (fun os started H enc _ => lifted os started H enc)
theorem proved : Rows.FnTablesCoalesceSaid := over
end Go.Proofs.Ytjfbjkodjjlkiaa.fnTablesCoalesce
namespace Go.Proofs.Ytjfbjkodjjlkiaa
/-- The row, under a short name, for the claim. -/
theorem fnTablesCoalesce_holds : Rows.FnTablesCoalesceSaid := fnTablesCoalesce.proved
#print axioms fnTablesCoalesce_holds
end Go.Proofs.Ytjfbjkodjjlkiaa
