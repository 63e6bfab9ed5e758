/- The row of FnIdEqual: for every input the law returns true, and each argument reads afterwards as it read before; out of the walk of YtfdgbgjbncakfaaHEqLaw. -/
import Derived.Test.YtfdgbgjbncakfaaRows
import Derived.Test.YtfdgbgjbncakfaaHEqLaw
import Derived.Test.YtfdgbgjbncakfaaOpens
import Derived.WalkKit
import Derived.ProofKit
import Derived.OpenShut
import Derived.ShutString
import Derived.ChangeOld
import Derived.Below
import Derived.SizedLaws
namespace Go.Proofs.Ytfdgbgjbncakfaa.fnIdEqual
open Go.ChangeShapes Go.WideShapes Go.ChangeAt Go.RowKit Go.Proofs.YtfdgbgjbncakfaaW.PrintWords
open Go.ChangeMaps (open_string shut_string)
set_option linter.unusedVariables false
theorem own : ownKnob Try.prog.godebug = none := by kernel_rfl
theorem laidOut : laidOutB Try.prog = true := by kernel_rfl
theorem op0 (m : Nat) : Opens.OpensAt Try.prog (m + 1) 23 (Kd.pair Kd.string (Kd.pair Kd.string (Kd.pair Kd.string (Kd.pair Kd.string Kd.string)))) (fun x : (ByteArray × (ByteArray × (ByteArray × (ByteArray × ByteArray)))) => (fun s : ByteArray => s.size ≤ 140737488351232) x.1 ∧ (fun s : ByteArray => s.size ≤ 140737488351232) x.2.1 ∧ (fun s : ByteArray => s.size ≤ 140737488351232) x.2.2.1 ∧ (fun s : ByteArray => s.size ≤ 140737488351232) x.2.2.2.1 ∧ (fun s : ByteArray => s.size ≤ 140737488351232) x.2.2.2.2) := (Opens.opens_struct (P := Try.prog) (t := 23) (ts := [9, 9, 9, 9, 9]) id id (fun _ => rfl) Try.underlying23 rfl (Opens.off_of (by kernel_rfl)) (by kernel_rfl) (Opens.opensRow_cons (Opens.opens_string (P := Try.prog) (t := 9) m Try.underlying9) (by kernel_rfl) (Opens.opensRow_cons (Opens.opens_string (P := Try.prog) (t := 9) m Try.underlying9) (by kernel_rfl) (Opens.opensRow_cons (Opens.opens_string (P := Try.prog) (t := 9) m Try.underlying9) (by kernel_rfl) (Opens.opensRow_cons (Opens.opens_string (P := Try.prog) (t := 9) m Try.underlying9) (by kernel_rfl) (Opens.opensRow_one (Opens.opens_string (P := Try.prog) (t := 9) m Try.underlying9) (by kernel_rfl))))))).imp (fun _ h => h)
theorem op1 (m : Nat) : Opens.OpensAt Try.prog (m + 1) 23 (Kd.pair Kd.string (Kd.pair Kd.string (Kd.pair Kd.string (Kd.pair Kd.string Kd.string)))) (fun x : (ByteArray × (ByteArray × (ByteArray × (ByteArray × ByteArray)))) => (fun s : ByteArray => s.size ≤ 140737488351232) x.1 ∧ (fun s : ByteArray => s.size ≤ 140737488351232) x.2.1 ∧ (fun s : ByteArray => s.size ≤ 140737488351232) x.2.2.1 ∧ (fun s : ByteArray => s.size ≤ 140737488351232) x.2.2.2.1 ∧ (fun s : ByteArray => s.size ≤ 140737488351232) x.2.2.2.2) := (Opens.opens_struct (P := Try.prog) (t := 23) (ts := [9, 9, 9, 9, 9]) id id (fun _ => rfl) Try.underlying23 rfl (Opens.off_of (by kernel_rfl)) (by kernel_rfl) (Opens.opensRow_cons (Opens.opens_string (P := Try.prog) (t := 9) m Try.underlying9) (by kernel_rfl) (Opens.opensRow_cons (Opens.opens_string (P := Try.prog) (t := 9) m Try.underlying9) (by kernel_rfl) (Opens.opensRow_cons (Opens.opens_string (P := Try.prog) (t := 9) m Try.underlying9) (by kernel_rfl) (Opens.opensRow_cons (Opens.opens_string (P := Try.prog) (t := 9) m Try.underlying9) (by kernel_rfl) (Opens.opensRow_one (Opens.opens_string (P := Try.prog) (t := 9) m Try.underlying9) (by kernel_rfl))))))).imp (fun _ h => h)
set_option maxRecDepth 100000 in
theorem lifted (os : Os) (started : os.Started) (H : Type) (enc : TypeId × Value → H) :
    ReturnsInHanded {} Try.checked os 3 .any (Rows.fnIdEqualSpec.pre6 enc Try.prog Try.f3 Rows.fnIdEqualRow.domain false) (Rows.fnIdEqualSpec.post enc Try.prog Try.f3 false true false false) := by
  refine returnsInHanded_of_change_sized (C := Try.checked) own started (by kernel_rfl) Try.func3
    (ChangeSpec.witness6 (enc := enc) (C := Try.checked) false ⟨#[], #[.agg #[.string ByteArray.empty, .string ByteArray.empty, .string ByteArray.empty, .string ByteArray.empty, .string ByteArray.empty], .agg #[.string ByteArray.empty, .string ByteArray.empty, .string ByteArray.empty, .string ByteArray.empty, .string ByteArray.empty], .int .u8 0], []⟩ 8 (by kernel_rfl) (by kernel_rfl) (by kernel_rfl) (by kernel_rfl)) ?_
  intro W base args ds gs before hval0 hW hcnd hsz0 _
  have hsz : (DataW.weightsEach Try.prog (Try.f3.params.toList ++ Rows.fnIdEqualSpec.plain.varTypes Try.prog) (ds ++ gs)).all (· ≤ reachBytes) = true := hsz0
  have hval : ∀ (j : Nat) t v, Try.f3.params[j]? = some t → args[j]? = some v → Value.okWide Try.prog W .any base t v := hval0
  have hW' := hW
  obtain ⟨p, q, hA0, hV, rfl, hfz, hnd⟩ := hW
  have hA : DataW.TrodAll enc Try.prog W 0 (fun _ => true) true Try.f3.params.toList args.toList ds p := hA0
  rw [Try.params3] at hA hval hsz
  obtain ⟨v0, vs0, d0, ds0, p0, q0, hargs, rfl, rfl, h0, r0⟩ := trodAll_cons hA
  obtain ⟨v1, vs1, d1, ds1, p1, q1, rfl, rfl, rfl, h1, r1⟩ := trodAll_cons r0
  obtain ⟨v2, vs2, d2, ds2, p2, q2, rfl, rfl, rfl, h2, r2⟩ := trodAll_cons r1
  obtain ⟨rfl, rfl, rfl⟩ := trodAll_nil r2
  obtain rfl : args = #[v0, v1, v2] := by cases args; simp_all
  obtain ⟨rfl, rfl⟩ := trodVars_none hV
  obtain ⟨cs0, rfl, _⟩ := okWide_struct Try.underlying23 (hval 0 23 v0 rfl rfl)
  have k0 := h0
  have lt0 : ∀ x ∈ p0, x.block < W.heap.size := by obtain ⟨m, hm⟩ := k0; exact DataW.trod_lt m _ _ _ hm
  obtain ⟨l0, K0, w0⟩ := Opens.open_at (fun m => (op0 m).less (Nat.le_add_right _ _)) hsz (j := 0) (t := 23) rfl rfl h0
  obtain ⟨_, _, E0, rfl, _, _, rfl, rfl, _, _, rfl, rfl, _, _, rfl, rfl, rfl⟩ := K0
  obtain rfl : cs0 = #[.string l0.1, .string l0.2.1, .string l0.2.2.1, .string l0.2.2.2.1, .string l0.2.2.2.2] := by cases cs0; simpa [Value.cells] using E0
  obtain ⟨cs1, rfl, _⟩ := okWide_struct Try.underlying23 (hval 1 23 v1 rfl rfl)
  have k1 := h1
  have lt1 : ∀ x ∈ p1, x.block < W.heap.size := by obtain ⟨m, hm⟩ := k1; exact DataW.trod_lt m _ _ _ hm
  obtain ⟨l1, K1, w1⟩ := Opens.open_at (fun m => (op1 m).less (Nat.le_add_right _ _)) hsz (j := 1) (t := 23) rfl rfl h1
  obtain ⟨_, _, E1, rfl, _, _, rfl, rfl, _, _, rfl, rfl, _, _, rfl, rfl, rfl⟩ := K1
  obtain rfl : cs1 = #[.string l1.1, .string l1.2.1, .string l1.2.2.1, .string l1.2.2.2.1, .string l1.2.2.2.2] := by cases cs1; simpa [Value.cells] using E1
  obtain ⟨a2, rfl, rfl, rfl, w2⟩ := open_int Try.underlying5 (hval 2 5 v2 rfl rfl) h2
  clear hA0 hval0 hsz0 hsz
  refine (HEqLaw.law_calls l0.1 l0.2.1 l0.2.2.1 l0.2.2.2.1 l0.2.2.2.2 l1.1 l1.2.1 l1.2.2.1 l1.2.2.2.1 l1.2.2.2.2 a2 W   w2).mono fun e W' ⟨he, bel0⟩ => ?_
  have bel : Below W.heap.size W W' := by first | exact bel0 | exact Drawn0.below ⟨bel0⟩
  subst he
  exact ⟨_, rfl, _, _, _, [], _, [], hW', trodAll_mk1 (shut_bool Try.underlying4 _), (trodAll_cons_mk (Below.trod laidOut (by kernel_rfl) (of_decide_eq_true (by kernel_rfl)) k0 bel lt0) (trodAll_cons_mk (Below.trod laidOut (by kernel_rfl) (of_decide_eq_true (by kernel_rfl)) k1 bel lt1) (trodAll_cons_mk (shut_int Try.underlying5 w2) trodAll_mk0))), rfl, bel.frame _, fun h => by cases h⟩
theorem over : Rows.fnIdEqualRow.holds Try.pinned (OpenSpec.ofChange Rows.fnIdEqualSpec) :=
  OpenClaim.holds_of_wide 3 Try.f3 rfl rfl rfl rfl rfl rfl rfl ⟨rfl, rfl, rfl, rfl, rfl⟩ rfl rfl rfl rfl rfl (by kernel_rfl) Try.func3 (by kernel_rfl)
    (of_decide_eq_true (by kernel_rfl)) (by unfold Func.isWrapper; first | (rw [if_pos (by decide +kernel)]; kernel_rfl) | (rw [if_neg (by decide +kernel)]; exact ⟨rfl, rfl⟩))
    (fun os started H enc _ => lifted os started H enc)
theorem proved : Rows.FnIdEqualSaid := over
end Go.Proofs.Ytfdgbgjbncakfaa.fnIdEqual
namespace Go.Proofs.Ytfdgbgjbncakfaa
/-- The row, under a short name, for the claim. -/
theorem fnIdEqual_holds : Rows.FnIdEqualSaid := fnIdEqual.proved
#print axioms fnIdEqual_holds
end Go.Proofs.Ytfdgbgjbncakfaa
