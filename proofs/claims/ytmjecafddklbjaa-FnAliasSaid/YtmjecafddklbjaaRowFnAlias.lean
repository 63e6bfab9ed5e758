/- The row of FnAlias: for every input the law returns true, and each argument reads afterwards as it read before; out of the walk of YtmjecafddklbjaaHAliasLaw. -/
import Derived.Test.YtmjecafddklbjaaRows
import Derived.Test.YtmjecafddklbjaaHAliasLaw
import Derived.Test.YtmjecafddklbjaaOpens
import Derived.WalkKit
import Derived.ProofKit
import Derived.OpenShut
import Derived.ShutString
import Derived.ChangeOld
import Derived.Below
import Derived.SizedLaws
namespace Go.Proofs.Ytmjecafddklbjaa.fnAlias
open Go.ChangeShapes Go.WideShapes Go.ChangeAt Go.RowKit Go.Proofs.YtmjecafddklbjaaW.PrintWords Go.Proofs.Ytmjecafddklbjaa.GWants
open Go.ChangeMaps (open_string shut_string)
set_option linter.unusedVariables false
theorem own : ownKnob Try.prog.godebug = none := by kernel_rfl
theorem laidOut : laidOutB Try.prog = true := by kernel_rfl
theorem op0 (m : Nat) : Opens.OpensAt Try.prog (m + 1) 22 (Kd.slice 9 Kd.string) (fun l : List ByteArray => l.length ≤ maxLen ∧ l.length * 16 ≤ 140737488351232 ∧ ∀ a ∈ l, (fun s : ByteArray => s.size ≤ 140737488351232) a) := (Opens.opens_slice (P := Try.prog) (t := 22) (e := 9) (e' := 9) Try.underlying22 (by kernel_rfl) (by kernel_rfl) (Opens.opens_string (P := Try.prog) (t := 9) m Try.underlying9))
theorem op1 (m : Nat) : Opens.OpensAt Try.prog (m + 1) 22 (Kd.slice 9 Kd.string) (fun l : List ByteArray => l.length ≤ maxLen ∧ l.length * 16 ≤ 140737488351232 ∧ ∀ a ∈ l, (fun s : ByteArray => s.size ≤ 140737488351232) a) := (Opens.opens_slice (P := Try.prog) (t := 22) (e := 9) (e' := 9) Try.underlying22 (by kernel_rfl) (by kernel_rfl) (Opens.opens_string (P := Try.prog) (t := 9) m Try.underlying9))
theorem op2 (m : Nat) : Opens.OpensAt Try.prog (m + 1) 31 k31 (fun x : S31 => (fun s : ByteArray => s.size ≤ 140737488351232) x.f0 ∧ (fun s : ByteArray => s.size ≤ 140737488351232) x.f1 ∧ (fun s : ByteArray => s.size ≤ 140737488351232) x.f2 ∧ (fun s : ByteArray => s.size ≤ 140737488351232) x.f3 ∧ (fun l : List ByteArray => l.length ≤ maxLen ∧ l.length * 16 ≤ 140737488351232 ∧ ∀ a ∈ l, (fun s : ByteArray => s.size ≤ 140737488351232) a) x.f4 ∧ (fun _ : Bool => True) x.f5 ∧ (fun l : List S60 => l.length ≤ maxLen ∧ l.length * 56 ≤ 140737488351232 ∧ ∀ a ∈ l, (fun x : S60 => (fun s : ByteArray => s.size ≤ 140737488351232) x.f0 ∧ (fun s : ByteArray => s.size ≤ 140737488351232) x.f1 ∧ (fun s : ByteArray => s.size ≤ 140737488351232) x.f2 ∧ (fun _ : Bool => True) x.f3) a) x.f6) := (Opens.opens_struct (P := Try.prog) (t := 31) (ts := [9, 9, 9, 9, 22, 4, 29]) (fun x : S31 => (x.f0, x.f1, x.f2, x.f3, x.f4, x.f5, x.f6)) (fun x => (⟨x.1, x.2.1, x.2.2.1, x.2.2.2.1, x.2.2.2.2.1, x.2.2.2.2.2.1, x.2.2.2.2.2.2⟩ : S31)) (fun _ => rfl) Try.underlying31 rfl (Opens.off_of (by kernel_rfl)) (by kernel_rfl) (Opens.opensRow_cons (Opens.OpensAt.less (m' := m) (Opens.opens_string (P := Try.prog) (t := 9) m Try.underlying9) (by omega)) (by kernel_rfl) (Opens.opensRow_cons (Opens.OpensAt.less (m' := m) (Opens.opens_string (P := Try.prog) (t := 9) m Try.underlying9) (by omega)) (by kernel_rfl) (Opens.opensRow_cons (Opens.OpensAt.less (m' := m) (Opens.opens_string (P := Try.prog) (t := 9) m Try.underlying9) (by omega)) (by kernel_rfl) (Opens.opensRow_cons (Opens.OpensAt.less (m' := m) (Opens.opens_string (P := Try.prog) (t := 9) m Try.underlying9) (by omega)) (by kernel_rfl) (Opens.opensRow_cons (Opens.OpensAt.less (m' := m) (Opens.opens_slice (P := Try.prog) (t := 22) (e := 9) (e' := 9) Try.underlying22 (by kernel_rfl) (by kernel_rfl) (Opens.opens_string (P := Try.prog) (t := 9) m Try.underlying9)) (by omega)) (by kernel_rfl) (Opens.opensRow_cons (Opens.OpensAt.less (m' := m) (Opens.opens_bool (P := Try.prog) (t := 4) m Try.underlying4) (by omega)) (by kernel_rfl) (Opens.opensRow_one (Opens.OpensAt.less (m' := m) (Opens.opens_slice (P := Try.prog) (t := 29) (e := 60) (e' := 60) Try.underlying29 (by kernel_rfl) (by kernel_rfl) (Opens.opens_struct (P := Try.prog) (t := 60) (ts := [9, 9, 9, 4]) (fun x : S60 => (x.f0, x.f1, x.f2, x.f3)) (fun x => (⟨x.1, x.2.1, x.2.2.1, x.2.2.2⟩ : S60)) (fun _ => rfl) Try.underlying60 rfl (Opens.off_of (by kernel_rfl)) (by kernel_rfl) (Opens.opensRow_cons (Opens.OpensAt.less (m' := m) (Opens.opens_string (P := Try.prog) (t := 9) m Try.underlying9) (by omega)) (by kernel_rfl) (Opens.opensRow_cons (Opens.OpensAt.less (m' := m) (Opens.opens_string (P := Try.prog) (t := 9) m Try.underlying9) (by omega)) (by kernel_rfl) (Opens.opensRow_cons (Opens.OpensAt.less (m' := m) (Opens.opens_string (P := Try.prog) (t := 9) m Try.underlying9) (by omega)) (by kernel_rfl) (Opens.opensRow_one (Opens.OpensAt.less (m' := m) (Opens.opens_bool (P := Try.prog) (t := 4) m Try.underlying4) (by omega)) (by kernel_rfl))))))) (by omega)) (by kernel_rfl)))))))))
set_option maxRecDepth 100000 in
theorem lifted (os : Os) (started : os.Started) (H : Type) (enc : TypeId × Value → H) :
    ReturnsInHanded {} Try.checked os 4 .any (Rows.fnAliasSpec.pre6 enc Try.prog Try.f4 Rows.fnAliasRow.domain false) (Rows.fnAliasSpec.post enc Try.prog Try.f4 false true false false) := by
  refine returnsInHanded_of_change_sized (C := Try.checked) own started (by kernel_rfl) Try.func4
    (ChangeSpec.witness6 (enc := enc) (C := Try.checked) false ⟨#[], #[.slice none 0 0, .slice none 0 0, .agg #[.string ByteArray.empty, .string ByteArray.empty, .string ByteArray.empty, .string ByteArray.empty, .slice none 0 0, .bool false, .slice none 0 0]], []⟩ 8 (by kernel_rfl) (by kernel_rfl) (by kernel_rfl) (by kernel_rfl)) ?_
  intro W base args ds gs before hval0 hW hcnd hsz0 _
  have hsz : (DataW.weightsEach Try.prog (Try.f4.params.toList ++ Rows.fnAliasSpec.plain.varTypes Try.prog) (ds ++ gs)).all (· ≤ reachBytes) = true := hsz0
  have hval : ∀ (j : Nat) t v, Try.f4.params[j]? = some t → args[j]? = some v → Value.okWide Try.prog W .any base t v := hval0
  have hW' := hW
  obtain ⟨p, q, hA0, hV, rfl, hfz, hnd⟩ := hW
  have hA : DataW.TrodAll enc Try.prog W 0 (fun _ => true) true Try.f4.params.toList args.toList ds p := hA0
  rw [Try.params4] at hA hval hsz
  obtain ⟨v0, vs0, d0, ds0, p0, q0, hargs, rfl, rfl, h0, r0⟩ := trodAll_cons hA
  obtain ⟨v1, vs1, d1, ds1, p1, q1, rfl, rfl, rfl, h1, r1⟩ := trodAll_cons r0
  obtain ⟨v2, vs2, d2, ds2, p2, q2, rfl, rfl, rfl, h2, r2⟩ := trodAll_cons r1
  obtain ⟨rfl, rfl, rfl⟩ := trodAll_nil r2
  obtain rfl : args = #[v0, v1, v2] := by cases args; simp_all
  obtain ⟨rfl, rfl⟩ := trodVars_none hV
  obtain ⟨A0, n0, c0, rfl⟩ := okWide_slice Try.underlying22 (hval 0 22 v0 rfl rfl)
  have k0 := h0
  have lt0 : ∀ x ∈ p0, x.block < W.heap.size := by obtain ⟨m, hm⟩ := k0; exact DataW.trod_lt m _ _ _ hm
  obtain ⟨l0, K0, w0⟩ := Opens.open_at (fun m => (op0 m).less (Nat.le_add_right _ _)) hsz (j := 0) (t := 22) rfl rfl h0
  obtain ⟨A0', c0', e0, hc0, hr0⟩ := K0
  simp only [Value.cells, List.cons.injEq, and_true, Value.slice.injEq] at e0
  obtain ⟨rfl, rfl, rfl⟩ := e0
  obtain ⟨A1, n1, c1, rfl⟩ := okWide_slice Try.underlying22 (hval 1 22 v1 rfl rfl)
  have k1 := h1
  have lt1 : ∀ x ∈ p1, x.block < W.heap.size := by obtain ⟨m, hm⟩ := k1; exact DataW.trod_lt m _ _ _ hm
  obtain ⟨l1, K1, w1⟩ := Opens.open_at (fun m => (op1 m).less (Nat.le_add_right _ _)) hsz (j := 1) (t := 22) rfl rfl h1
  obtain ⟨A1', c1', e1, hc1, hr1⟩ := K1
  simp only [Value.cells, List.cons.injEq, and_true, Value.slice.injEq] at e1
  obtain ⟨rfl, rfl, rfl⟩ := e1
  obtain ⟨cs2, rfl, _⟩ := okWide_struct Try.underlying31 (hval 2 31 v2 rfl rfl)
  have k2 := h2
  have lt2 : ∀ x ∈ p2, x.block < W.heap.size := by obtain ⟨m, hm⟩ := k2; exact DataW.trod_lt m _ _ _ hm
  obtain ⟨l2, K2, w2⟩ := Opens.open_at (fun m => (op2 m).less (Nat.le_add_right _ _)) hsz (j := 2) (t := 31) rfl rfl h2
  obtain ⟨B2_4, d2_4, B2_6, d2_6, E2, hc2_4, hr2_4, hc2_6, hr2_6⟩ := k31_open K2
  obtain rfl : cs2 = #[.string l2.f0, .string l2.f1, .string l2.f2, .string l2.f3, .slice B2_4 l2.f4.length d2_4, .bool l2.f5, .slice B2_6 l2.f6.length d2_6] := by cases cs2; simpa [Value.cells] using E2
  clear hA0 hval0 hsz0 hsz
  refine (HAlias.alias_law _ _ l0 _ _ l1 l2 B2_4 d2_4 B2_6 d2_6 W hr0 hc0 w0 hr1 hc1 w1 hr2_4 hc2_4 hr2_6 hc2_6).mono fun e W' ⟨he, bel0⟩ => ?_
  have bel : Below W.heap.size W W' := by first | exact bel0 | exact Drawn0.below ⟨bel0⟩
  subst he
  exact ⟨_, rfl, _, _, _, [], _, [], hW', trodAll_mk1 (shut_bool Try.underlying4 _), (trodAll_cons_mk (Below.trod laidOut (by kernel_rfl) (of_decide_eq_true (by kernel_rfl)) k0 bel lt0) (trodAll_cons_mk (Below.trod laidOut (by kernel_rfl) (of_decide_eq_true (by kernel_rfl)) k1 bel lt1) (trodAll_cons_mk (Below.trod laidOut (by kernel_rfl) (of_decide_eq_true (by kernel_rfl)) k2 bel lt2) trodAll_mk0))), rfl, bel.frame _, fun h => by cases h⟩
theorem over : Rows.fnAliasRow.holds Try.pinned (OpenSpec.ofChange Rows.fnAliasSpec) :=
  OpenClaim.holds_of_wide 4 Try.f4 rfl rfl rfl rfl rfl rfl rfl ⟨rfl, rfl, rfl, rfl, rfl⟩ rfl rfl rfl rfl rfl (by kernel_rfl) Try.func4 (by kernel_rfl)
    (of_decide_eq_true (by kernel_rfl)) (by unfold Func.isWrapper; first | (rw [if_pos (by decide +kernel)]; kernel_rfl) | (rw [if_neg (by decide +kernel)]; exact ⟨rfl, rfl⟩))
    (fun os started H enc _ => lifted os started H enc)
theorem proved : Rows.FnAliasSaid := over
end Go.Proofs.Ytmjecafddklbjaa.fnAlias
namespace Go.Proofs.Ytmjecafddklbjaa
/-- The row, under a short name, for the claim. -/
theorem fnAlias_holds : Rows.FnAliasSaid := fnAlias.proved
#print axioms fnAlias_holds
end Go.Proofs.Ytmjecafddklbjaa
