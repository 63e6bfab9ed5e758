/- The law FnGvkLess, where the two orders read as their initialisers lay them. -/
import Derived.Test.YtfdgbgjbncakfaaDoorHFn
import Derived.Test.YtfdgbgjbncakfaaDoorRows
import Derived.SliceStrings
import Derived.MakeChecks
namespace Go.Proofs.YtfdgbgjbncakfaaDoor.HFn
open Go.RowKit Go.ChangeShapes Go.WideShapes Go.Proofs.YtfdgbgjbncakfaaDoorW.PrintWords Go.Proofs.YtfdgbgjbncakfaaDoor.HOrd Go.Proofs.YtfdgbgjbncakfaaDoor.HLess Go.Proofs.YtfdgbgjbncakfaaDoor.HId Go.Proofs.YtfdgbgjbncakfaaDoor.Plain

theorem strs_inj : ∀ {a b : List ByteArray}, strs (H := Unit) a = strs b → a = b
  | [], [], _ => rfl
  | [], _ :: _, h => by simp [strs] at h
  | _ :: _, [], h => by simp [strs] at h
  | x :: r, y :: s, h => by
    simp only [strs, List.map_cons, List.cons.injEq] at h
    obtain ⟨h1, h2⟩ := h
    have h3 : x = y := bytes_inj (by simpa using h1)
    rw [h3, strs_inj (show strs r = strs s from h2)]

/-- A variable that reads as an order. -/
theorem of_trod {W : World} {g fuel N : Nat} {cs : Array Value} {n : String} {p : List MemPlace} {l : List ByteArray} (hl : l.length = N) (hN : N ≤ 1000) (hg : Tryd.prog.globalNamed n = some g) (hv : W.var? Tryd.prog n = some cs) {enc : TypeId × Value → Unit} {held : Bool}
    (h : DataW.trod enc Tryd.prog W 0 (fun _ => true) held fuel 41 cs.toList = some (.slice (strs l) [], p)) : Lay g l W := by
  rcases open_strings Tryd.underlying41 Tryd.underlying9 (by kernel_rfl) h with ⟨_, hx⟩ | ⟨a, len, cap, ss, hcs, _, hle, hm, hz, hx, hcell, _⟩
  · simp at hx
  · simp only [Prod.mk.injEq, DataW.slice.injEq] at hx
    obtain ⟨⟨h1, h2⟩, _⟩ := hx
    have h3 : l = ss.take len := strs_inj h1
    have hlen : ss.length = cap := by simpa using hz
    have h4 : len = l.length := by
      have := congrArg List.length h3
      rw [List.length_take] at this
      omega
    subst h4
    refine ⟨some a, cap, ?_, ?_⟩
    · have := World.var?_cell hg hv 0
      have e : cs[0]? = some (.slice (some a) l.length cap) := by
        have : cs.toList[0]? = some (.slice (some a) l.length cap) := by rw [hcs]; rfl
        simpa using this
      rw [e] at this
      exact this
    · refine Kd.C_of_reads (d := ByteArray.empty) (h1 := fun _ => rfl) ⟨rfl, by omega, fun _ => ⟨a, rfl, fun j hj => ?_⟩⟩
      have e2 : l.getD j ByteArray.empty = ss.getD j ByteArray.empty := by
        rw [h3, List.getD_eq_getElem?_getD, List.getD_eq_getElem?_getD, List.getElem?_take_of_lt hj]
      rw [hcell j (by omega), e2]

theorem laid_of {W : World} (h : laidMetH Tryd.prog Rows.fnGvkLessRow.laid W) : Lay 0 last W ∧ Lay 1 first W := by
  rw [MakeChecks.laidMetH_plain _ _ _ (by kernel_rfl)] at h
  have gF : Tryd.prog.globalNamed "given.example/pub-antistrophe/pub/kyaml/resid.orderFirst" = some 1 := by kernel_rfl
  have gL : Tryd.prog.globalNamed "given.example/pub-antistrophe/pub/kyaml/resid.orderLast" = some 0 := by kernel_rfl
  have tF : (Tryd.prog.globals[1]?).map (·.type) = some 41 := by kernel_rfl
  have tL : (Tryd.prog.globals[0]?).map (·.type) = some 41 := by kernel_rfl
  obtain ⟨ps, ⟨g0, t0, cs0, f0, p0, q0, hg0, ht0, hv0, hd0, ⟨g1, t1, cs1, f1, p1, q1, hg1, ht1, hv1, hd1, _, _⟩, _⟩, _, _⟩ := h
  obtain rfl := Option.some.inj (gF.symm.trans hg0)
  obtain rfl := Option.some.inj (gL.symm.trans hg1)
  obtain rfl := Option.some.inj (tF.symm.trans ht0)
  obtain rfl := Option.some.inj (tL.symm.trans ht1)
  exact ⟨of_trod (l := last) (N := 2) rfl (by decide) gL hv1 hd1, of_trod (l := first) (N := 22) rfl (by decide) gF hv0 hd0⟩

theorem f_some (a0 a1 a2 a3 a4 b0 b1 b2 b3 b4 c0 c1 c2 c3 c4 : ByteArray) (hz : ∀ x ∈ [a0, a1, a2, a3, a4, b0, b1, b2, b3, b4, c0, c1, c2, c3, c4], x.size ≤ 140737488351232) : ∃ k, laws_FnGvkLess.f k a0 a1 a2 a3 a4 b0 b1 b2 b3 b4 c0 c1 c2 c3 c4 = some true := by
  obtain ⟨g1, v1, k1, n1, s1, _, e1⟩ := id_ev a0 a1 a2 a3 a4 (hz _ (by simp)) (hz _ (by simp)) (hz _ (by simp)) (hz _ (by simp)) (hz _ (by simp))
  obtain ⟨g2, v2, k2, n2, s2, _, e2⟩ := id_ev b0 b1 b2 b3 b4 (hz _ (by simp)) (hz _ (by simp)) (hz _ (by simp)) (hz _ (by simp)) (hz _ (by simp))
  obtain ⟨g3, v3, k3, n3, s3, _, e3⟩ := id_ev c0 c1 c2 c3 c4 (hz _ (by simp)) (hz _ (by simp)) (hz _ (by simp)) (hz _ (by simp)) (hz _ (by simp))
  have j : ∀ b : Bool, Ev (fun k => laws_FnGvkLess.j0 k b a0 a1 a2 a3 a4 b0 b1 b2 b3 b4 c0 c1 c2 c3 c4) true := fun b => by
    cases b with
    | true => exact Ev.step (fun k => laws_FnGvkLess.j0.eq_2 ..) (Ev.pos rfl (Ev.now _))
    | false => exact Ev.step (fun k => laws_FnGvkLess.j0.eq_2 ..) (Ev.neg (by simp) (Ev.bind (f := fun k _ => (laws_kyId.f k b0 b1 b2 b3 b4).bind _) e1 (Ev.bind (f := fun k _ => (laws_kyId.f k c0 c1 c2 c3 c4).bind _) e2 (Ev.bind (f := fun _ _ => some true) e3 (Ev.now _)))))
  apply Ev.rounds
  unfold laws_FnGvkLess.f laws_zzFits12.f
  simp only [Option.bind_some]
  cases HLaw.fitsB a0 a1 a2 a3 a4 with
  | false => simpa using j true
  | true =>
    cases HLaw.fitsB b0 b1 b2 b3 b4 with
    | false => simpa using j true
    | true => simpa using j _

theorem row_calls (a0 a1 a2 a3 a4 b0 b1 b2 b3 b4 c0 c1 c2 c3 c4 : ByteArray) (w : World) (wa : a0.size ≤ 140737488351232 ∧ a1.size ≤ 140737488351232 ∧ a2.size ≤ 140737488351232 ∧ a3.size ≤ 140737488351232 ∧ a4.size ≤ 140737488351232) (wb : b0.size ≤ 140737488351232 ∧ b1.size ≤ 140737488351232 ∧ b2.size ≤ 140737488351232 ∧ b3.size ≤ 140737488351232 ∧ b4.size ≤ 140737488351232) (wc : c0.size ≤ 140737488351232 ∧ c1.size ≤ 140737488351232 ∧ c2.size ≤ 140737488351232 ∧ c3.size ≤ 140737488351232 ∧ c4.size ≤ 140737488351232) (hL : laidMetH Tryd.prog Rows.fnGvkLessRow.laid w) :
    Calls Tryd.prog 3 #[.agg #[.string a0, .string a1, .string a2, .string a3, .string a4], .agg #[.string b0, .string b1, .string b2, .string b3, .string b4], .agg #[.string c0, .string c1, .string c2, .string c3, .string c4]] w fun e w' => e = .returned (.bool true) ∧ Below w.heap.size w w' := by
  have hz : ∀ x ∈ [a0, a1, a2, a3, a4, b0, b1, b2, b3, b4, c0, c1, c2, c3, c4], x.size ≤ 140737488351232 := by
    intro x hx
    simp only [List.mem_cons, List.not_mem_nil, or_false] at hx
    rcases hx with h | h | h | h | h | h | h | h | h | h | h | h | h | h | h <;> (subst h; omega)
  obtain ⟨k, hk⟩ := f_some a0 a1 a2 a3 a4 b0 b1 b2 b3 b4 c0 c1 c2 c3 c4 hz
  exact law_calls k a0 a1 a2 a3 a4 b0 b1 b2 b3 b4 c0 c1 c2 c3 c4 true w hz (laid_of hL).1 (laid_of hL).2 hk

end Go.Proofs.YtfdgbgjbncakfaaDoor.HFn
