/- The laws FnKindOrder and FnKindLess, where the two orders read as their initialisers lay them: what they read as is what the walks ask. -/
import Derived.Test.YtefejcggkkmhaaaDoorHKindLaw
import Derived.Test.YtefejcggkkmhaaaDoorRows
import Derived.SliceStrings
import Derived.MakeChecks
namespace Go.Proofs.YtefejcggkkmhaaaDoor.HKind
open Go.RowKit Go.ChangeShapes Go.WideShapes Go.Proofs.YtefejcggkkmhaaaDoorW.PrintWords

theorem strs_inj : ∀ {a b : List ByteArray}, strs (H := Unit) a = strs b → a = b
  | [], [], _ => rfl
  | [], _ :: _, h => by simp [strs] at h
  | _ :: _, [], h => by simp [strs] at h
  | x :: r, y :: s, h => by
    simp only [strs, List.map_cons, List.cons.injEq] at h
    obtain ⟨h1, h2⟩ := h
    have h3 : x = y := bytes_inj (by simpa using h1)
    rw [h3, strs_inj (show strs r = strs s from h2)]

/-- A variable that reads as an order. -/
theorem of_trod {W : World} {g fuel : Nat} {cs : Array Value} {n : String} {p : List MemPlace} {l : List ByteArray} (hl : l.length = 36) (hg : Tryd.prog.globalNamed n = some g) (hv : W.var? Tryd.prog n = some cs) {enc : TypeId × Value → Unit} {held : Bool}
    (h : DataW.trod enc Tryd.prog W 0 (fun _ => true) held fuel 33 cs.toList = some (.slice (strs l) [], p)) : ∃ A c, W.cell? ⟨g, 0, none⟩ = some (.slice A 36 c) ∧ Kd.C Kd.string W A 36 l := by
  rcases open_strings Tryd.underlying33 Tryd.underlying9 (by kernel_rfl) h with ⟨_, hx⟩ | ⟨a, len, cap, ss, hcs, _, hle, hm, hz, hx, hcell, _⟩
  · simp at hx
  · simp only [Prod.mk.injEq, DataW.slice.injEq] at hx
    obtain ⟨⟨h1, h2⟩, _⟩ := hx
    have h3 : l = ss.take len := strs_inj h1
    have hlen : ss.length = cap := by simpa using hz
    have h4 : len = 36 := by
      have := congrArg List.length h3
      rw [hl, List.length_take] at this
      omega
    subst h4
    refine ⟨some a, cap, ?_, ?_⟩
    · have := World.var?_cell hg hv 0
      have e : cs[0]? = some (.slice (some a) 36 cap) := by
        have : cs.toList[0]? = some (.slice (some a) 36 cap) := by rw [hcs]; rfl
        simpa using this
      rw [e] at this
      exact this
    · refine Kd.C_of_reads (d := ByteArray.empty) (h1 := fun _ => rfl) ⟨hl, by omega, fun _ => ⟨a, rfl, fun j hj => ?_⟩⟩
      rw [hcell j (by omega), h3, List.getD_eq_getElem?_getD, List.getD_eq_getElem?_getD, List.getElem?_take_of_lt hj]

theorem laid_of {W : World} (h : laidMetH Tryd.prog Rows.fnKindOrderRow.laid W) : Laid W := by
  rw [MakeChecks.laidMetH_plain _ _ _ (by kernel_rfl)] at h
  have gI : Tryd.prog.globalNamed "given.example/pub-antistrophe/pub/helm/pkg/releaseutil.InstallOrder" = some 2 := by kernel_rfl
  have gU : Tryd.prog.globalNamed "given.example/pub-antistrophe/pub/helm/pkg/releaseutil.UninstallOrder" = some 1 := by kernel_rfl
  have tI : (Tryd.prog.globals[2]?).map (·.type) = some 33 := by kernel_rfl
  have tU : (Tryd.prog.globals[1]?).map (·.type) = some 33 := by kernel_rfl
  obtain ⟨ps, ⟨g0, t0, cs0, f0, p0, q0, hg0, ht0, hv0, hd0, ⟨g1, t1, cs1, f1, p1, q1, hg1, ht1, hv1, hd1, _, _⟩, _⟩, _, _⟩ := h
  obtain rfl := Option.some.inj (gI.symm.trans hg0)
  obtain rfl := Option.some.inj (gU.symm.trans hg1)
  obtain rfl := Option.some.inj (tI.symm.trans ht0)
  obtain rfl := Option.some.inj (tU.symm.trans ht1)
  intro un
  cases un with
  | true => exact of_trod (l := uninstallL) rfl gU hv1 hd1
  | false => exact of_trod (l := installL) rfl gI hv0 hd0

theorem row_calls (a b : ByteArray) (un : Bool) (w : World) (ha : a.size ≤ 140737488351232) (hb : b.size ≤ 140737488351232) (hL : laidMetH Tryd.prog Rows.fnKindOrderRow.laid w) :
    Calls Tryd.prog 5 #[.string a, .string b, .bool un] w fun e w' => e = .returned (.bool true) ∧ Below w.heap.size w w' := order_calls a b un w ha hb (laid_of hL)

end Go.Proofs.YtefejcggkkmhaaaDoor.HKind
