/- A call through a function value that captures nothing, as a step of a region that draws its order; and that region's steps in short. -/
import Derived.Test.YtfdgbgjbncakfaaWLast
import Derived.Test.YtfdgbgjbncakfaaWTab
namespace Go.Proofs.Ytfdgbgjbncakfaa.HVia
open Go.RowKit Go.Proofs.YtfdgbgjbncakfaaW.PrintLast Go.Proofs.YtfdgbgjbncakfaaW.PrintWords
section
variable {P : Program} {ops : Array Oper} {Q : Exit → Act → World → Prop} {S : World → Prop} {ds : List Nat} {T : Bool × List (List Nat × List Nat)} {B : List Nat}

theorem goesT_ {oi : Oper} {N : Option Tmp} {a : Act} {w : World} {K : Act → World → Prop} {f : FuncId} {fn : Func} {as : Array Operand} {ts : Array TypeId} {k : Tmp} (hf : P.funcs[f]? = some fn) (hname : (fn.name == "runtime.NumGoroutine") = false) (hb : fn.body.isSome = true) (args : Array Value)
    (hw : Region.wanted oi (yielded ops a.tmps) = true) (hN : oi.dst = N) (hop : oi.op = .call { callee := .value (.tmp k), args := as, argTypes := ts }) (hk : a.eval (.tmp k) = .func (.func f) #[] #[]) (hargs : as.map a.eval = args)
    (h : Calls P f args w fun e w' => ∃ v, e = .returned v ∧ K (a.put N v) w') : if Region.wanted oi (yielded ops a.tmps) = true then Oper.wp P oi a w K Q else K (a.put N undef) w := by
  refine call_ f args hw hN ?_ h
  have he := enters_ hf hname hb args w
  unfold execOp
  simp [hop, resolve, Deferred.ofValue, invoke, hk, hargs, he]

theorem bc {w : World} {g : Nat} {t : TypeId} {cs : Array Value} {v : Value} (h : Aside0 (w.heap[g]? = some (.cells cs t (0, 0)))) (i : Nat) (e : cs[i]? = some v) : w.cell? ⟨g, i, none⟩ = some v := (blk_cell h.out i).trans e
theorem put_list {t t' : List Value} {n : Nat} {v : Value} {d : List Deferred} (h : t.set n v = t') : Act.put ⟨t.toArray, d⟩ (some n) v = ⟨t'.toArray, d⟩ := by
  subst h
  simp [Act.put]
theorem isE {l : List UInt8} {b : Bool} (h : (l == ([] : List UInt8)) = b) : l.isEmpty = b := by
  subst h
  cases l <;> rfl
/-- An operation that reads nothing. -/
theorem pS (i n : Nat) {oi : Oper} {v : Value} {fuel : Nat} {l : Array Bool} {t t' : List Value} {d : List Deferred} {w : World} (l' : Array Bool) (hT : Aside0 (rtab .any ops = T)) (h : anyT T l.toList l'.toList i = true) (hi : ops[i]? = some oi) (hN : oi.dst = some n)
    (hQ : ∀ c a w, Q (.panic c) (a.put oi.dst v) w → Q (.panic c) a w) (hw : Region.wanted oi (yielded ops t.toArray) = true) (hy : ∀ w, (execOp (Act.eval ⟨t.toArray, d⟩) oi).run P w = .ok (.value v) w) (ha : t.set n v = t')
    (hr : wpAnyLast P .any ops Q S ds fuel l' ⟨t'.toArray, d⟩ w) : wpAnyLast P .any ops Q S ds (fuel + 1) l ⟨t.toArray, d⟩ w :=
  pure_ l' hi hN (any_of hT.out h) hQ (.inl ⟨hw, hy⟩) (put_list ha) hr
/-- An operation that is not asked for. -/
theorem pU (i n : Nat) {oi : Oper} {fuel : Nat} {l : Array Bool} {t t' : List Value} {d : List Deferred} {w : World} (l' : Array Bool) (hT : Aside0 (rtab .any ops = T)) (h : anyT T l.toList l'.toList i = true) (hi : ops[i]? = some oi) (hN : oi.dst = some n)
    (hQ : ∀ c a w, Q (.panic c) (a.put oi.dst undef) w → Q (.panic c) a w) (hw : Region.wanted oi (yielded ops t.toArray) = false) (ha : t.set n undef = t')
    (hr : wpAnyLast P .any ops Q S ds fuel l' ⟨t'.toArray, d⟩ w) : wpAnyLast P .any ops Q S ds (fuel + 1) l ⟨t.toArray, d⟩ w :=
  pure_ l' hi hN (any_of hT.out h) hQ (.inr ⟨hw, rfl⟩) (put_list ha) hr
/-- A load, taken first. -/
theorem tS (i n : Nat) {oi : Oper} {v : Value} {fuel : Nat} {l : Array Bool} {t t' : List Value} {d : List Deferred} {w : World} (l' : Array Bool) (hT : Aside0 (rtab .any ops = T)) (hB : Aside0 (waitsOk T.2 B = true)) (h : takeW T B ds l.toList l'.toList i = true) (hi : ops[i]? = some oi) (hN : oi.dst = some n)
    (hQ : ∀ c a w, Q (.panic c) (a.put oi.dst v) w → Q (.panic c) a w) (hS : S w) (hw : Region.wanted oi (yielded ops t.toArray) = true) (hy : ∀ w, S w → (execOp (Act.eval ⟨t.toArray, d⟩) oi).run P w = .ok (.value v) w) (ha : t.set n v = t')
    (hr : wpAnyLast P .any ops Q S ds fuel l' ⟨t'.toArray, d⟩ w) : wpAnyLast P .any ops Q S ds (fuel + 1) l ⟨t.toArray, d⟩ w :=
  take_ l' hi hN (take_ofW hT.out hB.out h) hQ (.inl ⟨hw, hy⟩) hS (put_list ha) hr
end
end Go.Proofs.Ytfdgbgjbncakfaa.HVia
