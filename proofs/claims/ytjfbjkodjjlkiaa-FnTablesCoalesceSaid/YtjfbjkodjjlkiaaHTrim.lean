/- What spec.Trimmed comes to. -/
import Derived.Test.YtjfbjkodjjlkiaaHPathLaw
namespace Go.Proofs.Ytjfbjkodjjlkiaa.HVal
open Go.RowKit Go.WideMaps Go.Maps Go.Proofs.YtjfbjkodjjlkiaaW.PrintWords Go.Proofs.YtjfbjkodjjlkiaaW.PrintLast Go.Proofs.YtjfbjkodjjlkiaaW.PrintMore Go.Proofs.Ytjfbjkodjjlkiaa.Plain Go.Proofs.Ytjfbjkodjjlkiaa.GTab Go.Proofs.Ytjfbjkodjjlkiaa.HBytes
attribute [local go_sem] run_store_flt

/-! ### the plain function -/
/-- A value without its nulls, if it is a table. -/
def one (f : S26 → S26) (x : S26) : S26 := if x.f0 = 7 then f x else x
def trimL (f : S26 → S26) : List ByteArray → List S26 → List (ByteArray × S26)
  | k :: ks, x :: xs => (if (one f x).f0 = 0 then [] else [(k, one f x)]) ++ trimL f ks xs
  | _, _ => []
def trim : Nat → S26 → S26
  | 0, x => x
  | n + 1, x => { z26 with f0 := 7, f5 := (trimL (trim n) x.f5 x.f6).map (·.1), f6 := (trimL (trim n) x.f5 x.f6).map (·.2) }
theorem trimL_snoc {f : S26 → S26} {k : ByteArray} {x : S26} : ∀ {ks : List ByteArray} {xs : List S26}, ks.length = xs.length → trimL f (ks ++ [k]) (xs ++ [x]) = trimL f ks xs ++ (if (one f x).f0 = 0 then [] else [(k, one f x)])
  | [], [], _ => by simp [trimL]
  | [], _ :: _, h => by simp at h
  | _ :: _, [], h => by simp at h
  | k' :: ks, x' :: xs, h => by
    simp only [List.cons_append, trimL]
    rw [trimL_snoc (by simpa using h), List.append_assoc]
theorem trimL_take {f : S26 → S26} {ks : List ByteArray} {xs : List S26} {j : Nat} (hl : ks.length = xs.length) (h : j < xs.length) : trimL f (ks.take (j + 1)) (xs.take (j + 1)) = trimL f (ks.take j) (xs.take j) ++ (if (one f xs[j]).f0 = 0 then [] else [(ks[j]'(by omega), one f xs[j])]) := by
  rw [List.take_succ_eq_append_getElem (by omega : j < ks.length), List.take_succ_eq_append_getElem h]
  exact trimL_snoc (by simp; omega)
theorem trimL_len {f : S26 → S26} : ∀ (ks : List ByteArray) (xs : List S26), (trimL f ks xs).length ≤ xs.length
  | [], _ => by simp [trimL]
  | _ :: _, [] => by simp [trimL]
  | k :: ks, x :: xs => by
    have := trimL_len (f := f) ks xs
    rw [trimL, List.length_append, List.length_cons]
    split <;> simp <;> omega
/-! ### rows whose elements are shared -/
inductive Els (W : World) (Q : Nat → Prop) : List S26 → List Value → Prop
  | nil : Els W Q [] []
  | snoc {ys : List S26} {raws : List Value} {y : S26} {A5 : Option Addr} {c5 : Nat} {A6 : Option Addr} {c6 : Nat} : Els W Q ys raws → KV W Q y A5 c5 A6 c6 → Els W Q (ys ++ [y]) (raws ++ cells26 y A5 c5 A6 c6)
theorem Els.step {W W2 : World} {Q : Nat → Prop} {ys : List S26} {raws : List Value} (h : Els W Q ys raws) (hm : ∀ k, Q k → k < W.heap.size → W2.heap[k]? = W.heap[k]?) : Els W2 Q ys raws := by
  induction h with
  | nil => exact .nil
  | snoc _ hk ih => exact .snoc ih (hk.step hm)
theorem Els.mono {W : World} {Q Q' : Nat → Prop} {ys : List S26} {raws : List Value} (h : Els W Q ys raws) (hq : ∀ k, Q k → Q' k) : Els W Q' ys raws := by
  induction h with
  | nil => exact .nil
  | snoc _ hk ih => exact .snoc ih (hk.mono hq)
theorem Els.bound {W : World} {Q : Nat → Prop} {ys : List S26} {raws : List Value} (h : Els W Q ys raws) : Els W (fun k => Q k ∧ k < W.heap.size) ys raws := by
  induction h with
  | nil => exact .nil
  | snoc _ hk ih => exact .snoc ih hk.bound
theorem Els.len {W : World} {Q : Nat → Prop} {ys : List S26} {raws : List Value} (h : Els W Q ys raws) : raws.length = ys.length * 7 := by
  induction h with
  | nil => rfl
  | snoc _ _ ih => simp [ih]; omega
theorem Els.get {W : World} {Q : Nat → Prop} {ys : List S26} {raws : List Value} (h : Els W Q ys raws) : ∀ (j : Nat) (p : S26), ys[j]? = some p → ∃ A5 c5 A6 c6, KV W Q p A5 c5 A6 c6 ∧ ∀ i u, (cells26 p A5 c5 A6 c6)[i]? = some u → raws[j * 7 + i]? = some u := by
  induction h with
  | nil => intro j p hp; simp at hp
  | snoc he hk ih =>
    rename_i ys raws y A5 c5 A6 c6
    intro j p hp
    have hl := he.len
    by_cases hj : j < ys.length
    · rw [List.getElem?_append_left hj] at hp
      obtain ⟨B5, d5, B6, d6, h1, h2⟩ := ih j p hp
      refine ⟨B5, d5, B6, d6, h1, fun i u hu => ?_⟩
      have := h2 i u hu
      have hlt : j * 7 + i < raws.length := (List.getElem?_eq_some_iff.1 this).1
      rw [List.getElem?_append_left hlt]
      exact this
    · have e : j = ys.length := by
        have := (List.getElem?_eq_some_iff.1 hp).1
        simp at this
        omega
      subst e
      simp at hp
      subst hp
      refine ⟨A5, c5, A6, c6, hk, fun i u hu => ?_⟩
      rw [List.getElem?_append_right (by omega), hl]
      rw [show ys.length * 7 + i - ys.length * 7 = i from by omega]
      exact hu
/-- What is known while the names are gone through. -/
structure TS (w : World) (P : Nat → Prop) (x : S26) (A5 : Option Addr) (c5 : Nat) (A6 : Option Addr) (c6 : Nat) (ks : List ByteArray) (ys : List S26) (raws : List Value) (vA vB : Value) (W : World) : Prop where
  b0 : W.heap[w.heap.size]? = some (.cells #[.int .i64 x.f0, .bool x.f1, .int .i64 x.f2, .float .f64 x.f3, .string x.f4, .slice A5 x.f5.length c5, .slice A6 x.f6.length c6] 26 (0, 0))
  b1 : W.heap[w.heap.size + 1]? = some (.cells #[.int .i64 0, .bool false, .int .i64 0, .float .f64 0, .string ⟨#[]⟩, .slice none 0 0, .slice none 0 0] 26 (0, 0))
  b2 : W.heap[w.heap.size + 2]? = some (.cells #[.int .i64 7, .bool false, .int .i64 0, .float .f64 0, .string ⟨#[]⟩, vA, vB] 26 (0, 0))
  ra : W.ownsRow (w.heap.size + 3) 9 1 vA ks.length (ks.map Value.string)
  rb : W.ownsRow (w.heap.size + 3) 26 7 vB ys.length raws
  els : Els W (fun k => (P k ∨ w.heap.size + 3 ≤ k) ∧ vA.ownBlock ≠ some k ∧ vB.ownBlock ≠ some k) ys raws
  ne : ∀ k, vA.ownBlock = some k → vB.ownBlock ≠ some k
  kv : KV W P x A5 c5 A6 c6
  below : Below w.heap.size w W
abbrev row7 : Obj := .cells #[.int .i64 7, .bool false, .int .i64 0, .float .f64 0, .string ⟨#[]⟩, .slice none 0 0, .slice none 0 0] 26
theorem row_own {W : World} {base e size n : Nat} {v : Value} {xs : List Value} (h : W.ownsRow base e size v n xs) (k : Nat) (hk : v.ownBlock = some k) : base ≤ k ∧ k < W.heap.size := by
  rcases h.2 with ⟨rfl, _⟩ | ⟨g, cap, cur, rfl, hg, hh, _⟩
  · simp [Value.ownBlock] at hk
  · have e : g = k := by simpa [Value.ownBlock] using hk
    subst e
    exact ⟨hg, blk_lt hh⟩
theorem row_move {W W2 : World} {base e size n : Nat} {v : Value} {xs : List Value} (h : W.ownsRow base e size v n xs) (hm : ∀ k, v.ownBlock = some k → W2.heap[k]? = W.heap[k]?) : W2.ownsRow base e size v n xs := own_move h hm
theorem row_cell {W : World} {g e m : Nat} {cur : Array Value} {xs : List Value} (hh : W.heap[g]? = some (.cells cur e (0, 0))) (hq : cur.toList.take m = xs) {i : Nat} {u : Value} (hi : xs[i]? = some u) : W.cell? ((⟨g, 0, none⟩ : Addr).add i) = some u := by
  rw [add_blk, blk_cell hh]
  rw [← hq, List.getElem?_take] at hi
  split at hi
  · simpa using hi
  · cases hi
section
variable {w : World} {P : Nat → Prop} {x : S26} {A5 A6 : Option Addr} {c5 c6 : Nat} {ks : List ByteArray} {ys : List S26} {raws : List Value} {vA vB : Value} {W W2 : World}
theorem TS.start (hv : KV w P x A5 c5 A6 c6) : TS w P x A5 c5 A6 c6 [] [] [] (.slice none 0 0) (.slice none 0 0) (((w.alloc (row26 x A5 c5 A6 c6)).alloc row0).alloc row7) :=
  ⟨blk_alloc (blk_alloc (blk_new w _) _) _, blk_alloc (blk_at _ (by simp)) _, blk_at _ (by simp), ⟨rfl, .inl ⟨rfl, rfl⟩⟩, ⟨rfl, .inl ⟨rfl, rfl⟩⟩, .nil, fun k hk => by simp [Value.ownBlock] at hk,
    hv.below (below_alloc (below_alloc (below_alloc (Below.refl _ _) _) _) _), below_alloc (below_alloc (below_alloc (Below.refl _ _) _) _) _⟩
theorem TS.later (h : TS w P x A5 c5 A6 c6 ks ys raws vA vB W) (hb : Below W.heap.size W W2) : TS w P x A5 c5 A6 c6 ks ys raws vA vB W2 :=
  ⟨blk_below h.b0 hb, blk_below h.b1 hb, blk_below h.b2 hb, row_move h.ra fun k hk => hb.block k (row_own h.ra k hk).2, row_move h.rb fun k hk => hb.block k (row_own h.rb k hk).2, h.els.step fun k _ hlt => hb.block k hlt, h.ne, h.kv.below hb, below_step h.below hb⟩
theorem TS.lt (h : TS w P x A5 c5 A6 c6 ks ys raws vA vB W) : w.heap.size + 3 ≤ W.heap.size := blk_lt h.b2
/-- The round: both rows have got one element more. -/
theorem TS.next (h : TS w P x A5 c5 A6 c6 ks ys raws vA vB W) (hP : ∀ k, P k → k < w.heap.size) {k : ByteArray} {y : S26} {B5 B6 : Option Addr} {d5 d6 : Nat} {vA' vB' : Value}
    (fr : ∀ i, i < W.heap.size → vA.ownBlock ≠ some i → vB.ownBlock ≠ some i → W2.heap[i]? = W.heap[i]?) (hs : W.heap.size ≤ W2.heap.size) (hos : W2.os = W.os) (htp : W2.tape = W.tape) (hou : W2.output = W.output)
    (ra : W2.ownsRow (w.heap.size + 3) 9 1 vA' (ks.length + 1) (ks.map Value.string ++ [.string k])) (rb : W2.ownsRow (w.heap.size + 3) 26 7 vB' (ys.length + 1) (raws ++ cells26 y B5 d5 B6 d6))
    (pa : ∀ g, vA'.ownBlock = some g → vA.ownBlock = some g ∨ W.heap.size ≤ g) (pb : ∀ g, vB'.ownBlock = some g → vB.ownBlock = some g ∨ W.heap.size ≤ g) (ne : ∀ g, vA'.ownBlock = some g → vB'.ownBlock ≠ some g)
    (hy : KV W (fun k => (P k ∨ w.heap.size + 3 ≤ k) ∧ vA.ownBlock ≠ some k ∧ vB.ownBlock ≠ some k) y B5 d5 B6 d6) :
    TS w P x A5 c5 A6 c6 (ks ++ [k]) (ys ++ [y]) (raws ++ cells26 y B5 d5 B6 d6) vA' vB' ((W2.setCell ⟨w.heap.size + 2, 5, none⟩ vA').setCell ⟨w.heap.size + 2, 6, none⟩ vB') := by
  have hlt := h.lt
  have oA : ∀ i, i < w.heap.size + 3 → vA.ownBlock ≠ some i := fun i hi e => by have := (row_own h.ra i e).1; omega
  have oB : ∀ i, i < w.heap.size + 3 → vB.ownBlock ≠ some i := fun i hi e => by have := (row_own h.rb i e).1; omega
  have far : ∀ i, i ≠ w.heap.size + 2 → ((W2.setCell ⟨w.heap.size + 2, 5, none⟩ vA').setCell ⟨w.heap.size + 2, 6, none⟩ vB').heap[i]? = W2.heap[i]? := fun i hi =>
    (Below.heap_setCell _ ⟨w.heap.size + 2, 6, none⟩ vB' i hi).trans (Below.heap_setCell _ ⟨w.heap.size + 2, 5, none⟩ vA' i hi)
  have low : ∀ i, i < w.heap.size + 2 → ((W2.setCell ⟨w.heap.size + 2, 5, none⟩ vA').setCell ⟨w.heap.size + 2, 6, none⟩ vB').heap[i]? = W.heap[i]? := fun i hi =>
    (far i (by omega)).trans (fr i (by omega) (oA i (by omega)) (oB i (by omega)))
  have hb2 := (fr (w.heap.size + 2) (by omega) (oA _ (by omega)) (oB _ (by omega))).trans h.b2
  have hq1 := blk_put (cs' := #[.int .i64 7, .bool false, .int .i64 0, .float .f64 0, .string ⟨#[]⟩, vA', vB]) hb2 5 vA' rfl
  have hq2 := blk_put (cs' := #[.int .i64 7, .bool false, .int .i64 0, .float .f64 0, .string ⟨#[]⟩, vA', vB']) hq1 6 vB' rfl
  refine ⟨(low _ (by omega)).trans h.b0, (low _ (by omega)).trans h.b1, hq2, ?_, ?_, ?_, ne, h.kv.step fun i hi _ => low i (by have := hP i hi; omega), ?_⟩
  · rw [List.length_append, List.map_append]
    exact row_move ra fun i hi => far i (by have := (row_own ra i hi).1; omega)
  · rw [List.length_append]
    exact row_move rb fun i hi => far i (by have := (row_own rb i hi).1; omega)
  · refine ((Els.snoc h.els hy).bound.step (W2 := (W2.setCell ⟨w.heap.size + 2, 5, none⟩ vA').setCell ⟨w.heap.size + 2, 6, none⟩ vB') fun i hi hl => ?_).mono fun i hi => ?_
    · obtain ⟨⟨hi, ha, hb⟩, hl⟩ := hi
      refine (far i ?_).trans (fr i hl ha hb)
      rcases hi with hi | hi
      · have := hP i hi
        omega
      · omega
    · obtain ⟨⟨hi, ha, hb⟩, hl⟩ := hi
      refine ⟨hi, fun e => ?_, fun e => ?_⟩
      · rcases pa i e with e2 | e2
        · exact ha e2
        · omega
      · rcases pb i e with e2 | e2
        · exact hb e2
        · omega
  · refine ⟨hos.trans h.below.os, htp.trans h.below.tape, hou.trans h.below.output, ?_, fun i hi => (low i (by omega)).trans (h.below.block i hi)⟩
    have := h.below.size
    simp [World.setCell]
    omega
/-- What was put together is a value that is read. -/
theorem TS.out (h : TS w P x A5 c5 A6 c6 ks ys raws vA vB W) : ∃ A a B b, vA = .slice A ks.length a ∧ vB = .slice B ys.length b ∧ KV W (fun k => P k ∨ w.heap.size + 3 ≤ k) { z26 with f0 := 7, f5 := ks, f6 := ys } A a B b := by
  obtain ⟨hA, hA2⟩ := h.ra
  obtain ⟨hB, hB2⟩ := h.rb
  have kA : ∃ A a, vA = .slice A ks.length a ∧ ks.length ≤ a ∧ Kd.F Kd.string W (fun k => P k ∨ w.heap.size + 3 ≤ k) A ks.length ks := by
    rcases hA2 with ⟨rfl, h0⟩ | ⟨g, cap, cur, rfl, hg, hh, hc, hm, _, hq⟩
    · have e : ks = [] := List.length_eq_zero_iff.1 h0
      subst e
      exact ⟨none, 0, rfl, Nat.le_refl _, Kd.F_nil _ _ _⟩
    · refine ⟨_, cap, rfl, hc, fun W' hW => ⟨rfl, Nat.le_trans hc (Nat.le_trans hm (by decide)), fun _ => ⟨_, rfl, fun j p hp => ⟨[.string p], rfl, rfl, fun i u hu => ?_⟩⟩⟩⟩
      have e : i = 0 := by
        have := (List.getElem?_eq_some_iff.1 hu).1
        simp at this
        omega
      subst e
      simp at hu
      subst hu
      refine row_cell ((hW g (.inr hg) (blk_lt hh)).trans hh) hq ?_
      show (ks.map Value.string)[j * 1 + 0]? = _
      rw [List.getElem?_map, Nat.mul_one, Nat.add_zero, hp]
      rfl
  have kB : ∃ B b, vB = .slice B ys.length b ∧ ys.length ≤ b ∧ Kd.F k26 W (fun k => P k ∨ w.heap.size + 3 ≤ k) B ys.length ys := by
    rcases hB2 with ⟨rfl, h0⟩ | ⟨g, cap, cur, rfl, hg, hh, hc, hm, _, hq⟩
    · have e : ys = [] := List.length_eq_zero_iff.1 h0
      subst e
      exact ⟨none, 0, rfl, Nat.le_refl _, Kd.F_nil _ _ _⟩
    · refine ⟨_, cap, rfl, hc, fun W' hW => ⟨rfl, Nat.le_trans hc (Nat.le_trans hm (by decide)), fun _ => ⟨_, rfl, fun j p hp => ?_⟩⟩⟩
      obtain ⟨B5, d5, B6, d6, hk, hu⟩ := h.els.get j p hp
      refine ⟨_, rfl, Kd.FK_now (hk.step (w1 := W') fun k hk hlt => hW k hk.1 hlt).fk, fun i u hi => ?_⟩
      exact row_cell ((hW g (.inr hg) (blk_lt hh)).trans hh) hq (hu i u hi)
  obtain ⟨A, a, e1, l1, f1⟩ := kA
  obtain ⟨B, b, e2, l2, f2⟩ := kB
  exact ⟨A, a, B, b, e1, e2, l1, f1, l2, f2⟩
end
end Go.Proofs.Ytjfbjkodjjlkiaa.HVal
