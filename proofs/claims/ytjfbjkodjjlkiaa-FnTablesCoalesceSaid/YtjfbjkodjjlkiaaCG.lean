/- A table that is put together entry by entry in a box of its own: the two appends of a round, wherever they stand. A region that draws its order: a load may be taken first where nobody but the region's last stores writes its cell. What spec.Without comes to. What spec.With comes to. A value in its box; what is known of a table that was coalesced. What spec.Coalesced comes to. FnTablesCoalesce: for all tables that its guards let in, the law returns true. -/
import Derived.Test.YtjfbjkodjjlkiaaHTrim
import Derived.Deep.AppendLies
import Derived.Deep.RegionLaw
import Derived.Deep.RegionHeld
import Derived.Test.YtjfbjkodjjlkiaaCD
import Derived.Test.YtjfbjkodjjlkiaaCE
import Derived.Test.YtjfbjkodjjlkiaaHPathLaw
import Derived.StillTailTactics
import Derived.Deep.DeepMust
/-! A table that is put together entry by entry in a box of its own: the two appends of a round, wherever they stand. -/
namespace Go.Proofs.Ytjfbjkodjjlkiaa.HVal
open Go.RowKit Go.WideMaps Go.Maps Go.Proofs.YtjfbjkodjjlkiaaW.PrintWords Go.Proofs.YtjfbjkodjjlkiaaW.PrintLast Go.Proofs.YtjfbjkodjjlkiaaW.PrintMore Go.Proofs.Ytjfbjkodjjlkiaa.Plain Go.Proofs.Ytjfbjkodjjlkiaa.GTab Go.Proofs.Ytjfbjkodjjlkiaa.HBytes
attribute [local go_sem] run_store_flt

abbrev tab26 (vA vB : Value) : Obj := .cells #[.int .i64 7, .bool false, .int .i64 0, .float .f64 0, .string ⟨#[]⟩, vA, vB] 26 (0, 0)
/-- What is known while the entries are gone through: the box ob holds the table, whose rows lie at base or behind; below base all else is as in w1. -/
structure TW (w w1 : World) (R : Nat → Prop) (base ob : Nat) (ks : List ByteArray) (ys : List S26) (raws : List Value) (vA vB : Value) (W : World) : Prop where
  lo : w.heap.size ≤ ob ∧ ob < base ∧ base ≤ W.heap.size
  sub : ∀ k, R k → k < w.heap.size
  fr : ∀ i, i < base → i ≠ ob → W.heap[i]? = w1.heap[i]?
  box : W.heap[ob]? = some (tab26 vA vB)
  ra : W.ownsRow base 9 1 vA ks.length (ks.map Value.string)
  rb : W.ownsRow base 26 7 vB ys.length raws
  ne : ∀ k, vA.ownBlock = some k → vB.ownBlock ≠ some k
  els : Els W R ys raws
  below : Below w.heap.size w W
theorem row_own2 {W : World} {base e size n : Nat} {v : Value} {xs : List Value} (h : W.ownsRow base e size v n xs) (k : Nat) (hk : v.ownBlock = some k) : base ≤ k ∧ k < W.heap.size := row_own h k hk
section
variable {w w1 W W2 Wc W4 : World} {R : Nat → Prop} {base ob p g cap : Nat} {ks : List ByteArray} {ys : List S26} {raws : List Value} {vA vB : Value} {t : ByteArray} {y : S26} {B5 B6 : Option Addr} {d5 d6 : Nat}
theorem TW.later (h : TW w w1 R base ob ks ys raws vA vB W) (hb : Below W.heap.size W W2) : TW w w1 R base ob ks ys raws vA vB W2 :=
  ⟨⟨h.lo.1, h.lo.2.1, Nat.le_trans h.lo.2.2 hb.size⟩, h.sub, fun i hi hn => (hb.block i (Nat.lt_of_lt_of_le hi h.lo.2.2)).trans (h.fr i hi hn), blk_below h.box hb, row_move h.ra fun k hk => hb.block k (row_own h.ra k hk).2, row_move h.rb fun k hk => hb.block k (row_own h.rb k hk).2, h.ne, h.els.step fun k _ hlt => hb.block k hlt, below_step h.below hb⟩
/-- Behind the append of the key. -/
structure MW (w w1 : World) (R : Nat → Prop) (base ob : Nat) (ks : List ByteArray) (ys : List S26) (raws : List Value) (vA vB : Value) (wc : World) (t : ByteArray) (g cap : Nat) (W4 : World) : Prop where
  tw : TW w w1 R base ob ks ys raws vA vB wc
  fr : ∀ i, i < wc.heap.size → vA.ownBlock ≠ some i → W4.heap[i]? = wc.heap[i]?
  sz : wc.heap.size ≤ W4.heap.size
  os : W4.os = wc.os
  tape : W4.tape = wc.tape
  output : W4.output = wc.output
  ra : W4.ownsRow base 9 1 (.slice (some ⟨g, 0, none⟩) (ks.length + 1) cap) (ks.length + 1) (ks.map Value.string ++ [.string t])
  pa : vA.ownBlock = some g ∨ wc.heap.size ≤ g
theorem MW.low (h : MW w w1 R base ob ks ys raws vA vB W t g cap W4) (i : Nat) (hi : i < base) : W4.heap[i]? = W.heap[i]? :=
  h.fr i (Nat.lt_of_lt_of_le hi h.tw.lo.2.2) fun e => by have := (row_own h.tw.ra i e).1; omega
theorem MW.box (h : MW w w1 R base ob ks ys raws vA vB W t g cap W4) : W4.heap[ob]? = some (tab26 vA vB) := (h.low _ h.tw.lo.2.1).trans h.tw.box
theorem MW.rb (h : MW w w1 R base ob ks ys raws vA vB W t g cap W4) : W4.ownsRow base 26 7 vB ys.length raws := row_move h.tw.rb fun k hk => h.fr k (row_own h.tw.rb k hk).2 fun e => h.tw.ne k e hk
theorem MW.later (h : MW w w1 R base ob ks ys raws vA vB W t g cap W4) (hb : Below W4.heap.size W4 W2) : MW w w1 R base ob ks ys raws vA vB W t g cap W2 :=
  ⟨h.tw, fun i hi hn => (hb.block i (Nat.lt_of_lt_of_le hi h.sz)).trans (h.fr i hi hn), Nat.le_trans h.sz hb.size, hb.os.trans h.os, hb.tape.trans h.tape, hb.output.trans h.output, row_move h.ra fun k hk => hb.block k (row_own h.ra k hk).2, h.pa⟩
/-- A block that was made in the round, behind the append of the key. -/
theorem MW.kept {o : Obj} (H : TW w w1 R base ob ks ys raws vA vB W) (hg : Wc.grownBy W4 vA.ownBlock) (hp : Wc.heap[p]? = some o) (hle : W.heap.size ≤ p) : W4.heap[p]? = some o :=
  (hg.block p (blk_lt hp) (fun e => by have := (row_own H.ra p e.symm).2; omega)).trans hp
theorem appA (HT : TW w w1 R base ob ks ys raws vA vB W) (hw : Below W.heap.size W Wc) (hp : Wc.heap[p]? = some (.cells #[.string t] 9 (0, 0))) (LL : ks.length ≤ 4000)
    {ops : Array Oper} {o : Oper} {a : Act} {K : Act → World → Prop} {Q : Exit → Act → World → Prop} {E : Prop} (q1 q2 : Operand) (hgd : o.guard = none) (ho : o.op = .call { callee := .builtin .append, args := #[q1, q2], argTypes := #[23, 23] }) (hs : a.eval q1 = vA) (hx : a.eval q2 = .slice (some ⟨p, 0, none⟩) 1 1)
    (h : ∀ g cap W4, MW w w1 R base ob ks ys raws vA vB W t g cap W4 → Wc.grownBy W4 vA.ownBlock → K (a.put o.dst (.slice (some ⟨g, 0, none⟩) (ks.length + 1) cap)) W4) :
    if Region.wanted o (yielded ops a.tmps) = true then Oper.wp Try.prog o a Wc K Q else E := by
  obtain ⟨i0, hi, hz0, hz1, hz2⟩ := info_parts info9s
  refine step_append_lies Wc hgd _ _ 23 ho base 9 i0 _ 1 16 Try.underlying23 hi hz0 hz1 hz2 rfl (by decide) vA ks.length (ks.map Value.string) hs (row_move HT.ra fun k hk => hw.block k (row_own HT.ra k hk).2) ⟨p, 0, none⟩ 1 1 [.string t] hx rfl (World.news_of_block hp) (fun u hu => by cases List.mem_singleton.1 hu; rfl) (by decide) (by unfold maxLen; omega) (by omega) (Nat.le_trans HT.lo.2.2 hw.size) _ rfl fun g cap W4 hr hg hat hlt => h g cap W4 ?_ hg
  exact ⟨HT, fun i hi hn => (hg.block i (Nat.lt_of_lt_of_le hi hw.size) (fun e => hn e.symm)).trans (hw.block i hi), Nat.le_trans hw.size hg.size, hg.os.trans hw.os, hg.tape.trans hw.tape, hg.output.trans hw.output, hr, hat.imp id fun e => by rw [e]; exact hw.size⟩
theorem appB (HM : MW w w1 R base ob ks ys raws vA vB W t g cap Wc) (hp : Wc.heap[p]? = some (.cells #[.int .i64 y.f0, .bool y.f1, .int .i64 y.f2, .float .f64 y.f3, .string y.f4, .slice B5 y.f5.length d5, .slice B6 y.f6.length d6] 26 (0, 0))) (hy : KV w R y B5 d5 B6 d6) (LL : ys.length ≤ 4000)
    {ops : Array Oper} {o : Oper} {a : Act} {K : Act → World → Prop} {Q : Exit → Act → World → Prop} {E : Prop} (q1 q2 : Operand) (hgd : o.guard = none) (ho : o.op = .call { callee := .builtin .append, args := #[q1, q2], argTypes := #[24, 24] }) (hs : a.eval q1 = vB) (hx : a.eval q2 = .slice (some ⟨p, 0, none⟩) 1 1)
    (h : ∀ g2 cap2 W5, W5.heap[ob]? = some (tab26 vA vB) → TW w w1 R base ob (ks ++ [t]) (ys ++ [y]) (raws ++ cells26 y B5 d5 B6 d6) (.slice (some ⟨g, 0, none⟩) (ks.length + 1) cap) (.slice (some ⟨g2, 0, none⟩) (ys.length + 1) cap2) ((W5.setCell ⟨ob, 5, none⟩ (.slice (some ⟨g, 0, none⟩) (ks.length + 1) cap)).setCell ⟨ob, 6, none⟩ (.slice (some ⟨g2, 0, none⟩) (ys.length + 1) cap2)) →
      K (a.put o.dst (.slice (some ⟨g2, 0, none⟩) (ys.length + 1) cap2)) W5) :
    if Region.wanted o (yielded ops a.tmps) = true then Oper.wp Try.prog o a Wc K Q else E := by
  obtain ⟨i0, hi, hz0, hz1, hz2⟩ := info_parts info26
  have hlo := HM.tw.lo
  refine step_append_lies Wc hgd _ _ 24 ho base 26 i0 _ 7 96 Try.underlying24 hi hz0 hz1 hz2 rfl (by decide) vB ys.length raws hs HM.rb ⟨p, 0, none⟩ 1 1 (cells26 y B5 d5 B6 d6) hx rfl (World.news_of_block hp) (fun u hu => by simp at hu; rcases hu with rfl | rfl | rfl | rfl | rfl | rfl | rfl <;> rfl) (by decide) (by unfold maxLen; omega) (by omega) (by have := HM.sz; omega) _ rfl fun g2 cap2 W5 hr hg hat hlt2 => ?_
  have fr : ∀ i, i < W.heap.size → vA.ownBlock ≠ some i → vB.ownBlock ≠ some i → W5.heap[i]? = W.heap[i]? := fun i hi ha hb => (hg.block i (Nat.lt_of_lt_of_le hi HM.sz) (fun e => hb e.symm)).trans (HM.fr i hi ha)
  have oA : ∀ i, i < base → vA.ownBlock ≠ some i := fun i hi e => by have := (row_own HM.tw.ra i e).1; omega
  have oB : ∀ i, i < base → vB.ownBlock ≠ some i := fun i hi e => by have := (row_own HM.tw.rb i e).1; omega
  have lB : ∀ i, vB.ownBlock = some i → i < W.heap.size := fun i e => (row_own HM.tw.rb i e).2
  have hgl := row_own HM.ra g rfl
  have gne : vB.ownBlock ≠ some g := fun e => by
    rcases HM.pa with e2 | e2
    · exact HM.tw.ne g e2 e
    · have := lB g e
      omega
  have hb5 := (fr ob (by omega) (oA _ hlo.2.1) (oB _ hlo.2.1)).trans HM.tw.box
  refine h g2 cap2 W5 hb5 ?_
  have hsz : ((W5.setCell ⟨ob, 5, none⟩ (.slice (some ⟨g, 0, none⟩) (ks.length + 1) cap)).setCell ⟨ob, 6, none⟩ (.slice (some ⟨g2, 0, none⟩) (ys.length + 1) cap2)).heap.size = W5.heap.size := by simp [World.setCell]
  have far : ∀ i, i ≠ ob → ((W5.setCell ⟨ob, 5, none⟩ (.slice (some ⟨g, 0, none⟩) (ks.length + 1) cap)).setCell ⟨ob, 6, none⟩ (.slice (some ⟨g2, 0, none⟩) (ys.length + 1) cap2)).heap[i]? = W5.heap[i]? := fun i hi =>
    (Below.heap_setCell _ ⟨ob, 6, none⟩ _ i hi).trans (Below.heap_setCell _ ⟨ob, 5, none⟩ _ i hi)
  have low : ∀ i, i < base → i ≠ ob → ((W5.setCell ⟨ob, 5, none⟩ (.slice (some ⟨g, 0, none⟩) (ks.length + 1) cap)).setCell ⟨ob, 6, none⟩ (.slice (some ⟨g2, 0, none⟩) (ys.length + 1) cap2)).heap[i]? = W.heap[i]? := fun i hi hn =>
    (far i hn).trans (fr i (by omega) (oA i hi) (oB i hi))
  have hws := HM.tw.below.size
  have hW5 : W.heap.size ≤ W5.heap.size := Nat.le_trans HM.sz hg.size
  have hq1 := blk_put (cs' := #[.int .i64 7, .bool false, .int .i64 0, .float .f64 0, .string ⟨#[]⟩, .slice (some ⟨g, 0, none⟩) (ks.length + 1) cap, vB]) hb5 5 (.slice (some ⟨g, 0, none⟩) (ks.length + 1) cap) rfl
  have hq2 := blk_put (cs' := #[.int .i64 7, .bool false, .int .i64 0, .float .f64 0, .string ⟨#[]⟩, .slice (some ⟨g, 0, none⟩) (ks.length + 1) cap, .slice (some ⟨g2, 0, none⟩) (ys.length + 1) cap2]) hq1 6 (.slice (some ⟨g2, 0, none⟩) (ys.length + 1) cap2) rfl
  have hbel : Below w.heap.size w ((W5.setCell ⟨ob, 5, none⟩ (.slice (some ⟨g, 0, none⟩) (ks.length + 1) cap)).setCell ⟨ob, 6, none⟩ (.slice (some ⟨g2, 0, none⟩) (ys.length + 1) cap2)) :=
    ⟨(hg.os.trans HM.os).trans HM.tw.below.os, (hg.tape.trans HM.tape).trans HM.tw.below.tape, (hg.output.trans HM.output).trans HM.tw.below.output, by rw [hsz]; omega, fun i hi => (low i (by omega) (by omega)).trans (HM.tw.below.block i hi)⟩
  refine ⟨⟨hlo.1, hlo.2.1, by rw [hsz]; omega⟩, HM.tw.sub, fun i hi hn => (low i hi hn).trans (HM.tw.fr i hi hn), hq2, ?_, ?_, fun k hk => ?_, ?_, hbel⟩
  · rw [List.length_append, List.map_append]
    refine row_move HM.ra fun k hk => ?_
    have e : g = k := by simpa [Value.ownBlock] using hk
    subst e
    exact (far g (by omega)).trans (hg.block g hgl.2 (fun e => gne e.symm))
  · rw [List.length_append]
    exact row_move hr fun k hk => far k (by have := (row_own hr k hk).1; omega)
  · have e : g = k := by simpa [Value.ownBlock] using hk
    subst e
    intro e2
    have e3 : g2 = g := by simpa [Value.ownBlock] using e2
    rcases hat with e4 | e4
    · exact gne (by rw [e4, e3])
    · omega
  · exact Els.snoc (HM.tw.els.step fun k hk _ => low k (by have := HM.tw.sub k hk; omega) (by have := HM.tw.sub k hk; omega)) (hy.step fun k hk _ => (hbel.block k (HM.tw.sub k hk)))
end
end Go.Proofs.Ytjfbjkodjjlkiaa.HVal
/-! A region that draws its order: a load may be taken first where nobody but the region's last stores writes its cell. -/
namespace Go.Proofs.Ytjfbjkodjjlkiaa.HHeld
open Go
section
variable {P : Program} {ops : Array Oper} {Q : Exit → Act → World → Prop} {md : Region.Mode} {S : Bool → World → Prop} {T : Bool → Nat → Bool}

/-- Whatever order is picked from here on, and S holds behind every operation that is carried out, but those of T. -/
def wpAnyU (P : Program) (md : Region.Mode) (ops : Array Oper) (Q : Exit → Act → World → Prop) (S : Bool → World → Prop) (T : Bool → Nat → Bool) : Nat → Array Bool → Act → World → Prop
  | 0, listed, a, w => Region.ready md ops listed = [] ∧ Q .normal a w
  | fuel + 1, listed, a, w =>
    (Region.ready md ops listed = [] → Q .normal a w) ∧
    ∀ i ∈ Region.ready md ops listed, wpOp P ops Q i (fun a' w' => (∀ c, T c i = false → S c w → S c w') ∧ wpAnyU P md ops Q S T fuel (listed.setIfInBounds i true) a' w') a w
theorem wpAny_of_U : ∀ (fuel : Nat) (listed : Array Bool) (a : Act) (w : World), wpAnyU P md ops Q S T fuel listed a w → wpAny P md ops Q fuel listed a w
  | 0, _, _, _, h => h
  | fuel + 1, _, _, _, h => ⟨h.1, fun i hi => wpOp_mono (fun a' w' h' => wpAny_of_U fuel _ a' w' h'.2) (h.2 i hi)⟩
/-- All operations of T wait for number i. -/
def waits (md : Region.Mode) (ops : Array Oper) (T : Nat → Bool) (i : Nat) : Bool :=
  !T i && (List.range ops.size).all fun j => !T j || ((ops[j]?).map fun o => o.after.any fun e => Region.binds md e && e.on == i).getD true
theorem waits_spec {T : Nat → Bool} {i : Nat} (h : waits md ops T i = true) : T i = false ∧ ∀ j oj, ops[j]? = some oj → T j = true → ∃ e ∈ oj.after, Region.binds md e = true ∧ e.on = i := by
  unfold waits at h
  rw [Bool.and_eq_true, List.all_eq_true] at h
  refine ⟨by simpa using h.1, fun j oj hj hT => ?_⟩
  have hlt : j < ops.size := (Array.getElem?_eq_some_iff.1 hj).1
  have h1 := h.2 j (List.mem_range.2 hlt)
  rw [hT, hj] at h1
  simp only [Bool.not_true, Bool.false_or, Option.map_some, Option.getD_some] at h1
  rw [Array.any_eq_true'] at h1
  obtain ⟨e, he, hb⟩ := h1
  rw [Bool.and_eq_true] at hb
  exact ⟨e, he, hb.1, by simpa using hb.2⟩
theorem wpAnyU_first (c : Bool) {i : Nat} {oi : Oper} {v : Value} (hi : ops[i]? = some oi) (hsel : ∀ (j : Nat) (o : Oper) cs b, ops[j]? = some o → o.op ≠ .select cs b)
    (hQ : ∀ c a w, Q (.panic c) (a.put oi.dst v) w → Q (.panic c) a w) (hT : ∀ j oj, ops[j]? = some oj → T c j = true → ∃ e ∈ oj.after, Region.binds md e = true ∧ e.on = i) :
    ∀ (fuel : Nat) (listed : Array Bool) (a : Act) (w : World),
      (∀ j oj, ops[j]? = some oj → j ≠ i → listed.getD j true = false → (∀ e ∈ oj.after, Region.binds md e = true → e.on ≠ i) → oi.apart ops oj = true) →
      i ∈ Region.ready md ops listed → YieldsIf P ops (S c) oi v a → S c w →
      wpAnyU P md ops Q S T fuel (listed.setIfInBounds i true) (a.put oi.dst v) w → wpAnyU P md ops Q S T (fuel + 1) listed a w := by
  intro fuel
  induction fuel with
  | zero =>
    intro listed a w _ hr hy hS H
    refine ⟨fun h => (by rw [h] at hr; cases hr), fun j hj => ?_⟩
    by_cases hji : j = i
    · subst hji; exact hy.wpOp hi hS ⟨fun _ _ h => h, H⟩
    · have := ready_mono hj hji
      rw [H.1] at this
      cases this
  | succ fuel ih =>
    intro listed a w hfree hr hy hS H
    refine ⟨fun h => (by rw [h] at hr; cases hr), fun j hj => ?_⟩
    by_cases hji : j = i
    · subst hji; exact hy.wpOp hi hS ⟨fun _ _ h => h, H⟩
    · have h1 := H.2 j (ready_mono hj hji)
      obtain ⟨hjun, oj, hoj, hall⟩ := mem_ready.1 hj
      have hnot : ∀ e ∈ oj.after, Region.binds md e = true → e.on ≠ i := fun e he hb heq => by
        have h1 := hall e he hb
        have h0 := (mem_ready.1 hr).1
        rw [heq] at h1
        rcases Nat.lt_or_ge i listed.size with h' | h'
        · simp [h'] at h0 h1; rw [h0] at h1; cases h1
        · simp [Array.getElem?_eq_none h'] at h1
      have hTj : T c j = false := by
        cases hc : T c j with
        | false => rfl
        | true =>
          obtain ⟨e, he, hb, heq⟩ := hT j oj hoj hc
          exact absurd heq (hnot e he hb)
      have h2 := wpOp_putIf hoj (hfree j oj hoj hji hjun hnot) (fun cs b => hsel i oi cs b hi) (fun cs b => hsel j oj cs b hoj) hQ hy h1
      have hfree' : ∀ k ok, ops[k]? = some ok → k ≠ i → (listed.setIfInBounds j true).getD k true = false →
          (∀ e ∈ ok.after, Region.binds md e = true → e.on ≠ i) → oi.apart ops ok = true := fun k ok hk hki hun hno => by
        refine hfree k ok hk hki ?_ hno
        by_cases hjk : j = k
        · subst hjk; exact hjun
        · rw [getD_set_ne true hjk] at hun; exact hun
      refine wpOp_mono (fun a' w' h3 => ⟨h3.2.1, ih (listed.setIfInBounds j true) a' w' hfree' (ready_mono hr (Ne.symm hji)) h3.1 (h3.2.1 c hTj hS) ?_⟩) h2
      rw [Array.setIfInBounds_comm _ _ hji]
      exact h3.2.2
theorem wpAnyU_any {i : Nat} {oi : Oper} {v : Value} (hi : ops[i]? = some oi) (hsel : ∀ (j : Nat) (o : Oper) cs b, ops[j]? = some o → o.op ≠ .select cs b)
    (hQ : ∀ c a w, Q (.panic c) (a.put oi.dst v) w → Q (.panic c) a w) :
    ∀ (fuel : Nat) (listed : Array Bool) (a : Act) (w : World),
      (∀ j oj, ops[j]? = some oj → j ≠ i → listed.getD j true = false → (∀ e ∈ oj.after, Region.binds md e = true → e.on ≠ i) → oi.apart ops oj = true) →
      i ∈ Region.ready md ops listed → YieldsIf P ops (fun _ => True) oi v a →
      wpAnyU P md ops Q S T fuel (listed.setIfInBounds i true) (a.put oi.dst v) w → wpAnyU P md ops Q S T (fuel + 1) listed a w := by
  intro fuel
  induction fuel with
  | zero =>
    intro listed a w _ hr hy H
    refine ⟨fun h => (by rw [h] at hr; cases hr), fun j hj => ?_⟩
    by_cases hji : j = i
    · subst hji; exact hy.wpOp hi trivial ⟨fun _ _ h => h, H⟩
    · have := ready_mono hj hji
      rw [H.1] at this
      cases this
  | succ fuel ih =>
    intro listed a w hfree hr hy H
    refine ⟨fun h => (by rw [h] at hr; cases hr), fun j hj => ?_⟩
    by_cases hji : j = i
    · subst hji; exact hy.wpOp hi trivial ⟨fun _ _ h => h, H⟩
    · have h1 := H.2 j (ready_mono hj hji)
      obtain ⟨hjun, oj, hoj, hall⟩ := mem_ready.1 hj
      have hnot : ∀ e ∈ oj.after, Region.binds md e = true → e.on ≠ i := fun e he hb heq => by
        have h1 := hall e he hb
        have h0 := (mem_ready.1 hr).1
        rw [heq] at h1
        rcases Nat.lt_or_ge i listed.size with h' | h'
        · simp [h'] at h0 h1; rw [h0] at h1; cases h1
        · simp [Array.getElem?_eq_none h'] at h1
      have h2 := wpOp_putIf hoj (hfree j oj hoj hji hjun hnot) (fun cs b => hsel i oi cs b hi) (fun cs b => hsel j oj cs b hoj) hQ hy h1
      have hfree' : ∀ k ok, ops[k]? = some ok → k ≠ i → (listed.setIfInBounds j true).getD k true = false →
          (∀ e ∈ ok.after, Region.binds md e = true → e.on ≠ i) → oi.apart ops ok = true := fun k ok hk hki hun hno => by
        refine hfree k ok hk hki ?_ hno
        by_cases hjk : j = k
        · subst hjk; exact hjun
        · rw [getD_set_ne true hjk] at hun; exact hun
      refine wpOp_mono (fun a' w' h3 => ⟨h3.2.1, ih (listed.setIfInBounds j true) a' w' hfree' (ready_mono hr (Ne.symm hji)) h3.1 ?_⟩) h2
      rw [Array.setIfInBounds_comm _ _ hji]
      exact h3.2.2
theorem wpAnyU_take (c : Bool) {i : Nat} {oi : Oper} {v : Value} {fuel : Nat} {listed : Array Bool} {a : Act} {w : World} (hi : ops[i]? = some oi)
    (hs : Region.noSelect ops = true) (hf : Region.free md ops listed i = true) (hr : (Region.ready md ops listed).contains i = true) (hw : waits md ops (T c) i = true)
    (hQ : ∀ c a w, Q (.panic c) (a.put oi.dst v) w → Q (.panic c) a w) (hy : YieldsIf P ops (S c) oi v a) (hS : S c w)
    (h : wpAnyU P md ops Q S T fuel (listed.setIfInBounds i true) (a.put oi.dst v) w) : wpAnyU P md ops Q S T (fuel + 1) listed a w :=
  wpAnyU_first c hi (Region.noSelect_spec hs) hQ (waits_spec hw).2 fuel listed a w (Region.free_spec hi hf) (by simpa using hr) hy hS h
/-- What yields in whatever world. -/
theorem wpAnyU_takeAny {i : Nat} {oi : Oper} {v : Value} {fuel : Nat} {listed : Array Bool} {a : Act} {w : World} (hi : ops[i]? = some oi)
    (hs : Region.noSelect ops = true) (hf : Region.free md ops listed i = true) (hr : (Region.ready md ops listed).contains i = true)
    (hQ : ∀ c a w, Q (.panic c) (a.put oi.dst v) w → Q (.panic c) a w) (hy : YieldsIf P ops (fun _ => True) oi v a)
    (h : wpAnyU P md ops Q S T fuel (listed.setIfInBounds i true) (a.put oi.dst v) w) : wpAnyU P md ops Q S T (fuel + 1) listed a w :=
  wpAnyU_any hi (Region.noSelect_spec hs) hQ fuel listed a w (Region.free_spec hi hf) (by simpa using hr) hy h
theorem wpAnyU_done {listed : Array Bool} {a : Act} {w : World} (hr : Region.ready md ops listed = []) (h : Q .normal a w) :
    ∀ fuel, wpAnyU P md ops Q S T fuel listed a w
  | 0 => ⟨hr, h⟩
  | _ + 1 => ⟨fun _ => h, by rw [hr]; simp⟩
def AllU (P : Program) (md : Region.Mode) (ops : Array Oper) (Q : Exit → Act → World → Prop) (S : Bool → World → Prop) (T : Bool → Nat → Bool) (fuel : Nat) (listed : Array Bool) (a : Act) (w : World) (rs : List Nat) : Prop :=
  ∀ i ∈ rs, wpOp P ops Q i (fun a' w' => (∀ c, T c i = false → S c w → S c w') ∧ wpAnyU P md ops Q S T fuel (listed.setIfInBounds i true) a' w') a w
theorem AllU.nil {fuel : Nat} {listed : Array Bool} {a : Act} {w : World} : AllU P md ops Q S T fuel listed a w [] := fun _ h => by cases h
/-- An operation of which S is to be shown anew behind it. -/
theorem AllU.cons {fuel : Nat} {listed : Array Bool} {a : Act} {w : World} {i : Nat} {o : Oper} {rs : List Nat} (ho : ops[i]? = some o)
    (h : ∀ K' : Act → World → Prop, Shut (∀ a w', (∀ c, T c i = false → S c w → S c w') → ((∀ c, T c i = false → S c w → S c w') → wpAnyU P md ops Q S T fuel (listed.setIfInBounds i true) a w') → K' a w') → if Region.wanted o (yielded ops a.tmps) = true then Oper.wp P o a w K' Q else K' (a.put o.dst undef) w)
    (hs : AllU P md ops Q S T fuel listed a w rs) : AllU P md ops Q S T fuel listed a w (i :: rs) := fun j hj => by
  rcases List.mem_cons.1 hj with rfl | hj
  · refine wpOp_step ho (fun K' hK => h K' (fun a w hS hW => hK a w ⟨hS, hW hS⟩))
  · exact hs j hj
theorem wpAnyU_ready {rs : List Nat} {fuel : Nat} {listed : Array Bool} {a : Act} {w : World} (hr : Region.ready md ops listed = rs) (hne : rs ≠ [])
    (h : AllU P md ops Q S T fuel listed a w rs) : wpAnyU P md ops Q S T (fuel + 1) listed a w := ⟨fun h0 => absurd (hr ▸ h0) hne, hr ▸ h⟩
theorem wp_region_U {id : Nat} {a : Act} {w : World} (T : Bool → Nat → Bool) (S : Bool → World → Prop) (hm : P.follows .mixedOrders = true) (hS : ∀ c, S c w.drew)
    (h : (∀ c, S c w.drew) → wpAnyU P .any ops Q S T ops.size (Array.replicate ops.size false) a w.drew) : (Code.region id ops true).wp P Q a w :=
  wp_region_any hm (wpAny_of_U _ _ _ _ (h hS))
end
end Go.Proofs.Ytjfbjkodjjlkiaa.HHeld
/-! What spec.Without comes to. -/
set_option linter.unusedSimpArgs false
namespace Go.Proofs.Ytjfbjkodjjlkiaa.HVal
open Go.RowKit Go.WideMaps Go.Maps Go.Proofs.YtjfbjkodjjlkiaaW.PrintWords Go.Proofs.YtjfbjkodjjlkiaaW.PrintLast Go.Proofs.YtjfbjkodjjlkiaaW.PrintMore Go.Proofs.Ytjfbjkodjjlkiaa.Plain Go.Proofs.Ytjfbjkodjjlkiaa.GTab Go.Proofs.Ytjfbjkodjjlkiaa.HBytes Go.Proofs.Ytjfbjkodjjlkiaa.HHeld
attribute [local go_sem] run_store_flt

abbrev row7' : Obj := .cells #[.int .i64 7, .bool false, .int .i64 0, .float .f64 0, .string ⟨#[]⟩, .slice none 0 0, .slice none 0 0] 26
theorem TW.start {w w1 : World} {R : Nat → Prop} {ob : Nat} (hR : ∀ k, R k → k < w.heap.size) (h0 : w.heap.size ≤ ob) (hs : w1.heap.size = ob + 1) (hb : w1.heap[ob]? = some (tab26 (.slice none 0 0) (.slice none 0 0))) (hbel : Below w.heap.size w w1) : TW w w1 R (ob + 1) ob [] [] [] (.slice none 0 0) (.slice none 0 0) w1 :=
  ⟨⟨h0, Nat.lt_succ_self _, by omega⟩, hR, fun _ _ _ => rfl, hb, ⟨rfl, .inl ⟨rfl, rfl⟩⟩, ⟨rfl, .inl ⟨rfl, rfl⟩⟩, fun k hk => by simp [Value.ownBlock] at hk, .nil, hbel⟩
/-- What was put together is a value that is read. -/
theorem TW.out {w w1 W : World} {R : Nat → Prop} {base ob : Nat} {ks : List ByteArray} {ys : List S26} {raws : List Value} {vA vB : Value} (h : TW w w1 R base ob ks ys raws vA vB W) : ∃ A a B b, vA = .slice A ks.length a ∧ vB = .slice B ys.length b ∧ KV W (fun k => k < W.heap.size ∧ k ≠ ob ∧ (R k ∨ base ≤ k)) { z26 with f0 := 7, f5 := ks, f6 := ys } A a B b := by
  obtain ⟨hA, hA2⟩ := h.ra
  obtain ⟨hB, hB2⟩ := h.rb
  have hlo := h.lo
  have kA : ∃ A a, vA = .slice A ks.length a ∧ ks.length ≤ a ∧ Kd.F Kd.string W (fun k => k < W.heap.size ∧ k ≠ ob ∧ (R k ∨ base ≤ k)) A ks.length ks := by
    rcases hA2 with ⟨rfl, h0⟩ | ⟨g, cap, cur, rfl, hg, hh, hc, hm, _, hq⟩
    · have e : ks = [] := List.length_eq_zero_iff.1 h0
      subst e
      exact ⟨none, 0, rfl, Nat.le_refl _, Kd.F_nil _ _ _⟩
    · refine ⟨_, cap, rfl, hc, fun W' hW => ⟨rfl, Nat.le_trans hc (Nat.le_trans hm (by decide)), fun _ => ⟨_, rfl, fun j p hp => ⟨[.string p], rfl, rfl, fun i u hu => ?_⟩⟩⟩⟩
      have e : i = 0 := by
        have := (List.getElem?_eq_some_iff.1 hu).1
        simp at this
        omega
      subst e
      simp at hu
      subst hu
      refine row_cell ((hW g ⟨blk_lt hh, by omega, .inr hg⟩ (blk_lt hh)).trans hh) hq ?_
      show (ks.map Value.string)[j * 1 + 0]? = _
      rw [List.getElem?_map, Nat.mul_one, Nat.add_zero, hp]
      rfl
  have kB : ∃ B b, vB = .slice B ys.length b ∧ ys.length ≤ b ∧ Kd.F k26 W (fun k => k < W.heap.size ∧ k ≠ ob ∧ (R k ∨ base ≤ k)) B ys.length ys := by
    rcases hB2 with ⟨rfl, h0⟩ | ⟨g, cap, cur, rfl, hg, hh, hc, hm, _, hq⟩
    · have e : ys = [] := List.length_eq_zero_iff.1 h0
      subst e
      exact ⟨none, 0, rfl, Nat.le_refl _, Kd.F_nil _ _ _⟩
    · refine ⟨_, cap, rfl, hc, fun W' hW => ⟨rfl, Nat.le_trans hc (Nat.le_trans hm (by decide)), fun _ => ⟨_, rfl, fun j p hp => ?_⟩⟩⟩
      obtain ⟨B5, d5, B6, d6, hk, hu⟩ := h.els.get j p hp
      refine ⟨_, rfl, Kd.FK_now (hk.step (w1 := W') fun k hk hlt => hW k ⟨hlt, by have := h.sub k hk; omega, .inl hk⟩ hlt).fk, fun i u hi => ?_⟩
      exact row_cell ((hW g ⟨blk_lt hh, by omega, .inr hg⟩ (blk_lt hh)).trans hh) hq (hu i u hi)
  obtain ⟨A, a, e1, l1, f1⟩ := kA
  obtain ⟨B, b, e2, l2, f2⟩ := kB
  exact ⟨A, a, B, b, e1, e2, l1, f1, l2, f2⟩
/-- The cells of an element of a row. -/
abbrev E7 (W : World) (a : Addr) (u : S26) (E5 : Option Addr) (e5 : Nat) (E6 : Option Addr) (e6 : Nat) : Prop := W.cell? a = some (.int .i64 u.f0) ∧ W.cell? ⟨a.block, a.off + 1, none⟩ = some (.bool u.f1) ∧ W.cell? ⟨a.block, a.off + 2, none⟩ = some (.int .i64 u.f2) ∧ W.cell? ⟨a.block, a.off + 3, none⟩ = some (.float .f64 u.f3) ∧ W.cell? ⟨a.block, a.off + 4, none⟩ = some (.string u.f4) ∧ W.cell? ⟨a.block, a.off + 5, none⟩ = some (.slice E5 u.f5.length e5) ∧ W.cell? ⟨a.block, a.off + 6, none⟩ = some (.slice E6 u.f6.length e6)
/-- Below base all is as it was; but for the box itself, where c is false. -/
def SS (wr : World) (base ob : Nat) (c : Bool) (W : World) : Prop := ∀ i, i < base → (c = true ∨ i ≠ ob) → W.heap[i]? = wr.heap[i]?
section
variable {w w1 wr W W4 W5 : World} {R : Nat → Prop} {base ob g cap : Nat} {ks ks' : List ByteArray} {ys ys' : List S26} {raws raws' : List Value} {vA vB vA' vB' a b : Value} {t : ByteArray}
theorem SS.refl (wr : World) (base ob : Nat) (c : Bool) : SS wr base ob c wr.drew := fun _ _ _ => rfl
theorem SS.below (h : Below wr.heap.size wr W) (hle : base ≤ wr.heap.size) (c : Bool) : SS wr base ob c W := fun i hi _ => h.block i (Nat.lt_of_lt_of_le hi hle)
theorem SS.after (HM : MW w w1 R base ob ks ys raws vA vB wr t g cap W4) (hb : Below W4.heap.size W4 W) (c : Bool) : SS wr base ob c W := fun i hi _ => (hb.block i (Nat.lt_of_lt_of_le hi (Nat.le_trans HM.tw.lo.2.2 HM.sz))).trans (HM.low i hi)
theorem SS.back (HI : TW w w1 R base ob ks ys raws vA vB wr) (hb5 : W5.heap[ob]? = some (tab26 vA vB)) (hts : TW w w1 R base ob ks' ys' raws' vA' vB' ((W5.setCell ⟨ob, 5, none⟩ a).setCell ⟨ob, 6, none⟩ b)) (c : Bool) : SS wr base ob c W5 := fun i hi _ => by
  by_cases e : i = ob
  · subst e
    exact hb5.trans HI.box.symm
  · refine Eq.trans ?_ ((hts.fr i hi e).trans (HI.fr i hi e).symm)
    exact ((Below.heap_setCell _ ⟨ob, 6, none⟩ b i e).trans (Below.heap_setCell _ ⟨ob, 5, none⟩ a i e)).symm
theorem SS.store {f : Nat} (h : SS wr base ob false W) : SS wr base ob false (W.setCell ⟨ob, f, none⟩ a) := fun i hi hn => (Below.heap_setCell _ ⟨ob, f, none⟩ a i (hn.resolve_left (by decide))).trans (h i hi hn)
theorem SS.cell {c : Bool} (h : SS wr base ob c W) {p : Addr} {v : Value} (hlt : p.block < base) (hn : c = true ∨ p.block ≠ ob) (hc : wr.cell? p = some v) : W.cell? p = some v := by
  rw [World.cell?_of_block (h p.block hlt hn)]
  exact hc
end
theorem tab_agg {L : Ent} {m : Nat} {A : Option Addr} {a : Nat} {B : Option Addr} {b : Nat} (h : L.length = m) : (.agg #[.int .i64 7, .bool false, .int .i64 0, .float .f64 0, .string ⟨#[]⟩, .slice A m a, .slice B m b] : Value) = agg26 (tabE L) A a B b := by
  subst h
  show _ = Value.agg #[.int .i64 7, .bool false, .int .i64 0, .float .f64 0, .string ⟨#[]⟩, .slice A (L.map (·.1)).length a, .slice B (L.map (·.2)).length b]
  rw [List.length_map, List.length_map]
def WO (x : S26) (k : ByteArray) (j : Nat) : Ent := withoutE k ((entE x).take j)
theorem wo_step {x : S26} {k : ByteArray} {j : Nat} (h1 : j < x.f5.length) (h2 : j < x.f6.length) : WO x k (j + 1) = WO x k j ++ (if x.f5[j] ≠ k then [(x.f5[j], x.f6[j])] else []) := by
  have hl : j < (entE x).length := by unfold entE; rw [List.length_zip]; omega
  have e : (entE x)[j] = (x.f5[j], x.f6[j]) := by unfold entE; exact List.getElem_zip
  unfold WO withoutE
  rw [List.take_succ_eq_append_getElem hl, List.filter_append, e]
  congr 1
  by_cases c : x.f5[j] = k
  · rw [if_neg (by simpa using c)]
    simp [c]
  · rw [if_pos c]
    simp [c]
theorem wo_len (x : S26) (k : ByteArray) (j : Nat) : (WO x k j).length ≤ x.f6.length := by
  unfold WO withoutE
  refine Nat.le_trans (List.length_filter_le _ _) ?_
  rw [List.length_take]
  unfold entE
  rw [List.length_zip]
  omega
theorem wo_full (x : S26) (k : ByteArray) : WO x k x.f5.length = withoutE k (entE x) := by
  unfold WO
  rw [List.take_of_length_le (by unfold entE; rw [List.length_zip]; omega)]
set_option maxRecDepth 100000 in
set_option maxHeartbeats 8000000 in
theorem without_calls (x : S26) (A5 : Option Addr) (c5 : Nat) (A6 : Option Addr) (c6 : Nat) (P : Nat → Prop) (k : ByteArray) (w : World) (hl : x.f5.length = x.f6.length) (hn : x.f6.length ≤ 3000) (hv : KV w P x A5 c5 A6 c6) (hP : ∀ k, P k → k < w.heap.size) :
    Calls Try.prog 52 #[agg26 x A5 c5 A6 c6, .string k] w fun e w' => Below w.heap.size w w' ∧ ∃ A a B b, e = .returned (agg26 (tabE (withoutE k (entE x))) A a B b) ∧ KV w' (fun k => (P k ∨ w.heap.size + 3 ≤ k) ∧ k < w'.heap.size) (tabE (withoutE k (entE x))) A a B b := by
  have HL := Aside0.mk hl
  have HN := Aside0.mk hn
  have HV := Aside0.mk hv
  have HP := Aside0.mk hP
  clear hl hn hv hP
  go_enter Try.func52, Try.ntmps52
  go_wp2
  have HB1 := below_alloc (below_alloc (below_alloc (Below.refl w.heap.size w) (row26 x A5 c5 A6 c6)) row0) row7'
  have HT0 := Aside0.mk (TW.start (R := P) (ob := w.heap.size + 2) HP.out (by omega) (by simp) (blk_at _ (by simp)) HB1)
  have HX0 := Aside0.mk (show (((w.alloc (row26 x A5 c5 A6 c6)).alloc row0).alloc row7').heap[w.heap.size]? = some (.cells #[.int .i64 x.f0, .bool x.f1, .int .i64 x.f2, .float .f64 x.f3, .string x.f4, .slice A5 x.f5.length c5, .slice A6 x.f6.length c6] 26 (0, 0)) from blk_alloc (blk_alloc (blk_new w _) _) _)
  have HX1 := Aside0.mk (show (((w.alloc (row26 x A5 c5 A6 c6)).alloc row0).alloc row7').heap[w.heap.size + 1]? = some (.cells #[.int .i64 0, .bool false, .int .i64 0, .float .f64 0, .string ⟨#[]⟩, .slice none 0 0, .slice none 0 0] 26 (0, 0)) from blk_alloc (blk_at _ (by simp)) _)
  obtain ⟨w1, hw1⟩ : ∃ W, (((w.alloc (row26 x A5 c5 A6 c6)).alloc row0).alloc row7') = W := ⟨_, rfl⟩
  rw [hw1] at HT0 HX0 HX1
  unfold row26 row0 row7' at hw1
  rw [hw1]
  clear hw1 HB1
  go_loopw [12] (fun i wr => ∃ (j : Nat) (raws : List Value) (vA vB : Value), j ≤ x.f5.length ∧ i = .int .i64 j ∧ Aside0 (TW w w1 P (w.heap.size + 3) (w.heap.size + 2) ((WO x k j).map (·.1)) ((WO x k j).map (·.2)) raws vA vB wr)) (fun i _ => x.f5.length - (intOf i).toNat)
  case atStart => exact ⟨0, [], _, _, Nat.zero_le _, rfl, HT0⟩
  case round =>
    obtain ⟨j, raws, vA, vB, hj, rfl, HI⟩ := hrel
    clear HT0
    have hx := (HI.out.fr w.heap.size (by omega) (by omega)).trans HX0.out
    obtain ⟨⟨r0, r1, r2, r3, r4, r5, r6⟩, -⟩ := at7 hx
    by_cases hlt : j < x.f5.length
    · have HJ := Aside0.mk hlt
      have hlt2 : j < x.f6.length := HL.out ▸ hlt
      have hvr := HV.out.below HI.out.below
      obtain ⟨ad, hA, z0⟩ := hvr.key j hlt
      subst hA
      obtain ⟨ad2, E5, e5, E6, e6, hA2, hv2, y0, y1, y2, y3, y4, y5, y6⟩ := hvr.el7 j hlt2
      subst hA2
      have HAB := Aside0.mk (show (ad2.add (j * 7)).block < w.heap.size from by
        rw [add_block]
        exact HP.out _ (F_block hvr.g6 (by decide) (by omega)).1)
      have p0 : 0 ≤ (j : Int) := Int.natCast_nonneg j
      have q0 : (j : Int) < (x.f5.length : Int) := Int.ofNat_lt.2 hlt
      have q2 : (j : Int) < (x.f6.length : Int) := Int.ofNat_lt.2 hlt2
      have HT := Aside0.mk (wo_step (k := k) hlt hlt2)
      obtain ⟨t, ht⟩ : ∃ t, x.f5[j] = t := ⟨_, rfl⟩
      obtain ⟨u, hu⟩ : ∃ u, x.f6[j] = u := ⟨_, rfl⟩
      rw [ht] at z0 HT
      rw [hu] at y0 y1 y2 y3 y4 y5 y6 hv2 HT
      have HV2 := Aside0.mk (hv2.step (w1 := w) fun k hk _ => (HI.out.below.block k (HP.out k hk)).symm)
      clear hlt hlt2 ht hu hv2 hj hvr
      by_cases he : t = k
      · have hq : (t.toList == k.toList) = true := by rw [he]; simp
        have hT2 := HT.out
        rw [if_neg (by simpa using he), List.append_nil] at hT2
        have HT2 := Aside0.mk hT2
        clear hT2 he y0 y1 y2 y3 y4 y5 y6
        go_wp2
        go_roundw
        case rel => exact ⟨j + 1, raws, vA, vB, HJ.out, congrArg (Value.int IntKind.i64) (next63 HJ.out (by rw [HL.out]; exact Nat.le_trans HN.out (by decide))), ⟨by rw [HT2.out]; exact HI.out⟩⟩
        case measure => exact meas26 HJ.out (by rw [HL.out]; exact Nat.le_trans HN.out (by decide))
      · have hq : (t.toList == k.toList) = false := by rw [beq_toList]; exact decide_eq_false he
        have hT2 := HT.out
        rw [if_pos he] at hT2
        have HK2 := Aside0.mk (show (WO x k (j + 1)).map (·.1) = (WO x k j).map (·.1) ++ [t] by rw [hT2, List.map_append]; rfl)
        have HY2 := Aside0.mk (show (WO x k (j + 1)).map (·.2) = (WO x k j).map (·.2) ++ [u] by rw [hT2, List.map_append]; rfl)
        have HLA := Aside0.mk (show ((WO x k j).map (·.1)).length ≤ 4000 by rw [List.length_map]; have := wo_len x k j; have := HN.out; omega)
        have HLB := Aside0.mk (show ((WO x k j).map (·.2)).length ≤ 4000 by rw [List.length_map]; have := wo_len x k j; have := HN.out; omega)
        obtain ⟨ks, hks⟩ : ∃ ks, (WO x k j).map (·.1) = ks := ⟨_, rfl⟩
        obtain ⟨ys, hys⟩ : ∃ ys, (WO x k j).map (·.2) = ys := ⟨_, rfl⟩
        rw [hks, hys] at HI
        rw [hks] at HLA HK2
        rw [hys] at HLB HY2
        clear hT2 he hks hys
        go_upto_region 6 with fail
        have CV5 := Aside0.mk (fun W (h : SS wr (w.heap.size + 3) (w.heap.size + 1 + 1) true W) => h.cell (p := ⟨w.heap.size + 1 + 1, 5, none⟩) (Nat.lt_succ_self _) (.inl rfl) ((blk_cell HI.out.box 5).trans rfl : wr.cell? ⟨w.heap.size + 1 + 1, 5, none⟩ = some vA))
        have CV6 := Aside0.mk (fun W (h : SS wr (w.heap.size + 3) (w.heap.size + 1 + 1) true W) => h.cell (p := ⟨w.heap.size + 1 + 1, 6, none⟩) (Nat.lt_succ_self _) (.inl rfl) ((blk_cell HI.out.box 6).trans rfl : wr.cell? ⟨w.heap.size + 1 + 1, 6, none⟩ = some vB))
        have CX6 := Aside0.mk (fun W (h : SS wr (w.heap.size + 3) (w.heap.size + 1 + 1) false W) => h.cell (p := ⟨w.heap.size, 6, none⟩) (by show w.heap.size < w.heap.size + 3; omega) (.inr (by show w.heap.size ≠ w.heap.size + 1 + 1; omega)) r6)
        have CE := Aside0.mk (fun W (h : SS wr (w.heap.size + 3) (w.heap.size + 1 + 1) false W) => show E7 W (ad2.add (j * 7)) u E5 e5 E6 e6 from
          have h1 : (ad2.add (j * 7)).block < w.heap.size + 3 := Nat.lt_of_lt_of_le HAB.out (Nat.le_add_right _ _)
          have h2 : (ad2.add (j * 7)).block ≠ w.heap.size + 1 + 1 := Nat.ne_of_lt (Nat.lt_of_lt_of_le HAB.out (Nat.le_add_right _ 2))
          ⟨h.cell h1 (.inr h2) y0, h.cell (p := ⟨_, _, none⟩) h1 (.inr h2) y1, h.cell (p := ⟨_, _, none⟩) h1 (.inr h2) y2, h.cell (p := ⟨_, _, none⟩) h1 (.inr h2) y3, h.cell (p := ⟨_, _, none⟩) h1 (.inr h2) y4, h.cell (p := ⟨_, _, none⟩) h1 (.inr h2) y5, h.cell (p := ⟨_, _, none⟩) h1 (.inr h2) y6⟩)
        clear r0 r1 r2 r3 r4 r5 r6 y0 y1 y2 y3 y4 y5 y6
        refine wp_region_U (T := fun c j => (j == 15 || j == 17) && c) (S := SS wr (w.heap.size + 3) (w.heap.size + 1 + 1)) (by kernel_rfl) (fun c => SS.refl _ _ _ c) (fun hHeld => ?_)
        refine wpAnyU_takeAny (i := 0) (oi := _) (v := ?_) rfl (by kernel_rfl) (by kernel_rfl) (by kernel_rfl) (fun _ _ _ h => h) (Or.inl ⟨by rfl, ?_⟩) ?_
        rotate_left 1
        · (intro W hSW; go_simp; try with_reducible rfl)
        try simp only [Act.put, List.getElem_toArray, List.getElem_cons_zero, List.getElem_cons_succ, List.setIfInBounds_toArray, List.set_cons_zero, List.set_cons_succ]
        refine wpAnyU_take true (i := 1) (oi := _) (v := ?_) rfl (by kernel_rfl) (by kernel_rfl) (by kernel_rfl) (by kernel_rfl) (fun _ _ _ h => h) (Or.inl ⟨by rfl, ?_⟩) (hHeld _) ?_
        rotate_left 1
        · (intro W hSW; have c5 := CV5.out W hSW; go_simp; try with_reducible rfl)
        try simp only [Act.put, List.getElem_toArray, List.getElem_cons_zero, List.getElem_cons_succ, List.setIfInBounds_toArray, List.set_cons_zero, List.set_cons_succ]
        refine wpAnyU_takeAny (i := 2) (oi := _) (v := ?_) rfl (by kernel_rfl) (by kernel_rfl) (by kernel_rfl) (fun _ _ _ h => h) (Or.inl ⟨by rfl, ?_⟩) ?_
        rotate_left 1
        · (intro W hSW; go_simp; try with_reducible rfl)
        try simp only [Act.put, List.getElem_toArray, List.getElem_cons_zero, List.getElem_cons_succ, List.setIfInBounds_toArray, List.set_cons_zero, List.set_cons_succ]
        refine wpAnyU_takeAny (i := 5) (oi := _) (v := ?_) rfl (by kernel_rfl) (by kernel_rfl) (by kernel_rfl) (fun _ _ _ h => h) (Or.inl ⟨by rfl, ?_⟩) ?_
        rotate_left 1
        · (intro W hSW; go_simp; try with_reducible rfl)
        try simp only [Act.put, List.getElem_toArray, List.getElem_cons_zero, List.getElem_cons_succ, List.setIfInBounds_toArray, List.set_cons_zero, List.set_cons_succ]
        refine wpAnyU_take true (i := 6) (oi := _) (v := ?_) rfl (by kernel_rfl) (by kernel_rfl) (by kernel_rfl) (by kernel_rfl) (fun _ _ _ h => h) (Or.inl ⟨by rfl, ?_⟩) (hHeld _) ?_
        rotate_left 1
        · (intro W hSW; have c6 := CV6.out W hSW; go_simp; try with_reducible rfl)
        try simp only [Act.put, List.getElem_toArray, List.getElem_cons_zero, List.getElem_cons_succ, List.setIfInBounds_toArray, List.set_cons_zero, List.set_cons_succ]
        refine wpAnyU_takeAny (i := 7) (oi := _) (v := ?_) rfl (by kernel_rfl) (by kernel_rfl) (by kernel_rfl) (fun _ _ _ h => h) (Or.inl ⟨by rfl, ?_⟩) ?_
        rotate_left 1
        · (intro W hSW; go_simp; try with_reducible rfl)
        try simp only [Act.put, List.getElem_toArray, List.getElem_cons_zero, List.getElem_cons_succ, List.setIfInBounds_toArray, List.set_cons_zero, List.set_cons_succ]
        refine wpAnyU_take false (i := 8) (oi := _) (v := ?_) rfl (by kernel_rfl) (by kernel_rfl) (by kernel_rfl) (by kernel_rfl) (fun _ _ _ h => h) (Or.inl ⟨by rfl, ?_⟩) (hHeld _) ?_
        rotate_left 1
        · (intro W hSW; have c8 := CX6.out W hSW; go_simp; try with_reducible rfl)
        try simp only [Act.put, List.getElem_toArray, List.getElem_cons_zero, List.getElem_cons_succ, List.setIfInBounds_toArray, List.set_cons_zero, List.set_cons_succ]
        refine wpAnyU_takeAny (i := 9) (oi := _) (v := ?_) rfl (by kernel_rfl) (by kernel_rfl) (by kernel_rfl) (fun _ _ _ h => h) (Or.inl ⟨by rfl, ?_⟩) ?_
        rotate_left 1
        · (intro W hSW; go_simp; try with_reducible rfl)
        try simp only [Act.put, List.getElem_toArray, List.getElem_cons_zero, List.getElem_cons_succ, List.setIfInBounds_toArray, List.set_cons_zero, List.set_cons_succ]
        refine wpAnyU_takeAny (i := 10) (oi := _) (v := ?_) rfl (by kernel_rfl) (by kernel_rfl) (by kernel_rfl) (fun _ _ _ h => h) (Or.inl ⟨by rfl, ?_⟩) ?_
        rotate_left 1
        · (intro W hSW; go_simp; try with_reducible rfl)
        try simp only [Act.put, List.getElem_toArray, List.getElem_cons_zero, List.getElem_cons_succ, List.setIfInBounds_toArray, List.set_cons_zero, List.set_cons_succ]
        refine wpAnyU_take false (i := 11) (oi := _) (v := ?_) rfl (by kernel_rfl) (by kernel_rfl) (by kernel_rfl) (by kernel_rfl) (fun _ _ _ h => h) (Or.inl ⟨by rfl, ?_⟩) (hHeld _) ?_
        rotate_left 1
        · (intro W hSW; have c11 := CE.out W hSW; obtain ⟨i0, i1, i2, i3, i4, i5, i6⟩ := c11; go_simp; try with_reducible rfl)
        try simp only [Act.put, List.getElem_toArray, List.getElem_cons_zero, List.getElem_cons_succ, List.setIfInBounds_toArray, List.set_cons_zero, List.set_cons_succ]
        refine wpAnyU_ready (rs := [3, 12]) (by kernel_rfl) (by simp) ?_
        refine AllU.cons (o := _) rfl (fun K hK => ?_) ?_
        · try simp only [List.getElem_toArray, List.getElem_cons_zero, List.getElem_cons_succ]
          go_simp
          refine hK.out _ _ ?_ (fun hHeld1 => ?_)
          · exact fun c _ _ => SS.below (below_drew (below_alloc (Below.refl _ _) _)) HI.out.lo.2.2 c
          clear hK K
          have hHeld2 := fun c => hHeld1 c rfl (hHeld c)
          clear hHeld hHeld1
          have hHeld := hHeld2
          clear hHeld2
          try simp only [Act.put, List.getElem_toArray, List.getElem_cons_zero, List.getElem_cons_succ, List.setIfInBounds_toArray, List.set_cons_zero, List.set_cons_succ]
          refine wpAnyU_ready (rs := [4, 12]) (by kernel_rfl) (by simp) ?_
          refine AllU.cons (o := _) rfl (fun K hK => ?_) ?_
          · skip
            refine appA (t := t) HI.out ?_ ?_ HLA.out (.tmp 21) (.tmp 23) rfl rfl rfl rfl ?_
            · exact below_drew (below_alloc (Below.refl _ _) _)
            · exact blk_drew (blk_new wr _)
            intro g cap W4 HM hg
            have HMa := Aside0.mk HM
            clear HM hg
            refine hK.out _ _ ?_ (fun hHeld1 => ?_)
            · exact fun c _ _ => SS.after HMa.out (Below.refl _ _) c
            clear hK K
            have hHeld2 := fun c => hHeld1 c rfl (hHeld c)
            clear hHeld hHeld1
            have hHeld := hHeld2
            clear hHeld2
            try simp only [Act.put, List.getElem_toArray, List.getElem_cons_zero, List.getElem_cons_succ, List.setIfInBounds_toArray, List.set_cons_zero, List.set_cons_succ]
            refine wpAnyU_takeAny (i := 14) (oi := _) (v := ?_) rfl (by kernel_rfl) (by kernel_rfl) (by kernel_rfl) (fun _ _ _ h => h) (Or.inl ⟨by rfl, ?_⟩) ?_
            rotate_left 1
            · (intro W hSW; go_simp; try with_reducible rfl)
            try simp only [Act.put, List.getElem_toArray, List.getElem_cons_zero, List.getElem_cons_succ, List.setIfInBounds_toArray, List.set_cons_zero, List.set_cons_succ]
            refine wpAnyU_ready (rs := [12]) (by kernel_rfl) (by simp) ?_
            refine AllU.cons (o := _) rfl (fun K hK => ?_) ?_
            · try simp only [List.getElem_toArray, List.getElem_cons_zero, List.getElem_cons_succ]
              go_simp
              refine hK.out _ _ ?_ (fun hHeld1 => ?_)
              · exact fun c _ _ => SS.after HMa.out (below_alloc (Below.refl _ _) _) c
              clear hK K
              have hHeld2 := fun c => hHeld1 c rfl (hHeld c)
              clear hHeld hHeld1
              have hHeld := hHeld2
              clear hHeld2
              try simp only [Act.put, List.getElem_toArray, List.getElem_cons_zero, List.getElem_cons_succ, List.setIfInBounds_toArray, List.set_cons_zero, List.set_cons_succ]
              refine wpAnyU_ready (rs := [13]) (by kernel_rfl) (by simp) ?_
              refine AllU.cons (o := _) rfl (fun K hK => ?_) ?_
              · skip
                refine appB (y := u) (HMa.out.later (below_alloc (Below.refl _ _) _)) (blk_new W4 _) HV2.out HLB.out (.tmp 26) (.tmp 32) rfl rfl rfl rfl ?_
                intro g2 cap2 W5 hb5 hts
                have HTN := Aside0.mk hts
                have HS5 := Aside0.mk (SS.back HI.out hb5 hts)
                have e5c : W5.cell? ⟨w.heap.size + 1 + 1, 5, none⟩ = some vA := (blk_cell hb5 5).trans rfl
                have e6c : W5.cell? ⟨w.heap.size + 1 + 1, 6, none⟩ = some vB := (blk_cell hb5 6).trans rfl
                have e5f : W5.frozen? ⟨w.heap.size + 1 + 1, 5, none⟩ = false := blk_frozen hb5 5
                have e6f : W5.frozen? ⟨w.heap.size + 1 + 1, 6, none⟩ = false := blk_frozen hb5 6
                clear hts hb5
                refine hK.out _ _ ?_ (fun hHeld1 => ?_)
                · exact fun c _ _ => HS5.out c
                clear hK K
                have hHeld2 := fun c => hHeld1 c rfl (hHeld c)
                clear hHeld hHeld1
                have hHeld := hHeld2
                clear hHeld2
                try simp only [Act.put, List.getElem_toArray, List.getElem_cons_zero, List.getElem_cons_succ, List.setIfInBounds_toArray, List.set_cons_zero, List.set_cons_succ]
                refine wpAnyU_ready (rs := [15]) (by kernel_rfl) (by simp) ?_
                refine AllU.cons (o := _) rfl (fun K hK => ?_) ?_
                · try simp only [List.getElem_toArray, List.getElem_cons_zero, List.getElem_cons_succ]
                  go_simp
                  refine hK.out _ _ ?_ (fun hHeld1 => ?_)
                  · (intro c hT hs; cases c; exact SS.store hs; exact absurd hT (by decide))
                  clear hK K
                  clear hHeld hHeld1
                  try simp only [Act.put, List.getElem_toArray, List.getElem_cons_zero, List.getElem_cons_succ, List.setIfInBounds_toArray, List.set_cons_zero, List.set_cons_succ]
                  refine wpAnyU_takeAny (i := 16) (oi := _) (v := ?_) rfl (by kernel_rfl) (by kernel_rfl) (by kernel_rfl) (fun _ _ _ h => h) (Or.inl ⟨by rfl, ?_⟩) ?_
                  rotate_left 1
                  · (intro W hSW; go_simp; try with_reducible rfl)
                  try simp only [Act.put, List.getElem_toArray, List.getElem_cons_zero, List.getElem_cons_succ, List.setIfInBounds_toArray, List.set_cons_zero, List.set_cons_succ]
                  refine wpAnyU_ready (rs := [17]) (by kernel_rfl) (by simp) ?_
                  refine AllU.cons (o := _) rfl (fun K hK => ?_) ?_
                  · try simp only [List.getElem_toArray, List.getElem_cons_zero, List.getElem_cons_succ]
                    go_simp
                    refine hK.out _ _ ?_ (fun hHeld1 => ?_)
                    · (intro c hT hs; cases c; exact SS.store hs; exact absurd hT (by decide))
                    clear hK K
                    clear hHeld1
                    try simp only [Act.put, List.getElem_toArray, List.getElem_cons_zero, List.getElem_cons_succ, List.setIfInBounds_toArray, List.set_cons_zero, List.set_cons_succ]
                    refine wpAnyU_done (by kernel_rfl) ?_ _
                    go_wp2_with fail
                    go_roundw
                    case measure => exact meas26 HJ.out (by rw [HL.out]; exact Nat.le_trans HN.out (by decide))
                    case rel =>
                      refine ⟨j + 1, raws ++ cells26 u E5 e5 E6 e6, .slice (some ⟨g, 0, none⟩) (ks.length + 1) cap, .slice (some ⟨g2, 0, none⟩) (ys.length + 1) cap2, HJ.out, congrArg (Value.int IntKind.i64) (next63 HJ.out (by rw [HL.out]; exact Nat.le_trans HN.out (by decide))), ?_⟩
                      rw [HK2.out, HY2.out]
                      exact HTN
                  exact AllU.nil
                exact AllU.nil
              exact AllU.nil
            exact AllU.nil
          refine AllU.cons (o := _) rfl (fun K hK => ?_) ?_
          · try simp only [List.getElem_toArray, List.getElem_cons_zero, List.getElem_cons_succ]
            go_simp
            refine hK.out _ _ ?_ (fun hHeld1 => ?_)
            · exact fun c _ _ => SS.below (below_drew (below_alloc (below_alloc (Below.refl _ _) _) _)) HI.out.lo.2.2 c
            clear hK K
            have hHeld2 := fun c => hHeld1 c rfl (hHeld c)
            clear hHeld hHeld1
            have hHeld := hHeld2
            clear hHeld2
            try simp only [Act.put, List.getElem_toArray, List.getElem_cons_zero, List.getElem_cons_succ, List.setIfInBounds_toArray, List.set_cons_zero, List.set_cons_succ]
            refine wpAnyU_ready (rs := [4]) (by kernel_rfl) (by simp) ?_
            refine AllU.cons (o := _) rfl (fun K hK => ?_) ?_
            · skip
              refine appA (t := t) HI.out ?_ ?_ HLA.out (.tmp 21) (.tmp 23) rfl rfl rfl rfl ?_
              · exact below_drew (below_alloc (below_alloc (Below.refl _ _) _) _)
              · exact blk_drew (blk_alloc (blk_new wr _) _)
              intro g cap W4 HM hg
              have HMa := Aside0.mk HM
              have HPB := Aside0.mk (MW.kept HI.out hg (p := wr.heap.size + 1) (blk_drew (blk_at _ (by simp))) (Nat.le_succ _))
              clear HM hg
              refine hK.out _ _ ?_ (fun hHeld1 => ?_)
              · exact fun c _ _ => SS.after HMa.out (Below.refl _ _) c
              clear hK K
              have hHeld2 := fun c => hHeld1 c rfl (hHeld c)
              clear hHeld hHeld1
              have hHeld := hHeld2
              clear hHeld2
              try simp only [Act.put, List.getElem_toArray, List.getElem_cons_zero, List.getElem_cons_succ, List.setIfInBounds_toArray, List.set_cons_zero, List.set_cons_succ]
              refine wpAnyU_takeAny (i := 14) (oi := _) (v := ?_) rfl (by kernel_rfl) (by kernel_rfl) (by kernel_rfl) (fun _ _ _ h => h) (Or.inl ⟨by rfl, ?_⟩) ?_
              rotate_left 1
              · (intro W hSW; go_simp; try with_reducible rfl)
              try simp only [Act.put, List.getElem_toArray, List.getElem_cons_zero, List.getElem_cons_succ, List.setIfInBounds_toArray, List.set_cons_zero, List.set_cons_succ]
              refine wpAnyU_ready (rs := [13]) (by kernel_rfl) (by simp) ?_
              refine AllU.cons (o := _) rfl (fun K hK => ?_) ?_
              · skip
                refine appB (y := u) HMa.out HPB.out HV2.out HLB.out (.tmp 26) (.tmp 32) rfl rfl rfl rfl ?_
                intro g2 cap2 W5 hb5 hts
                have HTN := Aside0.mk hts
                have HS5 := Aside0.mk (SS.back HI.out hb5 hts)
                have e5c : W5.cell? ⟨w.heap.size + 1 + 1, 5, none⟩ = some vA := (blk_cell hb5 5).trans rfl
                have e6c : W5.cell? ⟨w.heap.size + 1 + 1, 6, none⟩ = some vB := (blk_cell hb5 6).trans rfl
                have e5f : W5.frozen? ⟨w.heap.size + 1 + 1, 5, none⟩ = false := blk_frozen hb5 5
                have e6f : W5.frozen? ⟨w.heap.size + 1 + 1, 6, none⟩ = false := blk_frozen hb5 6
                clear hts hb5
                refine hK.out _ _ ?_ (fun hHeld1 => ?_)
                · exact fun c _ _ => HS5.out c
                clear hK K
                have hHeld2 := fun c => hHeld1 c rfl (hHeld c)
                clear hHeld hHeld1
                have hHeld := hHeld2
                clear hHeld2
                try simp only [Act.put, List.getElem_toArray, List.getElem_cons_zero, List.getElem_cons_succ, List.setIfInBounds_toArray, List.set_cons_zero, List.set_cons_succ]
                refine wpAnyU_ready (rs := [15]) (by kernel_rfl) (by simp) ?_
                refine AllU.cons (o := _) rfl (fun K hK => ?_) ?_
                · try simp only [List.getElem_toArray, List.getElem_cons_zero, List.getElem_cons_succ]
                  go_simp
                  refine hK.out _ _ ?_ (fun hHeld1 => ?_)
                  · (intro c hT hs; cases c; exact SS.store hs; exact absurd hT (by decide))
                  clear hK K
                  clear hHeld hHeld1
                  try simp only [Act.put, List.getElem_toArray, List.getElem_cons_zero, List.getElem_cons_succ, List.setIfInBounds_toArray, List.set_cons_zero, List.set_cons_succ]
                  refine wpAnyU_takeAny (i := 16) (oi := _) (v := ?_) rfl (by kernel_rfl) (by kernel_rfl) (by kernel_rfl) (fun _ _ _ h => h) (Or.inl ⟨by rfl, ?_⟩) ?_
                  rotate_left 1
                  · (intro W hSW; go_simp; try with_reducible rfl)
                  try simp only [Act.put, List.getElem_toArray, List.getElem_cons_zero, List.getElem_cons_succ, List.setIfInBounds_toArray, List.set_cons_zero, List.set_cons_succ]
                  refine wpAnyU_ready (rs := [17]) (by kernel_rfl) (by simp) ?_
                  refine AllU.cons (o := _) rfl (fun K hK => ?_) ?_
                  · try simp only [List.getElem_toArray, List.getElem_cons_zero, List.getElem_cons_succ]
                    go_simp
                    refine hK.out _ _ ?_ (fun hHeld1 => ?_)
                    · (intro c hT hs; cases c; exact SS.store hs; exact absurd hT (by decide))
                    clear hK K
                    clear hHeld1
                    try simp only [Act.put, List.getElem_toArray, List.getElem_cons_zero, List.getElem_cons_succ, List.setIfInBounds_toArray, List.set_cons_zero, List.set_cons_succ]
                    refine wpAnyU_done (by kernel_rfl) ?_ _
                    go_wp2_with fail
                    go_roundw
                    case measure => exact meas26 HJ.out (by rw [HL.out]; exact Nat.le_trans HN.out (by decide))
                    case rel =>
                      refine ⟨j + 1, raws ++ cells26 u E5 e5 E6 e6, .slice (some ⟨g, 0, none⟩) (ks.length + 1) cap, .slice (some ⟨g2, 0, none⟩) (ys.length + 1) cap2, HJ.out, congrArg (Value.int IntKind.i64) (next63 HJ.out (by rw [HL.out]; exact Nat.le_trans HN.out (by decide))), ?_⟩
                      rw [HK2.out, HY2.out]
                      exact HTN
                  exact AllU.nil
                exact AllU.nil
              exact AllU.nil
            exact AllU.nil
          exact AllU.nil
        refine AllU.cons (o := _) rfl (fun K hK => ?_) ?_
        · try simp only [List.getElem_toArray, List.getElem_cons_zero, List.getElem_cons_succ]
          go_simp
          refine hK.out _ _ ?_ (fun hHeld1 => ?_)
          · exact fun c _ _ => SS.below (below_drew (below_alloc (Below.refl _ _) _)) HI.out.lo.2.2 c
          clear hK K
          have hHeld2 := fun c => hHeld1 c rfl (hHeld c)
          clear hHeld hHeld1
          have hHeld := hHeld2
          clear hHeld2
          try simp only [Act.put, List.getElem_toArray, List.getElem_cons_zero, List.getElem_cons_succ, List.setIfInBounds_toArray, List.set_cons_zero, List.set_cons_succ]
          refine wpAnyU_ready (rs := [3]) (by kernel_rfl) (by simp) ?_
          refine AllU.cons (o := _) rfl (fun K hK => ?_) ?_
          · try simp only [List.getElem_toArray, List.getElem_cons_zero, List.getElem_cons_succ]
            go_simp
            refine hK.out _ _ ?_ (fun hHeld1 => ?_)
            · exact fun c _ _ => SS.below (below_drew (below_alloc (below_alloc (Below.refl _ _) _) _)) HI.out.lo.2.2 c
            clear hK K
            have hHeld2 := fun c => hHeld1 c rfl (hHeld c)
            clear hHeld hHeld1
            have hHeld := hHeld2
            clear hHeld2
            try simp only [Act.put, List.getElem_toArray, List.getElem_cons_zero, List.getElem_cons_succ, List.setIfInBounds_toArray, List.set_cons_zero, List.set_cons_succ]
            refine wpAnyU_ready (rs := [4]) (by kernel_rfl) (by simp) ?_
            refine AllU.cons (o := _) rfl (fun K hK => ?_) ?_
            · skip
              refine appA (t := t) HI.out ?_ ?_ HLA.out (.tmp 21) (.tmp 23) rfl rfl rfl rfl ?_
              · exact below_drew (below_alloc (below_alloc (Below.refl _ _) _) _)
              · exact blk_drew (blk_at _ (by simp))
              intro g cap W4 HM hg
              have HMa := Aside0.mk HM
              have HPB := Aside0.mk (MW.kept HI.out hg (p := wr.heap.size) (blk_drew (blk_alloc (blk_new wr _) _)) (Nat.le_refl _))
              clear HM hg
              refine hK.out _ _ ?_ (fun hHeld1 => ?_)
              · exact fun c _ _ => SS.after HMa.out (Below.refl _ _) c
              clear hK K
              have hHeld2 := fun c => hHeld1 c rfl (hHeld c)
              clear hHeld hHeld1
              have hHeld := hHeld2
              clear hHeld2
              try simp only [Act.put, List.getElem_toArray, List.getElem_cons_zero, List.getElem_cons_succ, List.setIfInBounds_toArray, List.set_cons_zero, List.set_cons_succ]
              refine wpAnyU_takeAny (i := 14) (oi := _) (v := ?_) rfl (by kernel_rfl) (by kernel_rfl) (by kernel_rfl) (fun _ _ _ h => h) (Or.inl ⟨by rfl, ?_⟩) ?_
              rotate_left 1
              · (intro W hSW; go_simp; try with_reducible rfl)
              try simp only [Act.put, List.getElem_toArray, List.getElem_cons_zero, List.getElem_cons_succ, List.setIfInBounds_toArray, List.set_cons_zero, List.set_cons_succ]
              refine wpAnyU_ready (rs := [13]) (by kernel_rfl) (by simp) ?_
              refine AllU.cons (o := _) rfl (fun K hK => ?_) ?_
              · skip
                refine appB (y := u) HMa.out HPB.out HV2.out HLB.out (.tmp 26) (.tmp 32) rfl rfl rfl rfl ?_
                intro g2 cap2 W5 hb5 hts
                have HTN := Aside0.mk hts
                have HS5 := Aside0.mk (SS.back HI.out hb5 hts)
                have e5c : W5.cell? ⟨w.heap.size + 1 + 1, 5, none⟩ = some vA := (blk_cell hb5 5).trans rfl
                have e6c : W5.cell? ⟨w.heap.size + 1 + 1, 6, none⟩ = some vB := (blk_cell hb5 6).trans rfl
                have e5f : W5.frozen? ⟨w.heap.size + 1 + 1, 5, none⟩ = false := blk_frozen hb5 5
                have e6f : W5.frozen? ⟨w.heap.size + 1 + 1, 6, none⟩ = false := blk_frozen hb5 6
                clear hts hb5
                refine hK.out _ _ ?_ (fun hHeld1 => ?_)
                · exact fun c _ _ => HS5.out c
                clear hK K
                have hHeld2 := fun c => hHeld1 c rfl (hHeld c)
                clear hHeld hHeld1
                have hHeld := hHeld2
                clear hHeld2
                try simp only [Act.put, List.getElem_toArray, List.getElem_cons_zero, List.getElem_cons_succ, List.setIfInBounds_toArray, List.set_cons_zero, List.set_cons_succ]
                refine wpAnyU_ready (rs := [15]) (by kernel_rfl) (by simp) ?_
                refine AllU.cons (o := _) rfl (fun K hK => ?_) ?_
                · try simp only [List.getElem_toArray, List.getElem_cons_zero, List.getElem_cons_succ]
                  go_simp
                  refine hK.out _ _ ?_ (fun hHeld1 => ?_)
                  · (intro c hT hs; cases c; exact SS.store hs; exact absurd hT (by decide))
                  clear hK K
                  clear hHeld hHeld1
                  try simp only [Act.put, List.getElem_toArray, List.getElem_cons_zero, List.getElem_cons_succ, List.setIfInBounds_toArray, List.set_cons_zero, List.set_cons_succ]
                  refine wpAnyU_takeAny (i := 16) (oi := _) (v := ?_) rfl (by kernel_rfl) (by kernel_rfl) (by kernel_rfl) (fun _ _ _ h => h) (Or.inl ⟨by rfl, ?_⟩) ?_
                  rotate_left 1
                  · (intro W hSW; go_simp; try with_reducible rfl)
                  try simp only [Act.put, List.getElem_toArray, List.getElem_cons_zero, List.getElem_cons_succ, List.setIfInBounds_toArray, List.set_cons_zero, List.set_cons_succ]
                  refine wpAnyU_ready (rs := [17]) (by kernel_rfl) (by simp) ?_
                  refine AllU.cons (o := _) rfl (fun K hK => ?_) ?_
                  · try simp only [List.getElem_toArray, List.getElem_cons_zero, List.getElem_cons_succ]
                    go_simp
                    refine hK.out _ _ ?_ (fun hHeld1 => ?_)
                    · (intro c hT hs; cases c; exact SS.store hs; exact absurd hT (by decide))
                    clear hK K
                    clear hHeld1
                    try simp only [Act.put, List.getElem_toArray, List.getElem_cons_zero, List.getElem_cons_succ, List.setIfInBounds_toArray, List.set_cons_zero, List.set_cons_succ]
                    refine wpAnyU_done (by kernel_rfl) ?_ _
                    go_wp2_with fail
                    go_roundw
                    case measure => exact meas26 HJ.out (by rw [HL.out]; exact Nat.le_trans HN.out (by decide))
                    case rel =>
                      refine ⟨j + 1, raws ++ cells26 u E5 e5 E6 e6, .slice (some ⟨g, 0, none⟩) (ks.length + 1) cap, .slice (some ⟨g2, 0, none⟩) (ys.length + 1) cap2, HJ.out, congrArg (Value.int IntKind.i64) (next63 HJ.out (by rw [HL.out]; exact Nat.le_trans HN.out (by decide))), ?_⟩
                      rw [HK2.out, HY2.out]
                      exact HTN
                  exact AllU.nil
                exact AllU.nil
              exact AllU.nil
            exact AllU.nil
          exact AllU.nil
        exact AllU.nil
    · have e : j = x.f5.length := Nat.le_antisymm hj (Nat.not_lt.1 hlt)
      subst e
      have q1 : ¬ (x.f5.length : Int) < (x.f5.length : Int) := Int.lt_irrefl _
      have hW := wo_full x k
      have HI2 := HI.out
      rw [hW] at HI2
      obtain ⟨L, hL⟩ : ∃ L, withoutE k (entE x) = L := ⟨_, rfl⟩
      rw [hL] at HI2
      obtain ⟨A, a, B, b, rfl, rfl, hk⟩ := HI2.out
      have HKV := Aside0.mk hk
      have hbx := HI2.box
      have hb1 := (HI2.fr (w.heap.size + 1) (by omega) (by omega)).trans HX1.out
      have HBE := Aside0.mk HI2.below
      have HB1 := Aside0.mk hb1
      obtain ⟨m, hm⟩ : ∃ m, L.length = m := ⟨_, rfl⟩
      rw [List.length_map, List.length_map, hm] at hbx
      have HG := Aside0.mk (tab_agg (A := A) (a := a) (B := B) (b := b) hm)
      obtain ⟨⟨s0, s1, s2, s3, s4, s5, s6⟩, f0, f1, f2, f3, f4, f5, f6⟩ := at7 hb1
      obtain ⟨⟨n0, n1, n2, n3, n4, n5, n6⟩, -⟩ := at7 (b := w.heap.size + 1 + 1) hbx
      have HLL := Aside0.mk hL
      clear hlt hj hk hm hbx hb1 HI2 hW hL
      go_wp2
      have HP2 := Aside0.mk (put26_at HB1.out (.int .i64 7) (.bool false) (.int .i64 0) (.float .f64 0) (.string ⟨#[]⟩) (.slice A m a) (.slice B m b))
      have HB2 := Aside0.mk (put26_below HBE.out (Nat.le_succ _) (.int .i64 7) (.bool false) (.int .i64 0) (.float .f64 0) (.string ⟨#[]⟩) (.slice A m a) (.slice B m b))
      have HK2 := Aside0.mk (HKV.out.step (w1 := put26 wr (w.heap.size + 1) (.int .i64 7) (.bool false) (.int .i64 0) (.float .f64 0) (.string ⟨#[]⟩) (.slice A m a) (.slice B m b)) (fun k hk _ => put26_far (by rcases hk.2.2 with q | q; (have := HP.out k q; omega); omega) (.int .i64 7) (.bool false) (.int .i64 0) (.float .f64 0) (.string ⟨#[]⟩) (.slice A m a) (.slice B m b)))
      have HSZ := Aside0.mk (show wr.heap.size ≤ (put26 wr (w.heap.size + 1) (.int .i64 7) (.bool false) (.int .i64 0) (.float .f64 0) (.string ⟨#[]⟩) (.slice A m a) (.slice B m b)).heap.size by unfold put26; simp)
      obtain ⟨W5, hW5⟩ : ∃ W5, put26 wr (w.heap.size + 1) (.int .i64 7) (.bool false) (.int .i64 0) (.float .f64 0) (.string ⟨#[]⟩) (.slice A m a) (.slice B m b) = W5 := ⟨_, rfl⟩
      rw [hW5] at HP2 HB2 HK2 HSZ
      unfold put26 at hW5
      rw [hW5]
      clear hW5 s0 s1 s2 s3 s4 s5 s6 f0 f1 f2 f3 f4 f5 f6 n0 n1 n2 n3 n4 n5 n6
      obtain ⟨⟨g0, g1, g2, g3, g4, g5, g6⟩, -⟩ := at7 HP2.out
      refine bodyPost_ret (v := .agg #[.int .i64 7, .bool false, .int .i64 0, .float .f64 0, .string ⟨#[]⟩, .slice A m a, .slice B m b]) (by simp [results, Try.results52, go_sem, g0, g1, g2, g3, g4, g5, g6]) rfl ?_
      rw [HLL.out]
      exact ⟨HB2.out, A, a, B, b, by rw [HG.out], HK2.out.mono fun k hk => ⟨hk.2.2, Nat.lt_of_lt_of_le hk.1 HSZ.out⟩⟩
end Go.Proofs.Ytjfbjkodjjlkiaa.HVal
/-! What spec.With comes to. -/
set_option linter.unusedSimpArgs false
namespace Go.Proofs.Ytjfbjkodjjlkiaa.HVal
open Go.RowKit Go.WideMaps Go.Maps Go.Proofs.YtjfbjkodjjlkiaaW.PrintWords Go.Proofs.YtjfbjkodjjlkiaaW.PrintLast Go.Proofs.YtjfbjkodjjlkiaaW.PrintMore Go.Proofs.Ytjfbjkodjjlkiaa.Plain Go.Proofs.Ytjfbjkodjjlkiaa.GTab Go.Proofs.Ytjfbjkodjjlkiaa.HBytes Go.Proofs.Ytjfbjkodjjlkiaa.HHeld
attribute [local go_sem] run_store_flt

theorem E7.same {W W2 : World} {a : Addr} {u : S26} {E5 E6 : Option Addr} {e5 e6 B : Nat} (h : E7 W a u E5 e5 E6 e6) (hlt : a.block < B) (hs : ∀ i, i < B → W2.heap[i]? = W.heap[i]?) : E7 W2 a u E5 e5 E6 e6 := by
  have key : ∀ (p : Addr) (v : Value), p.block = a.block → W.cell? p = some v → W2.cell? p = some v := fun p v hp hc => by
    rw [World.cell?_of_block (hs p.block (by rw [hp]; exact hlt))]
    exact hc
  exact ⟨key _ _ rfl h.1, key _ _ rfl h.2.1, key _ _ rfl h.2.2.1, key _ _ rfl h.2.2.2.1, key _ _ rfl h.2.2.2.2.1, key _ _ rfl h.2.2.2.2.2.1, key _ _ rfl h.2.2.2.2.2.2⟩
/-! ### the plain function, step by step -/
def wMid (k : ByteArray) (v : S26) (s : Bool × Ent) (p : ByteArray × S26) : Bool × Ent := if !s.1 && !ltK p.1 k then (true, s.2 ++ [(k, v)]) else s
def wStep (k : ByteArray) (v : S26) (s : Bool × Ent) (p : ByteArray × S26) : Bool × Ent := ((wMid k v s p).1, (wMid k v s p).2 ++ (if p.1 ≠ k then [p] else []))
def wEnd (k : ByteArray) (v : S26) (s : Bool × Ent) : Ent := if s.1 then s.2 else s.2 ++ [(k, v)]
theorem w_true {k : ByteArray} {v : S26} : ∀ (l o : Ent), l.foldl (wStep k v) (true, o) = (true, o ++ l.filter (fun p => decide (p.1 ≠ k)))
  | [], o => by simp
  | p :: r, o => by
    rw [List.foldl_cons, show wStep k v (true, o) p = (true, o ++ (if p.1 ≠ k then [p] else [])) from rfl, w_true r, List.filter_cons]
    by_cases c : p.1 = k
    · rw [if_neg (by simpa using c), if_neg (by simp [c]), List.append_nil]
    · rw [if_pos c, if_pos (by simpa using c), List.append_assoc]
      rfl
theorem w_false {k : ByteArray} {v : S26} : ∀ (l o : Ent), wEnd k v (l.foldl (wStep k v) (false, o)) = o ++ withE k v l
  | [], o => rfl
  | (a, x) :: r, o => by
    rw [List.foldl_cons, withE]
    by_cases c : ltK a k = true
    · have e : wStep k v (false, o) (a, x) = (false, o ++ [(a, x)]) := by
        unfold wStep wMid
        simp only [c]
        rw [if_neg (by decide), if_pos (ltK_ne c)]
      rw [e, w_false r, if_pos c, List.append_assoc]
      rfl
    · have c' : ltK a k = false := by simpa using c
      have e : wStep k v (false, o) (a, x) = (true, (o ++ [(k, v)]) ++ (if a ≠ k then [(a, x)] else [])) := by
        unfold wStep wMid
        simp only [c']
        rfl
      rw [e, w_true, if_neg c]
      show (o ++ [(k, v)]) ++ (if a ≠ k then [(a, x)] else []) ++ r.filter _ = o ++ ((k, v) :: ((a, x) :: r).filter _)
      rw [List.filter_cons]
      by_cases d : a = k
      · rw [if_neg (by simpa using d), if_neg (by simp [d])]
        simp
      · rw [if_pos d, if_pos (by simpa using d)]
        simp
def WS (x : S26) (k : ByteArray) (v : S26) (j : Nat) : Bool × Ent := ((entE x).take j).foldl (wStep k v) (false, [])
theorem ws_step {x : S26} {k : ByteArray} {v : S26} {j : Nat} (h1 : j < x.f5.length) (h2 : j < x.f6.length) : WS x k v (j + 1) = wStep k v (WS x k v j) (x.f5[j], x.f6[j]) := by
  have hl : j < (entE x).length := by unfold entE; rw [List.length_zip]; omega
  have e : (entE x)[j] = (x.f5[j], x.f6[j]) := by unfold entE; exact List.getElem_zip
  unfold WS
  rw [List.take_succ_eq_append_getElem hl, List.foldl_append, e]
  rfl
theorem mid_len {k : ByteArray} {v : S26} (s : Bool × Ent) (p : ByteArray × S26) : (wMid k v s p).2.length ≤ s.2.length + 1 := by
  unfold wMid
  split
  · rw [List.length_append]; exact Nat.le_refl _
  · exact Nat.le_succ _
theorem fold_len {k : ByteArray} {v : S26} : ∀ (l : Ent) (s : Bool × Ent), (l.foldl (wStep k v) s).2.length ≤ s.2.length + 2 * l.length
  | [], s => Nat.le_refl _
  | p :: r, s => by
    have h1 := fold_len (k := k) (v := v) r (wStep k v s p)
    have h2 := mid_len (k := k) (v := v) s p
    have h3 : (wStep k v s p).2.length ≤ (wMid k v s p).2.length + 1 := by
      show ((wMid k v s p).2 ++ _).length ≤ _
      rw [List.length_append]
      split <;> simp
    rw [List.foldl_cons, List.length_cons]
    omega
theorem ws_len {x : S26} {k : ByteArray} {v : S26} {j : Nat} (hn : x.f6.length ≤ 1900) : (WS x k v j).2.length ≤ 3800 := by
  have h := fold_len (k := k) (v := v) ((entE x).take j) (false, [])
  have h2 : ((entE x).take j).length ≤ x.f6.length := by
    rw [List.length_take]
    unfold entE
    rw [List.length_zip]
    omega
  unfold WS
  simp only [List.length_nil, Nat.zero_add] at h
  omega
theorem ws_full (x : S26) (k : ByteArray) (v : S26) : wEnd k v (WS x k v x.f5.length) = withE k v (entE x) := by
  unfold WS
  rw [List.take_of_length_le (by unfold entE; rw [List.length_zip]; omega), w_false]
  rfl
set_option maxRecDepth 100000 in
set_option maxHeartbeats 8000000 in
theorem with_calls (x : S26) (A5 : Option Addr) (c5 : Nat) (A6 : Option Addr) (c6 : Nat) (P : Nat → Prop) (k : ByteArray) (v : S26) (B5 : Option Addr) (d5 : Nat) (B6 : Option Addr) (d6 : Nat) (Q : Nat → Prop) (w : World) (hl : x.f5.length = x.f6.length) (hn : x.f6.length ≤ 1900) (hv : KV w P x A5 c5 A6 c6) (hP : ∀ k, P k → k < w.heap.size) (hu : KV w Q v B5 d5 B6 d6) (hQ : ∀ k, Q k → k < w.heap.size) :
    Calls Try.prog 41 #[agg26 x A5 c5 A6 c6, .string k, agg26 v B5 d5 B6 d6] w fun e w' => Below w.heap.size w w' ∧ ∃ A a B b, e = .returned (agg26 (tabE (withE k v (entE x))) A a B b) ∧ KV w' (fun k => ((P k ∨ Q k) ∨ w.heap.size + 4 ≤ k) ∧ k < w'.heap.size) (tabE (withE k v (entE x))) A a B b := by
  have HL := Aside0.mk hl
  have HN := Aside0.mk hn
  have HV := Aside0.mk hv
  have HP := Aside0.mk hP
  have HU := Aside0.mk (hu.mono (P' := fun k => P k ∨ Q k) fun k hk => .inr hk)
  have HPQ := Aside0.mk (show ∀ k, (P k ∨ Q k) → k < w.heap.size from fun k hk => hk.elim (hP k) (hQ k))
  clear hl hn hv hP hu hQ
  go_enter Try.func41, Try.ntmps41
  go_wp2
  have HB1 := below_alloc (below_alloc (below_alloc (below_alloc (Below.refl w.heap.size w) (row26 x A5 c5 A6 c6)) (row26 v B5 d5 B6 d6)) row0) row7'
  have HT0 := Aside0.mk (TW.start (R := fun k => P k ∨ Q k) (ob := w.heap.size + 3) HPQ.out (by omega) (by simp) (blk_at _ (by simp)) HB1)
  have HX0 := Aside0.mk (show ((((w.alloc (row26 x A5 c5 A6 c6)).alloc (row26 v B5 d5 B6 d6)).alloc row0).alloc row7').heap[w.heap.size]? = some (.cells #[.int .i64 x.f0, .bool x.f1, .int .i64 x.f2, .float .f64 x.f3, .string x.f4, .slice A5 x.f5.length c5, .slice A6 x.f6.length c6] 26 (0, 0)) from blk_alloc (blk_alloc (blk_alloc (blk_new w _) _) _) _)
  have HX1 := Aside0.mk (show ((((w.alloc (row26 x A5 c5 A6 c6)).alloc (row26 v B5 d5 B6 d6)).alloc row0).alloc row7').heap[w.heap.size + 1]? = some (.cells #[.int .i64 v.f0, .bool v.f1, .int .i64 v.f2, .float .f64 v.f3, .string v.f4, .slice B5 v.f5.length d5, .slice B6 v.f6.length d6] 26 (0, 0)) from blk_alloc (blk_alloc (blk_at _ (by simp)) _) _)
  have HX2 := Aside0.mk (show ((((w.alloc (row26 x A5 c5 A6 c6)).alloc (row26 v B5 d5 B6 d6)).alloc row0).alloc row7').heap[w.heap.size + 2]? = some (.cells #[.int .i64 0, .bool false, .int .i64 0, .float .f64 0, .string ⟨#[]⟩, .slice none 0 0, .slice none 0 0] 26 (0, 0)) from blk_alloc (blk_at _ (by simp)) _)
  obtain ⟨w1, hw1⟩ : ∃ W, ((((w.alloc (row26 x A5 c5 A6 c6)).alloc (row26 v B5 d5 B6 d6)).alloc row0).alloc row7') = W := ⟨_, rfl⟩
  rw [hw1] at HT0 HX0 HX1 HX2
  unfold row26 row0 row7' at hw1
  rw [hw1]
  clear hw1 HB1
  go_loopw [8, 15] (fun d i wr => ∃ (j : Nat) (raws : List Value) (vA vB : Value), j ≤ x.f5.length ∧ d = .bool (WS x k v j).1 ∧ i = .int .i64 j ∧ Aside0 (TW w w1 (fun k => P k ∨ Q k) (w.heap.size + 4) (w.heap.size + 3) ((WS x k v j).2.map (·.1)) ((WS x k v j).2.map (·.2)) raws vA vB wr)) (fun _ i _ => x.f5.length - (intOf i).toNat)
  case atStart => exact ⟨0, [], _, _, Nat.zero_le _, rfl, rfl, HT0⟩
  case round =>
    obtain ⟨j, raws, vA, vB, hj, rfl, rfl, HI⟩ := hrel
    clear HT0
    have hx := (HI.out.fr w.heap.size (by omega) (by omega)).trans HX0.out
    obtain ⟨⟨r0, r1, r2, r3, r4, r5, r6⟩, -⟩ := at7 hx
    have HXR := Aside0.mk hx
    have HVR := Aside0.mk ((HI.out.fr (w.heap.size + 1) (by omega) (by omega)).trans HX1.out)
    have HLW := Aside0.mk (ws_len (k := k) (v := v) (j := j) HN.out)
    clear hx
    obtain ⟨d, hd⟩ : ∃ d, (WS x k v j).1 = d := ⟨_, rfl⟩
    by_cases hlt : j < x.f5.length
    · have HJ := Aside0.mk hlt
      have hlt2 : j < x.f6.length := HL.out ▸ hlt
      have hvr := HV.out.below HI.out.below
      obtain ⟨ad, hA, z0⟩ := hvr.key j hlt
      subst hA
      obtain ⟨ad2, E5, e5, E6, e6, hA2, hv2, y0, y1, y2, y3, y4, y5, y6⟩ := hvr.el7 j hlt2
      subst hA2
      have HAB := Aside0.mk (show (ad2.add (j * 7)).block < w.heap.size from by
        rw [add_block]
        exact HP.out _ (F_block hvr.g6 (by decide) (by omega)).1)
      have p0 : 0 ≤ (j : Int) := Int.natCast_nonneg j
      have q0 : (j : Int) < (x.f5.length : Int) := Int.ofNat_lt.2 hlt
      have q2 : (j : Int) < (x.f6.length : Int) := Int.ofNat_lt.2 hlt2
      have HWS := Aside0.mk (ws_step (k := k) (v := v) hlt hlt2)
      obtain ⟨t, ht⟩ : ∃ t, x.f5[j] = t := ⟨_, rfl⟩
      obtain ⟨u, hu⟩ : ∃ u, x.f6[j] = u := ⟨_, rfl⟩
      rw [ht] at z0 HWS
      rw [hu] at y0 y1 y2 y3 y4 y5 y6 hv2 HWS
      obtain ⟨S, hS⟩ : ∃ S, WS x k v j = S := ⟨_, rfl⟩
      rw [hS] at HI HWS hd HLW ⊢
      have HD := Aside0.mk hd
      rw [hd]
      have HV2 := Aside0.mk ((hv2.step (w1 := w) fun k hk _ => (HI.out.below.block k (HP.out k hk)).symm).mono (P' := fun k => P k ∨ Q k) fun k hk => .inl hk)
      have HC7 := Aside0.mk (show E7 wr (ad2.add (j * 7)) u E5 e5 E6 e6 from ⟨y0, y1, y2, y3, y4, y5, y6⟩)
      clear hlt hlt2 ht hu hv2 hj hvr hS hd y0 y1 y2 y3 y4 y5 y6
      obtain ⟨b, hb⟩ : ∃ b, ltK t k = b := ⟨_, rfl⟩
      have HLT := Aside0.mk hb
      have hb2 : Op.bytesLess t.toList k.toList = b := hb
      clear hb
      go_upto_region 6 with fail
      go_cut [26] from 20 to 26 (fun c wx => c = .bool (!d && !b) ∧ wr = wx)
      case first =>
        cases d
        case true =>
          go_wp2
          go_meet
          exact ⟨rfl, rfl⟩
        case false =>
          cases b
          all_goals
            go_wp2
            go_meet
            exact ⟨rfl, rfl⟩
      case rest =>
      obtain ⟨rfl, hwc⟩ := hcut
      subst hwc
      obtain ⟨pq, hpq⟩ : ∃ q, (!d && !b) = q := ⟨_, rfl⟩
      rw [hpq]
      go_upto_if 26 with fail
      go_cut [8] from 27 to 38 (fun c wx => ∃ (d1 : Bool) (ks : List ByteArray) (ys : List S26) (raws1 : List Value) (vA1 vB1 : Value), c = .bool d1 ∧ Aside0 ((wMid k v S (t, u)).1 = d1 ∧ (wMid k v S (t, u)).2.map (·.1) = ks ∧ (wMid k v S (t, u)).2.map (·.2) = ys) ∧ Aside0 (TW w w1 (fun k => P k ∨ Q k) (w.heap.size + 4) (w.heap.size + 3) ks ys raws1 vA1 vB1 wx))
      case first =>
        cases pq
        case false =>
            have HMD := Aside0.mk (show (wMid k v S (t, u)).1 = d ∧ (wMid k v S (t, u)).2.map (·.1) = S.2.map (·.1) ∧ (wMid k v S (t, u)).2.map (·.2) = S.2.map (·.2) from by
              have e : wMid k v S (t, u) = S := by unfold wMid; rw [HD.out, HLT.out, hpq]; rfl
              rw [e]
              exact ⟨HD.out, rfl, rfl⟩)
            go_wp2
            go_meet
            exact ⟨_, _, _, _, _, _, rfl, HMD, HI⟩
        case true =>
            have HMD := Aside0.mk (show (wMid k v S (t, u)).1 = true ∧ (wMid k v S (t, u)).2.map (·.1) = S.2.map (·.1) ++ [k] ∧ (wMid k v S (t, u)).2.map (·.2) = S.2.map (·.2) ++ [v] from by
              have e : wMid k v S (t, u) = (true, S.2 ++ [(k, v)]) := by unfold wMid; rw [HD.out, HLT.out, hpq]; rfl
              rw [e, List.map_append, List.map_append]
              exact ⟨rfl, rfl, rfl⟩)
            have HLA := Aside0.mk (show (S.2.map (·.1)).length ≤ 4000 by rw [List.length_map]; have := HLW.out; omega)
            have HLB := Aside0.mk (show (S.2.map (·.2)).length ≤ 4000 by rw [List.length_map]; have := HLW.out; omega)
            obtain ⟨ks, hks⟩ : ∃ ks, S.2.map (·.1) = ks := ⟨_, rfl⟩
            obtain ⟨ys, hys⟩ : ∃ ys, S.2.map (·.2) = ys := ⟨_, rfl⟩
            rw [hks, hys] at HI HMD
            rw [hks] at HLA
            rw [hys] at HLB
            clear hks hys
            go_upto_region 7 with fail
            have CV5 := Aside0.mk (fun W (h : SS wr (w.heap.size + 4) (w.heap.size + 1 + 1 + 1) true W) => h.cell (p := ⟨w.heap.size + 1 + 1 + 1, 5, none⟩) (Nat.lt_succ_self _) (.inl rfl) ((blk_cell HI.out.box 5).trans rfl : wr.cell? ⟨w.heap.size + 1 + 1 + 1, 5, none⟩ = some vA))
            have CV6 := Aside0.mk (fun W (h : SS wr (w.heap.size + 4) (w.heap.size + 1 + 1 + 1) true W) => h.cell (p := ⟨w.heap.size + 1 + 1 + 1, 6, none⟩) (Nat.lt_succ_self _) (.inl rfl) ((blk_cell HI.out.box 6).trans rfl : wr.cell? ⟨w.heap.size + 1 + 1 + 1, 6, none⟩ = some vB))
            have CX6 := Aside0.mk (fun W (h : SS wr (w.heap.size + 4) (w.heap.size + 1 + 1 + 1) false W) => h.cell (p := ⟨w.heap.size, 6, none⟩) (by show w.heap.size < w.heap.size + 4; omega) (.inr (by show w.heap.size ≠ w.heap.size + 1 + 1 + 1; omega)) ((blk_cell HXR.out 6).trans rfl : wr.cell? ⟨w.heap.size, 6, none⟩ = some (.slice (some ad2) x.f6.length c6)))
            have CV7 := Aside0.mk (fun W (h : SS wr (w.heap.size + 4) (w.heap.size + 1 + 1 + 1) false W) => (at7 ((h (w.heap.size + 1) (by omega) (.inr (by omega))).trans HVR.out)).1)
            clear r0 r1 r2 r3 r4 r5 r6
            refine wp_region_U (T := fun c j => (j == 11 || j == 13) && c) (S := SS wr (w.heap.size + 4) (w.heap.size + 1 + 1 + 1)) (by kernel_rfl) (fun c => SS.refl _ _ _ c) (fun hHeld => ?_)
            refine wpAnyU_takeAny (i := 0) (oi := _) (v := ?_) rfl (by kernel_rfl) (by kernel_rfl) (by kernel_rfl) (fun _ _ _ h => h) (Or.inl ⟨by rfl, ?_⟩) ?_
            rotate_left 1
            · (intro W hSW; go_simp; try with_reducible rfl)
            try simp only [Act.put, List.getElem_toArray, List.getElem_cons_zero, List.getElem_cons_succ, List.setIfInBounds_toArray, List.set_cons_zero, List.set_cons_succ]
            refine wpAnyU_take true (i := 1) (oi := _) (v := ?_) rfl (by kernel_rfl) (by kernel_rfl) (by kernel_rfl) (by kernel_rfl) (fun _ _ _ h => h) (Or.inl ⟨by rfl, ?_⟩) (hHeld _) ?_
            rotate_left 1
            · (intro W hSW; have c5 := CV5.out W hSW; go_simp; try with_reducible rfl)
            try simp only [Act.put, List.getElem_toArray, List.getElem_cons_zero, List.getElem_cons_succ, List.setIfInBounds_toArray, List.set_cons_zero, List.set_cons_succ]
            refine wpAnyU_takeAny (i := 2) (oi := _) (v := ?_) rfl (by kernel_rfl) (by kernel_rfl) (by kernel_rfl) (fun _ _ _ h => h) (Or.inl ⟨by rfl, ?_⟩) ?_
            rotate_left 1
            · (intro W hSW; go_simp; try with_reducible rfl)
            try simp only [Act.put, List.getElem_toArray, List.getElem_cons_zero, List.getElem_cons_succ, List.setIfInBounds_toArray, List.set_cons_zero, List.set_cons_succ]
            refine wpAnyU_takeAny (i := 5) (oi := _) (v := ?_) rfl (by kernel_rfl) (by kernel_rfl) (by kernel_rfl) (fun _ _ _ h => h) (Or.inl ⟨by rfl, ?_⟩) ?_
            rotate_left 1
            · (intro W hSW; go_simp; try with_reducible rfl)
            try simp only [Act.put, List.getElem_toArray, List.getElem_cons_zero, List.getElem_cons_succ, List.setIfInBounds_toArray, List.set_cons_zero, List.set_cons_succ]
            refine wpAnyU_take true (i := 6) (oi := _) (v := ?_) rfl (by kernel_rfl) (by kernel_rfl) (by kernel_rfl) (by kernel_rfl) (fun _ _ _ h => h) (Or.inl ⟨by rfl, ?_⟩) (hHeld _) ?_
            rotate_left 1
            · (intro W hSW; have c6 := CV6.out W hSW; go_simp; try with_reducible rfl)
            try simp only [Act.put, List.getElem_toArray, List.getElem_cons_zero, List.getElem_cons_succ, List.setIfInBounds_toArray, List.set_cons_zero, List.set_cons_succ]
            refine wpAnyU_take false (i := 7) (oi := _) (v := ?_) rfl (by kernel_rfl) (by kernel_rfl) (by kernel_rfl) (by kernel_rfl) (fun _ _ _ h => h) (Or.inl ⟨by rfl, ?_⟩) (hHeld _) ?_
            rotate_left 1
            · (intro W hSW; obtain ⟨i0, i1, i2, i3, i4, i5, i6⟩ := CV7.out W hSW; go_simp; try with_reducible rfl)
            try simp only [Act.put, List.getElem_toArray, List.getElem_cons_zero, List.getElem_cons_succ, List.setIfInBounds_toArray, List.set_cons_zero, List.set_cons_succ]
            refine wpAnyU_ready (rs := [3, 8]) (by kernel_rfl) (by simp) ?_
            refine AllU.cons (o := _) rfl (fun K hK => ?_) ?_
            · try simp only [List.getElem_toArray, List.getElem_cons_zero, List.getElem_cons_succ]
              go_simp
              refine hK.out _ _ ?_ (fun hHeld1 => ?_)
              · exact fun c _ _ => SS.below (below_drew (below_alloc (Below.refl _ _) _)) HI.out.lo.2.2 c
              clear hK K
              have hHeld2 := fun c => hHeld1 c rfl (hHeld c)
              clear hHeld hHeld1
              have hHeld := hHeld2
              clear hHeld2
              try simp only [Act.put, List.getElem_toArray, List.getElem_cons_zero, List.getElem_cons_succ, List.setIfInBounds_toArray, List.set_cons_zero, List.set_cons_succ]
              refine wpAnyU_ready (rs := [4, 8]) (by kernel_rfl) (by simp) ?_
              refine AllU.cons (o := _) rfl (fun K hK => ?_) ?_
              · skip
                refine appA (t := k) HI.out ?_ ?_ HLA.out (.tmp 28) (.tmp 30) rfl rfl rfl rfl ?_
                · exact below_drew (below_alloc (Below.refl _ _) _)
                · exact blk_drew (blk_new wr _)
                intro g cap W4 HM hg
                have HMa := Aside0.mk HM
                clear HM hg
                refine hK.out _ _ ?_ (fun hHeld1 => ?_)
                · exact fun c _ _ => SS.after HMa.out (Below.refl _ _) c
                clear hK K
                have hHeld2 := fun c => hHeld1 c rfl (hHeld c)
                clear hHeld hHeld1
                have hHeld := hHeld2
                clear hHeld2
                try simp only [Act.put, List.getElem_toArray, List.getElem_cons_zero, List.getElem_cons_succ, List.setIfInBounds_toArray, List.set_cons_zero, List.set_cons_succ]
                refine wpAnyU_takeAny (i := 10) (oi := _) (v := ?_) rfl (by kernel_rfl) (by kernel_rfl) (by kernel_rfl) (fun _ _ _ h => h) (Or.inl ⟨by rfl, ?_⟩) ?_
                rotate_left 1
                · (intro W hSW; go_simp; try with_reducible rfl)
                try simp only [Act.put, List.getElem_toArray, List.getElem_cons_zero, List.getElem_cons_succ, List.setIfInBounds_toArray, List.set_cons_zero, List.set_cons_succ]
                refine wpAnyU_ready (rs := [8]) (by kernel_rfl) (by simp) ?_
                refine AllU.cons (o := _) rfl (fun K hK => ?_) ?_
                · try simp only [List.getElem_toArray, List.getElem_cons_zero, List.getElem_cons_succ]
                  go_simp
                  refine hK.out _ _ ?_ (fun hHeld1 => ?_)
                  · exact fun c _ _ => SS.after HMa.out (below_alloc (Below.refl _ _) _) c
                  clear hK K
                  have hHeld2 := fun c => hHeld1 c rfl (hHeld c)
                  clear hHeld hHeld1
                  have hHeld := hHeld2
                  clear hHeld2
                  try simp only [Act.put, List.getElem_toArray, List.getElem_cons_zero, List.getElem_cons_succ, List.setIfInBounds_toArray, List.set_cons_zero, List.set_cons_succ]
                  refine wpAnyU_ready (rs := [9]) (by kernel_rfl) (by simp) ?_
                  refine AllU.cons (o := _) rfl (fun K hK => ?_) ?_
                  · skip
                    refine appB (y := v) (HMa.out.later (below_alloc (Below.refl _ _) _)) (blk_new W4 _) HU.out HLB.out (.tmp 33) (.tmp 35) rfl rfl rfl rfl ?_
                    intro g2 cap2 W5 hb5 hts
                    have HTN := Aside0.mk hts
                    have HS5 := Aside0.mk (SS.back HI.out hb5 hts)
                    have e5c : W5.cell? ⟨w.heap.size + 1 + 1 + 1, 5, none⟩ = some vA := (blk_cell hb5 5).trans rfl
                    have e6c : W5.cell? ⟨w.heap.size + 1 + 1 + 1, 6, none⟩ = some vB := (blk_cell hb5 6).trans rfl
                    have e5f : W5.frozen? ⟨w.heap.size + 1 + 1 + 1, 5, none⟩ = false := blk_frozen hb5 5
                    have e6f : W5.frozen? ⟨w.heap.size + 1 + 1 + 1, 6, none⟩ = false := blk_frozen hb5 6
                    clear hts hb5
                    refine hK.out _ _ ?_ (fun hHeld1 => ?_)
                    · exact fun c _ _ => HS5.out c
                    clear hK K
                    have hHeld2 := fun c => hHeld1 c rfl (hHeld c)
                    clear hHeld hHeld1
                    have hHeld := hHeld2
                    clear hHeld2
                    try simp only [Act.put, List.getElem_toArray, List.getElem_cons_zero, List.getElem_cons_succ, List.setIfInBounds_toArray, List.set_cons_zero, List.set_cons_succ]
                    refine wpAnyU_ready (rs := [11]) (by kernel_rfl) (by simp) ?_
                    refine AllU.cons (o := _) rfl (fun K hK => ?_) ?_
                    · try simp only [List.getElem_toArray, List.getElem_cons_zero, List.getElem_cons_succ]
                      go_simp
                      refine hK.out _ _ ?_ (fun hHeld1 => ?_)
                      · (intro c hT hs; cases c; exact SS.store hs; exact absurd hT (by decide))
                      clear hK K
                      clear hHeld hHeld1
                      try simp only [Act.put, List.getElem_toArray, List.getElem_cons_zero, List.getElem_cons_succ, List.setIfInBounds_toArray, List.set_cons_zero, List.set_cons_succ]
                      refine wpAnyU_takeAny (i := 12) (oi := _) (v := ?_) rfl (by kernel_rfl) (by kernel_rfl) (by kernel_rfl) (fun _ _ _ h => h) (Or.inl ⟨by rfl, ?_⟩) ?_
                      rotate_left 1
                      · (intro W hSW; go_simp; try with_reducible rfl)
                      try simp only [Act.put, List.getElem_toArray, List.getElem_cons_zero, List.getElem_cons_succ, List.setIfInBounds_toArray, List.set_cons_zero, List.set_cons_succ]
                      refine wpAnyU_ready (rs := [13]) (by kernel_rfl) (by simp) ?_
                      refine AllU.cons (o := _) rfl (fun K hK => ?_) ?_
                      · try simp only [List.getElem_toArray, List.getElem_cons_zero, List.getElem_cons_succ]
                        go_simp
                        refine hK.out _ _ ?_ (fun hHeld1 => ?_)
                        · (intro c hT hs; cases c; exact SS.store hs; exact absurd hT (by decide))
                        clear hK K
                        clear hHeld1
                        try simp only [Act.put, List.getElem_toArray, List.getElem_cons_zero, List.getElem_cons_succ, List.setIfInBounds_toArray, List.set_cons_zero, List.set_cons_succ]
                        refine wpAnyU_takeAny (i := 14) (oi := _) (v := ?_) rfl (by kernel_rfl) (by kernel_rfl) (by kernel_rfl) (fun _ _ _ h => h) (Or.inl ⟨by rfl, ?_⟩) ?_
                        rotate_left 1
                        · (intro W hSW; go_simp; try with_reducible rfl)
                        try simp only [Act.put, List.getElem_toArray, List.getElem_cons_zero, List.getElem_cons_succ, List.setIfInBounds_toArray, List.set_cons_zero, List.set_cons_succ]
                        refine wpAnyU_done (by kernel_rfl) ?_ _
                        go_wp2_with fail
                        go_meet
                        exact ⟨_, _, _, _, _, _, rfl, HMD, HTN⟩
                      exact AllU.nil
                    exact AllU.nil
                  exact AllU.nil
                exact AllU.nil
              refine AllU.cons (o := _) rfl (fun K hK => ?_) ?_
              · try simp only [List.getElem_toArray, List.getElem_cons_zero, List.getElem_cons_succ]
                go_simp
                refine hK.out _ _ ?_ (fun hHeld1 => ?_)
                · exact fun c _ _ => SS.below (below_drew (below_alloc (below_alloc (Below.refl _ _) _) _)) HI.out.lo.2.2 c
                clear hK K
                have hHeld2 := fun c => hHeld1 c rfl (hHeld c)
                clear hHeld hHeld1
                have hHeld := hHeld2
                clear hHeld2
                try simp only [Act.put, List.getElem_toArray, List.getElem_cons_zero, List.getElem_cons_succ, List.setIfInBounds_toArray, List.set_cons_zero, List.set_cons_succ]
                refine wpAnyU_ready (rs := [4]) (by kernel_rfl) (by simp) ?_
                refine AllU.cons (o := _) rfl (fun K hK => ?_) ?_
                · skip
                  refine appA (t := k) HI.out ?_ ?_ HLA.out (.tmp 28) (.tmp 30) rfl rfl rfl rfl ?_
                  · exact below_drew (below_alloc (below_alloc (Below.refl _ _) _) _)
                  · exact blk_drew (blk_alloc (blk_new wr _) _)
                  intro g cap W4 HM hg
                  have HMa := Aside0.mk HM
                  have HPB := Aside0.mk (MW.kept HI.out hg (p := wr.heap.size + 1) (blk_drew (blk_at _ (by simp))) (Nat.le_succ _))
                  clear HM hg
                  refine hK.out _ _ ?_ (fun hHeld1 => ?_)
                  · exact fun c _ _ => SS.after HMa.out (Below.refl _ _) c
                  clear hK K
                  have hHeld2 := fun c => hHeld1 c rfl (hHeld c)
                  clear hHeld hHeld1
                  have hHeld := hHeld2
                  clear hHeld2
                  try simp only [Act.put, List.getElem_toArray, List.getElem_cons_zero, List.getElem_cons_succ, List.setIfInBounds_toArray, List.set_cons_zero, List.set_cons_succ]
                  refine wpAnyU_takeAny (i := 10) (oi := _) (v := ?_) rfl (by kernel_rfl) (by kernel_rfl) (by kernel_rfl) (fun _ _ _ h => h) (Or.inl ⟨by rfl, ?_⟩) ?_
                  rotate_left 1
                  · (intro W hSW; go_simp; try with_reducible rfl)
                  try simp only [Act.put, List.getElem_toArray, List.getElem_cons_zero, List.getElem_cons_succ, List.setIfInBounds_toArray, List.set_cons_zero, List.set_cons_succ]
                  refine wpAnyU_ready (rs := [9]) (by kernel_rfl) (by simp) ?_
                  refine AllU.cons (o := _) rfl (fun K hK => ?_) ?_
                  · skip
                    refine appB (y := v) HMa.out HPB.out HU.out HLB.out (.tmp 33) (.tmp 35) rfl rfl rfl rfl ?_
                    intro g2 cap2 W5 hb5 hts
                    have HTN := Aside0.mk hts
                    have HS5 := Aside0.mk (SS.back HI.out hb5 hts)
                    have e5c : W5.cell? ⟨w.heap.size + 1 + 1 + 1, 5, none⟩ = some vA := (blk_cell hb5 5).trans rfl
                    have e6c : W5.cell? ⟨w.heap.size + 1 + 1 + 1, 6, none⟩ = some vB := (blk_cell hb5 6).trans rfl
                    have e5f : W5.frozen? ⟨w.heap.size + 1 + 1 + 1, 5, none⟩ = false := blk_frozen hb5 5
                    have e6f : W5.frozen? ⟨w.heap.size + 1 + 1 + 1, 6, none⟩ = false := blk_frozen hb5 6
                    clear hts hb5
                    refine hK.out _ _ ?_ (fun hHeld1 => ?_)
                    · exact fun c _ _ => HS5.out c
                    clear hK K
                    have hHeld2 := fun c => hHeld1 c rfl (hHeld c)
                    clear hHeld hHeld1
                    have hHeld := hHeld2
                    clear hHeld2
                    try simp only [Act.put, List.getElem_toArray, List.getElem_cons_zero, List.getElem_cons_succ, List.setIfInBounds_toArray, List.set_cons_zero, List.set_cons_succ]
                    refine wpAnyU_ready (rs := [11]) (by kernel_rfl) (by simp) ?_
                    refine AllU.cons (o := _) rfl (fun K hK => ?_) ?_
                    · try simp only [List.getElem_toArray, List.getElem_cons_zero, List.getElem_cons_succ]
                      go_simp
                      refine hK.out _ _ ?_ (fun hHeld1 => ?_)
                      · (intro c hT hs; cases c; exact SS.store hs; exact absurd hT (by decide))
                      clear hK K
                      clear hHeld hHeld1
                      try simp only [Act.put, List.getElem_toArray, List.getElem_cons_zero, List.getElem_cons_succ, List.setIfInBounds_toArray, List.set_cons_zero, List.set_cons_succ]
                      refine wpAnyU_takeAny (i := 12) (oi := _) (v := ?_) rfl (by kernel_rfl) (by kernel_rfl) (by kernel_rfl) (fun _ _ _ h => h) (Or.inl ⟨by rfl, ?_⟩) ?_
                      rotate_left 1
                      · (intro W hSW; go_simp; try with_reducible rfl)
                      try simp only [Act.put, List.getElem_toArray, List.getElem_cons_zero, List.getElem_cons_succ, List.setIfInBounds_toArray, List.set_cons_zero, List.set_cons_succ]
                      refine wpAnyU_ready (rs := [13]) (by kernel_rfl) (by simp) ?_
                      refine AllU.cons (o := _) rfl (fun K hK => ?_) ?_
                      · try simp only [List.getElem_toArray, List.getElem_cons_zero, List.getElem_cons_succ]
                        go_simp
                        refine hK.out _ _ ?_ (fun hHeld1 => ?_)
                        · (intro c hT hs; cases c; exact SS.store hs; exact absurd hT (by decide))
                        clear hK K
                        clear hHeld1
                        try simp only [Act.put, List.getElem_toArray, List.getElem_cons_zero, List.getElem_cons_succ, List.setIfInBounds_toArray, List.set_cons_zero, List.set_cons_succ]
                        refine wpAnyU_takeAny (i := 14) (oi := _) (v := ?_) rfl (by kernel_rfl) (by kernel_rfl) (by kernel_rfl) (fun _ _ _ h => h) (Or.inl ⟨by rfl, ?_⟩) ?_
                        rotate_left 1
                        · (intro W hSW; go_simp; try with_reducible rfl)
                        try simp only [Act.put, List.getElem_toArray, List.getElem_cons_zero, List.getElem_cons_succ, List.setIfInBounds_toArray, List.set_cons_zero, List.set_cons_succ]
                        refine wpAnyU_done (by kernel_rfl) ?_ _
                        go_wp2_with fail
                        go_meet
                        exact ⟨_, _, _, _, _, _, rfl, HMD, HTN⟩
                      exact AllU.nil
                    exact AllU.nil
                  exact AllU.nil
                exact AllU.nil
              exact AllU.nil
            refine AllU.cons (o := _) rfl (fun K hK => ?_) ?_
            · try simp only [List.getElem_toArray, List.getElem_cons_zero, List.getElem_cons_succ]
              go_simp
              refine hK.out _ _ ?_ (fun hHeld1 => ?_)
              · exact fun c _ _ => SS.below (below_drew (below_alloc (Below.refl _ _) _)) HI.out.lo.2.2 c
              clear hK K
              have hHeld2 := fun c => hHeld1 c rfl (hHeld c)
              clear hHeld hHeld1
              have hHeld := hHeld2
              clear hHeld2
              try simp only [Act.put, List.getElem_toArray, List.getElem_cons_zero, List.getElem_cons_succ, List.setIfInBounds_toArray, List.set_cons_zero, List.set_cons_succ]
              refine wpAnyU_ready (rs := [3]) (by kernel_rfl) (by simp) ?_
              refine AllU.cons (o := _) rfl (fun K hK => ?_) ?_
              · try simp only [List.getElem_toArray, List.getElem_cons_zero, List.getElem_cons_succ]
                go_simp
                refine hK.out _ _ ?_ (fun hHeld1 => ?_)
                · exact fun c _ _ => SS.below (below_drew (below_alloc (below_alloc (Below.refl _ _) _) _)) HI.out.lo.2.2 c
                clear hK K
                have hHeld2 := fun c => hHeld1 c rfl (hHeld c)
                clear hHeld hHeld1
                have hHeld := hHeld2
                clear hHeld2
                try simp only [Act.put, List.getElem_toArray, List.getElem_cons_zero, List.getElem_cons_succ, List.setIfInBounds_toArray, List.set_cons_zero, List.set_cons_succ]
                refine wpAnyU_ready (rs := [4]) (by kernel_rfl) (by simp) ?_
                refine AllU.cons (o := _) rfl (fun K hK => ?_) ?_
                · skip
                  refine appA (t := k) HI.out ?_ ?_ HLA.out (.tmp 28) (.tmp 30) rfl rfl rfl rfl ?_
                  · exact below_drew (below_alloc (below_alloc (Below.refl _ _) _) _)
                  · exact blk_drew (blk_at _ (by simp))
                  intro g cap W4 HM hg
                  have HMa := Aside0.mk HM
                  have HPB := Aside0.mk (MW.kept HI.out hg (p := wr.heap.size) (blk_drew (blk_alloc (blk_new wr _) _)) (Nat.le_refl _))
                  clear HM hg
                  refine hK.out _ _ ?_ (fun hHeld1 => ?_)
                  · exact fun c _ _ => SS.after HMa.out (Below.refl _ _) c
                  clear hK K
                  have hHeld2 := fun c => hHeld1 c rfl (hHeld c)
                  clear hHeld hHeld1
                  have hHeld := hHeld2
                  clear hHeld2
                  try simp only [Act.put, List.getElem_toArray, List.getElem_cons_zero, List.getElem_cons_succ, List.setIfInBounds_toArray, List.set_cons_zero, List.set_cons_succ]
                  refine wpAnyU_takeAny (i := 10) (oi := _) (v := ?_) rfl (by kernel_rfl) (by kernel_rfl) (by kernel_rfl) (fun _ _ _ h => h) (Or.inl ⟨by rfl, ?_⟩) ?_
                  rotate_left 1
                  · (intro W hSW; go_simp; try with_reducible rfl)
                  try simp only [Act.put, List.getElem_toArray, List.getElem_cons_zero, List.getElem_cons_succ, List.setIfInBounds_toArray, List.set_cons_zero, List.set_cons_succ]
                  refine wpAnyU_ready (rs := [9]) (by kernel_rfl) (by simp) ?_
                  refine AllU.cons (o := _) rfl (fun K hK => ?_) ?_
                  · skip
                    refine appB (y := v) HMa.out HPB.out HU.out HLB.out (.tmp 33) (.tmp 35) rfl rfl rfl rfl ?_
                    intro g2 cap2 W5 hb5 hts
                    have HTN := Aside0.mk hts
                    have HS5 := Aside0.mk (SS.back HI.out hb5 hts)
                    have e5c : W5.cell? ⟨w.heap.size + 1 + 1 + 1, 5, none⟩ = some vA := (blk_cell hb5 5).trans rfl
                    have e6c : W5.cell? ⟨w.heap.size + 1 + 1 + 1, 6, none⟩ = some vB := (blk_cell hb5 6).trans rfl
                    have e5f : W5.frozen? ⟨w.heap.size + 1 + 1 + 1, 5, none⟩ = false := blk_frozen hb5 5
                    have e6f : W5.frozen? ⟨w.heap.size + 1 + 1 + 1, 6, none⟩ = false := blk_frozen hb5 6
                    clear hts hb5
                    refine hK.out _ _ ?_ (fun hHeld1 => ?_)
                    · exact fun c _ _ => HS5.out c
                    clear hK K
                    have hHeld2 := fun c => hHeld1 c rfl (hHeld c)
                    clear hHeld hHeld1
                    have hHeld := hHeld2
                    clear hHeld2
                    try simp only [Act.put, List.getElem_toArray, List.getElem_cons_zero, List.getElem_cons_succ, List.setIfInBounds_toArray, List.set_cons_zero, List.set_cons_succ]
                    refine wpAnyU_ready (rs := [11]) (by kernel_rfl) (by simp) ?_
                    refine AllU.cons (o := _) rfl (fun K hK => ?_) ?_
                    · try simp only [List.getElem_toArray, List.getElem_cons_zero, List.getElem_cons_succ]
                      go_simp
                      refine hK.out _ _ ?_ (fun hHeld1 => ?_)
                      · (intro c hT hs; cases c; exact SS.store hs; exact absurd hT (by decide))
                      clear hK K
                      clear hHeld hHeld1
                      try simp only [Act.put, List.getElem_toArray, List.getElem_cons_zero, List.getElem_cons_succ, List.setIfInBounds_toArray, List.set_cons_zero, List.set_cons_succ]
                      refine wpAnyU_takeAny (i := 12) (oi := _) (v := ?_) rfl (by kernel_rfl) (by kernel_rfl) (by kernel_rfl) (fun _ _ _ h => h) (Or.inl ⟨by rfl, ?_⟩) ?_
                      rotate_left 1
                      · (intro W hSW; go_simp; try with_reducible rfl)
                      try simp only [Act.put, List.getElem_toArray, List.getElem_cons_zero, List.getElem_cons_succ, List.setIfInBounds_toArray, List.set_cons_zero, List.set_cons_succ]
                      refine wpAnyU_ready (rs := [13]) (by kernel_rfl) (by simp) ?_
                      refine AllU.cons (o := _) rfl (fun K hK => ?_) ?_
                      · try simp only [List.getElem_toArray, List.getElem_cons_zero, List.getElem_cons_succ]
                        go_simp
                        refine hK.out _ _ ?_ (fun hHeld1 => ?_)
                        · (intro c hT hs; cases c; exact SS.store hs; exact absurd hT (by decide))
                        clear hK K
                        clear hHeld1
                        try simp only [Act.put, List.getElem_toArray, List.getElem_cons_zero, List.getElem_cons_succ, List.setIfInBounds_toArray, List.set_cons_zero, List.set_cons_succ]
                        refine wpAnyU_takeAny (i := 14) (oi := _) (v := ?_) rfl (by kernel_rfl) (by kernel_rfl) (by kernel_rfl) (fun _ _ _ h => h) (Or.inl ⟨by rfl, ?_⟩) ?_
                        rotate_left 1
                        · (intro W hSW; go_simp; try with_reducible rfl)
                        try simp only [Act.put, List.getElem_toArray, List.getElem_cons_zero, List.getElem_cons_succ, List.setIfInBounds_toArray, List.set_cons_zero, List.set_cons_succ]
                        refine wpAnyU_done (by kernel_rfl) ?_ _
                        go_wp2_with fail
                        go_meet
                        exact ⟨_, _, _, _, _, _, rfl, HMD, HTN⟩
                      exact AllU.nil
                    exact AllU.nil
                  exact AllU.nil
                exact AllU.nil
              exact AllU.nil
            exact AllU.nil
      case rest =>
        obtain ⟨d1, ks, ys, raws1, vA1, vB1, rfl, HMD, HI1⟩ := hcut
        have HB0 := Aside0.mk HI.out.below
        obtain ⟨HC7b⟩ : Aside0 (E7 wc (ad2.add (j * 7)) u E5 e5 E6 e6) := ⟨E7.same HC7.out HAB.out (fun i hi => (HI1.out.below.block i hi).trans (HB0.out.block i hi).symm)⟩
        have HC7b := Aside0.mk HC7b
        clear HC7 HB0
        clear HI r0 r1 r2 r3 r4 r5 r6 hb2 HVR HXR
        have HI := HI1
        clear HI1
        have hx := (HI.out.fr w.heap.size (by omega) (by omega)).trans HX0.out
        obtain ⟨⟨r0, r1, r2, r3, r4, r5, r6⟩, -⟩ := at7 hx
        have HXR := Aside0.mk hx
        have HVR := Aside0.mk ((HI.out.fr (w.heap.size + 1) (by omega) (by omega)).trans HX1.out)
        have HLM := Aside0.mk (show (wMid k v S (t, u)).2.length ≤ 3801 from by have h1 := mid_len (k := k) (v := v) S (t, u); have h2 := HLW.out; omega)
        clear hx
        by_cases he : t = k
        · have hq : (t.toList == k.toList) = true := by rw [he]; simp
          have HD3 := Aside0.mk (show (WS x k v (j + 1)).1 = d1 by rw [HWS.out]; exact HMD.out.1)
          have HE3 := Aside0.mk (show (WS x k v (j + 1)).2 = (wMid k v S (t, u)).2 by rw [HWS.out]; show (wMid k v S (t, u)).2 ++ (if t ≠ k then [(t, u)] else []) = _; rw [if_neg (by simpa using he), List.append_nil])
          clear he
          go_wp2
          go_roundw
          case measure => exact meas26 HJ.out (by rw [HL.out]; exact Nat.le_trans HN.out (by decide))
          case rel =>
            refine ⟨j + 1, raws1, vA1, vB1, HJ.out, congrArg Value.bool HD3.out.symm, congrArg (Value.int IntKind.i64) (next63 HJ.out (by rw [HL.out]; exact Nat.le_trans HN.out (by decide))), ?_⟩
            rw [HE3.out, HMD.out.2.1, HMD.out.2.2]
            exact HI
        · have hq : (t.toList == k.toList) = false := by rw [beq_toList]; exact decide_eq_false he
          have HD3 := Aside0.mk (show (WS x k v (j + 1)).1 = d1 by rw [HWS.out]; exact HMD.out.1)
          have HE3 := Aside0.mk (show (WS x k v (j + 1)).2 = (wMid k v S (t, u)).2 ++ [(t, u)] by rw [HWS.out]; show (wMid k v S (t, u)).2 ++ (if t ≠ k then [(t, u)] else []) = _; rw [if_pos he])
          have HK3 := Aside0.mk (show (WS x k v (j + 1)).2.map (·.1) = ks ++ [t] by rw [HE3.out, List.map_append, HMD.out.2.1]; rfl)
          have HY3 := Aside0.mk (show (WS x k v (j + 1)).2.map (·.2) = ys ++ [u] by rw [HE3.out, List.map_append, HMD.out.2.2]; rfl)
          have HLA := Aside0.mk (show ks.length ≤ 4000 by rw [← HMD.out.2.1, List.length_map]; have := HLM.out; omega)
          have HLB := Aside0.mk (show ys.length ≤ 4000 by rw [← HMD.out.2.2, List.length_map]; have := HLM.out; omega)
          clear he
          go_upto_region 9 with fail
          obtain ⟨y0, y1, y2, y3, y4, y5, y6⟩ := HC7b.out
          have CV5 := Aside0.mk (fun W (h : SS wc (w.heap.size + 4) (w.heap.size + 1 + 1 + 1) true W) => h.cell (p := ⟨w.heap.size + 1 + 1 + 1, 5, none⟩) (Nat.lt_succ_self _) (.inl rfl) ((blk_cell HI.out.box 5).trans rfl : wc.cell? ⟨w.heap.size + 1 + 1 + 1, 5, none⟩ = some vA1))
          have CV6 := Aside0.mk (fun W (h : SS wc (w.heap.size + 4) (w.heap.size + 1 + 1 + 1) true W) => h.cell (p := ⟨w.heap.size + 1 + 1 + 1, 6, none⟩) (Nat.lt_succ_self _) (.inl rfl) ((blk_cell HI.out.box 6).trans rfl : wc.cell? ⟨w.heap.size + 1 + 1 + 1, 6, none⟩ = some vB1))
          have CX6 := Aside0.mk (fun W (h : SS wc (w.heap.size + 4) (w.heap.size + 1 + 1 + 1) false W) => h.cell (p := ⟨w.heap.size, 6, none⟩) (by show w.heap.size < w.heap.size + 4; omega) (.inr (by show w.heap.size ≠ w.heap.size + 1 + 1 + 1; omega)) ((blk_cell HXR.out 6).trans rfl : wc.cell? ⟨w.heap.size, 6, none⟩ = some (.slice (some ad2) x.f6.length c6)))
          have CV7 := Aside0.mk (fun W (h : SS wc (w.heap.size + 4) (w.heap.size + 1 + 1 + 1) false W) => (at7 ((h (w.heap.size + 1) (by omega) (.inr (by omega))).trans HVR.out)).1)
          have CE := Aside0.mk (fun W (h : SS wc (w.heap.size + 4) (w.heap.size + 1 + 1 + 1) false W) => show E7 W (ad2.add (j * 7)) u E5 e5 E6 e6 from
            have h1 : (ad2.add (j * 7)).block < w.heap.size + 4 := Nat.lt_of_lt_of_le HAB.out (Nat.le_add_right _ _)
            have h2 : (ad2.add (j * 7)).block ≠ w.heap.size + 1 + 1 + 1 := Nat.ne_of_lt (Nat.lt_of_lt_of_le HAB.out (Nat.le_add_right _ 3))
            ⟨h.cell h1 (.inr h2) y0, h.cell (p := ⟨_, _, none⟩) h1 (.inr h2) y1, h.cell (p := ⟨_, _, none⟩) h1 (.inr h2) y2, h.cell (p := ⟨_, _, none⟩) h1 (.inr h2) y3, h.cell (p := ⟨_, _, none⟩) h1 (.inr h2) y4, h.cell (p := ⟨_, _, none⟩) h1 (.inr h2) y5, h.cell (p := ⟨_, _, none⟩) h1 (.inr h2) y6⟩)
          clear r0 r1 r2 r3 r4 r5 r6 y0 y1 y2 y3 y4 y5 y6
          refine wp_region_U (T := fun c j => (j == 15 || j == 17) && c) (S := SS wc (w.heap.size + 4) (w.heap.size + 1 + 1 + 1)) (by kernel_rfl) (fun c => SS.refl _ _ _ c) (fun hHeld => ?_)
          refine wpAnyU_takeAny (i := 0) (oi := _) (v := ?_) rfl (by kernel_rfl) (by kernel_rfl) (by kernel_rfl) (fun _ _ _ h => h) (Or.inl ⟨by rfl, ?_⟩) ?_
          rotate_left 1
          · (intro W hSW; go_simp; try with_reducible rfl)
          try simp only [Act.put, List.getElem_toArray, List.getElem_cons_zero, List.getElem_cons_succ, List.setIfInBounds_toArray, List.set_cons_zero, List.set_cons_succ]
          refine wpAnyU_take true (i := 1) (oi := _) (v := ?_) rfl (by kernel_rfl) (by kernel_rfl) (by kernel_rfl) (by kernel_rfl) (fun _ _ _ h => h) (Or.inl ⟨by rfl, ?_⟩) (hHeld _) ?_
          rotate_left 1
          · (intro W hSW; have c5 := CV5.out W hSW; go_simp; try with_reducible rfl)
          try simp only [Act.put, List.getElem_toArray, List.getElem_cons_zero, List.getElem_cons_succ, List.setIfInBounds_toArray, List.set_cons_zero, List.set_cons_succ]
          refine wpAnyU_takeAny (i := 2) (oi := _) (v := ?_) rfl (by kernel_rfl) (by kernel_rfl) (by kernel_rfl) (fun _ _ _ h => h) (Or.inl ⟨by rfl, ?_⟩) ?_
          rotate_left 1
          · (intro W hSW; go_simp; try with_reducible rfl)
          try simp only [Act.put, List.getElem_toArray, List.getElem_cons_zero, List.getElem_cons_succ, List.setIfInBounds_toArray, List.set_cons_zero, List.set_cons_succ]
          refine wpAnyU_takeAny (i := 5) (oi := _) (v := ?_) rfl (by kernel_rfl) (by kernel_rfl) (by kernel_rfl) (fun _ _ _ h => h) (Or.inl ⟨by rfl, ?_⟩) ?_
          rotate_left 1
          · (intro W hSW; go_simp; try with_reducible rfl)
          try simp only [Act.put, List.getElem_toArray, List.getElem_cons_zero, List.getElem_cons_succ, List.setIfInBounds_toArray, List.set_cons_zero, List.set_cons_succ]
          refine wpAnyU_take true (i := 6) (oi := _) (v := ?_) rfl (by kernel_rfl) (by kernel_rfl) (by kernel_rfl) (by kernel_rfl) (fun _ _ _ h => h) (Or.inl ⟨by rfl, ?_⟩) (hHeld _) ?_
          rotate_left 1
          · (intro W hSW; have c6 := CV6.out W hSW; go_simp; try with_reducible rfl)
          try simp only [Act.put, List.getElem_toArray, List.getElem_cons_zero, List.getElem_cons_succ, List.setIfInBounds_toArray, List.set_cons_zero, List.set_cons_succ]
          refine wpAnyU_takeAny (i := 7) (oi := _) (v := ?_) rfl (by kernel_rfl) (by kernel_rfl) (by kernel_rfl) (fun _ _ _ h => h) (Or.inl ⟨by rfl, ?_⟩) ?_
          rotate_left 1
          · (intro W hSW; go_simp; try with_reducible rfl)
          try simp only [Act.put, List.getElem_toArray, List.getElem_cons_zero, List.getElem_cons_succ, List.setIfInBounds_toArray, List.set_cons_zero, List.set_cons_succ]
          refine wpAnyU_take false (i := 8) (oi := _) (v := ?_) rfl (by kernel_rfl) (by kernel_rfl) (by kernel_rfl) (by kernel_rfl) (fun _ _ _ h => h) (Or.inl ⟨by rfl, ?_⟩) (hHeld _) ?_
          rotate_left 1
          · (intro W hSW; have c8 := CX6.out W hSW; go_simp; try with_reducible rfl)
          try simp only [Act.put, List.getElem_toArray, List.getElem_cons_zero, List.getElem_cons_succ, List.setIfInBounds_toArray, List.set_cons_zero, List.set_cons_succ]
          refine wpAnyU_takeAny (i := 9) (oi := _) (v := ?_) rfl (by kernel_rfl) (by kernel_rfl) (by kernel_rfl) (fun _ _ _ h => h) (Or.inl ⟨by rfl, ?_⟩) ?_
          rotate_left 1
          · (intro W hSW; go_simp; try with_reducible rfl)
          try simp only [Act.put, List.getElem_toArray, List.getElem_cons_zero, List.getElem_cons_succ, List.setIfInBounds_toArray, List.set_cons_zero, List.set_cons_succ]
          refine wpAnyU_takeAny (i := 10) (oi := _) (v := ?_) rfl (by kernel_rfl) (by kernel_rfl) (by kernel_rfl) (fun _ _ _ h => h) (Or.inl ⟨by rfl, ?_⟩) ?_
          rotate_left 1
          · (intro W hSW; go_simp; try with_reducible rfl)
          try simp only [Act.put, List.getElem_toArray, List.getElem_cons_zero, List.getElem_cons_succ, List.setIfInBounds_toArray, List.set_cons_zero, List.set_cons_succ]
          refine wpAnyU_take false (i := 11) (oi := _) (v := ?_) rfl (by kernel_rfl) (by kernel_rfl) (by kernel_rfl) (by kernel_rfl) (fun _ _ _ h => h) (Or.inl ⟨by rfl, ?_⟩) (hHeld _) ?_
          rotate_left 1
          · (intro W hSW; have c11 := CE.out W hSW; obtain ⟨i0, i1, i2, i3, i4, i5, i6⟩ := c11; go_simp; try with_reducible rfl)
          try simp only [Act.put, List.getElem_toArray, List.getElem_cons_zero, List.getElem_cons_succ, List.setIfInBounds_toArray, List.set_cons_zero, List.set_cons_succ]
          refine wpAnyU_ready (rs := [3, 12]) (by kernel_rfl) (by simp) ?_
          refine AllU.cons (o := _) rfl (fun K hK => ?_) ?_
          · try simp only [List.getElem_toArray, List.getElem_cons_zero, List.getElem_cons_succ]
            go_simp
            refine hK.out _ _ ?_ (fun hHeld1 => ?_)
            · exact fun c _ _ => SS.below (below_drew (below_alloc (Below.refl _ _) _)) HI.out.lo.2.2 c
            clear hK K
            have hHeld2 := fun c => hHeld1 c rfl (hHeld c)
            clear hHeld hHeld1
            have hHeld := hHeld2
            clear hHeld2
            try simp only [Act.put, List.getElem_toArray, List.getElem_cons_zero, List.getElem_cons_succ, List.setIfInBounds_toArray, List.set_cons_zero, List.set_cons_succ]
            refine wpAnyU_ready (rs := [4, 12]) (by kernel_rfl) (by simp) ?_
            refine AllU.cons (o := _) rfl (fun K hK => ?_) ?_
            · skip
              refine appA (t := t) HI.out ?_ ?_ HLA.out (.tmp 43) (.tmp 45) rfl rfl rfl rfl ?_
              · exact below_drew (below_alloc (Below.refl _ _) _)
              · exact blk_drew (blk_new wc _)
              intro g cap W4 HM hg
              have HMa := Aside0.mk HM
              clear HM hg
              refine hK.out _ _ ?_ (fun hHeld1 => ?_)
              · exact fun c _ _ => SS.after HMa.out (Below.refl _ _) c
              clear hK K
              have hHeld2 := fun c => hHeld1 c rfl (hHeld c)
              clear hHeld hHeld1
              have hHeld := hHeld2
              clear hHeld2
              try simp only [Act.put, List.getElem_toArray, List.getElem_cons_zero, List.getElem_cons_succ, List.setIfInBounds_toArray, List.set_cons_zero, List.set_cons_succ]
              refine wpAnyU_takeAny (i := 14) (oi := _) (v := ?_) rfl (by kernel_rfl) (by kernel_rfl) (by kernel_rfl) (fun _ _ _ h => h) (Or.inl ⟨by rfl, ?_⟩) ?_
              rotate_left 1
              · (intro W hSW; go_simp; try with_reducible rfl)
              try simp only [Act.put, List.getElem_toArray, List.getElem_cons_zero, List.getElem_cons_succ, List.setIfInBounds_toArray, List.set_cons_zero, List.set_cons_succ]
              refine wpAnyU_ready (rs := [12]) (by kernel_rfl) (by simp) ?_
              refine AllU.cons (o := _) rfl (fun K hK => ?_) ?_
              · try simp only [List.getElem_toArray, List.getElem_cons_zero, List.getElem_cons_succ]
                go_simp
                refine hK.out _ _ ?_ (fun hHeld1 => ?_)
                · exact fun c _ _ => SS.after HMa.out (below_alloc (Below.refl _ _) _) c
                clear hK K
                have hHeld2 := fun c => hHeld1 c rfl (hHeld c)
                clear hHeld hHeld1
                have hHeld := hHeld2
                clear hHeld2
                try simp only [Act.put, List.getElem_toArray, List.getElem_cons_zero, List.getElem_cons_succ, List.setIfInBounds_toArray, List.set_cons_zero, List.set_cons_succ]
                refine wpAnyU_ready (rs := [13]) (by kernel_rfl) (by simp) ?_
                refine AllU.cons (o := _) rfl (fun K hK => ?_) ?_
                · skip
                  refine appB (y := u) (HMa.out.later (below_alloc (Below.refl _ _) _)) (blk_new W4 _) HV2.out HLB.out (.tmp 48) (.tmp 54) rfl rfl rfl rfl ?_
                  intro g2 cap2 W5 hb5 hts
                  have HTN := Aside0.mk hts
                  have HS5 := Aside0.mk (SS.back HI.out hb5 hts)
                  have e5c : W5.cell? ⟨w.heap.size + 1 + 1 + 1, 5, none⟩ = some vA1 := (blk_cell hb5 5).trans rfl
                  have e6c : W5.cell? ⟨w.heap.size + 1 + 1 + 1, 6, none⟩ = some vB1 := (blk_cell hb5 6).trans rfl
                  have e5f : W5.frozen? ⟨w.heap.size + 1 + 1 + 1, 5, none⟩ = false := blk_frozen hb5 5
                  have e6f : W5.frozen? ⟨w.heap.size + 1 + 1 + 1, 6, none⟩ = false := blk_frozen hb5 6
                  clear hts hb5
                  refine hK.out _ _ ?_ (fun hHeld1 => ?_)
                  · exact fun c _ _ => HS5.out c
                  clear hK K
                  have hHeld2 := fun c => hHeld1 c rfl (hHeld c)
                  clear hHeld hHeld1
                  have hHeld := hHeld2
                  clear hHeld2
                  try simp only [Act.put, List.getElem_toArray, List.getElem_cons_zero, List.getElem_cons_succ, List.setIfInBounds_toArray, List.set_cons_zero, List.set_cons_succ]
                  refine wpAnyU_ready (rs := [15]) (by kernel_rfl) (by simp) ?_
                  refine AllU.cons (o := _) rfl (fun K hK => ?_) ?_
                  · try simp only [List.getElem_toArray, List.getElem_cons_zero, List.getElem_cons_succ]
                    go_simp
                    refine hK.out _ _ ?_ (fun hHeld1 => ?_)
                    · (intro c hT hs; cases c; exact SS.store hs; exact absurd hT (by decide))
                    clear hK K
                    clear hHeld hHeld1
                    try simp only [Act.put, List.getElem_toArray, List.getElem_cons_zero, List.getElem_cons_succ, List.setIfInBounds_toArray, List.set_cons_zero, List.set_cons_succ]
                    refine wpAnyU_takeAny (i := 16) (oi := _) (v := ?_) rfl (by kernel_rfl) (by kernel_rfl) (by kernel_rfl) (fun _ _ _ h => h) (Or.inl ⟨by rfl, ?_⟩) ?_
                    rotate_left 1
                    · (intro W hSW; go_simp; try with_reducible rfl)
                    try simp only [Act.put, List.getElem_toArray, List.getElem_cons_zero, List.getElem_cons_succ, List.setIfInBounds_toArray, List.set_cons_zero, List.set_cons_succ]
                    refine wpAnyU_ready (rs := [17]) (by kernel_rfl) (by simp) ?_
                    refine AllU.cons (o := _) rfl (fun K hK => ?_) ?_
                    · try simp only [List.getElem_toArray, List.getElem_cons_zero, List.getElem_cons_succ]
                      go_simp
                      refine hK.out _ _ ?_ (fun hHeld1 => ?_)
                      · (intro c hT hs; cases c; exact SS.store hs; exact absurd hT (by decide))
                      clear hK K
                      clear hHeld1
                      try simp only [Act.put, List.getElem_toArray, List.getElem_cons_zero, List.getElem_cons_succ, List.setIfInBounds_toArray, List.set_cons_zero, List.set_cons_succ]
                      refine wpAnyU_done (by kernel_rfl) ?_ _
                      go_wp2_with fail
                      go_roundw
                      case measure => exact meas26 HJ.out (by rw [HL.out]; exact Nat.le_trans HN.out (by decide))
                      case rel =>
                        refine ⟨j + 1, raws1 ++ cells26 u E5 e5 E6 e6, .slice (some ⟨g, 0, none⟩) (ks.length + 1) cap, .slice (some ⟨g2, 0, none⟩) (ys.length + 1) cap2, HJ.out, congrArg Value.bool HD3.out.symm, congrArg (Value.int IntKind.i64) (next63 HJ.out (by rw [HL.out]; exact Nat.le_trans HN.out (by decide))), ?_⟩
                        rw [HK3.out, HY3.out]
                        exact HTN
                    exact AllU.nil
                  exact AllU.nil
                exact AllU.nil
              exact AllU.nil
            refine AllU.cons (o := _) rfl (fun K hK => ?_) ?_
            · try simp only [List.getElem_toArray, List.getElem_cons_zero, List.getElem_cons_succ]
              go_simp
              refine hK.out _ _ ?_ (fun hHeld1 => ?_)
              · exact fun c _ _ => SS.below (below_drew (below_alloc (below_alloc (Below.refl _ _) _) _)) HI.out.lo.2.2 c
              clear hK K
              have hHeld2 := fun c => hHeld1 c rfl (hHeld c)
              clear hHeld hHeld1
              have hHeld := hHeld2
              clear hHeld2
              try simp only [Act.put, List.getElem_toArray, List.getElem_cons_zero, List.getElem_cons_succ, List.setIfInBounds_toArray, List.set_cons_zero, List.set_cons_succ]
              refine wpAnyU_ready (rs := [4]) (by kernel_rfl) (by simp) ?_
              refine AllU.cons (o := _) rfl (fun K hK => ?_) ?_
              · skip
                refine appA (t := t) HI.out ?_ ?_ HLA.out (.tmp 43) (.tmp 45) rfl rfl rfl rfl ?_
                · exact below_drew (below_alloc (below_alloc (Below.refl _ _) _) _)
                · exact blk_drew (blk_alloc (blk_new wc _) _)
                intro g cap W4 HM hg
                have HMa := Aside0.mk HM
                have HPB := Aside0.mk (MW.kept HI.out hg (p := wc.heap.size + 1) (blk_drew (blk_at _ (by simp))) (Nat.le_succ _))
                clear HM hg
                refine hK.out _ _ ?_ (fun hHeld1 => ?_)
                · exact fun c _ _ => SS.after HMa.out (Below.refl _ _) c
                clear hK K
                have hHeld2 := fun c => hHeld1 c rfl (hHeld c)
                clear hHeld hHeld1
                have hHeld := hHeld2
                clear hHeld2
                try simp only [Act.put, List.getElem_toArray, List.getElem_cons_zero, List.getElem_cons_succ, List.setIfInBounds_toArray, List.set_cons_zero, List.set_cons_succ]
                refine wpAnyU_takeAny (i := 14) (oi := _) (v := ?_) rfl (by kernel_rfl) (by kernel_rfl) (by kernel_rfl) (fun _ _ _ h => h) (Or.inl ⟨by rfl, ?_⟩) ?_
                rotate_left 1
                · (intro W hSW; go_simp; try with_reducible rfl)
                try simp only [Act.put, List.getElem_toArray, List.getElem_cons_zero, List.getElem_cons_succ, List.setIfInBounds_toArray, List.set_cons_zero, List.set_cons_succ]
                refine wpAnyU_ready (rs := [13]) (by kernel_rfl) (by simp) ?_
                refine AllU.cons (o := _) rfl (fun K hK => ?_) ?_
                · skip
                  refine appB (y := u) HMa.out HPB.out HV2.out HLB.out (.tmp 48) (.tmp 54) rfl rfl rfl rfl ?_
                  intro g2 cap2 W5 hb5 hts
                  have HTN := Aside0.mk hts
                  have HS5 := Aside0.mk (SS.back HI.out hb5 hts)
                  have e5c : W5.cell? ⟨w.heap.size + 1 + 1 + 1, 5, none⟩ = some vA1 := (blk_cell hb5 5).trans rfl
                  have e6c : W5.cell? ⟨w.heap.size + 1 + 1 + 1, 6, none⟩ = some vB1 := (blk_cell hb5 6).trans rfl
                  have e5f : W5.frozen? ⟨w.heap.size + 1 + 1 + 1, 5, none⟩ = false := blk_frozen hb5 5
                  have e6f : W5.frozen? ⟨w.heap.size + 1 + 1 + 1, 6, none⟩ = false := blk_frozen hb5 6
                  clear hts hb5
                  refine hK.out _ _ ?_ (fun hHeld1 => ?_)
                  · exact fun c _ _ => HS5.out c
                  clear hK K
                  have hHeld2 := fun c => hHeld1 c rfl (hHeld c)
                  clear hHeld hHeld1
                  have hHeld := hHeld2
                  clear hHeld2
                  try simp only [Act.put, List.getElem_toArray, List.getElem_cons_zero, List.getElem_cons_succ, List.setIfInBounds_toArray, List.set_cons_zero, List.set_cons_succ]
                  refine wpAnyU_ready (rs := [15]) (by kernel_rfl) (by simp) ?_
                  refine AllU.cons (o := _) rfl (fun K hK => ?_) ?_
                  · try simp only [List.getElem_toArray, List.getElem_cons_zero, List.getElem_cons_succ]
                    go_simp
                    refine hK.out _ _ ?_ (fun hHeld1 => ?_)
                    · (intro c hT hs; cases c; exact SS.store hs; exact absurd hT (by decide))
                    clear hK K
                    clear hHeld hHeld1
                    try simp only [Act.put, List.getElem_toArray, List.getElem_cons_zero, List.getElem_cons_succ, List.setIfInBounds_toArray, List.set_cons_zero, List.set_cons_succ]
                    refine wpAnyU_takeAny (i := 16) (oi := _) (v := ?_) rfl (by kernel_rfl) (by kernel_rfl) (by kernel_rfl) (fun _ _ _ h => h) (Or.inl ⟨by rfl, ?_⟩) ?_
                    rotate_left 1
                    · (intro W hSW; go_simp; try with_reducible rfl)
                    try simp only [Act.put, List.getElem_toArray, List.getElem_cons_zero, List.getElem_cons_succ, List.setIfInBounds_toArray, List.set_cons_zero, List.set_cons_succ]
                    refine wpAnyU_ready (rs := [17]) (by kernel_rfl) (by simp) ?_
                    refine AllU.cons (o := _) rfl (fun K hK => ?_) ?_
                    · try simp only [List.getElem_toArray, List.getElem_cons_zero, List.getElem_cons_succ]
                      go_simp
                      refine hK.out _ _ ?_ (fun hHeld1 => ?_)
                      · (intro c hT hs; cases c; exact SS.store hs; exact absurd hT (by decide))
                      clear hK K
                      clear hHeld1
                      try simp only [Act.put, List.getElem_toArray, List.getElem_cons_zero, List.getElem_cons_succ, List.setIfInBounds_toArray, List.set_cons_zero, List.set_cons_succ]
                      refine wpAnyU_done (by kernel_rfl) ?_ _
                      go_wp2_with fail
                      go_roundw
                      case measure => exact meas26 HJ.out (by rw [HL.out]; exact Nat.le_trans HN.out (by decide))
                      case rel =>
                        refine ⟨j + 1, raws1 ++ cells26 u E5 e5 E6 e6, .slice (some ⟨g, 0, none⟩) (ks.length + 1) cap, .slice (some ⟨g2, 0, none⟩) (ys.length + 1) cap2, HJ.out, congrArg Value.bool HD3.out.symm, congrArg (Value.int IntKind.i64) (next63 HJ.out (by rw [HL.out]; exact Nat.le_trans HN.out (by decide))), ?_⟩
                        rw [HK3.out, HY3.out]
                        exact HTN
                    exact AllU.nil
                  exact AllU.nil
                exact AllU.nil
              exact AllU.nil
            exact AllU.nil
          refine AllU.cons (o := _) rfl (fun K hK => ?_) ?_
          · try simp only [List.getElem_toArray, List.getElem_cons_zero, List.getElem_cons_succ]
            go_simp
            refine hK.out _ _ ?_ (fun hHeld1 => ?_)
            · exact fun c _ _ => SS.below (below_drew (below_alloc (Below.refl _ _) _)) HI.out.lo.2.2 c
            clear hK K
            have hHeld2 := fun c => hHeld1 c rfl (hHeld c)
            clear hHeld hHeld1
            have hHeld := hHeld2
            clear hHeld2
            try simp only [Act.put, List.getElem_toArray, List.getElem_cons_zero, List.getElem_cons_succ, List.setIfInBounds_toArray, List.set_cons_zero, List.set_cons_succ]
            refine wpAnyU_ready (rs := [3]) (by kernel_rfl) (by simp) ?_
            refine AllU.cons (o := _) rfl (fun K hK => ?_) ?_
            · try simp only [List.getElem_toArray, List.getElem_cons_zero, List.getElem_cons_succ]
              go_simp
              refine hK.out _ _ ?_ (fun hHeld1 => ?_)
              · exact fun c _ _ => SS.below (below_drew (below_alloc (below_alloc (Below.refl _ _) _) _)) HI.out.lo.2.2 c
              clear hK K
              have hHeld2 := fun c => hHeld1 c rfl (hHeld c)
              clear hHeld hHeld1
              have hHeld := hHeld2
              clear hHeld2
              try simp only [Act.put, List.getElem_toArray, List.getElem_cons_zero, List.getElem_cons_succ, List.setIfInBounds_toArray, List.set_cons_zero, List.set_cons_succ]
              refine wpAnyU_ready (rs := [4]) (by kernel_rfl) (by simp) ?_
              refine AllU.cons (o := _) rfl (fun K hK => ?_) ?_
              · skip
                refine appA (t := t) HI.out ?_ ?_ HLA.out (.tmp 43) (.tmp 45) rfl rfl rfl rfl ?_
                · exact below_drew (below_alloc (below_alloc (Below.refl _ _) _) _)
                · exact blk_drew (blk_at _ (by simp))
                intro g cap W4 HM hg
                have HMa := Aside0.mk HM
                have HPB := Aside0.mk (MW.kept HI.out hg (p := wc.heap.size) (blk_drew (blk_alloc (blk_new wc _) _)) (Nat.le_refl _))
                clear HM hg
                refine hK.out _ _ ?_ (fun hHeld1 => ?_)
                · exact fun c _ _ => SS.after HMa.out (Below.refl _ _) c
                clear hK K
                have hHeld2 := fun c => hHeld1 c rfl (hHeld c)
                clear hHeld hHeld1
                have hHeld := hHeld2
                clear hHeld2
                try simp only [Act.put, List.getElem_toArray, List.getElem_cons_zero, List.getElem_cons_succ, List.setIfInBounds_toArray, List.set_cons_zero, List.set_cons_succ]
                refine wpAnyU_takeAny (i := 14) (oi := _) (v := ?_) rfl (by kernel_rfl) (by kernel_rfl) (by kernel_rfl) (fun _ _ _ h => h) (Or.inl ⟨by rfl, ?_⟩) ?_
                rotate_left 1
                · (intro W hSW; go_simp; try with_reducible rfl)
                try simp only [Act.put, List.getElem_toArray, List.getElem_cons_zero, List.getElem_cons_succ, List.setIfInBounds_toArray, List.set_cons_zero, List.set_cons_succ]
                refine wpAnyU_ready (rs := [13]) (by kernel_rfl) (by simp) ?_
                refine AllU.cons (o := _) rfl (fun K hK => ?_) ?_
                · skip
                  refine appB (y := u) HMa.out HPB.out HV2.out HLB.out (.tmp 48) (.tmp 54) rfl rfl rfl rfl ?_
                  intro g2 cap2 W5 hb5 hts
                  have HTN := Aside0.mk hts
                  have HS5 := Aside0.mk (SS.back HI.out hb5 hts)
                  have e5c : W5.cell? ⟨w.heap.size + 1 + 1 + 1, 5, none⟩ = some vA1 := (blk_cell hb5 5).trans rfl
                  have e6c : W5.cell? ⟨w.heap.size + 1 + 1 + 1, 6, none⟩ = some vB1 := (blk_cell hb5 6).trans rfl
                  have e5f : W5.frozen? ⟨w.heap.size + 1 + 1 + 1, 5, none⟩ = false := blk_frozen hb5 5
                  have e6f : W5.frozen? ⟨w.heap.size + 1 + 1 + 1, 6, none⟩ = false := blk_frozen hb5 6
                  clear hts hb5
                  refine hK.out _ _ ?_ (fun hHeld1 => ?_)
                  · exact fun c _ _ => HS5.out c
                  clear hK K
                  have hHeld2 := fun c => hHeld1 c rfl (hHeld c)
                  clear hHeld hHeld1
                  have hHeld := hHeld2
                  clear hHeld2
                  try simp only [Act.put, List.getElem_toArray, List.getElem_cons_zero, List.getElem_cons_succ, List.setIfInBounds_toArray, List.set_cons_zero, List.set_cons_succ]
                  refine wpAnyU_ready (rs := [15]) (by kernel_rfl) (by simp) ?_
                  refine AllU.cons (o := _) rfl (fun K hK => ?_) ?_
                  · try simp only [List.getElem_toArray, List.getElem_cons_zero, List.getElem_cons_succ]
                    go_simp
                    refine hK.out _ _ ?_ (fun hHeld1 => ?_)
                    · (intro c hT hs; cases c; exact SS.store hs; exact absurd hT (by decide))
                    clear hK K
                    clear hHeld hHeld1
                    try simp only [Act.put, List.getElem_toArray, List.getElem_cons_zero, List.getElem_cons_succ, List.setIfInBounds_toArray, List.set_cons_zero, List.set_cons_succ]
                    refine wpAnyU_takeAny (i := 16) (oi := _) (v := ?_) rfl (by kernel_rfl) (by kernel_rfl) (by kernel_rfl) (fun _ _ _ h => h) (Or.inl ⟨by rfl, ?_⟩) ?_
                    rotate_left 1
                    · (intro W hSW; go_simp; try with_reducible rfl)
                    try simp only [Act.put, List.getElem_toArray, List.getElem_cons_zero, List.getElem_cons_succ, List.setIfInBounds_toArray, List.set_cons_zero, List.set_cons_succ]
                    refine wpAnyU_ready (rs := [17]) (by kernel_rfl) (by simp) ?_
                    refine AllU.cons (o := _) rfl (fun K hK => ?_) ?_
                    · try simp only [List.getElem_toArray, List.getElem_cons_zero, List.getElem_cons_succ]
                      go_simp
                      refine hK.out _ _ ?_ (fun hHeld1 => ?_)
                      · (intro c hT hs; cases c; exact SS.store hs; exact absurd hT (by decide))
                      clear hK K
                      clear hHeld1
                      try simp only [Act.put, List.getElem_toArray, List.getElem_cons_zero, List.getElem_cons_succ, List.setIfInBounds_toArray, List.set_cons_zero, List.set_cons_succ]
                      refine wpAnyU_done (by kernel_rfl) ?_ _
                      go_wp2_with fail
                      go_roundw
                      case measure => exact meas26 HJ.out (by rw [HL.out]; exact Nat.le_trans HN.out (by decide))
                      case rel =>
                        refine ⟨j + 1, raws1 ++ cells26 u E5 e5 E6 e6, .slice (some ⟨g, 0, none⟩) (ks.length + 1) cap, .slice (some ⟨g2, 0, none⟩) (ys.length + 1) cap2, HJ.out, congrArg Value.bool HD3.out.symm, congrArg (Value.int IntKind.i64) (next63 HJ.out (by rw [HL.out]; exact Nat.le_trans HN.out (by decide))), ?_⟩
                        rw [HK3.out, HY3.out]
                        exact HTN
                    exact AllU.nil
                  exact AllU.nil
                exact AllU.nil
              exact AllU.nil
            exact AllU.nil
          exact AllU.nil
    · have e : j = x.f5.length := Nat.le_antisymm hj (Nat.not_lt.1 hlt)
      subst e
      have q1 : ¬ (x.f5.length : Int) < (x.f5.length : Int) := Int.lt_irrefl _
      have hfull := ws_full x k v
      obtain ⟨S, hS⟩ : ∃ S, WS x k v x.f5.length = S := ⟨_, rfl⟩
      rw [hS] at HI hd hfull HLW ⊢
      rw [hd]
      have HFULL := Aside0.mk hfull
      have HD := Aside0.mk hd
      clear hlt hj hS hd hfull r0 r1 r2 r3 r4 r5 r6
      go_upto_if 60 with fail
      go_cut [8] from 61 to 72 (fun _ wx => ∃ (raws1 : List Value) (vA1 vB1 : Value), Aside0 (TW w w1 (fun k => P k ∨ Q k) (w.heap.size + 4) (w.heap.size + 3) ((withE k v (entE x)).map (·.1)) ((withE k v (entE x)).map (·.2)) raws1 vA1 vB1 wx))
      case first =>
        cases d
        case true =>
          have HE := Aside0.mk (show withE k v (entE x) = S.2 by rw [← HFULL.out]; unfold wEnd; rw [HD.out]; rfl)
          go_wp2
          go_meet
          rw [HE.out]
          exact ⟨_, _, _, HI⟩
        case false =>
          have HE := Aside0.mk (show withE k v (entE x) = S.2 ++ [(k, v)] by rw [← HFULL.out]; unfold wEnd; rw [HD.out]; rfl)
          have HLA := Aside0.mk (show (S.2.map (·.1)).length ≤ 4000 by rw [List.length_map]; have := HLW.out; omega)
          have HLB := Aside0.mk (show (S.2.map (·.2)).length ≤ 4000 by rw [List.length_map]; have := HLW.out; omega)
          have HK := Aside0.mk (show (withE k v (entE x)).map (·.1) = S.2.map (·.1) ++ [k] by rw [HE.out, List.map_append]; rfl)
          have HY := Aside0.mk (show (withE k v (entE x)).map (·.2) = S.2.map (·.2) ++ [v] by rw [HE.out, List.map_append]; rfl)
          obtain ⟨ks, hks⟩ : ∃ ks, S.2.map (·.1) = ks := ⟨_, rfl⟩
          obtain ⟨ys, hys⟩ : ∃ ys, S.2.map (·.2) = ys := ⟨_, rfl⟩
          rw [hks, hys] at HI
          rw [hks] at HLA HK
          rw [hys] at HLB HY
          clear hks hys HE
          go_upto_region 12 with fail
          have CV5 := Aside0.mk (fun W (h : SS wr (w.heap.size + 4) (w.heap.size + 1 + 1 + 1) true W) => h.cell (p := ⟨w.heap.size + 1 + 1 + 1, 5, none⟩) (Nat.lt_succ_self _) (.inl rfl) ((blk_cell HI.out.box 5).trans rfl : wr.cell? ⟨w.heap.size + 1 + 1 + 1, 5, none⟩ = some vA))
          have CV6 := Aside0.mk (fun W (h : SS wr (w.heap.size + 4) (w.heap.size + 1 + 1 + 1) true W) => h.cell (p := ⟨w.heap.size + 1 + 1 + 1, 6, none⟩) (Nat.lt_succ_self _) (.inl rfl) ((blk_cell HI.out.box 6).trans rfl : wr.cell? ⟨w.heap.size + 1 + 1 + 1, 6, none⟩ = some vB))
          have CX6 := Aside0.mk (fun W (h : SS wr (w.heap.size + 4) (w.heap.size + 1 + 1 + 1) false W) => h.cell (p := ⟨w.heap.size, 6, none⟩) (by show w.heap.size < w.heap.size + 4; omega) (.inr (by show w.heap.size ≠ w.heap.size + 1 + 1 + 1; omega)) ((blk_cell HXR.out 6).trans rfl : wr.cell? ⟨w.heap.size, 6, none⟩ = some (.slice A6 x.f6.length c6)))
          have CV7 := Aside0.mk (fun W (h : SS wr (w.heap.size + 4) (w.heap.size + 1 + 1 + 1) false W) => (at7 ((h (w.heap.size + 1) (by omega) (.inr (by omega))).trans HVR.out)).1)
          refine wp_region_U (T := fun c j => (j == 11 || j == 13) && c) (S := SS wr (w.heap.size + 4) (w.heap.size + 1 + 1 + 1)) (by kernel_rfl) (fun c => SS.refl _ _ _ c) (fun hHeld => ?_)
          refine wpAnyU_takeAny (i := 0) (oi := _) (v := ?_) rfl (by kernel_rfl) (by kernel_rfl) (by kernel_rfl) (fun _ _ _ h => h) (Or.inl ⟨by rfl, ?_⟩) ?_
          rotate_left 1
          · (intro W hSW; go_simp; try with_reducible rfl)
          try simp only [Act.put, List.getElem_toArray, List.getElem_cons_zero, List.getElem_cons_succ, List.setIfInBounds_toArray, List.set_cons_zero, List.set_cons_succ]
          refine wpAnyU_take true (i := 1) (oi := _) (v := ?_) rfl (by kernel_rfl) (by kernel_rfl) (by kernel_rfl) (by kernel_rfl) (fun _ _ _ h => h) (Or.inl ⟨by rfl, ?_⟩) (hHeld _) ?_
          rotate_left 1
          · (intro W hSW; have c5 := CV5.out W hSW; go_simp; try with_reducible rfl)
          try simp only [Act.put, List.getElem_toArray, List.getElem_cons_zero, List.getElem_cons_succ, List.setIfInBounds_toArray, List.set_cons_zero, List.set_cons_succ]
          refine wpAnyU_takeAny (i := 2) (oi := _) (v := ?_) rfl (by kernel_rfl) (by kernel_rfl) (by kernel_rfl) (fun _ _ _ h => h) (Or.inl ⟨by rfl, ?_⟩) ?_
          rotate_left 1
          · (intro W hSW; go_simp; try with_reducible rfl)
          try simp only [Act.put, List.getElem_toArray, List.getElem_cons_zero, List.getElem_cons_succ, List.setIfInBounds_toArray, List.set_cons_zero, List.set_cons_succ]
          refine wpAnyU_takeAny (i := 5) (oi := _) (v := ?_) rfl (by kernel_rfl) (by kernel_rfl) (by kernel_rfl) (fun _ _ _ h => h) (Or.inl ⟨by rfl, ?_⟩) ?_
          rotate_left 1
          · (intro W hSW; go_simp; try with_reducible rfl)
          try simp only [Act.put, List.getElem_toArray, List.getElem_cons_zero, List.getElem_cons_succ, List.setIfInBounds_toArray, List.set_cons_zero, List.set_cons_succ]
          refine wpAnyU_take true (i := 6) (oi := _) (v := ?_) rfl (by kernel_rfl) (by kernel_rfl) (by kernel_rfl) (by kernel_rfl) (fun _ _ _ h => h) (Or.inl ⟨by rfl, ?_⟩) (hHeld _) ?_
          rotate_left 1
          · (intro W hSW; have c6 := CV6.out W hSW; go_simp; try with_reducible rfl)
          try simp only [Act.put, List.getElem_toArray, List.getElem_cons_zero, List.getElem_cons_succ, List.setIfInBounds_toArray, List.set_cons_zero, List.set_cons_succ]
          refine wpAnyU_take false (i := 7) (oi := _) (v := ?_) rfl (by kernel_rfl) (by kernel_rfl) (by kernel_rfl) (by kernel_rfl) (fun _ _ _ h => h) (Or.inl ⟨by rfl, ?_⟩) (hHeld _) ?_
          rotate_left 1
          · (intro W hSW; obtain ⟨i0, i1, i2, i3, i4, i5, i6⟩ := CV7.out W hSW; go_simp; try with_reducible rfl)
          try simp only [Act.put, List.getElem_toArray, List.getElem_cons_zero, List.getElem_cons_succ, List.setIfInBounds_toArray, List.set_cons_zero, List.set_cons_succ]
          refine wpAnyU_ready (rs := [3, 8]) (by kernel_rfl) (by simp) ?_
          refine AllU.cons (o := _) rfl (fun K hK => ?_) ?_
          · try simp only [List.getElem_toArray, List.getElem_cons_zero, List.getElem_cons_succ]
            go_simp
            refine hK.out _ _ ?_ (fun hHeld1 => ?_)
            · exact fun c _ _ => SS.below (below_drew (below_alloc (Below.refl _ _) _)) HI.out.lo.2.2 c
            clear hK K
            have hHeld2 := fun c => hHeld1 c rfl (hHeld c)
            clear hHeld hHeld1
            have hHeld := hHeld2
            clear hHeld2
            try simp only [Act.put, List.getElem_toArray, List.getElem_cons_zero, List.getElem_cons_succ, List.setIfInBounds_toArray, List.set_cons_zero, List.set_cons_succ]
            refine wpAnyU_ready (rs := [4, 8]) (by kernel_rfl) (by simp) ?_
            refine AllU.cons (o := _) rfl (fun K hK => ?_) ?_
            · skip
              refine appA (t := k) HI.out ?_ ?_ HLA.out (.tmp 62) (.tmp 64) rfl rfl rfl rfl ?_
              · exact below_drew (below_alloc (Below.refl _ _) _)
              · exact blk_drew (blk_new wr _)
              intro g cap W4 HM hg
              have HMa := Aside0.mk HM
              clear HM hg
              refine hK.out _ _ ?_ (fun hHeld1 => ?_)
              · exact fun c _ _ => SS.after HMa.out (Below.refl _ _) c
              clear hK K
              have hHeld2 := fun c => hHeld1 c rfl (hHeld c)
              clear hHeld hHeld1
              have hHeld := hHeld2
              clear hHeld2
              try simp only [Act.put, List.getElem_toArray, List.getElem_cons_zero, List.getElem_cons_succ, List.setIfInBounds_toArray, List.set_cons_zero, List.set_cons_succ]
              refine wpAnyU_takeAny (i := 10) (oi := _) (v := ?_) rfl (by kernel_rfl) (by kernel_rfl) (by kernel_rfl) (fun _ _ _ h => h) (Or.inl ⟨by rfl, ?_⟩) ?_
              rotate_left 1
              · (intro W hSW; go_simp; try with_reducible rfl)
              try simp only [Act.put, List.getElem_toArray, List.getElem_cons_zero, List.getElem_cons_succ, List.setIfInBounds_toArray, List.set_cons_zero, List.set_cons_succ]
              refine wpAnyU_ready (rs := [8]) (by kernel_rfl) (by simp) ?_
              refine AllU.cons (o := _) rfl (fun K hK => ?_) ?_
              · try simp only [List.getElem_toArray, List.getElem_cons_zero, List.getElem_cons_succ]
                go_simp
                refine hK.out _ _ ?_ (fun hHeld1 => ?_)
                · exact fun c _ _ => SS.after HMa.out (below_alloc (Below.refl _ _) _) c
                clear hK K
                have hHeld2 := fun c => hHeld1 c rfl (hHeld c)
                clear hHeld hHeld1
                have hHeld := hHeld2
                clear hHeld2
                try simp only [Act.put, List.getElem_toArray, List.getElem_cons_zero, List.getElem_cons_succ, List.setIfInBounds_toArray, List.set_cons_zero, List.set_cons_succ]
                refine wpAnyU_ready (rs := [9]) (by kernel_rfl) (by simp) ?_
                refine AllU.cons (o := _) rfl (fun K hK => ?_) ?_
                · skip
                  refine appB (y := v) (HMa.out.later (below_alloc (Below.refl _ _) _)) (blk_new W4 _) HU.out HLB.out (.tmp 67) (.tmp 69) rfl rfl rfl rfl ?_
                  intro g2 cap2 W5 hb5 hts
                  have HTN := Aside0.mk hts
                  have HS5 := Aside0.mk (SS.back HI.out hb5 hts)
                  have e5c : W5.cell? ⟨w.heap.size + 1 + 1 + 1, 5, none⟩ = some vA := (blk_cell hb5 5).trans rfl
                  have e6c : W5.cell? ⟨w.heap.size + 1 + 1 + 1, 6, none⟩ = some vB := (blk_cell hb5 6).trans rfl
                  have e5f : W5.frozen? ⟨w.heap.size + 1 + 1 + 1, 5, none⟩ = false := blk_frozen hb5 5
                  have e6f : W5.frozen? ⟨w.heap.size + 1 + 1 + 1, 6, none⟩ = false := blk_frozen hb5 6
                  clear hts hb5
                  refine hK.out _ _ ?_ (fun hHeld1 => ?_)
                  · exact fun c _ _ => HS5.out c
                  clear hK K
                  have hHeld2 := fun c => hHeld1 c rfl (hHeld c)
                  clear hHeld hHeld1
                  have hHeld := hHeld2
                  clear hHeld2
                  try simp only [Act.put, List.getElem_toArray, List.getElem_cons_zero, List.getElem_cons_succ, List.setIfInBounds_toArray, List.set_cons_zero, List.set_cons_succ]
                  refine wpAnyU_ready (rs := [11]) (by kernel_rfl) (by simp) ?_
                  refine AllU.cons (o := _) rfl (fun K hK => ?_) ?_
                  · try simp only [List.getElem_toArray, List.getElem_cons_zero, List.getElem_cons_succ]
                    go_simp
                    refine hK.out _ _ ?_ (fun hHeld1 => ?_)
                    · (intro c hT hs; cases c; exact SS.store hs; exact absurd hT (by decide))
                    clear hK K
                    clear hHeld hHeld1
                    try simp only [Act.put, List.getElem_toArray, List.getElem_cons_zero, List.getElem_cons_succ, List.setIfInBounds_toArray, List.set_cons_zero, List.set_cons_succ]
                    refine wpAnyU_takeAny (i := 12) (oi := _) (v := ?_) rfl (by kernel_rfl) (by kernel_rfl) (by kernel_rfl) (fun _ _ _ h => h) (Or.inl ⟨by rfl, ?_⟩) ?_
                    rotate_left 1
                    · (intro W hSW; go_simp; try with_reducible rfl)
                    try simp only [Act.put, List.getElem_toArray, List.getElem_cons_zero, List.getElem_cons_succ, List.setIfInBounds_toArray, List.set_cons_zero, List.set_cons_succ]
                    refine wpAnyU_ready (rs := [13]) (by kernel_rfl) (by simp) ?_
                    refine AllU.cons (o := _) rfl (fun K hK => ?_) ?_
                    · try simp only [List.getElem_toArray, List.getElem_cons_zero, List.getElem_cons_succ]
                      go_simp
                      refine hK.out _ _ ?_ (fun hHeld1 => ?_)
                      · (intro c hT hs; cases c; exact SS.store hs; exact absurd hT (by decide))
                      clear hK K
                      clear hHeld1
                      try simp only [Act.put, List.getElem_toArray, List.getElem_cons_zero, List.getElem_cons_succ, List.setIfInBounds_toArray, List.set_cons_zero, List.set_cons_succ]
                      refine wpAnyU_done (by kernel_rfl) ?_ _
                      go_wp2_with fail
                      go_meet
                      rw [HK.out, HY.out]
                      exact ⟨_, _, _, HTN⟩
                    exact AllU.nil
                  exact AllU.nil
                exact AllU.nil
              exact AllU.nil
            refine AllU.cons (o := _) rfl (fun K hK => ?_) ?_
            · try simp only [List.getElem_toArray, List.getElem_cons_zero, List.getElem_cons_succ]
              go_simp
              refine hK.out _ _ ?_ (fun hHeld1 => ?_)
              · exact fun c _ _ => SS.below (below_drew (below_alloc (below_alloc (Below.refl _ _) _) _)) HI.out.lo.2.2 c
              clear hK K
              have hHeld2 := fun c => hHeld1 c rfl (hHeld c)
              clear hHeld hHeld1
              have hHeld := hHeld2
              clear hHeld2
              try simp only [Act.put, List.getElem_toArray, List.getElem_cons_zero, List.getElem_cons_succ, List.setIfInBounds_toArray, List.set_cons_zero, List.set_cons_succ]
              refine wpAnyU_ready (rs := [4]) (by kernel_rfl) (by simp) ?_
              refine AllU.cons (o := _) rfl (fun K hK => ?_) ?_
              · skip
                refine appA (t := k) HI.out ?_ ?_ HLA.out (.tmp 62) (.tmp 64) rfl rfl rfl rfl ?_
                · exact below_drew (below_alloc (below_alloc (Below.refl _ _) _) _)
                · exact blk_drew (blk_alloc (blk_new wr _) _)
                intro g cap W4 HM hg
                have HMa := Aside0.mk HM
                have HPB := Aside0.mk (MW.kept HI.out hg (p := wr.heap.size + 1) (blk_drew (blk_at _ (by simp))) (Nat.le_succ _))
                clear HM hg
                refine hK.out _ _ ?_ (fun hHeld1 => ?_)
                · exact fun c _ _ => SS.after HMa.out (Below.refl _ _) c
                clear hK K
                have hHeld2 := fun c => hHeld1 c rfl (hHeld c)
                clear hHeld hHeld1
                have hHeld := hHeld2
                clear hHeld2
                try simp only [Act.put, List.getElem_toArray, List.getElem_cons_zero, List.getElem_cons_succ, List.setIfInBounds_toArray, List.set_cons_zero, List.set_cons_succ]
                refine wpAnyU_takeAny (i := 10) (oi := _) (v := ?_) rfl (by kernel_rfl) (by kernel_rfl) (by kernel_rfl) (fun _ _ _ h => h) (Or.inl ⟨by rfl, ?_⟩) ?_
                rotate_left 1
                · (intro W hSW; go_simp; try with_reducible rfl)
                try simp only [Act.put, List.getElem_toArray, List.getElem_cons_zero, List.getElem_cons_succ, List.setIfInBounds_toArray, List.set_cons_zero, List.set_cons_succ]
                refine wpAnyU_ready (rs := [9]) (by kernel_rfl) (by simp) ?_
                refine AllU.cons (o := _) rfl (fun K hK => ?_) ?_
                · skip
                  refine appB (y := v) HMa.out HPB.out HU.out HLB.out (.tmp 67) (.tmp 69) rfl rfl rfl rfl ?_
                  intro g2 cap2 W5 hb5 hts
                  have HTN := Aside0.mk hts
                  have HS5 := Aside0.mk (SS.back HI.out hb5 hts)
                  have e5c : W5.cell? ⟨w.heap.size + 1 + 1 + 1, 5, none⟩ = some vA := (blk_cell hb5 5).trans rfl
                  have e6c : W5.cell? ⟨w.heap.size + 1 + 1 + 1, 6, none⟩ = some vB := (blk_cell hb5 6).trans rfl
                  have e5f : W5.frozen? ⟨w.heap.size + 1 + 1 + 1, 5, none⟩ = false := blk_frozen hb5 5
                  have e6f : W5.frozen? ⟨w.heap.size + 1 + 1 + 1, 6, none⟩ = false := blk_frozen hb5 6
                  clear hts hb5
                  refine hK.out _ _ ?_ (fun hHeld1 => ?_)
                  · exact fun c _ _ => HS5.out c
                  clear hK K
                  have hHeld2 := fun c => hHeld1 c rfl (hHeld c)
                  clear hHeld hHeld1
                  have hHeld := hHeld2
                  clear hHeld2
                  try simp only [Act.put, List.getElem_toArray, List.getElem_cons_zero, List.getElem_cons_succ, List.setIfInBounds_toArray, List.set_cons_zero, List.set_cons_succ]
                  refine wpAnyU_ready (rs := [11]) (by kernel_rfl) (by simp) ?_
                  refine AllU.cons (o := _) rfl (fun K hK => ?_) ?_
                  · try simp only [List.getElem_toArray, List.getElem_cons_zero, List.getElem_cons_succ]
                    go_simp
                    refine hK.out _ _ ?_ (fun hHeld1 => ?_)
                    · (intro c hT hs; cases c; exact SS.store hs; exact absurd hT (by decide))
                    clear hK K
                    clear hHeld hHeld1
                    try simp only [Act.put, List.getElem_toArray, List.getElem_cons_zero, List.getElem_cons_succ, List.setIfInBounds_toArray, List.set_cons_zero, List.set_cons_succ]
                    refine wpAnyU_takeAny (i := 12) (oi := _) (v := ?_) rfl (by kernel_rfl) (by kernel_rfl) (by kernel_rfl) (fun _ _ _ h => h) (Or.inl ⟨by rfl, ?_⟩) ?_
                    rotate_left 1
                    · (intro W hSW; go_simp; try with_reducible rfl)
                    try simp only [Act.put, List.getElem_toArray, List.getElem_cons_zero, List.getElem_cons_succ, List.setIfInBounds_toArray, List.set_cons_zero, List.set_cons_succ]
                    refine wpAnyU_ready (rs := [13]) (by kernel_rfl) (by simp) ?_
                    refine AllU.cons (o := _) rfl (fun K hK => ?_) ?_
                    · try simp only [List.getElem_toArray, List.getElem_cons_zero, List.getElem_cons_succ]
                      go_simp
                      refine hK.out _ _ ?_ (fun hHeld1 => ?_)
                      · (intro c hT hs; cases c; exact SS.store hs; exact absurd hT (by decide))
                      clear hK K
                      clear hHeld1
                      try simp only [Act.put, List.getElem_toArray, List.getElem_cons_zero, List.getElem_cons_succ, List.setIfInBounds_toArray, List.set_cons_zero, List.set_cons_succ]
                      refine wpAnyU_done (by kernel_rfl) ?_ _
                      go_wp2_with fail
                      go_meet
                      rw [HK.out, HY.out]
                      exact ⟨_, _, _, HTN⟩
                    exact AllU.nil
                  exact AllU.nil
                exact AllU.nil
              exact AllU.nil
            exact AllU.nil
          refine AllU.cons (o := _) rfl (fun K hK => ?_) ?_
          · try simp only [List.getElem_toArray, List.getElem_cons_zero, List.getElem_cons_succ]
            go_simp
            refine hK.out _ _ ?_ (fun hHeld1 => ?_)
            · exact fun c _ _ => SS.below (below_drew (below_alloc (Below.refl _ _) _)) HI.out.lo.2.2 c
            clear hK K
            have hHeld2 := fun c => hHeld1 c rfl (hHeld c)
            clear hHeld hHeld1
            have hHeld := hHeld2
            clear hHeld2
            try simp only [Act.put, List.getElem_toArray, List.getElem_cons_zero, List.getElem_cons_succ, List.setIfInBounds_toArray, List.set_cons_zero, List.set_cons_succ]
            refine wpAnyU_ready (rs := [3]) (by kernel_rfl) (by simp) ?_
            refine AllU.cons (o := _) rfl (fun K hK => ?_) ?_
            · try simp only [List.getElem_toArray, List.getElem_cons_zero, List.getElem_cons_succ]
              go_simp
              refine hK.out _ _ ?_ (fun hHeld1 => ?_)
              · exact fun c _ _ => SS.below (below_drew (below_alloc (below_alloc (Below.refl _ _) _) _)) HI.out.lo.2.2 c
              clear hK K
              have hHeld2 := fun c => hHeld1 c rfl (hHeld c)
              clear hHeld hHeld1
              have hHeld := hHeld2
              clear hHeld2
              try simp only [Act.put, List.getElem_toArray, List.getElem_cons_zero, List.getElem_cons_succ, List.setIfInBounds_toArray, List.set_cons_zero, List.set_cons_succ]
              refine wpAnyU_ready (rs := [4]) (by kernel_rfl) (by simp) ?_
              refine AllU.cons (o := _) rfl (fun K hK => ?_) ?_
              · skip
                refine appA (t := k) HI.out ?_ ?_ HLA.out (.tmp 62) (.tmp 64) rfl rfl rfl rfl ?_
                · exact below_drew (below_alloc (below_alloc (Below.refl _ _) _) _)
                · exact blk_drew (blk_at _ (by simp))
                intro g cap W4 HM hg
                have HMa := Aside0.mk HM
                have HPB := Aside0.mk (MW.kept HI.out hg (p := wr.heap.size) (blk_drew (blk_alloc (blk_new wr _) _)) (Nat.le_refl _))
                clear HM hg
                refine hK.out _ _ ?_ (fun hHeld1 => ?_)
                · exact fun c _ _ => SS.after HMa.out (Below.refl _ _) c
                clear hK K
                have hHeld2 := fun c => hHeld1 c rfl (hHeld c)
                clear hHeld hHeld1
                have hHeld := hHeld2
                clear hHeld2
                try simp only [Act.put, List.getElem_toArray, List.getElem_cons_zero, List.getElem_cons_succ, List.setIfInBounds_toArray, List.set_cons_zero, List.set_cons_succ]
                refine wpAnyU_takeAny (i := 10) (oi := _) (v := ?_) rfl (by kernel_rfl) (by kernel_rfl) (by kernel_rfl) (fun _ _ _ h => h) (Or.inl ⟨by rfl, ?_⟩) ?_
                rotate_left 1
                · (intro W hSW; go_simp; try with_reducible rfl)
                try simp only [Act.put, List.getElem_toArray, List.getElem_cons_zero, List.getElem_cons_succ, List.setIfInBounds_toArray, List.set_cons_zero, List.set_cons_succ]
                refine wpAnyU_ready (rs := [9]) (by kernel_rfl) (by simp) ?_
                refine AllU.cons (o := _) rfl (fun K hK => ?_) ?_
                · skip
                  refine appB (y := v) HMa.out HPB.out HU.out HLB.out (.tmp 67) (.tmp 69) rfl rfl rfl rfl ?_
                  intro g2 cap2 W5 hb5 hts
                  have HTN := Aside0.mk hts
                  have HS5 := Aside0.mk (SS.back HI.out hb5 hts)
                  have e5c : W5.cell? ⟨w.heap.size + 1 + 1 + 1, 5, none⟩ = some vA := (blk_cell hb5 5).trans rfl
                  have e6c : W5.cell? ⟨w.heap.size + 1 + 1 + 1, 6, none⟩ = some vB := (blk_cell hb5 6).trans rfl
                  have e5f : W5.frozen? ⟨w.heap.size + 1 + 1 + 1, 5, none⟩ = false := blk_frozen hb5 5
                  have e6f : W5.frozen? ⟨w.heap.size + 1 + 1 + 1, 6, none⟩ = false := blk_frozen hb5 6
                  clear hts hb5
                  refine hK.out _ _ ?_ (fun hHeld1 => ?_)
                  · exact fun c _ _ => HS5.out c
                  clear hK K
                  have hHeld2 := fun c => hHeld1 c rfl (hHeld c)
                  clear hHeld hHeld1
                  have hHeld := hHeld2
                  clear hHeld2
                  try simp only [Act.put, List.getElem_toArray, List.getElem_cons_zero, List.getElem_cons_succ, List.setIfInBounds_toArray, List.set_cons_zero, List.set_cons_succ]
                  refine wpAnyU_ready (rs := [11]) (by kernel_rfl) (by simp) ?_
                  refine AllU.cons (o := _) rfl (fun K hK => ?_) ?_
                  · try simp only [List.getElem_toArray, List.getElem_cons_zero, List.getElem_cons_succ]
                    go_simp
                    refine hK.out _ _ ?_ (fun hHeld1 => ?_)
                    · (intro c hT hs; cases c; exact SS.store hs; exact absurd hT (by decide))
                    clear hK K
                    clear hHeld hHeld1
                    try simp only [Act.put, List.getElem_toArray, List.getElem_cons_zero, List.getElem_cons_succ, List.setIfInBounds_toArray, List.set_cons_zero, List.set_cons_succ]
                    refine wpAnyU_takeAny (i := 12) (oi := _) (v := ?_) rfl (by kernel_rfl) (by kernel_rfl) (by kernel_rfl) (fun _ _ _ h => h) (Or.inl ⟨by rfl, ?_⟩) ?_
                    rotate_left 1
                    · (intro W hSW; go_simp; try with_reducible rfl)
                    try simp only [Act.put, List.getElem_toArray, List.getElem_cons_zero, List.getElem_cons_succ, List.setIfInBounds_toArray, List.set_cons_zero, List.set_cons_succ]
                    refine wpAnyU_ready (rs := [13]) (by kernel_rfl) (by simp) ?_
                    refine AllU.cons (o := _) rfl (fun K hK => ?_) ?_
                    · try simp only [List.getElem_toArray, List.getElem_cons_zero, List.getElem_cons_succ]
                      go_simp
                      refine hK.out _ _ ?_ (fun hHeld1 => ?_)
                      · (intro c hT hs; cases c; exact SS.store hs; exact absurd hT (by decide))
                      clear hK K
                      clear hHeld1
                      try simp only [Act.put, List.getElem_toArray, List.getElem_cons_zero, List.getElem_cons_succ, List.setIfInBounds_toArray, List.set_cons_zero, List.set_cons_succ]
                      refine wpAnyU_done (by kernel_rfl) ?_ _
                      go_wp2_with fail
                      go_meet
                      rw [HK.out, HY.out]
                      exact ⟨_, _, _, HTN⟩
                    exact AllU.nil
                  exact AllU.nil
                exact AllU.nil
              exact AllU.nil
            exact AllU.nil
          exact AllU.nil
      case rest =>
        obtain ⟨raws1, vA1, vB1, HZ⟩ := hcut
        have HI2 := HZ.out
        obtain ⟨L, hL⟩ : ∃ L, withE k v (entE x) = L := ⟨_, rfl⟩
        rw [hL] at HI2
        obtain ⟨wz, hwz⟩ : ∃ W, wc = W := ⟨_, rfl⟩
        rw [hwz] at HI2 ⊢
        clear hwz HZ
        obtain ⟨A, a, B, b, rfl, rfl, hk⟩ := HI2.out
        have HKV := Aside0.mk hk
        have hbx := HI2.box
        have hb1 := (HI2.fr (w.heap.size + 2) (by omega) (by omega)).trans HX2.out
        have HBE := Aside0.mk HI2.below
        have HB1 := Aside0.mk hb1
        obtain ⟨m, hm⟩ : ∃ m, L.length = m := ⟨_, rfl⟩
        rw [List.length_map, List.length_map, hm] at hbx
        have HG := Aside0.mk (tab_agg (A := A) (a := a) (B := B) (b := b) hm)
        obtain ⟨⟨s0, s1, s2, s3, s4, s5, s6⟩, f0, f1, f2, f3, f4, f5, f6⟩ := at7 hb1
        obtain ⟨⟨n0, n1, n2, n3, n4, n5, n6⟩, -⟩ := at7 (b := w.heap.size + 1 + 1 + 1) hbx
        have HLL := Aside0.mk hL
        clear hk hm hbx hb1 HI2 hL
        go_wp2
        have HP2 := Aside0.mk (put26_at HB1.out (.int .i64 7) (.bool false) (.int .i64 0) (.float .f64 0) (.string ⟨#[]⟩) (.slice A m a) (.slice B m b))
        have HB2 := Aside0.mk (put26_below HBE.out (Nat.le_add_right _ 2) (.int .i64 7) (.bool false) (.int .i64 0) (.float .f64 0) (.string ⟨#[]⟩) (.slice A m a) (.slice B m b))
        have HK2 := Aside0.mk (HKV.out.step (w1 := put26 wz (w.heap.size + 2) (.int .i64 7) (.bool false) (.int .i64 0) (.float .f64 0) (.string ⟨#[]⟩) (.slice A m a) (.slice B m b)) (fun k hk _ => put26_far (by rcases hk.2.2 with q | q; (have := HPQ.out k q; omega); omega) (.int .i64 7) (.bool false) (.int .i64 0) (.float .f64 0) (.string ⟨#[]⟩) (.slice A m a) (.slice B m b)))
        have HSZ := Aside0.mk (show wz.heap.size ≤ (put26 wz (w.heap.size + 2) (.int .i64 7) (.bool false) (.int .i64 0) (.float .f64 0) (.string ⟨#[]⟩) (.slice A m a) (.slice B m b)).heap.size by unfold put26; simp)
        obtain ⟨W5, hW5⟩ : ∃ W5, put26 wz (w.heap.size + 2) (.int .i64 7) (.bool false) (.int .i64 0) (.float .f64 0) (.string ⟨#[]⟩) (.slice A m a) (.slice B m b) = W5 := ⟨_, rfl⟩
        rw [hW5] at HP2 HB2 HK2 HSZ
        unfold put26 at hW5
        rw [hW5]
        clear hW5 s0 s1 s2 s3 s4 s5 s6 f0 f1 f2 f3 f4 f5 f6 n0 n1 n2 n3 n4 n5 n6
        obtain ⟨⟨g0, g1, g2, g3, g4, g5, g6⟩, -⟩ := at7 HP2.out
        refine bodyPost_ret (v := .agg #[.int .i64 7, .bool false, .int .i64 0, .float .f64 0, .string ⟨#[]⟩, .slice A m a, .slice B m b]) (by simp [results, Try.results41, go_sem, g0, g1, g2, g3, g4, g5, g6]) rfl ?_
        rw [HLL.out]
        exact ⟨HB2.out, A, a, B, b, by rw [HG.out], HK2.out.mono fun k hk => ⟨hk.2.2, Nat.lt_of_lt_of_le hk.1 HSZ.out⟩⟩
end Go.Proofs.Ytjfbjkodjjlkiaa.HVal
/-! A value in its box; what is known of a table that was coalesced. -/
namespace Go.Proofs.Ytjfbjkodjjlkiaa.HVal
open Go.RowKit Go.WideMaps Go.Maps Go.Proofs.YtjfbjkodjjlkiaaW.PrintWords Go.Proofs.YtjfbjkodjjlkiaaW.PrintLast Go.Proofs.YtjfbjkodjjlkiaaW.PrintMore Go.Proofs.Ytjfbjkodjjlkiaa.Plain Go.Proofs.Ytjfbjkodjjlkiaa.GTab Go.Proofs.Ytjfbjkodjjlkiaa.Opens
theorem E7.later {W W2 : World} {a : Addr} {u : S26} {E5 E6 : Option Addr} {e5 e6 : Nat} (h : E7 W a u E5 e5 E6 e6) (hb : Below W.heap.size W W2) : E7 W2 a u E5 e5 E6 e6 := ⟨keep_cell h.1 hb, keep_cell h.2.1 hb, keep_cell h.2.2.1 hb, keep_cell h.2.2.2.1 hb, keep_cell h.2.2.2.2.1 hb, keep_cell h.2.2.2.2.2.1 hb, keep_cell h.2.2.2.2.2.2 hb⟩
/-! ### a value in its box -/
structure BX (W : World) (b : Nat) (u : S26) (A5 : Option Addr) (c5 : Nat) (A6 : Option Addr) (c6 : Nat) : Prop where
  at_ : W.heap[b]? = some (box26 u A5 c5 A6 c6)
  kv : ∃ Q, KV W Q u A5 c5 A6 c6 ∧ ∀ k, Q k → k < W.heap.size
section
variable {W W2 : World} {b b' : Nat} {x y : S26} {A5 A6 B5 B6 : Option Addr} {c5 c6 d5 d6 : Nat}
theorem BX.later (h : BX W b x A5 c5 A6 c6) (hb : Below W.heap.size W W2) : BX W2 b x A5 c5 A6 c6 := by
  obtain ⟨Q, hk, hq⟩ := h.kv
  exact ⟨blk_below h.at_ hb, Q, hk.below hb, fun k hk => Nat.lt_of_lt_of_le (hq k hk) hb.size⟩
theorem BX.made {Q : Nat → Prop} (h : KV W Q x A5 c5 A6 c6) (hq : ∀ k, Q k → k < W.heap.size) : BX (W.alloc (row26 x A5 c5 A6 c6)) W.heap.size x A5 c5 A6 c6 :=
  ⟨blk_new W _, Q, h.below (below_alloc (Below.refl _ _) _), fun k hk => by rw [World.size_alloc]; exact Nat.lt_succ_of_lt (hq k hk)⟩
theorem tb_bx (h : BX W b x A5 c5 A6 c6) : Calls Try.prog 12 #[agg26 x A5 c5 A6 c6] W fun e w' => e = .returned (.bool (tbB x)) ∧ Below W.heap.size W w' := by
  obtain ⟨Q, hk, hq⟩ := h.kv
  exact tb_calls x A5 c5 A6 c6 Q W hk hq
theorem is7_bx (h : BX W b x A5 c5 A6 c6) : Calls Try.prog 20 #[agg26 x A5 c5 A6 c6] W fun e w' => e = .returned (.bool (decide (x.f0 = 7))) ∧ Below W.heap.size W w' := by
  obtain ⟨Q, hk, _⟩ := h.kv
  exact is7_calls hk
theorem same_bx (h : BX W b x A5 c5 A6 c6) (h' : BX W b' y B5 d5 B6 d6) (hd : Dp 50 x) : Calls Try.prog 21 #[agg26 x A5 c5 A6 c6, agg26 y B5 d5 B6 d6] W (SamePost W (sameB 50 x y)) := by
  obtain ⟨Q, hk, hq⟩ := h.kv
  obtain ⟨Q', hk', hq'⟩ := h'.kv
  exact same_of 50 x A5 c5 A6 c6 y B5 d5 B6 d6 Q Q' W hd hk hk'
/-- What is known of a table. -/
structure Tq (c : Nat) (x : S26) : Prop where
  f7 : x.f0 = 7
  rt : Rt 50 x
  sq : Sq 50 x
  cn : cnt 50 x ≤ c
theorem cti_bx {c c' : Nat} (h : BX W b x A5 c5 A6 c6) (h' : BX W b' y B5 d5 B6 d6) (hx : Tq c x) (hy : Tq c' y) (hc : c ≤ 1000) (hc' : c' ≤ 1000) : Calls Try.prog 17 #[agg26 x A5 c5 A6 c6, agg26 y B5 d5 B6 d6] W (OkPost W (canon 50 (coal 50 false x y))) := by
  obtain ⟨Q, hk, hq⟩ := h.kv
  obtain ⟨Q', hk', hq'⟩ := h'.kv
  exact cti_calls x A5 c5 A6 c6 Q y B5 d5 B6 d6 Q' W hx.f7 hx.rt hx.sq hk hq (Nat.le_trans hx.cn hc) hy.f7 hy.rt hy.sq hk' hq' (Nat.le_trans hy.cn hc')
end
theorem join_tq {c c' : Nat} {mg : Bool} {x y : S26} (hx : Tq c x) (hy : Tq c' y) : Tq (c + c') (canon 50 (coal 50 mg x y)) := by
  have hr := rt_coal (mg := mg) hx.rt hy.rt hx.f7 hy.f7
  refine ⟨(canon_f0 hr).trans (coal_f0 hx.f7), rt_canon hr, sq_canon hr (sq_coal hx.rt hy.rt hx.f7 hy.f7 hx.sq hy.sq), ?_⟩
  rw [cnt_canon hr]
  exact Nat.le_trans (cnt_coal hx.rt hy.rt hx.f7 hy.f7) (Nat.add_le_add hx.cn hy.cn)
theorem canon_two {x : S26} (h : Rt 50 x) : canon 50 (canon 50 x) = canon 50 x := canon_again h (rt_canon h)
theorem same_self {x : S26} (h : Rt 50 x) : sameB 50 (canon 50 x) (canon 50 x) = true := by
  have := same_canon (rt_canon h)
  rwa [canon_two h] at this
theorem canon_left {mg : Bool} {x y : S26} (xr : Rt 50 x) (yr : Rt 50 y) (x7 : x.f0 = 7) (y7 : y.f0 = 7) : canon 50 (coal 50 mg (canon 50 x) y) = canon 50 (coal 50 mg x y) := by
  rw [← canon_coal (rt_canon xr) yr ((canon_f0 xr).trans x7) y7, canon_two xr, canon_coal xr yr x7 y7]
theorem canon_right {mg : Bool} {x y : S26} (xr : Rt 50 x) (yr : Rt 50 y) (x7 : x.f0 = 7) (y7 : y.f0 = 7) : canon 50 (coal 50 mg x (canon 50 y)) = canon 50 (coal 50 mg x y) := by
  rw [← canon_coal xr (rt_canon yr) x7 ((canon_f0 yr).trans y7), canon_two yr, canon_coal xr yr x7 y7]
end Go.Proofs.Ytjfbjkodjjlkiaa.HVal
/-! What spec.Coalesced comes to. -/
namespace Go.Proofs.Ytjfbjkodjjlkiaa.HVal
open Go.RowKit Go.WideMaps Go.Maps Go.Proofs.YtjfbjkodjjlkiaaW.PrintWords Go.Proofs.YtjfbjkodjjlkiaaW.PrintLast Go.Proofs.YtjfbjkodjjlkiaaW.PrintMore Go.Proofs.Ytjfbjkodjjlkiaa.Plain Go.Proofs.Ytjfbjkodjjlkiaa.GTab Go.Proofs.Ytjfbjkodjjlkiaa.HBytes
attribute [local go_sem] run_store_flt

/-! ### plain facts -/
def cE (n : Nat) (l : Ent) : Ent := l.map fun p => (p.1, canon n p.2)
theorem filter_cE (n : Nat) (k : ByteArray) (l : Ent) : cE n (l.filter fun p => decide (p.1 ≠ k)) = (cE n l).filter fun p => decide (p.1 ≠ k) := by
  unfold cE
  rw [List.filter_map]
  rfl
theorem without_cE (n : Nat) (k : ByteArray) (l : Ent) : cE n (withoutE k l) = withoutE k (cE n l) := filter_cE n k l
theorem with_cE (n : Nat) (k : ByteArray) (v : S26) : ∀ l : Ent, cE n (withE k v l) = withE k (canon n v) (cE n l)
  | [] => rfl
  | (a, x) :: r => by
    show cE n (withE k v ((a, x) :: r)) = withE k (canon n v) ((a, canon n x) :: cE n r)
    rw [withE, withE]
    split
    · show (a, canon n x) :: cE n (withE k v r) = _
      rw [with_cE n k v r]
    · show (k, canon n v) :: cE n (((a, x) :: r).filter _) = _
      rw [filter_cE]
      rfl
theorem canon_ent {n : Nat} {r : S26} (h7 : r.f0 = 7) (hl : r.f5.length = r.f6.length) : canon (n + 1) r = tabE (cE n (entE r)) := by
  rw [canon_7 h7]
  have e1 : (cE n (entE r)).map (·.1) = r.f5 := by
    unfold cE
    rw [List.map_map]
    exact List.map_fst_zip (Nat.le_of_eq hl)
  have e2 : (cE n (entE r)).map (·.2) = r.f6.map (canon n) := by
    unfold cE
    rw [List.map_map]
    have h : (entE r).map (·.2) = r.f6 := List.map_snd_zip (Nat.le_of_eq hl.symm)
    conv => rhs; rw [← h, List.map_map]
    rfl
  unfold tabE
  rw [e1, e2]
def OC (n : Nat) (mg : Bool) (x y : S26) (j : Nat) : Ent := ((entE y).take j).foldl (stepC mg (coal n mg) (entE x)) (entE x)
theorem oc_step {n : Nat} {mg : Bool} {x y : S26} {j : Nat} (h1 : j < y.f5.length) (h2 : j < y.f6.length) : OC n mg x y (j + 1) = stepC mg (coal n mg) (entE x) (OC n mg x y j) (y.f5[j], y.f6[j]) := by
  have hl : j < (entE y).length := by unfold entE; rw [List.length_zip]; omega
  have e : (entE y)[j] = (y.f5[j], y.f6[j]) := by unfold entE; exact List.getElem_zip
  unfold OC
  rw [List.take_succ_eq_append_getElem hl, List.foldl_append, e]
  rfl
theorem oc_full {n : Nat} {mg : Bool} {x y : S26} : OC n mg x y y.f5.length = coalE mg (coal n mg) (entE x) (entE y) := by
  unfold OC
  rw [List.take_of_length_le (by unfold entE; rw [List.length_zip]; omega)]
  rfl
/-- What has been put together so far. -/
structure OI (n : Nat) (mg : Bool) (x y : S26) (j : Nat) (o : S26) : Prop where
  f7 : o.f0 = 7
  len : o.f5.length = o.f6.length
  up : Up (entE o)
  rt : ∀ z ∈ o.f6, Rt n z
  eq : cE n (entE o) = cE n (OC n mg x y j)
  sz : o.f6.length ≤ x.f6.length + j
section
variable {n : Nat} {mg : Bool} {x y o : S26} {j : Nat} {k : ByteArray} {u v v' : S26}
theorem tab_len (l : Ent) : (tabE l).f5.length = (tabE l).f6.length := by show (l.map _).length = (l.map _).length; rw [List.length_map, List.length_map]
theorem with_len (k : ByteArray) (v : S26) : ∀ l : Ent, (withE k v l).length ≤ l.length + 1
  | [] => Nat.le_refl _
  | (a, x) :: r => by
    rw [withE]
    split
    · have := with_len k v r
      simp only [List.length_cons]
      omega
    · have := List.length_filter_le (fun p : ByteArray × S26 => decide (p.1 ≠ k)) ((a, x) :: r)
      simp only [List.length_cons] at this ⊢
      omega
theorem ent_len (h : OI n mg x y j o) : (entE o).length = o.f6.length := by unfold entE; rw [List.length_zip, h.len, Nat.min_self]
theorem OI.keep (h : OI n mg x y j o) (hs : OC n mg x y (j + 1) = OC n mg x y j) : OI n mg x y (j + 1) o := ⟨h.f7, h.len, h.up, h.rt, by rw [hs]; exact h.eq, Nat.le_succ_of_le h.sz⟩
theorem OI.put (h : OI n mg x y j o) (hs : OC n mg x y (j + 1) = withE k v (OC n mg x y j)) (hv : canon n v' = canon n v) (hr : Rt n v') : OI n mg x y (j + 1) (tabE (withE k v' (entE o))) := by
  refine ⟨rfl, tab_len _, by rw [ent_tab]; exact up_with h.up, fun z hz => ?_, by rw [ent_tab, with_cE, hs, with_cE, h.eq, hv], ?_⟩
  · obtain ⟨p, hp, rfl⟩ := List.mem_map.1 hz
    rcases mem_with hp with rfl | hp
    · exact hr
    · exact h.rt _ (List.of_mem_zip hp).2
  · show ((withE k v' (entE o)).map _).length ≤ _
    rw [List.length_map]
    have h1 := with_len k v' (entE o)
    rw [ent_len h] at h1
    have := h.sz
    omega
theorem OI.drop (h : OI n mg x y j o) (hs : OC n mg x y (j + 1) = withoutE k (OC n mg x y j)) : OI n mg x y (j + 1) (tabE (withoutE k (entE o))) := by
  refine ⟨rfl, tab_len _, by rw [ent_tab]; exact up_without h.up, fun z hz => ?_, by rw [ent_tab, without_cE, hs, without_cE, h.eq], ?_⟩
  · obtain ⟨p, hp, rfl⟩ := List.mem_map.1 hz
    exact h.rt _ (List.of_mem_zip (List.mem_filter.1 hp).1).2
  · show ((withoutE k (entE o)).map _).length ≤ _
    rw [List.length_map]
    have h1 := List.length_filter_le (fun p : ByteArray × S26 => decide (p.1 ≠ k)) (entE o)
    rw [ent_len h] at h1
    have := h.sz
    unfold withoutE
    omega
theorem OI.start (hx : Rt (n + 1) x) (h7 : x.f0 = 7) : OI n mg x y 0 x := ⟨h7, (rt_rise hx h7).2, up_ent (rt_rises' hx h7), rt_kids hx, rfl, Nat.le_refl _⟩
theorem OI.done (h : OI n mg x y y.f5.length o) : Rt (n + 1) o ∧ canon (n + 1) o = canon (n + 1) (coal (n + 1) mg x y) := by
  have hup := h.up
  have hk : (entE o).map (·.1) = o.f5 := List.map_fst_zip (Nat.le_of_eq h.len)
  refine ⟨rt_table h.f7 (by rw [← hk]; exact up_rising hup) h.len h.rt, ?_⟩
  rw [canon_ent h.f7 h.len, show coal (n + 1) mg x y = tabE (coalE mg (coal n mg) (entE x) (entE y)) from rfl, canon_ent rfl (tab_len _), ent_tab, h.eq, oc_full]
end

/-! ### the walk -/
structure CX (w : World) (P Q : Nat → Prop) (x : S26) (A5 : Option Addr) (c5 : Nat) (A6 : Option Addr) (c6 : Nat) (y : S26) (B5 : Option Addr) (d5 : Nat) (B6 : Option Addr) (d6 : Nat) (o : S26) (O5 : Option Addr) (o5 : Nat) (O6 : Option Addr) (o6 : Nat) (W : World) : Prop where
  b0 : W.heap[w.heap.size]? = some (box26 x A5 c5 A6 c6)
  b1 : W.heap[w.heap.size + 1]? = some (box26 y B5 d5 B6 d6)
  b2 : W.heap[w.heap.size + 2]? = some (.cells #[.int .i64 0, .bool false, .int .i64 0, .float .f64 0, .string ⟨#[]⟩, .slice none 0 0, .slice none 0 0] 26 (0, 0))
  b3 : W.heap[w.heap.size + 3]? = some (box26 o O5 o5 O6 o6)
  kx : KV W P x A5 c5 A6 c6
  ky : KV W Q y B5 d5 B6 d6
  ko : KV W (fun k => ((P k ∨ Q k) ∨ w.heap.size + 4 ≤ k) ∧ k < W.heap.size) o O5 o5 O6 o6
  below : Below w.heap.size w W
section
variable {w W W2 : World} {P Q : Nat → Prop} {x y o o' : S26} {A5 A6 B5 B6 O5 O6 N5 N6 : Option Addr} {c5 c6 d5 d6 o5 o6 n5 n6 : Nat}
theorem CX.later (h : CX w P Q x A5 c5 A6 c6 y B5 d5 B6 d6 o O5 o5 O6 o6 W) (hb : Below W.heap.size W W2) : CX w P Q x A5 c5 A6 c6 y B5 d5 B6 d6 o O5 o5 O6 o6 W2 :=
  ⟨blk_below h.b0 hb, blk_below h.b1 hb, blk_below h.b2 hb, blk_below h.b3 hb, h.kx.below hb, h.ky.below hb, (h.ko.below hb).mono fun _ hk => ⟨hk.1, Nat.lt_of_lt_of_le hk.2 hb.size⟩, below_step h.below hb⟩
theorem CX.lt (h : CX w P Q x A5 c5 A6 c6 y B5 d5 B6 d6 o O5 o5 O6 o6 W) : w.heap.size + 4 ≤ W.heap.size := blk_lt h.b3
theorem CX.put (h : CX w P Q x A5 c5 A6 c6 y B5 d5 B6 d6 o O5 o5 O6 o6 W) (hP : ∀ k, P k → k < w.heap.size) (hQ : ∀ k, Q k → k < w.heap.size) (hk : KV W (fun k => ((P k ∨ Q k) ∨ w.heap.size + 4 ≤ k) ∧ k < W.heap.size) o' N5 n5 N6 n6) :
    CX w P Q x A5 c5 A6 c6 y B5 d5 B6 d6 o' N5 n5 N6 n6 (putV W (w.heap.size + 3) o' N5 n5 N6 n6) := by
  have far : ∀ i, i ≠ w.heap.size + 3 → (putV W (w.heap.size + 3) o' N5 n5 N6 n6).heap[i]? = W.heap[i]? := fun i hi => putV_far hi o' N5 n5 N6 n6
  have hsz : (putV W (w.heap.size + 3) o' N5 n5 N6 n6).heap.size = W.heap.size := by unfold putV put26; simp
  have hne : ∀ k, ((P k ∨ Q k) ∨ w.heap.size + 4 ≤ k) → k ≠ w.heap.size + 3 := fun k q => by
    rcases q with (q | q) | q
    · have := hP k q; omega
    · have := hQ k q; omega
    · omega
  exact ⟨(far _ (by omega)).trans h.b0, (far _ (by omega)).trans h.b1, (far _ (by omega)).trans h.b2, putV_at h.b3 o' N5 n5 N6 n6, h.kx.step fun k q _ => far k (hne k (.inl (.inl q))), h.ky.step fun k q _ => far k (hne k (.inl (.inr q))), (hk.step fun k q _ => far k (hne k q.1)).mono fun k q => ⟨q.1, by rw [hsz]; exact q.2⟩, putV_below h.below (Nat.le_add_right _ 3) o' N5 n5 N6 n6⟩
end
/-- .. and the element that has come, and what was found under its key. -/
structure RZ (w : World) (P Q : Nat → Prop) (x : S26) (A5 : Option Addr) (c5 : Nat) (A6 : Option Addr) (c6 : Nat) (y : S26) (B5 : Option Addr) (d5 : Nat) (B6 : Option Addr) (d6 : Nat) (o : S26) (O5 : Option Addr) (o5 : Nat) (O6 : Option Addr) (o6 : Nat) (a : Addr) (u : S26) (E5 : Option Addr) (e5 : Nat) (E6 : Option Addr) (e6 : Nat) (b : Nat) (z : S26) (Z5 : Option Addr) (z5 : Nat) (Z6 : Option Addr) (z6 : Nat) (W : World) : Prop where
  cx : CX w P Q x A5 c5 A6 c6 y B5 d5 B6 d6 o O5 o5 O6 o6 W
  uc : E7 W a u E5 e5 E6 e6
  ku : KV W Q u E5 e5 E6 e6
  zb : W.heap[b]? = some (box26 z Z5 z5 Z6 z6)
  kz : KV W P z Z5 z5 Z6 z6
theorem RZ.later {w W W2 : World} {P Q : Nat → Prop} {x y o u z : S26} {A5 A6 B5 B6 O5 O6 E5 E6 Z5 Z6 : Option Addr} {c5 c6 d5 d6 o5 o6 e5 e6 z5 z6 b : Nat} {a : Addr} (h : RZ w P Q x A5 c5 A6 c6 y B5 d5 B6 d6 o O5 o5 O6 o6 a u E5 e5 E6 e6 b z Z5 z5 Z6 z6 W) (hb : Below W.heap.size W W2) : RZ w P Q x A5 c5 A6 c6 y B5 d5 B6 d6 o O5 o5 O6 o6 a u E5 e5 E6 e6 b z Z5 z5 Z6 z6 W2 := ⟨h.cx.later hb, E7.later h.uc hb, h.ku.below hb, blk_below h.zb hb, h.kz.below hb⟩
theorem step_none {mg : Bool} {rec : S26 → S26 → S26} {d out : Ent} {t : ByteArray} {u : S26} (h : findE d t = none) : stepC mg rec d out (t, u) = withE t u out := by unfold stepC; rw [h]
theorem step_some {mg : Bool} {rec : S26 → S26 → S26} {d out : Ent} {t : ByteArray} {u z : S26} (h : findE d t = some z) : stepC mg rec d out (t, u) = if z.f0 = 0 ∧ u.f0 = 0 then out else if z.f0 = 0 ∧ mg = false then withoutE t out else if z.f0 = 7 ∧ u.f0 = 7 then withE t (rec z u) out else out := by unfold stepC; rw [h]
def SPost (n : Nat) (mg : Bool) (x y : S26) (P Q : Nat → Prop) (w : World) (e : Ending) (w' : World) : Prop :=
  Below w.heap.size w w' ∧ ∃ r A5 c5 A6 c6, e = .returned (agg26 r A5 c5 A6 c6) ∧ KV w' (fun k => ((P k ∨ Q k) ∨ w.heap.size ≤ k) ∧ k < w'.heap.size) r A5 c5 A6 c6 ∧ r.f0 = 7 ∧ Rt n r ∧ canon n r = canon n (coal n mg x y)
def SpecC (n : Nat) : Prop := ∀ (mg : Bool) (x : S26) (A5 : Option Addr) (c5 : Nat) (A6 : Option Addr) (c6 : Nat) (P : Nat → Prop) (y : S26) (B5 : Option Addr) (d5 : Nat) (B6 : Option Addr) (d6 : Nat) (Q : Nat → Prop) (w : World), Rt n x → Rt n y → x.f0 = 7 → y.f0 = 7 → cnt n x ≤ 900 → cnt n y ≤ 900 → KV w P x A5 c5 A6 c6 → (∀ k, P k → k < w.heap.size) → KV w Q y B5 d5 B6 d6 → (∀ k, Q k → k < w.heap.size) →
  Calls Try.prog 18 #[agg26 x A5 c5 A6 c6, agg26 y B5 d5 B6 d6, .bool mg] w (SPost n mg x y P Q w)
theorem cnt_le {n : Nat} {x y : S26} (h : cnt (n + 1) x ≤ 900) (hy : y ∈ x.f6) : cnt n y ≤ 900 := by
  obtain ⟨j, hj, rfl⟩ := List.getElem_of_mem hy
  have h1 := sum_le n x.f6 j hj
  unfold HVal.cnt at h
  omega
set_option maxRecDepth 100000 in
set_option maxHeartbeats 8000000 in
theorem specC_step (n : Nat) (ih : SpecC n) : SpecC (n + 1) := fun mg x A5 c5 A6 c6 P y B5 d5 B6 d6 Q w xr yr x7 y7 xc yc xv xP yv yP => by
  have XK := Aside0.mk (rt_kids xr)
  have YK := Aside0.mk (rt_kids yr)
  have XL := Aside0.mk (rt_rise xr x7).2
  have YL := Aside0.mk (rt_rise yr y7).2
  have X7 := Aside0.mk x7
  have XC := Aside0.mk xc
  have YC := Aside0.mk yc
  have XP := Aside0.mk xP
  have YP := Aside0.mk yP
  have XN := Aside0.mk (show x.f6.length ≤ 900 by have := len_le (rt_kids xr); unfold HVal.cnt at xc; omega)
  have YN := Aside0.mk (show y.f6.length ≤ 900 by have := len_le (rt_kids yr); unfold HVal.cnt at yc; omega)
  have IH := Aside0.mk ih
  have OI0 := Aside0.mk (OI.start (mg := mg) (y := y) xr x7)
  have hbl := below_alloc (below_alloc (below_alloc (below_alloc (Below.refl w.heap.size w) (row26 x A5 c5 A6 c6)) (row26 y B5 d5 B6 d6)) row0) (row26 x A5 c5 A6 c6)
  have H0 := Aside0.mk (⟨blk_alloc (blk_alloc (blk_alloc (blk_new w _) _) _) _, blk_alloc (blk_alloc (blk_at _ (by simp)) _) _, blk_alloc (blk_at _ (by simp)) _, blk_at _ (by simp), xv.below hbl, yv.below hbl, (xv.below hbl).mono fun k q => ⟨.inl (.inl q), Nat.lt_of_lt_of_le (xP k q) hbl.size⟩, hbl⟩ : CX w P Q x A5 c5 A6 c6 y B5 d5 B6 d6 x A5 c5 A6 c6 ((((w.alloc (row26 x A5 c5 A6 c6)).alloc (row26 y B5 d5 B6 d6)).alloc row0).alloc (row26 x A5 c5 A6 c6)))
  have hx0 : (x.f0 == 0) = false := by rw [x7]; rfl
  have hy0 : (y.f0 == 0) = false := by rw [y7]; rfl
  have LL5 := Aside0.mk yv.len5
  clear xr yr x7 y7 xc yc xv xP yv yP ih hbl
  go_enter Try.func18, Try.ntmps18
  go_wp2
  clear hx0 hy0
  obtain ⟨w1, hw1⟩ : ∃ W, ((((w.alloc (row26 x A5 c5 A6 c6)).alloc (row26 y B5 d5 B6 d6)).alloc row0).alloc (row26 x A5 c5 A6 c6)) = W := ⟨_, rfl⟩
  rw [hw1] at H0
  unfold row26 row0 at hw1
  rw [hw1]
  clear hw1
  go_loopw [24] (fun i wr => ∃ (j : Nat) (o : S26) (O5 : Option Addr) (o5 : Nat) (O6 : Option Addr) (o6 : Nat), j ≤ y.f5.length ∧ i = .int .i64 j ∧ Aside0 (OI n mg x y j o) ∧ Aside0 (CX w P Q x A5 c5 A6 c6 y B5 d5 B6 d6 o O5 o5 O6 o6 wr)) (fun i _ => y.f5.length - (intOf i).toNat)
  case atStart => exact ⟨0, x, A5, c5, A6, c6, Nat.zero_le _, rfl, OI0, H0⟩
  case round =>
    obtain ⟨j, o, O5, o5, O6, o6, hj, rfl, HO, HI⟩ := hrel
    clear OI0 H0
    obtain ⟨⟨r0, r1, r2, r3, r4, r5, r6⟩, -⟩ := at7 HI.out.b0
    obtain ⟨⟨s0, s1, s2, s3, s4, s5, s6⟩, -⟩ := at7 HI.out.b1
    by_cases hlt : j < y.f5.length
    · have HJ := Aside0.mk hlt
      have hlt2 : j < y.f6.length := YL.out ▸ hlt
      obtain ⟨ad, hA, k0⟩ := HI.out.ky.key j hlt
      subst hA
      obtain ⟨ad2, E5, e5, E6, e6, hA2, hv2, y0, y1, y2, y3, y4, y5, y6⟩ := HI.out.ky.el7 j hlt2
      subst hA2
      have p0 : 0 ≤ (j : Int) := Int.natCast_nonneg j
      have q0 : (j : Int) < (y.f5.length : Int) := Int.ofNat_lt.2 hlt
      have q3 : (j : Int) < (y.f6.length : Int) := Int.ofNat_lt.2 hlt2
      have HOS := Aside0.mk (oc_step (n := n) (mg := mg) (x := x) hlt hlt2)
      have HUM := Aside0.mk (List.getElem_mem hlt2)
      obtain ⟨t, ht⟩ : ∃ t, y.f5[j] = t := ⟨_, rfl⟩
      obtain ⟨u, hu⟩ : ∃ u, y.f6[j] = u := ⟨_, rfl⟩
      rw [ht] at k0 HOS
      rw [hu] at y0 y1 y2 y3 y4 y5 y6 hv2 HOS HUM
      have HV2 := Aside0.mk hv2
      have HC7 := Aside0.mk (show E7 wr (ad2.add (j * 7)) u E5 e5 E6 e6 from ⟨y0, y1, y2, y3, y4, y5, y6⟩)
      obtain ⟨f, hf⟩ : ∃ f, find x.f5 x.f6 t = f := ⟨_, rfl⟩
      have HF := Aside0.mk hf
      have HFE := Aside0.mk (show findE (entE x) t = f from (find_ent x.f5 x.f6).trans hf)
      have HSZ := Aside0.mk (show o.f6.length ≤ 1900 by have h1 := HO.out.sz; have h2 := XN.out; have h3 := YN.out; omega)
      have HM := Aside0.mk (meas26 hlt LL5.out)
      have HNX := Aside0.mk (next63 hlt LL5.out)
      clear hlt hlt2 ht hu hv2 hj hf y0 y1 y2 y3 y4 y5 y6
      go_upto_region 10 with (go_at_call 39; go_must (refine (at_calls x A5 c5 A6 c6 P t _ X7.out XL.out HI.out.kx (fun k q => Nat.lt_of_lt_of_le (XP.out k q) HI.out.below.size)).mono ?_; rw [HF.out]; rintro e w1 ⟨hb, z, Z5, z5, Z6, z6, rfl, hkz, hz⟩; have hb2 := below_alloc (Below.refl w1.heap.size w1) (row26 z Z5 z5 Z6 z6); have hb3 := below_step hb hb2; have HI1 := Aside0.mk (HI.out.later hb3); have HU1 := Aside0.mk (HV2.out.below hb3); have HC1 := Aside0.mk (E7.later HC7.out hb3); have HZB := Aside0.mk (blk_new w1 (row26 z Z5 z5 Z6 z6)); have HKZ := Aside0.mk (hkz.below hb2); have HZ := Aside0.mk hz; clear hb hkz hz hb2 hb3))
      obtain ⟨b7, hb7⟩ : ∃ b, w1.heap.size = b := ⟨_, rfl⟩
      obtain ⟨w2, hw2⟩ : ∃ W, w1.alloc (row26 z Z5 z5 Z6 z6) = W := ⟨_, rfl⟩
      rw [hw2] at HI1 HU1 HC1 HZB HKZ
      rw [hb7] at HZB
      rw [hb7]
      unfold row26 at hw2
      rw [hw2]
      clear hb7 hw2 r0 r1 r2 r3 r4 r5 r6 s0 s1 s2 s3 s4 s5 s6 k0 HC7 HI HV2
      obtain ⟨⟨s0, s1, s2, s3, s4, s5, s6⟩, -⟩ := at7 HI1.out.b1
      obtain ⟨⟨v0, v1, v2, v3, v4, v5, v6⟩, g0, g1, g2, g3, g4, g5, g6⟩ := at7 HI1.out.b3
      obtain ⟨⟨z0, z1, z2, z3, z4, z5', z6'⟩, -⟩ := at7 HZB.out
      obtain ⟨y0, y1, y2, y3, y4, y5, y6⟩ := HC1.out
      have HR := Aside0.mk (⟨HI1.out, HC1.out, HU1.out, HZB.out, HKZ.out⟩ : RZ w P Q x A5 c5 A6 c6 y (some ad) d5 (some ad2) d6 o O5 o5 O6 o6 (ad2.add (j * 7)) u E5 e5 E6 e6 b7 z Z5 z5 Z6 z6 w2)
      clear HI1 HC1 HU1 HZB HKZ
      cases f with
      | none =>
        have HON := Aside0.mk (HO.out.put (v' := u) (HOS.out.trans (step_none HFE.out)) rfl (YK.out u HUM.out))
        obtain ⟨o', ho'⟩ : ∃ o', tabE (withE t u (entE o)) = o' := ⟨_, rfl⟩
        rw [ho'] at HON
        have HOE := Aside0.mk ho'
        rw [Option.isSome_none]
        clear ho' HF HFE HZ
        go_upto_region 11 with fail
        go_still_tail 7, (by kernel_rfl)
        repeat still_step
        try refine wpStill_nil ?_
        change wpList _ _ _ _ _ w2.drew
        go_wp2_with (go_at_call 41; go_must (refine (with_calls o O5 o5 O6 o6 _ t u E5 e5 E6 e6 _ _ HO.out.len HSZ.out (HR.out.cx.ko.below (below_drew (Below.refl _ _))) (fun k q => q.2) (HR.out.ku.below (below_drew (Below.refl _ _))) (fun k q => Nat.lt_of_lt_of_le (YP.out k q) HR.out.cx.below.size)).mono ?_; rw [HOE.out]; rintro e w6 ⟨hb, N5, n5, N6, n6, rfl, hk⟩; have hN := CX.put (HR.out.cx.later (Below.drew_then hb)) XP.out YP.out (hk.mono fun k q => ⟨by have hl := HR.out.cx.lt; rcases q.1 with (q | q) | q; exact q.1; exact .inl (.inr q); exact .inr (by have h : w2.heap.size + 4 ≤ k := q; omega), q.2⟩); have hb3 := (HR.out.cx.later (Below.drew_then hb)).b3; unfold putV put26 at hN; have HN := Aside0.mk hN; clear s0 s1 s2 s3 s4 s5 s6 v0 v1 v2 v3 v4 v5 v6 g0 g1 g2 g3 g4 g5 g6 z0 z1 z2 z3 z4 z5' z6' y0 y1 y2 y3 y4 y5 y6; obtain ⟨⟨v0, v1, v2, v3, v4, v5, v6⟩, g0, g1, g2, g3, g4, g5, g6⟩ := at7 hb3; clear hb hk hN hb3))
        go_roundw
        case measure => exact HM.out
        case rel => exact ⟨j + 1, o', N5, n5, N6, n6, HJ.out, congrArg (Value.int IntKind.i64) HNX.out, HON, HN⟩
      | some z' =>
        have ez : z' = z := HZ.out
        cases ez
        have HZM := Aside0.mk (ent_mem (x := x) (t := t) (y := z) HFE.out).2
        rw [Option.isSome_some]
        obtain ⟨pz, hpz⟩ : ∃ q, decide (z.f0 = 7) = q := ⟨_, rfl⟩
        obtain ⟨pu, hpu⟩ : ∃ q, decide (u.f0 = 7) = q := ⟨_, rfl⟩
        have HPZ := Aside0.mk hpz
        have HPU := Aside0.mk hpu
        clear hpz hpu
        by_cases hz : z.f0 = 0
        · have hz0 : (z.f0 == 0) = true := by rw [hz]; rfl
          have hpz : pz = false := by rw [← HPZ.out]; exact decide_eq_false (by omega)
          subst hpz
          by_cases hu : u.f0 = 0
          · have hu0 : (u.f0 == 0) = true := by rw [hu]; rfl
            have HON := Aside0.mk (HO.out.keep (HOS.out.trans ((step_some HFE.out).trans (by rw [if_pos ⟨hz, hu⟩]))))
            clear hz hu
            go_wp2
            go_roundw
            case measure => exact HM.out
            case rel => exact ⟨j + 1, o, O5, o5, O6, o6, HJ.out, congrArg (Value.int IntKind.i64) HNX.out, HON, ⟨HR.out.cx⟩⟩
          · have hu0 : (u.f0 == 0) = false := by simpa using hu
            cases mg
            case false =>
              have HON := Aside0.mk (HO.out.drop (HOS.out.trans ((step_some HFE.out).trans (by rw [if_neg (fun q => hu q.2), if_pos ⟨hz, rfl⟩]))))
              obtain ⟨o', ho'⟩ : ∃ o', tabE (withoutE t (entE o)) = o' := ⟨_, rfl⟩
              rw [ho'] at HON
              have HOE := Aside0.mk ho'
              clear ho' hz hu
              go_wp2_with (go_at_call 52; go_must (refine (without_calls o O5 o5 O6 o6 _ t _ HO.out.len (Nat.le_trans HSZ.out (by decide)) HR.out.cx.ko (fun k q => q.2)).mono ?_; rw [HOE.out]; rintro e w6 ⟨hb, N5, n5, N6, n6, rfl, hk⟩; have hN := CX.put (HR.out.cx.later hb) XP.out YP.out (hk.mono fun k q => ⟨by have hl := HR.out.cx.lt; rcases q.1 with q | q; exact q.1; exact .inr (by have h : w2.heap.size + 3 ≤ k := q; omega), q.2⟩); have hb3 := (HR.out.cx.later hb).b3; unfold putV put26 at hN; have HN := Aside0.mk hN; clear s0 s1 s2 s3 s4 s5 s6 v0 v1 v2 v3 v4 v5 v6 g0 g1 g2 g3 g4 g5 g6 z0 z1 z2 z3 z4 z5' z6' y0 y1 y2 y3 y4 y5 y6; obtain ⟨⟨v0, v1, v2, v3, v4, v5, v6⟩, g0, g1, g2, g3, g4, g5, g6⟩ := at7 hb3; clear hb hk hN hb3))
              go_roundw
              case measure => exact HM.out
              case rel => exact ⟨j + 1, o', N5, n5, N6, n6, HJ.out, congrArg (Value.int IntKind.i64) HNX.out, HON, HN⟩
            case true =>
              have HON := Aside0.mk (HO.out.keep (HOS.out.trans ((step_some HFE.out).trans (by rw [if_neg (fun q => hu q.2), if_neg (fun q => Bool.noConfusion q.2), if_neg (fun q => by omega)]))))
              clear hz hu
              go_wp2_with (first
                | (go_at_call_of 20 z; (refine (is7_calls HR.out.kz).mono ?_; rintro e w3 ⟨rfl, hb⟩; rw [HPZ.out]; have HR2 := Aside0.mk (HR.out.later hb); clear s0 s1 s2 s3 s4 s5 s6 v0 v1 v2 v3 v4 v5 v6 g0 g1 g2 g3 g4 g5 g6 z0 z1 z2 z3 z4 z5' z6' y0 y1 y2 y3 y4 y5 y6; obtain ⟨⟨s0, s1, s2, s3, s4, s5, s6⟩, -⟩ := at7 HR2.out.cx.b1; obtain ⟨⟨v0, v1, v2, v3, v4, v5, v6⟩, g0, g1, g2, g3, g4, g5, g6⟩ := at7 HR2.out.cx.b3; obtain ⟨⟨z0, z1, z2, z3, z4, z5', z6'⟩, -⟩ := at7 HR2.out.zb; obtain ⟨y0, y1, y2, y3, y4, y5, y6⟩ := HR2.out.uc; clear hb)))
              go_roundw
              case measure => exact HM.out
              case rel => exact ⟨j + 1, o, O5, o5, O6, o6, HJ.out, congrArg (Value.int IntKind.i64) HNX.out, HON, ⟨HR2.out.cx⟩⟩
        · have hz0 : (z.f0 == 0) = false := by simpa using hz
          have hu := trivial
          cases pz
          case false =>
            have HON := Aside0.mk (HO.out.keep (HOS.out.trans ((step_some HFE.out).trans (by rw [if_neg (fun q => hz q.1), if_neg (fun q => hz q.1), if_neg (fun q => of_decide_eq_false HPZ.out q.1)]))))
            clear hz hu
            go_wp2_with (first
              | (go_at_call_of 20 z; (refine (is7_calls HR.out.kz).mono ?_; rintro e w3 ⟨rfl, hb⟩; rw [HPZ.out]; have HR2 := Aside0.mk (HR.out.later hb); clear s0 s1 s2 s3 s4 s5 s6 v0 v1 v2 v3 v4 v5 v6 g0 g1 g2 g3 g4 g5 g6 z0 z1 z2 z3 z4 z5' z6' y0 y1 y2 y3 y4 y5 y6; obtain ⟨⟨s0, s1, s2, s3, s4, s5, s6⟩, -⟩ := at7 HR2.out.cx.b1; obtain ⟨⟨v0, v1, v2, v3, v4, v5, v6⟩, g0, g1, g2, g3, g4, g5, g6⟩ := at7 HR2.out.cx.b3; obtain ⟨⟨z0, z1, z2, z3, z4, z5', z6'⟩, -⟩ := at7 HR2.out.zb; obtain ⟨y0, y1, y2, y3, y4, y5, y6⟩ := HR2.out.uc; clear hb)))
            go_roundw
            case measure => exact HM.out
            case rel => exact ⟨j + 1, o, O5, o5, O6, o6, HJ.out, congrArg (Value.int IntKind.i64) HNX.out, HON, ⟨HR2.out.cx⟩⟩
          case true =>
            cases pu
            case false =>
              have HON := Aside0.mk (HO.out.keep (HOS.out.trans ((step_some HFE.out).trans (by rw [if_neg (fun q => hz q.1), if_neg (fun q => hz q.1), if_neg (fun q => of_decide_eq_false HPU.out q.2)]))))
              clear hz hu
              go_wp2_with (first
                | (go_at_call_of 20 z; (refine (is7_calls HR.out.kz).mono ?_; rintro e w3 ⟨rfl, hb⟩; rw [HPZ.out]; have HR2 := Aside0.mk (HR.out.later hb); clear s0 s1 s2 s3 s4 s5 s6 v0 v1 v2 v3 v4 v5 v6 g0 g1 g2 g3 g4 g5 g6 z0 z1 z2 z3 z4 z5' z6' y0 y1 y2 y3 y4 y5 y6; obtain ⟨⟨s0, s1, s2, s3, s4, s5, s6⟩, -⟩ := at7 HR2.out.cx.b1; obtain ⟨⟨v0, v1, v2, v3, v4, v5, v6⟩, g0, g1, g2, g3, g4, g5, g6⟩ := at7 HR2.out.cx.b3; obtain ⟨⟨z0, z1, z2, z3, z4, z5', z6'⟩, -⟩ := at7 HR2.out.zb; obtain ⟨y0, y1, y2, y3, y4, y5, y6⟩ := HR2.out.uc; clear hb))
                | (go_at_call_of 20 u; (refine (is7_calls HR2.out.ku).mono ?_; rintro e w4 ⟨rfl, hb⟩; rw [HPU.out]; have HR3 := Aside0.mk (HR2.out.later hb); clear s0 s1 s2 s3 s4 s5 s6 v0 v1 v2 v3 v4 v5 v6 g0 g1 g2 g3 g4 g5 g6 z0 z1 z2 z3 z4 z5' z6' y0 y1 y2 y3 y4 y5 y6; obtain ⟨⟨s0, s1, s2, s3, s4, s5, s6⟩, -⟩ := at7 HR3.out.cx.b1; obtain ⟨⟨v0, v1, v2, v3, v4, v5, v6⟩, g0, g1, g2, g3, g4, g5, g6⟩ := at7 HR3.out.cx.b3; obtain ⟨⟨z0, z1, z2, z3, z4, z5', z6'⟩, -⟩ := at7 HR3.out.zb; obtain ⟨y0, y1, y2, y3, y4, y5, y6⟩ := HR3.out.uc; clear hb)))
              go_roundw
              case measure => exact HM.out
              case rel => exact ⟨j + 1, o, O5, o5, O6, o6, HJ.out, congrArg (Value.int IntKind.i64) HNX.out, HON, ⟨HR3.out.cx⟩⟩
            case true =>
              have HZ7 := Aside0.mk (of_decide_eq_true HPZ.out)
              have HU7 := Aside0.mk (of_decide_eq_true HPU.out)
              have HST := Aside0.mk (show stepC mg (coal n mg) (entE x) (OC n mg x y j) (t, u) = withE t (coal n mg z u) (OC n mg x y j) from (step_some HFE.out).trans (by rw [if_neg (fun q => hz q.1), if_neg (fun q => hz q.1), if_pos ⟨HZ7.out, HU7.out⟩]))
              clear hz hu
              go_upto_region 16 with (first
                | (go_at_call_of 20 z; (refine (is7_calls HR.out.kz).mono ?_; rintro e w3 ⟨rfl, hb⟩; rw [HPZ.out]; have HR2 := Aside0.mk (HR.out.later hb); clear s0 s1 s2 s3 s4 s5 s6 v0 v1 v2 v3 v4 v5 v6 g0 g1 g2 g3 g4 g5 g6 z0 z1 z2 z3 z4 z5' z6' y0 y1 y2 y3 y4 y5 y6; obtain ⟨⟨s0, s1, s2, s3, s4, s5, s6⟩, -⟩ := at7 HR2.out.cx.b1; obtain ⟨⟨v0, v1, v2, v3, v4, v5, v6⟩, g0, g1, g2, g3, g4, g5, g6⟩ := at7 HR2.out.cx.b3; obtain ⟨⟨z0, z1, z2, z3, z4, z5', z6'⟩, -⟩ := at7 HR2.out.zb; obtain ⟨y0, y1, y2, y3, y4, y5, y6⟩ := HR2.out.uc; clear hb))
                | (go_at_call_of 20 u; (refine (is7_calls HR2.out.ku).mono ?_; rintro e w4 ⟨rfl, hb⟩; rw [HPU.out]; have HR3 := Aside0.mk (HR2.out.later hb); clear s0 s1 s2 s3 s4 s5 s6 v0 v1 v2 v3 v4 v5 v6 g0 g1 g2 g3 g4 g5 g6 z0 z1 z2 z3 z4 z5' z6' y0 y1 y2 y3 y4 y5 y6; obtain ⟨⟨s0, s1, s2, s3, s4, s5, s6⟩, -⟩ := at7 HR3.out.cx.b1; obtain ⟨⟨v0, v1, v2, v3, v4, v5, v6⟩, g0, g1, g2, g3, g4, g5, g6⟩ := at7 HR3.out.cx.b3; obtain ⟨⟨z0, z1, z2, z3, z4, z5', z6'⟩, -⟩ := at7 HR3.out.zb; obtain ⟨y0, y1, y2, y3, y4, y5, y6⟩ := HR3.out.uc; clear hb)))
              go_region_with (first
                | (go_at_call 18; go_must (refine (IH.out mg z Z5 z5 Z6 z6 P u E5 e5 E6 e6 Q _ (XK.out z HZM.out) (YK.out u HUM.out) HZ7.out HU7.out (cnt_le XC.out HZM.out) (cnt_le YC.out HUM.out) (HR3.out.kz.below (below_drew (Below.refl _ _))) (fun k q => Nat.lt_of_lt_of_le (XP.out k q) HR3.out.cx.below.size) (HR3.out.ku.below (below_drew (Below.refl _ _))) (fun k q => Nat.lt_of_lt_of_le (YP.out k q) HR3.out.cx.below.size)).mono ?_; rintro e w5 ⟨hb, r, R5, r5', R6, r6', rfl, hkr, hr7, hrt, hrc⟩; have HR4 := Aside0.mk (HR3.out.later (Below.drew_then hb)); have HKR := Aside0.mk hkr; have HS5 := Aside0.mk hb.size; have HON := Aside0.mk (HO.out.put (HOS.out.trans HST.out) hrc hrt); obtain ⟨o', ho'⟩ : ∃ o', tabE (withE t r (entE o)) = o' := ⟨_, rfl⟩; rw [ho'] at HON; have HOE := Aside0.mk ho'; clear s0 s1 s2 s3 s4 s5 s6 v0 v1 v2 v3 v4 v5 v6 g0 g1 g2 g3 g4 g5 g6 z0 z1 z2 z3 z4 z5' z6' y0 y1 y2 y3 y4 y5 y6; obtain ⟨⟨s0, s1, s2, s3, s4, s5, s6⟩, -⟩ := at7 HR4.out.cx.b1; obtain ⟨⟨v0, v1, v2, v3, v4, v5, v6⟩, g0, g1, g2, g3, g4, g5, g6⟩ := at7 HR4.out.cx.b3; obtain ⟨⟨z0, z1, z2, z3, z4, z5', z6'⟩, -⟩ := at7 HR4.out.zb; obtain ⟨y0, y1, y2, y3, y4, y5, y6⟩ := HR4.out.uc; clear hb hkr hr7 hrt hrc ho'))
                | (go_at_call 41; go_must (refine (with_calls o O5 o5 O6 o6 _ t r R5 r5' R6 r6' _ _ HO.out.len HSZ.out (HR4.out.cx.ko) (fun k q => q.2) HKR.out (fun k q => q.2)).mono ?_; rw [HOE.out]; rintro e w6 ⟨hb, N5, n5, N6, n6, rfl, hk⟩; have hN := CX.put (HR4.out.cx.later hb) XP.out YP.out (hk.mono fun k q => ⟨by have hl := HR3.out.cx.lt; have hs : w4.heap.size ≤ w5.heap.size := HS5.out; rcases q.1 with (q | q) | q; exact q.1; exact q.1.imp id (fun h => (by have h' : w4.heap.size ≤ k := h; omega)); exact .inr (by have h : w5.heap.size + 4 ≤ k := q; omega), q.2⟩); have hb3 := (HR4.out.cx.later hb).b3; unfold putV put26 at hN; have HN := Aside0.mk hN; obtain ⟨⟨v0, v1, v2, v3, v4, v5, v6⟩, g0, g1, g2, g3, g4, g5, g6⟩ := at7 hb3; clear hb hk hN hb3)))
              all_goals
                go_wp2_with fail
                go_roundw
                case measure => exact HM.out
                case rel => exact ⟨j + 1, o', N5, n5, N6, n6, HJ.out, congrArg (Value.int IntKind.i64) HNX.out, HON, HN⟩
    · have e : j = y.f5.length := Nat.le_antisymm hj (Nat.not_lt.1 hlt)
      subst e
      have q1 : ¬ (y.f5.length : Int) < (y.f5.length : Int) := Int.lt_irrefl _
      have HDN := Aside0.mk HO.out.done
      have H7 := Aside0.mk HO.out.f7
      obtain ⟨⟨s0, s1, s2, s3, s4, s5, s6⟩, f0, f1, f2, f3, f4, f5, f6⟩ := at7 HI.out.b2
      obtain ⟨⟨n0, n1, n2, n3, n4, n5, n6⟩, -⟩ := at7 HI.out.b3
      clear hlt hj r0 r1 r2 r3 r4 r5 r6
      go_wp2
      have HP2 := Aside0.mk (putV_at HI.out.b2 o O5 o5 O6 o6)
      have HB2 := Aside0.mk (putV_below HI.out.below (Nat.le_add_right _ 2) o O5 o5 O6 o6)
      have HK2 := Aside0.mk (HI.out.ko.step (w1 := putV wr (w.heap.size + 2) o O5 o5 O6 o6) (fun k hk _ => putV_far (by rcases hk.1 with (q | q) | q; (have := XP.out k q; omega); (have := YP.out k q; omega); omega) o O5 o5 O6 o6))
      have HSS := Aside0.mk (show wr.heap.size ≤ (putV wr (w.heap.size + 2) o O5 o5 O6 o6).heap.size by unfold putV put26; simp)
      obtain ⟨W5, hW5⟩ : ∃ W5, putV wr (w.heap.size + 2) o O5 o5 O6 o6 = W5 := ⟨_, rfl⟩
      rw [hW5] at HP2 HB2 HK2 HSS
      unfold putV put26 at hW5
      rw [hW5]
      clear hW5 s0 s1 s2 s3 s4 s5 s6 f0 f1 f2 f3 f4 f5 f6 n0 n1 n2 n3 n4 n5 n6
      obtain ⟨⟨g0, g1, g2, g3, g4, g5, g6⟩, -⟩ := at7 HP2.out
      refine bodyPost_ret (v := agg26 o O5 o5 O6 o6) (by simp [results, Try.results18, go_sem, g0, g1, g2, g3, g4, g5, g6]) rfl ?_
      exact ⟨HB2.out, o, _, _, _, _, rfl, HK2.out.mono fun k hk => ⟨hk.1.imp id fun h => by omega, Nat.lt_of_lt_of_le hk.2 HSS.out⟩, H7.out, HDN.out.1, HDN.out.2⟩
theorem specC_of : ∀ n, SpecC n
  | 0 => fun _ _ _ _ _ _ _ _ _ _ _ _ _ _ h => h.elim
  | n + 1 => specC_step n (specC_of n)
end Go.Proofs.Ytjfbjkodjjlkiaa.HVal
/-! FnTablesCoalesce: for all tables that its guards let in, the law returns true. -/
namespace Go.Proofs.Ytjfbjkodjjlkiaa.HVal
open Go.RowKit Go.WideMaps Go.Maps Go.Proofs.YtjfbjkodjjlkiaaW.PrintWords Go.Proofs.YtjfbjkodjjlkiaaW.PrintLast Go.Proofs.YtjfbjkodjjlkiaaW.PrintMore Go.Proofs.Ytjfbjkodjjlkiaa.Plain Go.Proofs.Ytjfbjkodjjlkiaa.GTab Go.Proofs.Ytjfbjkodjjlkiaa.Opens
attribute [local go_sem] run_store_flt

structure LC (w : World) (x : S26) (A5 : Option Addr) (a5 : Nat) (A6 : Option Addr) (a6 : Nat) (y : S26) (B5 : Option Addr) (b5 : Nat) (B6 : Option Addr) (b6 : Nat) (W : World) : Prop where
  x : BX W w.heap.size x A5 a5 A6 a6
  y : BX W (w.heap.size + 1) y B5 b5 B6 b6
  below : Below w.heap.size w W
section
variable {w W W2 : World} {x y r : S26} {A5 A6 B5 B6 : Option Addr} {a5 a6 b5 b6 b b' : Nat}
theorem LC.later (h : LC w x A5 a5 A6 a6 y B5 b5 B6 b6 W) (hb : Below W.heap.size W W2) : LC w x A5 a5 A6 a6 y B5 b5 B6 b6 W2 := ⟨h.x.later hb, h.y.later hb, below_step h.below hb⟩
theorem LC.start (hx : KV w (fun k => k < w.heap.size) x A5 a5 A6 a6) (hy : KV w (fun k => k < w.heap.size) y B5 b5 B6 b6) : LC w x A5 a5 A6 a6 y B5 b5 B6 b6 ((w.alloc (row26 x A5 a5 A6 a6)).alloc (row26 y B5 b5 B6 b6)) := by
  have hb := below_alloc (below_alloc (Below.refl w.heap.size w) (row26 x A5 a5 A6 a6)) (row26 y B5 b5 B6 b6)
  exact ⟨⟨blk_alloc (blk_new w _) _, _, hx.below hb, fun k hk => Nat.lt_of_lt_of_le hk hb.size⟩, ⟨blk_at _ (by simp), _, hy.below hb, fun k hk => Nat.lt_of_lt_of_le hk hb.size⟩, hb⟩
theorem spec_bx (h : BX W b x A5 a5 A6 a6) (h' : BX W b' y B5 b5 B6 b6) (hx : Tq 300 x) (hy : Tq 300 y) : Calls Try.prog 18 #[agg26 x A5 a5 A6 a6, agg26 y B5 b5 B6 b6, .bool false] W fun e w' => Below W.heap.size W w' ∧ ∃ r M5 m5 M6 m6, e = .returned (agg26 r M5 m5 M6 m6) ∧ (∃ Q : Nat → Prop, KV w' Q r M5 m5 M6 m6) ∧ Rt 50 r ∧ canon 50 r = canon 50 (coal 50 false x y) := by
  obtain ⟨P, hk, hp⟩ := h.kv
  obtain ⟨Q, hk', hq⟩ := h'.kv
  refine (specC_of 50 false x A5 a5 A6 a6 P y B5 b5 B6 b6 Q W hx.rt hy.rt hx.f7 hy.f7 (Nat.le_trans hx.cn (by decide)) (Nat.le_trans hy.cn (by decide)) hk hp hk' hq).mono ?_
  rintro e w' ⟨hb, r, M5, m5, M6, m6, rfl, hkr, _, hrt, hrc⟩
  exact ⟨hb, r, M5, m5, M6, m6, rfl, ⟨_, hkr⟩, hrt, hrc⟩
end
set_option maxRecDepth 100000 in
set_option maxHeartbeats 8000000 in
theorem coalesce_law (x : S26) (A5 : Option Addr) (a5 : Nat) (A6 : Option Addr) (a6 : Nat) (y : S26) (B5 : Option Addr) (b5 : Nat) (B6 : Option Addr) (b6 : Nat) (w : World) (gx5 : Kd.string.C w A5 x.f5.length x.f5) (lx5 : x.f5.length ≤ a5) (gx6 : k26.C w A6 x.f6.length x.f6) (lx6 : x.f6.length ≤ a6) (zx : Szq x) (gy5 : Kd.string.C w B5 y.f5.length y.f5) (ly5 : y.f5.length ≤ b5) (gy6 : k26.C w B6 y.f6.length y.f6) (ly6 : y.f6.length ≤ b6) (zy : Szq y) :
    Calls Try.prog 4 #[agg26 x A5 a5 A6 a6, agg26 y B5 b5 B6 b6] w fun e w' => e = .returned (.bool true) ∧ Below w.heap.size w w' := by
  have hx := KV.of_C lx5 gx5 lx6 gx6
  have hy := KV.of_C ly5 gy5 ly6 gy6
  have H0 := Aside0.mk (LC.start hx hy)
  obtain ⟨fx, hfx⟩ := fits7_calls hx
  obtain ⟨fy, hfy⟩ := fits7_calls hy
  have Fx := Aside0.mk hfx
  have Fy := Aside0.mk hfy
  have Zx := Aside0.mk (zx 50)
  have Zy := Aside0.mk (zy 50)
  clear gx5 lx5 gx6 lx6 gy5 ly5 gy6 ly6 hx hy hfx hfy zx zy
  obtain ⟨⟨r0, r1, r2, r3, r4, r5, r6⟩, -⟩ := at7 H0.out.x.at_
  obtain ⟨⟨s0, s1, s2, s3, s4, s5, s6⟩, -⟩ := at7 H0.out.y.at_
  go_enter Try.func4, Try.ntmps4
  go_upto_region 1 with fail
  go_cut [14] from 7 to 14 (fun c wx => c = .bool (!(fx && fy)) ∧ Aside0 (LC w x A5 a5 A6 a6 y B5 b5 B6 b6 wx))
  case first =>
    cases fx
    case false =>
      go_wp2_with (first
        | (go_at_call_of 11 x; (refine (Fx.out _ H0.out.below).mono ?_; rintro e w' ⟨rfl, hb⟩; have H1 := Aside0.mk (H0.out.later hb); clear hb; clear r0 r1 r2 r3 r4 r5 r6 s0 s1 s2 s3 s4 s5 s6; obtain ⟨⟨r0, r1, r2, r3, r4, r5, r6⟩, -⟩ := at7 H1.out.x.at_; obtain ⟨⟨s0, s1, s2, s3, s4, s5, s6⟩, -⟩ := at7 H1.out.y.at_)))
      go_meet
      exact ⟨rfl, H1⟩
    case true =>
      cases fy
      all_goals
        go_wp2_with (first
          | (go_at_call_of 11 x; (refine (Fx.out _ H0.out.below).mono ?_; rintro e w' ⟨rfl, hb⟩; have H1 := Aside0.mk (H0.out.later hb); clear hb; clear r0 r1 r2 r3 r4 r5 r6 s0 s1 s2 s3 s4 s5 s6; obtain ⟨⟨r0, r1, r2, r3, r4, r5, r6⟩, -⟩ := at7 H1.out.x.at_; obtain ⟨⟨s0, s1, s2, s3, s4, s5, s6⟩, -⟩ := at7 H1.out.y.at_))
          | (go_at_call_of 11 y; (refine (Fy.out _ H1.out.below).mono ?_; rintro e w' ⟨rfl, hb⟩; have H2 := Aside0.mk (H1.out.later hb); clear hb; clear r0 r1 r2 r3 r4 r5 r6 s0 s1 s2 s3 s4 s5 s6; obtain ⟨⟨r0, r1, r2, r3, r4, r5, r6⟩, -⟩ := at7 H2.out.x.at_; obtain ⟨⟨s0, s1, s2, s3, s4, s5, s6⟩, -⟩ := at7 H2.out.y.at_)))
        go_meet
        exact ⟨rfl, H2⟩
  case rest =>
    obtain ⟨rfl, HL⟩ := hcut
    clear H0 r0 r1 r2 r3 r4 r5 r6 s0 s1 s2 s3 s4 s5 s6 Fx Fy
    obtain ⟨q, hq⟩ : ∃ q, (!(fx && fy)) = q := ⟨_, rfl⟩
    rw [hq]
    clear hq
    cases q
    case true =>
      go_wp2
      go_ret
      exact ⟨rfl, HL.out.below⟩
    case false =>
      obtain ⟨tx, htx⟩ : ∃ t, tbB x = t := ⟨_, rfl⟩
      obtain ⟨ty, hty⟩ : ∃ t, tbB y = t := ⟨_, rfl⟩
      have Tx := Aside0.mk htx
      have Ty := Aside0.mk hty
      have QF := Aside0.mk (show ∀ (v : S26), tbB v = true → Sq 50 v → Tq 300 v from fun v hv hs => ⟨(tb_true hv).1, (tb_true hv).2.1, hs, (tb_true hv).2.2⟩)
      clear htx hty
      go_upto_region 3 with fail
      go_cut [22] from 15 to 22 (fun c wx => c = .bool (!(tx && ty)) ∧ Aside0 (LC w x A5 a5 A6 a6 y B5 b5 B6 b6 wx))
      case first =>
        obtain ⟨⟨r0, r1, r2, r3, r4, r5, r6⟩, -⟩ := at7 HL.out.x.at_
        obtain ⟨⟨s0, s1, s2, s3, s4, s5, s6⟩, -⟩ := at7 HL.out.y.at_
        cases tx
        case false =>
          go_wp2_with (first
            | (go_at_call_of 12 x; (refine (tb_bx HL.out.x).mono ?_; rintro e w' ⟨rfl, hb⟩; rw [Tx.out]; have H1 := Aside0.mk (HL.out.later hb); clear hb; clear r0 r1 r2 r3 r4 r5 r6 s0 s1 s2 s3 s4 s5 s6; obtain ⟨⟨r0, r1, r2, r3, r4, r5, r6⟩, -⟩ := at7 H1.out.x.at_; obtain ⟨⟨s0, s1, s2, s3, s4, s5, s6⟩, -⟩ := at7 H1.out.y.at_)))
          go_meet
          exact ⟨rfl, H1⟩
        case true =>
          cases ty
          all_goals
            go_wp2_with (first
              | (go_at_call_of 12 x; (refine (tb_bx HL.out.x).mono ?_; rintro e w' ⟨rfl, hb⟩; rw [Tx.out]; have H1 := Aside0.mk (HL.out.later hb); clear hb; clear r0 r1 r2 r3 r4 r5 r6 s0 s1 s2 s3 s4 s5 s6; obtain ⟨⟨r0, r1, r2, r3, r4, r5, r6⟩, -⟩ := at7 H1.out.x.at_; obtain ⟨⟨s0, s1, s2, s3, s4, s5, s6⟩, -⟩ := at7 H1.out.y.at_))
              | (go_at_call_of 12 y; (refine (tb_bx H1.out.y).mono ?_; rintro e w' ⟨rfl, hb⟩; rw [Ty.out]; have H2 := Aside0.mk (H1.out.later hb); clear hb; clear r0 r1 r2 r3 r4 r5 r6 s0 s1 s2 s3 s4 s5 s6; obtain ⟨⟨r0, r1, r2, r3, r4, r5, r6⟩, -⟩ := at7 H2.out.x.at_; obtain ⟨⟨s0, s1, s2, s3, s4, s5, s6⟩, -⟩ := at7 H2.out.y.at_)))
            go_meet
            exact ⟨rfl, H2⟩
      case rest =>
        obtain ⟨rfl, HM⟩ := hcut
        clear HL
        obtain ⟨q, hq⟩ : ∃ q, (!(tx && ty)) = q := ⟨_, rfl⟩
        rw [hq]
        cases q
        case true =>
          go_wp2
          go_ret
          exact ⟨rfl, HM.out.below⟩
        case false =>
          have hall : tx = true ∧ ty = true := by revert hq; cases tx <;> cases ty <;> simp
          have Qx := Aside0.mk (QF.out x (Tx.out.trans hall.1) Zx.out)
          have Qy := Aside0.mk (QF.out y (Ty.out.trans hall.2) Zy.out)
          have Q1 := join_tq (mg := false) Qx.out Qy.out
          obtain ⟨u1, hu1⟩ : ∃ u, canon 50 (coal 50 false x y) = u := ⟨_, rfl⟩
          rw [hu1] at Q1
          have U1 := Aside0.mk hu1
          have DP := Aside0.mk (dp_of Q1.rt)
          clear hq hall Q1 hu1
          obtain ⟨⟨r0, r1, r2, r3, r4, r5, r6⟩, -⟩ := at7 HM.out.x.at_
          obtain ⟨⟨s0, s1, s2, s3, s4, s5, s6⟩, -⟩ := at7 HM.out.y.at_
          go_upto_region 6 with (go_at_call 17; go_must (refine (cti_bx HM.out.x HM.out.y Qx.out Qy.out (by decide) (by decide)).mono ?_; rw [U1.out]; rintro e w1 ⟨hb, D5, d5, D6, d6, Qa, rfl, hk, hq⟩; have hb3 := below_step hb (below_alloc (Below.refl w1.heap.size w1) (row26 u1 D5 d5 D6 d6)); have H1 := Aside0.mk (HM.out.later hb3); have E1 := Aside0.mk (BX.made hk hq); clear r0 r1 r2 r3 r4 r5 r6 s0 s1 s2 s3 s4 s5 s6; clear hb hb3 hk hq))
          obtain ⟨b1, hb1⟩ : ∃ b, w1.heap.size = b := ⟨_, rfl⟩
          obtain ⟨w2, hw2⟩ : ∃ W, w1.alloc (row26 u1 D5 d5 D6 d6) = W := ⟨_, rfl⟩
          rw [hw2] at H1 E1
          rw [hb1] at E1
          rw [hb1]
          unfold row26 at hw2
          rw [hw2]
          clear hb1 hw2
          obtain ⟨⟨r0, r1, r2, r3, r4, r5, r6⟩, -⟩ := at7 H1.out.x.at_
          obtain ⟨⟨s0, s1, s2, s3, s4, s5, s6⟩, -⟩ := at7 H1.out.y.at_
          obtain ⟨⟨p0, p1, p2, p3, p4, p5, p6⟩, -⟩ := at7 E1.out.at_
          go_region_with (first
            | (go_at_call 18; go_must (refine (spec_bx (H1.out.x.later (below_drew (Below.refl _ _))) (H1.out.y.later (below_drew (Below.refl _ _))) Qx.out Qy.out).mono ?_; rintro e w3 ⟨hb, r, R5, q5, R6, q6, rfl, hkr, hrt, hrc⟩; have HE2 := Aside0.mk (E1.out.later (Below.drew_then hb)); have HB3 := Aside0.mk (H1.out.later (Below.drew_then hb)).below; have HKR := Aside0.mk hkr; have HSM := Aside0.mk (show sameB 50 u1 r = true by rw [← U1.out, ← hrc]; exact same_canon hrt); clear r0 r1 r2 r3 r4 r5 r6 s0 s1 s2 s3 s4 s5 s6 p0 p1 p2 p3 p4 p5 p6; obtain ⟨⟨p0, p1, p2, p3, p4, p5, p6⟩, -⟩ := at7 HE2.out.at_; clear hb hkr hrt hrc))
            | (go_at_call 14; go_must (refine (got_calls 50 u1 D5 d5 D6 d6 r R5 q5 R6 q6 _ _ _ DP.out HE2.out.kv.choose_spec.1 HKR.out.choose_spec).mono ?_; rintro e w4 ⟨rfl, hb⟩; rw [HSM.out]; have HB4 := Aside0.mk (below_step HB3.out hb); clear hb)))
          all_goals (go_wp2_with fail; go_ret; exact ⟨rfl, HB4.out⟩)
end Go.Proofs.Ytjfbjkodjjlkiaa.HVal
