/- What spec.Trimmed comes to: a round. -/
import Derived.Test.YtjfbjkodjjlkiaaHTrim
import Derived.Deep.AppendLies
import Derived.Deep.RegionLaw
namespace Go.Proofs.Ytjfbjkodjjlkiaa.HVal
open Go.RowKit Go.WideMaps Go.Maps Go.Proofs.YtjfbjkodjjlkiaaW.PrintWords Go.Proofs.YtjfbjkodjjlkiaaW.PrintLast Go.Proofs.YtjfbjkodjjlkiaaW.PrintMore Go.Proofs.Ytjfbjkodjjlkiaa.Plain Go.Proofs.Ytjfbjkodjjlkiaa.GTab Go.Proofs.Ytjfbjkodjjlkiaa.HBytes
attribute [local go_sem] run_store_flt

def TrimPost (w : World) (P : Nat → Prop) (y : S26) (e : Ending) (w' : World) : Prop :=
  Below w.heap.size w w' ∧ ∃ A5 c5 A6 c6, e = .returned (agg26 y A5 c5 A6 c6) ∧ KV w' (fun k => P k ∨ w.heap.size ≤ k) y A5 c5 A6 c6
def TrimC (n : Nat) : Prop := ∀ (x : S26) (A5 : Option Addr) (c5 : Nat) (A6 : Option Addr) (c6 : Nat) (P : Nat → Prop) (w : World), x.f0 = 7 → Rt n x → cnt n x ≤ 2000 → KV w P x A5 c5 A6 c6 → (∀ k, P k → k < w.heap.size) → Calls Try.prog 15 #[agg26 x A5 c5 A6 c6] w (TrimPost w P (trim n x))
/-- A round before the two appends: the value in its box. -/
structure T9 (w : World) (P : Nat → Prop) (x : S26) (A5 : Option Addr) (c5 : Nat) (A6 : Option Addr) (c6 : Nat) (ks : List ByteArray) (ys : List S26) (raws : List Value) (vA vB : Value) (b : Nat) (y : S26) (B5 : Option Addr) (d5 : Nat) (B6 : Option Addr) (d6 : Nat) (W : World) : Prop where
  ts : TS w P x A5 c5 A6 c6 ks ys raws vA vB W
  at_ : W.heap[b]? = some (.cells #[.int .i64 y.f0, .bool y.f1, .int .i64 y.f2, .float .f64 y.f3, .string y.f4, .slice B5 y.f5.length d5, .slice B6 y.f6.length d6] 26 (0, 0))
  kv : KV W (fun k => (P k ∨ w.heap.size + 3 ≤ k) ∧ vA.ownBlock ≠ some k ∧ vB.ownBlock ≠ some k) y B5 d5 B6 d6
  low : w.heap.size + 3 ≤ b
  na : vA.ownBlock ≠ some b
  nb : vB.ownBlock ≠ some b
/-- Behind the append of the key. -/
structure MidA (w : World) (P : Nat → Prop) (x : S26) (A5 : Option Addr) (c5 : Nat) (A6 : Option Addr) (c6 : Nat) (ks : List ByteArray) (ys : List S26) (raws : List Value) (vA vB : Value) (b : Nat) (y : S26) (B5 : Option Addr) (d5 : Nat) (B6 : Option Addr) (d6 : Nat) (wc : World) (t : ByteArray) (g cap : Nat) (W4 : World) : Prop where
  t9 : T9 w P x A5 c5 A6 c6 ks ys raws vA vB b y B5 d5 B6 d6 wc
  fr : ∀ i, i < wc.heap.size → vA.ownBlock ≠ some i → W4.heap[i]? = wc.heap[i]?
  sz : wc.heap.size ≤ W4.heap.size
  os : W4.os = wc.os
  tape : W4.tape = wc.tape
  output : W4.output = wc.output
  ra : W4.ownsRow (w.heap.size + 3) 9 1 (.slice (some ⟨g, 0, none⟩) (ks.length + 1) cap) (ks.length + 1) (ks.map Value.string ++ [.string t])
  pa : vA.ownBlock = some g ∨ wc.heap.size ≤ g
section
variable {w : World} {P : Nat → Prop} {x : S26} {A5 A6 : Option Addr} {c5 c6 : Nat} {ks : List ByteArray} {ys : List S26} {raws : List Value} {vA vB : Value} {b : Nat} {y : S26} {B5 B6 : Option Addr} {d5 d6 : Nat} {wc Wc W4 W2 : World} {t : ByteArray} {g cap p : Nat}
theorem T9.later (h : T9 w P x A5 c5 A6 c6 ks ys raws vA vB b y B5 d5 B6 d6 wc) (hb : Below wc.heap.size wc W2) : T9 w P x A5 c5 A6 c6 ks ys raws vA vB b y B5 d5 B6 d6 W2 :=
  ⟨h.ts.later hb, blk_below h.at_ hb, h.kv.below hb, h.low, h.na, h.nb⟩
theorem MidA.low (h : MidA w P x A5 c5 A6 c6 ks ys raws vA vB b y B5 d5 B6 d6 wc t g cap W4) (i : Nat) (hi : i < w.heap.size + 3) : W4.heap[i]? = wc.heap[i]? :=
  h.fr i (by have := h.t9.ts.lt; omega) fun e => by have := (row_own h.t9.ts.ra i e).1; omega
theorem MidA.b2 (h : MidA w P x A5 c5 A6 c6 ks ys raws vA vB b y B5 d5 B6 d6 wc t g cap W4) : W4.heap[w.heap.size + 2]? = some (.cells #[.int .i64 7, .bool false, .int .i64 0, .float .f64 0, .string ⟨#[]⟩, vA, vB] 26 (0, 0)) := (h.low _ (by omega)).trans h.t9.ts.b2
theorem MidA.at_ (h : MidA w P x A5 c5 A6 c6 ks ys raws vA vB b y B5 d5 B6 d6 wc t g cap W4) : W4.heap[b]? = some (.cells #[.int .i64 y.f0, .bool y.f1, .int .i64 y.f2, .float .f64 y.f3, .string y.f4, .slice B5 y.f5.length d5, .slice B6 y.f6.length d6] 26 (0, 0)) := (h.fr b (blk_lt h.t9.at_) h.t9.na).trans h.t9.at_
theorem MidA.rb (h : MidA w P x A5 c5 A6 c6 ks ys raws vA vB b y B5 d5 B6 d6 wc t g cap W4) : W4.ownsRow (w.heap.size + 3) 26 7 vB ys.length raws := row_move h.t9.ts.rb fun k hk => h.fr k (row_own h.t9.ts.rb k hk).2 fun e => h.t9.ts.ne k e hk
theorem MidA.later (h : MidA w P x A5 c5 A6 c6 ks ys raws vA vB b y B5 d5 B6 d6 wc t g cap W4) (hb : Below W4.heap.size W4 W2) : MidA w P x A5 c5 A6 c6 ks ys raws vA vB b y B5 d5 B6 d6 wc t g cap W2 :=
  ⟨h.t9, fun i hi hn => (hb.block i (Nat.lt_of_lt_of_le hi h.sz)).trans (h.fr i hi hn), Nat.le_trans h.sz hb.size, hb.os.trans h.os, hb.tape.trans h.tape, hb.output.trans h.output, row_move h.ra fun k hk => hb.block k (row_own h.ra k hk).2, h.pa⟩
theorem stepA (HT : T9 w P x A5 c5 A6 c6 ks ys raws vA vB b y B5 d5 B6 d6 wc) (hw : Below wc.heap.size wc Wc) (hp : Wc.heap[p]? = some (.cells #[.string t] 9 (0, 0))) (LL : ks.length ≤ 2000)
    {ops : Array Oper} {o : Oper} {a : Act} {K : Act → World → Prop} {Q : Exit → Act → World → Prop} {E : Prop} (hgd : o.guard = none) (ho : o.op = .call { callee := .builtin .append, args := #[.tmp 29, .tmp 31], argTypes := #[23, 23] }) (hs : a.eval (.tmp 29) = vA) (hx : a.eval (.tmp 31) = .slice (some ⟨p, 0, none⟩) 1 1)
    (h : ∀ g cap W4, MidA w P x A5 c5 A6 c6 ks ys raws vA vB b y B5 d5 B6 d6 wc t g cap W4 → Wc.grownBy W4 vA.ownBlock → K (a.put o.dst (.slice (some ⟨g, 0, none⟩) (ks.length + 1) cap)) W4) :
    if Region.wanted o (yielded ops a.tmps) = true then Oper.wp Try.prog o a Wc K Q else E := by
  obtain ⟨i0, hi, hz0, hz1, hz2⟩ := info_parts info9s
  refine step_append_lies Wc hgd _ _ 23 ho (w.heap.size + 3) 9 i0 _ 1 16 Try.underlying23 hi hz0 hz1 hz2 rfl (by decide) vA ks.length (ks.map Value.string) hs (row_move HT.ts.ra fun k hk => hw.block k (row_own HT.ts.ra k hk).2) ⟨p, 0, none⟩ 1 1 [.string t] hx rfl (World.news_of_block hp) (fun u hu => by cases List.mem_singleton.1 hu; rfl) (by decide) (by unfold maxLen; omega) (by omega) (by have := HT.ts.lt; have := hw.size; omega) _ rfl fun g cap W4 hr hg hat hlt => h g cap W4 ?_ hg
  exact ⟨HT, fun i hi hn => (hg.block i (Nat.lt_of_lt_of_le hi hw.size) (fun e => hn e.symm)).trans (hw.block i hi), Nat.le_trans hw.size hg.size, hg.os.trans hw.os, hg.tape.trans hw.tape, hg.output.trans hw.output, hr, hat.imp id fun e => by rw [e]; exact hw.size⟩
theorem stepB (HP : ∀ k, P k → k < w.heap.size) (HM : MidA w P x A5 c5 A6 c6 ks ys raws vA vB b y B5 d5 B6 d6 wc t g cap Wc) (hp : Wc.heap[p]? = some (.cells #[.int .i64 y.f0, .bool y.f1, .int .i64 y.f2, .float .f64 y.f3, .string y.f4, .slice B5 y.f5.length d5, .slice B6 y.f6.length d6] 26 (0, 0))) (LL : ys.length ≤ 2000)
    {ops : Array Oper} {o : Oper} {a : Act} {K : Act → World → Prop} {Q : Exit → Act → World → Prop} {E : Prop} (hgd : o.guard = none) (ho : o.op = .call { callee := .builtin .append, args := #[.tmp 34, .tmp 36], argTypes := #[24, 24] }) (hs : a.eval (.tmp 34) = vB) (hx : a.eval (.tmp 36) = .slice (some ⟨p, 0, none⟩) 1 1)
    (h : ∀ g2 cap2 W5, TS w P x A5 c5 A6 c6 (ks ++ [t]) (ys ++ [y]) (raws ++ cells26 y B5 d5 B6 d6) (.slice (some ⟨g, 0, none⟩) (ks.length + 1) cap) (.slice (some ⟨g2, 0, none⟩) (ys.length + 1) cap2) ((W5.setCell ⟨w.heap.size + 2, 5, none⟩ (.slice (some ⟨g, 0, none⟩) (ks.length + 1) cap)).setCell ⟨w.heap.size + 2, 6, none⟩ (.slice (some ⟨g2, 0, none⟩) (ys.length + 1) cap2)) →
      W5.heap[w.heap.size + 2]? = some (.cells #[.int .i64 7, .bool false, .int .i64 0, .float .f64 0, .string ⟨#[]⟩, vA, vB] 26 (0, 0)) → W5.heap[b]? = some (.cells #[.int .i64 y.f0, .bool y.f1, .int .i64 y.f2, .float .f64 y.f3, .string y.f4, .slice B5 y.f5.length d5, .slice B6 y.f6.length d6] 26 (0, 0)) → K (a.put o.dst (.slice (some ⟨g2, 0, none⟩) (ys.length + 1) cap2)) W5) :
    if Region.wanted o (yielded ops a.tmps) = true then Oper.wp Try.prog o a Wc K Q else E := by
  obtain ⟨i0, hi, hz0, hz1, hz2⟩ := info_parts info26
  have hlt := HM.t9.ts.lt
  refine step_append_lies Wc hgd _ _ 24 ho (w.heap.size + 3) 26 i0 _ 7 96 Try.underlying24 hi hz0 hz1 hz2 rfl (by decide) vB ys.length raws hs HM.rb ⟨p, 0, none⟩ 1 1 (cells26 y B5 d5 B6 d6) hx rfl (World.news_of_block hp) (fun u hu => by simp at hu; rcases hu with rfl | rfl | rfl | rfl | rfl | rfl | rfl <;> rfl) (by decide) (by unfold maxLen; omega) (by omega) (by have := HM.sz; omega) _ rfl fun g2 cap2 W5 hr hg hat hlt2 => ?_
  have fr : ∀ i, i < wc.heap.size → vA.ownBlock ≠ some i → vB.ownBlock ≠ some i → W5.heap[i]? = wc.heap[i]? := fun i hi ha hb => (hg.block i (Nat.lt_of_lt_of_le hi HM.sz) (fun e => hb e.symm)).trans (HM.fr i hi ha)
  have oB : ∀ i, vB.ownBlock = some i → i < wc.heap.size := fun i e => (row_own HM.t9.ts.rb i e).2
  have hgl := row_own HM.ra g rfl
  have gne : vB.ownBlock ≠ some g := fun e => by
    rcases HM.pa with e2 | e2
    · exact HM.t9.ts.ne g e2 e
    · have := oB g e
      omega
  refine h g2 cap2 W5 (HM.t9.ts.next HP fr (Nat.le_trans HM.sz hg.size) (hg.os.trans HM.os) (hg.tape.trans HM.tape) (hg.output.trans HM.output) (row_move HM.ra fun k hk => ?_) hr (fun k hk => ?_) (fun k hk => ?_) (fun k hk => ?_) HM.t9.kv) ((hg.block _ (by have := HM.sz; omega) (fun e => by have := (row_own HM.t9.ts.rb _ e.symm).1; omega)).trans HM.b2) ((fr b (blk_lt HM.t9.at_) HM.t9.na HM.t9.nb).trans HM.t9.at_)
  · have e : g = k := by simpa [Value.ownBlock] using hk
    subst e
    exact hg.block g hgl.2 (fun e => gne e.symm)
  · have e : g = k := by simpa [Value.ownBlock] using hk
    subst e
    exact HM.pa
  · have e : g2 = k := by simpa [Value.ownBlock] using hk
    subst e
    exact hat.imp id fun e => by rw [e]; exact HM.sz
  · have e : g = k := by simpa [Value.ownBlock] using hk
    subst e
    intro e2
    have e3 : g2 = g := by simpa [Value.ownBlock] using e2
    rcases hat with e4 | e4
    · exact gne (by rw [e4, e3])
    · omega
end
end Go.Proofs.Ytjfbjkodjjlkiaa.HVal
