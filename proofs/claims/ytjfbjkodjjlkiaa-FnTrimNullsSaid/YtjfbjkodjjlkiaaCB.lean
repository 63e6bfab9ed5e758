/- What trimNilValues comes to: the table without its nulls. What trimNilValues comes to: the walk. What impl.TrimNulls and impl.IsTable come to. -/
import Derived.Test.YtjfbjkodjjlkiaaCA
import Derived.Test.YtjfbjkodjjlkiaaHTrim
import Derived.Test.YtjfbjkodjjlkiaaCC
/-! What trimNilValues comes to: the table without its nulls. -/
namespace Go.Proofs.Ytjfbjkodjjlkiaa.HVal
open Go.RowKit Go.WideMaps Go.Maps Go.Proofs.YtjfbjkodjjlkiaaW.PrintWords Go.Proofs.YtjfbjkodjjlkiaaW.PrintLast Go.Proofs.YtjfbjkodjjlkiaaW.PrintMore Go.Proofs.Ytjfbjkodjjlkiaa.Plain Go.Proofs.Ytjfbjkodjjlkiaa.GTab
attribute [local go_sem] run_store_flt

/-! ### plain facts -/
theorem mem_trimL {f : S26 → S26} {p : ByteArray × S26} : ∀ {ks : List ByteArray} {xs : List S26}, p ∈ trimL f ks xs ↔ ∃ (i : Nat) (y : S26), ks[i]? = some p.1 ∧ xs[i]? = some y ∧ p.2 = one f y ∧ p.2.f0 ≠ 0
  | [], _ => ⟨fun h => by simp [trimL] at h, fun ⟨i, y, h, _⟩ => by simp at h⟩
  | _ :: _, [] => ⟨fun h => by simp [trimL] at h, fun ⟨i, y, _, h, _⟩ => by simp at h⟩
  | k :: ks, x :: xs => by
    rw [trimL, List.mem_append, mem_trimL (ks := ks) (xs := xs)]
    constructor
    · rintro (h | ⟨i, y, h1, h2, h3⟩)
      · by_cases e : (one f x).f0 = 0
        · rw [if_pos e] at h
          cases h
        · rw [if_neg e, List.mem_singleton] at h
          subst h
          exact ⟨0, x, rfl, rfl, rfl, e⟩
      · exact ⟨i + 1, y, by simpa using h1, by simpa using h2, h3⟩
    · rintro ⟨i, y, h1, h2, h3, h4⟩
      cases i with
      | zero =>
        simp at h1 h2
        subst h2
        left
        rw [if_neg (by rw [← h3]; exact h4), List.mem_singleton]
        exact Prod.ext h1.symm h3
      | succ i => exact Or.inr ⟨i, y, by simpa using h1, by simpa using h2, h3, h4⟩
theorem trimL_sub {f : S26 → S26} : ∀ (ks : List ByteArray) (xs : List S26), ((trimL f ks xs).map (·.1)).Sublist ks
  | [], _ => by simp [trimL]
  | _ :: _, [] => by simp [trimL]
  | k :: ks, x :: xs => by
    rw [trimL, List.map_append]
    split
    · exact (trimL_sub ks xs).cons _
    · exact (trimL_sub ks xs).cons_cons _
theorem nodup_le {l1 : List ByteArray} : ∀ {l2 : List ByteArray}, l1.Nodup → (∀ a ∈ l1, a ∈ l2) → l1.length ≤ l2.length := by
  induction l1 with
  | nil => intro l2 _ _; exact Nat.zero_le _
  | cons a r ih =>
    intro l2 hn hs
    have ha : a ∈ l2 := hs a List.mem_cons_self
    have h1 := ih (l2 := l2.filter (fun b => decide (b ≠ a))) (List.nodup_cons.1 hn).2 fun b hb => List.mem_filter.2 ⟨hs b (List.mem_cons_of_mem _ hb), decide_eq_true fun e => by subst e; exact (List.nodup_cons.1 hn).1 hb⟩
    have h2 : (l2.filter (fun b => decide (b ≠ a))).length < l2.length := List.length_filter_lt_length_iff_exists.2 ⟨a, ha, by simp⟩
    rw [List.length_cons]
    omega
theorem turned_grown {W W2 : World} {b : Nat} (h : W.mapTurned W2 b) : W.grownBy W2 (some b) := by
  obtain ⟨es, c, es', c', hb, rfl⟩ := h
  exact ⟨rfl, rfl, rfl, by simp [ChangeMaps.setBlock], fun i _ hi => ChangeMaps.heap_setBlock_other hb _ (fun e => hi (by rw [e]))⟩
set_option maxRecDepth 100000 in
/-- A map has no more entries than it has keys. -/
theorem own_tight {W : World} {m n : Nat} {D : DataW Value} {ks : List ByteArray} (h : W.ownsMap Try.prog 9 hR m n D) (hk : ∀ t, Maps.has D (keyS t) = true → t ∈ ks) : W.ownsMap Try.prog 9 hR m ks.length D := by
  have hz : (zeroValue 20).run Try.prog W = .ok .nilIface W := by kernel_rfl
  obtain ⟨es, clock, hb, F, hs, rfl⟩ := h
  refine ⟨es, clock, hb, F, ?_, rfl⟩
  have hstr : ∀ e ∈ es.toList, ∃ t, e.key = .string t ∧ t ∈ ks := fun e he => by
    obtain ⟨y, hy⟩ := F.reads e he
    obtain ⟨t, h1, h2, h3⟩ := keyOf_inv (WideElems.rd_key hy)
    refine ⟨t, h1, hk t ?_⟩
    rcases Maps.fit_look false law9 Try.underlying58 hz hb F (keyS_ok h3) with ⟨_, hno, _⟩ | ⟨e0, y0, _, _, _, _, hat, _⟩
    · exact absurd h1 (hno e he)
    · exact has_true_of_atKey hat
  have hd : es.toList.Pairwise (fun x y => x.key ≠ y.key) := ((MapKept.stamped_iff es clock).1 F.stamped).2.2
  have key : ∀ l : List MapEntry, (∀ e ∈ l, ∃ t, e.key = .string t ∧ t ∈ ks) → l.Pairwise (fun x y => x.key ≠ y.key) → ∃ ts : List ByteArray, ts.length = l.length ∧ ts.Nodup ∧ (∀ t ∈ ts, t ∈ ks) ∧ ∀ t ∈ ts, ∃ e ∈ l, e.key = .string t := by
    intro l
    induction l with
    | nil => intro _ _; exact ⟨[], rfl, List.nodup_nil, fun t h => (nomatch h), fun t h => (nomatch h)⟩
    | cons a r ih =>
      intro h1 h2
      obtain ⟨ts, a1, a2, a3, a4⟩ := ih (fun e he => h1 e (List.mem_cons_of_mem _ he)) (List.pairwise_cons.1 h2).2
      obtain ⟨t, h3, h4⟩ := h1 a List.mem_cons_self
      refine ⟨t :: ts, by simp [a1], List.nodup_cons.2 ⟨fun hm => ?_, a2⟩, fun u hu => ?_, fun u hu => ?_⟩
      · obtain ⟨e, he, hek⟩ := a4 t hm
        exact (List.pairwise_cons.1 h2).1 e he (h3.trans hek.symm)
      · rcases List.mem_cons.1 hu with rfl | hu
        · exact h4
        · exact a3 u hu
      · rcases List.mem_cons.1 hu with rfl | hu
        · exact ⟨a, List.mem_cons_self, h3⟩
        · obtain ⟨e, he, hek⟩ := a4 u hu
          exact ⟨e, List.mem_cons_of_mem _ he, hek⟩
  obtain ⟨ts, h1, h2, h3, _⟩ := key es.toList hstr hd
  have := nodup_le h2 h3
  rw [h1, Array.length_toList] at this
  exact this
/-! ### while the map is gone through -/
def Held (n : Nat) (m r low : Nat) (D : DataW Value) (W : World) (s : ByteArray) (y : S26) : Prop := ∃ v fp, (∀ z, D.atKey (keyS s) z = .held v) ∧ Rep n W v y fp ∧ ∀ k ∈ fp, low ≤ k ∧ k ≠ m ∧ k ≠ r ∧ k < W.heap.size
structure TN (n : Nat) (w : World) (x : S26) (m r : Nat) (left : Lit → Bool) (D : DataW Value) (W : World) : Prop where
  map : IsMap D
  has : ∀ s, Maps.has D (keyS s) = true ↔ ∃ (i : Nat) (y : S26), x.f5[i]? = some s ∧ x.f6[i]? = some y ∧ (left (keyS s) = true ∨ (one (trim n) y).f0 ≠ 0)
  vals : ∀ (i : Nat) (s : ByteArray) (y : S26), x.f5[i]? = some s → x.f6[i]? = some y → (left (keyS s) = true → Held n m r w.heap.size D W s y) ∧ (left (keyS s) = false → (one (trim n) y).f0 ≠ 0 → Held n m r w.heap.size D W s (one (trim n) y))
  sub : ∀ s, left (keyS s) = true → s ∈ x.f5
  below : Below w.heap.size w W
theorem Held.move {n m r low : Nat} {D D2 : DataW Value} {W W2 : World} {s : ByteArray} {y : S26} (h : Held n m r low D W s y) (hd : ∀ z, D2.atKey (keyS s) z = D.atKey (keyS s) z) (hm : ∀ k, k ≠ m → k ≠ r → k < W.heap.size → W2.heap[k]? = W.heap[k]?) (hs : W.heap.size ≤ W2.heap.size) : Held n m r low D2 W2 s y := by
  obtain ⟨v, fp, a, b, c⟩ := h
  exact ⟨v, fp, fun z => (hd z).trans (a z), b.move n fun k hk => hm k (c k hk).2.1 (c k hk).2.2.1 (c k hk).2.2.2, fun k hk => ⟨(c k hk).1, (c k hk).2.1, (c k hk).2.2.1, Nat.lt_of_lt_of_le (c k hk).2.2.2 hs⟩⟩
/-- The world moves on; the map stays. -/
theorem TN.move {n : Nat} {w W W2 : World} {x : S26} {m r : Nat} {left : Lit → Bool} {D : DataW Value} (h : TN n w x m r left D W) (hm : ∀ k, k ≠ m → k ≠ r → k < W.heap.size → W2.heap[k]? = W.heap[k]?) (hs : W.heap.size ≤ W2.heap.size) (hb : Below w.heap.size w W2) : TN n w x m r left D W2 :=
  ⟨h.map, h.has, fun i s y h1 h2 => ⟨fun hl => ((h.vals i s y h1 h2).1 hl).move (fun _ => rfl) hm hs, fun hl h0 => ((h.vals i s y h1 h2).2 hl h0).move (fun _ => rfl) hm hs⟩, h.sub, hb⟩
/-- One entry is done. -/
theorem TN.next {n : Nat} {w W W2 : World} {x : S26} {m r : Nat} {left : Lit → Bool} {D D2 : DataW Value} {s : ByteArray} {i0 : Nat} {y0 : S26} (h : TN n w x m r left D W) (hrs : Rising x.f5) (h5 : x.f5[i0]? = some s) (h6 : x.f6[i0]? = some y0) (hmap : IsMap D2) (ho : ∀ t, t ≠ s → Maps.has D2 (keyS t) = Maps.has D (keyS t) ∧ ∀ z, D2.atKey (keyS t) z = D.atKey (keyS t) z)
    (hself : Maps.has D2 (keyS s) = true ↔ (one (trim n) y0).f0 ≠ 0) (hheld : (one (trim n) y0).f0 ≠ 0 → Held n m r w.heap.size D2 W2 s (one (trim n) y0)) (hm : ∀ k, k ≠ m → k ≠ r → k < W.heap.size → W2.heap[k]? = W.heap[k]?) (hs : W.heap.size ≤ W2.heap.size) (hb : Below w.heap.size w W2) :
    TN n w x m r (fun z => left z && !z.sameKey (keyS s)) D2 W2 := by
  have uni : ∀ (i : Nat) (y : S26), x.f5[i]? = some s → x.f6[i]? = some y → y = y0 := fun i y h1 h2 => by
    have e : i0 = i := (List.getElem?_inj (List.getElem?_eq_some_iff.1 h5).1 (rising_nodup hrs)).1 (h5.trans h1.symm)
    subst e
    exact Option.some.inj (h2.symm.trans h6)
  refine ⟨hmap, fun t => ?_, fun i t y h1 h2 => ?_, fun t ht => h.sub t (Bool.and_eq_true _ _ ▸ ht).1, hb⟩
  · by_cases e : t = s
    · subst e
      rw [hself, same_yes]
      constructor
      · intro h0
        exact ⟨i0, y0, h5, h6, Or.inr h0⟩
      · rintro ⟨i, y, h1, h2, h3⟩
        rw [uni i y h1 h2] at h3
        simpa using h3
    · rw [(ho t e).1, h.has, same_no e]
      simp
  · by_cases e : t = s
    · subst e
      rw [same_yes, uni i y h1 h2]
      exact ⟨fun hl => by simp at hl, fun _ h0 => hheld h0⟩
    · rw [same_no e]
      exact ⟨fun hl => ((h.vals i t y h1 h2).1 (by simpa using hl)).move (ho t e).2 hm hs, fun hl h0 => ((h.vals i t y h1 h2).2 (by simpa using hl) h0).move (ho t e).2 hm hs⟩
/-- All are done: the map stands for the table without its nulls. -/
theorem TN.done {n N : Nat} {w W : World} {x : S26} {m r : Nat} {left : Lit → Bool} {D : DataW Value} (h : TN n w x m r left D W) (hrs : Rising x.f5) (h0 : ∀ kl, left kl = false) (ho : W.ownsMap Try.prog 9 hR m N D) : ∃ ps, Rep (n + 1) W (.iface 58 (.map (some m))) (trim (n + 1) x) (m :: ps) ∧ ∀ k ∈ ps, w.heap.size ≤ k ∧ k < W.heap.size := by
  obtain ⟨L, hL⟩ : ∃ L, trimL (trim n) x.f5 x.f6 = L := ⟨_, rfl⟩
  have hmem := fun p => mem_trimL (f := trim n) (p := p) (ks := x.f5) (xs := x.f6)
  rw [hL] at hmem
  have hnd : (L.map (·.1)).Nodup := by rw [← hL]; exact (trimL_sub (f := trim n) x.f5 x.f6).nodup (rising_nodup hrs)
  have hhas : ∀ t, Maps.has D (keyS t) = true ↔ t ∈ L.map (·.1) := fun t => by
    rw [h.has, List.mem_map]
    constructor
    · rintro ⟨i, y, h1, h2, h3⟩
      rw [h0] at h3
      exact ⟨(t, one (trim n) y), (hmem _).2 ⟨i, y, h1, h2, rfl, h3.resolve_left (fun e => by cases e)⟩, rfl⟩
    · rintro ⟨p, hp, rfl⟩
      obtain ⟨i, y, h1, h2, h3, h4⟩ := (hmem p).1 hp
      exact ⟨i, y, h1, h2, Or.inr (by rw [← h3]; exact h4)⟩
  obtain ⟨vs, ps, ha, hk⟩ := choose3 (Q := fun v' y p => Rep n W v' y p ∧ ∀ k ∈ p, w.heap.size ≤ k ∧ k < W.heap.size) (L.map (·.2)) (fun j v' => ∀ s, (L.map (·.1))[j]? = some s → ∀ z, D.atKey (keyS s) z = .held v') (fun j hj => by
    have hj' : j < L.length := by simpa using hj
    obtain ⟨i, y, h1, h2, h3, h4⟩ := (hmem L[j]).1 (List.getElem_mem hj')
    obtain ⟨v, fp, a, b, c⟩ := (h.vals i L[j].1 y h1 h2).2 (h0 _) (by rw [← h3]; exact h4)
    refine ⟨v, fp, fun s hs => ?_, ?_, fun k hk => ⟨(c k hk).1, (c k hk).2.2.2⟩⟩
    · rw [List.getElem?_map, List.getElem?_eq_getElem hj'] at hs
      cases hs
      exact a
    · rw [List.getElem_map, h3]
      exact b)
  obtain ⟨ha1, hf⟩ := all3_flat ha
  have hl := ha1.len.1
  have hll : (L.map (·.1)).length = vs.length := by rw [hl, List.length_map, List.length_map]
  have ht : trim (n + 1) x = { z26 with f0 := 7, f5 := L.map (·.1), f6 := L.map (·.2) } := by rw [← hL]; rfl
  refine ⟨ps.flatten, ?_, hf⟩
  rw [ht]
  refine Rep.mk (.inr (.inr (.inr (.inr (.inr (.inr ⟨rfl, m, vs, ps, rfl, by simp, ⟨D, ?_, h.map, fun s => ?_⟩, ha1, rfl⟩))))))
  · have := own_tight ho (fun t ht => (hhas t).1 ht)
    rw [List.length_zip, ← hll, Nat.min_self]
    exact this
  · constructor
    · by_cases hm : s ∈ L.map (·.1)
      · obtain ⟨i, hi⟩ := List.getElem?_of_mem hm
        have hi5 := (List.getElem?_eq_some_iff.1 hi).1
        rw [(hhas s).2 hm, lk_at hnd i hi (List.getElem?_eq_getElem (by omega : i < vs.length))]
        rfl
      · have e : Maps.has D (keyS s) = false := by
          cases hb : Maps.has D (keyS s) with
          | false => rfl
          | true => exact absurd ((hhas s).1 hb) hm
        rw [e, lk_none hm]
        rfl
    · intro v hv z
      obtain ⟨i, h1, h2⟩ := look_get hv
      exact hk i v h2 s h1 z
end Go.Proofs.Ytjfbjkodjjlkiaa.HVal
/-! What trimNilValues comes to: the walk. -/
namespace Go.Proofs.Ytjfbjkodjjlkiaa.HVal
open Go.RowKit Go.WideMaps Go.Maps Go.Proofs.YtjfbjkodjjlkiaaW.PrintWords Go.Proofs.YtjfbjkodjjlkiaaW.PrintLast Go.Proofs.YtjfbjkodjjlkiaaW.PrintMore Go.Proofs.Ytjfbjkodjjlkiaa.Plain Go.Proofs.Ytjfbjkodjjlkiaa.GTab
attribute [local go_sem] run_store_flt

def TrimNC (n : Nat) : Prop := ∀ (x : S26) (b : Nat) (fp : List Nat) (w : World), Rep (n + 1) w (.iface 58 (.map (some b))) x fp → Rt (n + 1) x → Sm (n + 1) x → cnt (n + 1) x ≤ 2000 → (∀ k ∈ fp, k < w.heap.size) →
  Calls Try.prog 74 #[.map (some b)] w fun e w' => Below w.heap.size w w' ∧ ∃ m fp', e = .returned (.map (some m)) ∧ Rep (n + 1) w' (.iface 58 (.map (some m))) (trim (n + 1) x) fp' ∧ ∀ k ∈ fp', w.heap.size ≤ k ∧ k < w'.heap.size
theorem nil_eq (w : World) : (binOp .eql 20 .nilIface .nilIface).run Try.prog w = .ok (.bool true) w := by kernel_rfl
theorem nil_ne (t : TypeId) (u : Value) (w : World) : (binOp .eql 20 (.iface t u) .nilIface).run Try.prog w = .ok (.bool false) w := by kernel_rfl
theorem as58_sure (m : Option Nat) (w : World) : (Instr.typeAssert (.iface 58 (.map m)) 20 58 false).run Try.prog w = .ok (.map m) w := by kernel_rfl
theorem rep_map {n : Nat} {w : World} {b : Nat} {x : S26} {fp : List Nat} (h : Rep (n + 1) w (.iface 58 (.map (some b))) x fp) : ∃ vs fps, x.f0 = 7 ∧ x.f5.length = x.f6.length ∧ MapAt w b (x.f5.zip vs) ∧ All3 (Rep n w) vs x.f6 fps ∧ fp = b :: fps.flatten := by
  unfold Rep at h
  rcases h with ⟨_, e, _⟩ | ⟨_, e, _⟩ | ⟨_, e, _⟩ | ⟨_, e, _⟩ | ⟨_, e, _⟩ | ⟨_, _, _, _, e, _⟩ | ⟨h0, b', vs, fps, e, hl, hm, ha, hf⟩
  all_goals cases e
  exact ⟨vs, fps, h0, hl, hm, ha, hf⟩
theorem TN.start {n : Nat} {w w1 w0 : World} {x : S26} {m : Nat} {vs : List Value} {fps : List (List Nat)} {D : DataW Value} (hrs : Rising x.f5) (hl : x.f5.length = x.f6.length) (hall : All3 (Rep n w1) vs x.f6 fps) (him : IsMap D) (hdl : ∀ s, Maps.has D (keyS s) = (look (x.f5.zip vs) s).isSome ∧ ∀ v, look (x.f5.zip vs) s = some v → ∀ z, D.atKey (keyS s) z = .held v)
    (hm : w.heap.size ≤ m) (hf : ∀ k ∈ fps.flatten, m < k ∧ k < w1.heap.size) (hb : Below w.heap.size w w1) (hg : w1.grownBy w0 none) : TN n w x m w1.heap.size (Maps.has D) D w0 := by
  have hvl := hall.len.1
  have at_ : ∀ (i : Nat) (s : ByteArray) (y : S26), x.f5[i]? = some s → x.f6[i]? = some y → ∃ v, look (x.f5.zip vs) s = some v ∧ ∃ fp, fp ∈ fps ∧ Rep n w1 v y fp := fun i s y h1 h2 => by
    obtain ⟨hi6, rfl⟩ := List.getElem?_eq_some_iff.1 h2
    obtain ⟨fp, hfp, hr⟩ := hall.get i (by omega) hi6
    exact ⟨vs[i], lk_at (rising_nodup hrs) i h1 (List.getElem?_eq_getElem (by omega)), fp, hfp, hr⟩
  refine ⟨him, fun s => ⟨fun h => ?_, fun ⟨i, y, h1, h2, _⟩ => ?_⟩, fun i s y h1 h2 => ⟨fun _ => ?_, fun h0 => ?_⟩, fun s h => ?_, hb.trans ⟨hg.os, hg.tape, hg.output, hg.size, fun k hk => hg.block k (Nat.lt_of_lt_of_le hk hb.size) (by simp)⟩⟩
  · have h' := h
    rw [(hdl s).1] at h'
    obtain ⟨v, hv⟩ := Option.isSome_iff_exists.1 h'
    obtain ⟨i, h1, h2⟩ := look_get hv
    have hi := (List.getElem?_eq_some_iff.1 h1).1
    exact ⟨i, x.f6[i]'(by omega), h1, List.getElem?_eq_getElem (by omega), Or.inl h⟩
  · obtain ⟨v, hv, _⟩ := at_ i s y h1 h2
    rw [(hdl s).1, hv]
    rfl
  · obtain ⟨v, hv, fp, hfp, hr⟩ := at_ i s y h1 h2
    refine ⟨v, fp, (hdl s).2 v hv, hr.move n fun k hk => hg.block k (hf k (List.mem_flatten.2 ⟨fp, hfp, hk⟩)).2 (by simp), fun k hk => ?_⟩
    have h3 := hf k (List.mem_flatten.2 ⟨fp, hfp, hk⟩)
    have h4 := hg.size
    exact ⟨by omega, by omega, by omega, by omega⟩
  · exfalso
    obtain ⟨v, hv, _⟩ := at_ i s y h1 h2
    rw [(hdl s).1, hv] at h0
    cases h0
  · rw [(hdl s).1] at h
    obtain ⟨v, hv⟩ := Option.isSome_iff_exists.1 h
    obtain ⟨i, h1, _⟩ := look_get hv
    exact List.mem_of_getElem? h1
/-- The entry that has come. -/
theorem TN.entry {n : Nat} {w W : World} {x : S26} {m r : Nat} {left : Lit → Bool} {D : DataW Value} {s : ByteArray} {v : Value} (h : TN n w x m r left D W) (hl : x.f5.length = x.f6.length) (hs : left (keyS s) = true) (hat : ∀ z, D.atKey (keyS s) z = .held v) :
    ∃ (i : Nat) (y : S26) (fp : List Nat), x.f5[i]? = some s ∧ x.f6[i]? = some y ∧ y ∈ x.f6 ∧ (∃ j, ∃ hj : j < x.f6.length, x.f6[j] = y) ∧ Rep n W v y fp ∧ ∀ k ∈ fp, w.heap.size ≤ k ∧ k ≠ m ∧ k ≠ r ∧ k < W.heap.size := by
  obtain ⟨i, hi⟩ := List.getElem?_of_mem (h.sub s hs)
  have hi5 := (List.getElem?_eq_some_iff.1 hi).1
  have hi6 : i < x.f6.length := by omega
  obtain ⟨v', fp, a, b, c⟩ := (h.vals i s x.f6[i] hi (List.getElem?_eq_getElem hi6)).1 hs
  have e : v = v' := by
    have h1 := a .nil
    rw [hat] at h1
    cases h1
    rfl
  subst e
  exact ⟨i, x.f6[i], fp, hi, List.getElem?_eq_getElem hi6, List.getElem_mem hi6, ⟨i, hi6, rfl⟩, b, c⟩
theorem tn_put {n : Nat} {w W w5 W4 : World} {x : S26} {m r N cn : Nat} {left left2 : Lit → Bool} {D : DataW Value} {s : ByteArray} {i0 : Nat} {y0 : S26} {m2 : Nat} {fp2 : List Nat} (h : TN (n + 1) w x m r left D W) (hrs : Rising x.f5) (h5 : x.f5[i0]? = some s) (h6 : x.f6[i0]? = some y0) (ho : one (trim (n + 1)) y0 = trim (n + 1) y0) (hwm : w.heap.size ≤ m)
    (hrg : W.ranges Try.prog 9 hR m r N D left2 cn) (hb : Below W.heap.size W w5) (hg : w5.grownBy W4 (some m)) (hrep : Rep (n + 1) w5 (.iface 58 (.map (some m2))) (trim (n + 1) y0) fp2) (hf : ∀ k ∈ fp2, W.heap.size ≤ k ∧ k < w5.heap.size) :
    TN (n + 1) w x m r (fun z => left z && !z.sameKey (keyS s)) (D.put (keyS s) (.held (.iface 58 (.map (some m2))))) W4 := by
  have hml := hrg.owns.lt
  have hrl := hrg.lt
  have h7 : (one (trim (n + 1)) y0).f0 ≠ 0 := by rw [ho]; show (7 : Int) ≠ 0; decide
  have ws : w.heap.size ≤ W.heap.size := h.below.size
  refine h.next hrs h5 h6 (h.map.put _ _) (fun t e => ⟨has_put_other (fun e2 => e (keyS_inj e2)) _, fun z => atKey_put_other (fun e2 => e (keyS_inj e2)) _ z⟩) ⟨fun _ => h7, fun _ => has_put_same h.map (show WideAt.IsKeyLit (keyS s) from trivial) _⟩ (fun _ => ?_) (fun k h2 _ h3 => (hg.block k (Nat.lt_of_lt_of_le h3 hb.size) (fun e => h2 (Option.some.inj e))).trans (hb.block k h3)) (Nat.le_trans hb.size hg.size) (below_grown (below_step h.below hb) hg hwm)
  rw [ho]
  refine ⟨_, fp2, fun z => atKey_put_same h.map (show WideAt.IsKeyLit (keyS s) from trivial) _ z, hrep.move _ fun k hk => hg.block k (hf k hk).2 (fun e => by have := (hf k hk).1; have := Option.some.inj e; omega), fun k hk => ?_⟩
  have h1 := hf k hk
  have h2 := hg.size
  exact ⟨by omega, by omega, by omega, by omega⟩
set_option maxRecDepth 100000 in
set_option maxHeartbeats 4000000 in
theorem trimnil_step (n : Nat) (ih : ∀ n', n = n' + 1 → TrimNC n') : TrimNC n := fun x b fp w hrep hr hsm hc hlt => by
  obtain ⟨vs, fps, h7, hl, hm, hall, rfl⟩ := rep_map hrep
  have hkr := rt_kids hr
  have hrs := rt_rises hr h7
  have hs2 := hsm
  unfold Sm at hs2
  have HCM := Aside0.mk (copy_map n (copy_of n) x b vs fps w h7 hl hm hall hrs hkr hs2.1 hs2.2 hc hlt)
  have HR := Aside0.mk hkr
  have HSM := Aside0.mk hs2.2
  have HC := Aside0.mk hc
  have HRS := Aside0.mk hrs
  have HL := Aside0.mk hl
  have HLL := Aside0.mk (show x.f6.length ≤ 2000 by have := len_le hkr; unfold cnt at hc; omega)
  have IH := Aside0.mk ih
  have e1 := nil_eq
  have e2 := nil_ne
  have e3 := as58_sure
  clear ih hrep hr hsm hc hlt h7 hl hm hall hkr hrs hs2
  go_enter Try.func74, Try.ntmps74
  go_wp2_with (first
    | (go_at_call 92; go_must (refine HCM.out.mono ?_; rintro e w1 ⟨hb, m, vs', ps, rfl, hrep, hwm, hps, _, _⟩; obtain ⟨vs1, fps1, _, _, hm1, hall1, hpe⟩ := rep_map hrep; obtain ⟨D, hown, him, hdl⟩ := hm1; have hps2 : ps = fps1.flatten := (List.cons.inj hpe).2; subst hps2; have HO := Aside0.mk hown; have HTN := Aside0.mk (fun w0 (hg : w1.grownBy w0 none) => TN.start HRS.out HL.out hall1 him hdl hwm hps hb hg); have HZ := Aside0.mk (show (x.f5.zip vs1).length ≤ x.f5.length by rw [List.length_zip]; omega); have HWM := Aside0.mk hwm; have HML := Aside0.mk hown.lt; clear hb hrep hwm hps hall1 hpe hown him hdl HCM))
    | (at_range; go_must (refine wpList_range_own _ rfl _ 58 rfl 9 20 law9 Try.underlying58 hR m _ D rfl HO.out ?_; intro w0 hrg0 hg0 hs0)))
  go_frame
  have HT0 := Aside0.mk (HTN.out _ hg0)
  have HRG := Aside0.mk hrg0
  clear hrg0 hg0 hs0 HTN
  obtain ⟨N, hN⟩ : ∃ N, (x.f5.zip vs1).length = N := ⟨_, rfl⟩
  rw [hN] at HRG HZ
  clear hN HO
  obtain ⟨r, hr⟩ : ∃ r, w1.heap.size = r := ⟨_, rfl⟩
  rw [hr] at HT0 HRG HML ⊢
  have HWR := Aside0.mk (show w.heap.size ≤ r by have := HWM.out; have := HML.out; omega)
  clear hr
  go_loopw [4, 5] (fun _k _v wr => ∃ (left : Lit → Bool) (cn : Nat) (D' : DataW Value), Aside0 (wr.ranges Try.prog 9 hR m r N D' left cn) ∧ Aside0 (TN n w x m r left D' wr)) (fun _ _ wr => wr.rangeLeft m r)
  case atStart => exact ⟨_, _, _, HRG, HT0⟩
  case round =>
    obtain ⟨left, cn, D', HG, HI⟩ := hrel
    clear HRG HT0
    go_wp2_with (at_next; go_must (refine wpList_next_ranges _ rfl _ rfl 9 law9 hR (fun s : ByteArray => Value.string s) (fun v => v) (fun key kl hk => by obtain ⟨s, h, _⟩ := keyOf_inv hk; exact ⟨s, h⟩) (fun v y _ => ⟨v, rfl⟩) m r _ _ _ _ rfl HG.out ?_ ?_))
    · intro hc0 hl0
      have HL0 := Aside0.mk hl0
      clear hc0 hl0
      go_wp2
      go_ret
      obtain ⟨ps, h1, h2⟩ := HI.out.done HRS.out HL0.out HG.out.owns
      exact ⟨HI.out.below, m, _, rfl, h1, fun k hk => by
        rcases List.mem_cons.1 hk with rfl | hk
        · exact ⟨HWM.out, HG.out.owns.lt⟩
        · exact h2 k hk⟩
    · intro s v kl yd yp w3 cnt1 hkey hleft hRv hat hrg1 hcl hg1 hs1 hen
      obtain ⟨s', e1, e2, hsz⟩ := keyOf_inv hkey
      cases e1
      subst e2
      simp only [hR, Option.some.injEq, Prod.mk.injEq] at hRv
      obtain ⟨rfl, rfl⟩ := hRv
      have hfr : ∀ k, k ≠ m → k ≠ r → k < wr.heap.size → w3.heap[k]? = wr.heap[k]? := fun k _ h2 h3 => hg1.block k h3 (fun e => h2 (Option.some.inj e))
      have hbe : Below w.heap.size w w3 := below_grown HI.out.below hg1 HWR.out
      have HI1 := Aside0.mk (HI.out.move hfr hg1.size hbe)
      obtain ⟨i0, y0, fp0, h5, h6, hy, ⟨jj, hj, hje⟩, hrep, hfp⟩ := HI1.out.entry HL.out hleft hat
      have HRG1 := Aside0.mk hrg1
      have HCL := Aside0.mk hcl
      have HSS := Aside0.mk hsz
      have HLF := Aside0.mk hleft
      have H5 := Aside0.mk h5
      have H6 := Aside0.mk h6
      have HREP := Aside0.mk hrep
      have HFP := Aside0.mk hfp
      have HRY := Aside0.mk (HR.out y0 hy)
      have HSY := Aside0.mk (HSM.out y0 hy)
      have HCY := Aside0.mk (show cnt n y0 ≤ 2000 by have h := sum_le n x.f6 jj hj; rw [hje] at h; have := HC.out; unfold HVal.cnt at this; omega)
      have HHAS := Aside0.mk (has_true_of_atKey hat)
      have HAT := Aside0.mk hat
      have VF := hrep.form
      have VK := hrep.kind
      clear hkey hleft hat hrg1 hcl hg1 hs1 hsz hfr hbe h5 h6 hy hj hje hrep hfp HI
      by_cases h0 : y0.f0 = 0
      · have hv : v = .nilIface := by
          rcases VK with ⟨_, e⟩ | ⟨a, _⟩ | ⟨a, _⟩ | ⟨a, _⟩ | ⟨a, _⟩ | ⟨a, _⟩ | ⟨a, _⟩
          · exact e
          all_goals omega
        subst hv
        have HO := Aside0.mk (show (one (trim n) y0).f0 = 0 by unfold one; rw [if_neg (by omega)]; exact h0)
        clear VF VK h0
        go_wp2_with (at_delete; refine wpList_delete_ranges _ rfl _ _ 58 9 rfl 20 law9 Try.underlying58 hR m r _ _ _ _ rfl HRG1.out _ _ rfl (keyS_ok HSS.out) ?_; intro W4 cnt2 hrg2 hle hturn; rw [Maps.strike_twice] at hrg2; have hg4 := turned_grown hturn; have HRG2 := Aside0.mk hrg2; have HLE := Aside0.mk hle; have HN := Aside0.mk (HI1.out.next (W2 := W4) (D2 := D'.del (keyS s)) HRS.out H5.out H6.out (HI1.out.map.del _) (fun t e => ⟨has_del_other (fun e2 => e (keyS_inj e2)), fun z => atKey_del_other (fun e2 => e (keyS_inj e2)) z⟩) (by rw [has_del_same, HO.out]; simp) (fun h => absurd HO.out h) (fun k h2 _ h3 => hg4.block k h3 (fun e => h2 (Option.some.inj e))) hg4.size (below_grown HI1.out.below hg4 HWM.out)); clear hrg2 hle hturn hg4)
        go_roundw
        case rel => exact ⟨_, _, _, _, _, _, _, _, _, _, _, _, _, _, _, _, _, _, _, ⟨_, cnt2, _, HRG2, HN⟩, rfl⟩
        case measure => rw [HRG2.out.left_eq, HG.out.left_eq]; exact Nat.lt_of_le_of_lt HLE.out HCL.out
      · obtain ⟨vt, vu, rfl⟩ : ∃ vt vu, v = .iface vt vu := by
          rcases VF with rfl | h
          · rcases VK with ⟨a, _⟩ | ⟨_, e⟩ | ⟨_, e⟩ | ⟨_, e⟩ | ⟨_, e⟩ | ⟨_, _, e⟩ | ⟨_, _, e⟩
            · exact absurd a h0
            all_goals cases e
          · exact h
        by_cases h7 : y0.f0 = 7
        · obtain ⟨b2, hb2⟩ : ∃ b2, Value.iface vt vu = .iface 58 (.map (some b2)) := by
            rcases VK with ⟨a, _⟩ | ⟨a, _⟩ | ⟨a, _⟩ | ⟨a, _⟩ | ⟨a, _⟩ | ⟨a, _⟩ | ⟨_, b2, e⟩
            · omega
            · omega
            · omega
            · omega
            · omega
            · omega
            · exact ⟨b2, e⟩
          cases hb2
          obtain ⟨n', rfl⟩ : ∃ n', n = n' + 1 := by
            cases n with
            | zero => exact HREP.out.elim
            | succ n' => exact ⟨n', rfl⟩
          have HO := Aside0.mk (show one (trim (n' + 1)) y0 = trim (n' + 1) y0 by unfold one; rw [if_pos h7])
          have H7 := Aside0.mk (decide_eq_true h7)
          have HCA := Aside0.mk (IH.out n' rfl y0 b2 fp0 w3 HREP.out HRY.out HSY.out HCY.out (fun k hk => (HFP.out k hk).2.2.2))
          have HNM := Aside0.mk (show N < maxLen by have := HZ.out; have := HL.out; have := HLL.out; unfold maxLen; omega)
          clear VF VK h0 h7
          go_wp2_with (first
            | (go_at_call 75; go_must (refine (istable_calls HREP.out).mono ?_; rintro e w4 ⟨rfl, rfl⟩; rw [H7.out]))
            | (go_at_call 74; go_must (refine HCA.out.mono ?_; rintro e w5 ⟨hb, m2, fp2, rfl, hrep2, hf2⟩; have hr5 := ranges_same HRG1.out (hb.block m HRG1.out.owns.lt) (hb.block r HRG1.out.lt); obtain ⟨W4, hrun, hrg4, hg4⟩ := ranges_put hr5 (.iface 58 (.map (some m2))) HSS.out HNM.out HHAS.out; have HRG2 := Aside0.mk hrg4; have HN := Aside0.mk (tn_put HI1.out HRS.out H5.out H6.out HO.out HWM.out HRG1.out hb hg4 hrep2 hf2); clear hb hrep2 hf2 hr5 hrg4 hg4)))
          go_roundw
          case rel => exact ⟨_, cnt1, _, HRG2, HN⟩
          case measure => rw [HRG2.out.left_eq, HG.out.left_eq]; exact HCL.out
        · have HO := Aside0.mk (show one (trim n) y0 = y0 by unfold one; rw [if_neg h7])
          have H7 := Aside0.mk (decide_eq_false h7)
          have HN := Aside0.mk (HI1.out.next (W2 := w3) (D2 := D') HRS.out H5.out H6.out HI1.out.map (fun t _ => ⟨rfl, fun _ => rfl⟩) (by rw [HHAS.out, HO.out]; simp [h0]) (fun _ => by rw [HO.out]; exact ⟨_, fp0, HAT.out, HREP.out, HFP.out⟩) (fun _ _ _ _ => rfl) (Nat.le_refl _) HI1.out.below)
          clear VF VK h0 h7
          go_wp2_with (go_at_call 75; go_must (refine (istable_calls HREP.out).mono ?_; rintro e w4 ⟨rfl, rfl⟩; rw [H7.out]))
          go_roundw
          case rel => exact ⟨_, cnt1, _, HRG1, HN⟩
          case measure => rw [HRG1.out.left_eq, HG.out.left_eq]; exact HCL.out
theorem trimnil_of : ∀ n, TrimNC n
  | 0 => trimnil_step 0 fun n' h => by omega
  | n + 1 => trimnil_step (n + 1) fun n' h => by
    have e : n' = n := by omega
    subst e
    exact trimnil_of n'
set_option maxHeartbeats 4000000 in
theorem zztrim_calls (n : Nat) (x : S26) (b : Nat) (fp : List Nat) (w : World) (hrep : Rep (n + 1) w (.iface 58 (.map (some b))) x fp) (hr : Rt (n + 1) x) (hsm : Sm (n + 1) x) (hc : cnt (n + 1) x ≤ 2000) (hlt : ∀ k ∈ fp, k < w.heap.size) :
    Calls Try.prog 47 #[.map (some b)] w fun e w' => Below w.heap.size w w' ∧ ∃ m fp', e = .returned (.map (some m)) ∧ Rep (n + 1) w' (.iface 58 (.map (some m))) (trim (n + 1) x) fp' ∧ ∀ k ∈ fp', w.heap.size ≤ k ∧ k < w'.heap.size := by
  have HC := Aside0.mk (trimnil_of n x b fp w hrep hr hsm hc hlt)
  clear hrep hr hsm hc hlt
  go_enter Try.func47, Try.ntmps47
  go_wp2_with (go_at_call 74; go_must (refine HC.out.mono ?_; rintro e w1 ⟨hb, m, fp', rfl, hrep, hf⟩; have HB := Aside0.mk hb; have HR := Aside0.mk hrep; have HF := Aside0.mk hf; clear hb hrep hf))
  go_ret
  exact ⟨HB.out, m, fp', rfl, HR.out, HF.out⟩
end Go.Proofs.Ytjfbjkodjjlkiaa.HVal
/-! What impl.TrimNulls and impl.IsTable come to. -/
namespace Go.Proofs.Ytjfbjkodjjlkiaa.HVal
open Go.RowKit Go.WideMaps Go.Maps Go.Proofs.YtjfbjkodjjlkiaaW.PrintWords Go.Proofs.YtjfbjkodjjlkiaaW.PrintLast Go.Proofs.YtjfbjkodjjlkiaaW.PrintMore Go.Proofs.Ytjfbjkodjjlkiaa.Plain Go.Proofs.Ytjfbjkodjjlkiaa.GTab
attribute [local go_sem] run_store_flt

/-! ### plain facts -/
theorem rt_trim : ∀ {n : Nat} {x : S26}, Rt n x → x.f0 = 7 → Rt n (trim n x)
  | 0, _, h, _ => h.elim
  | n + 1, x, h, h7 => by
    have hk := rt_kids h
    have hr := rt_rises h h7
    refine rt_table rfl ?_ ?_ fun z hz => ?_
    · exact List.Pairwise.sublist (trimL_sub (f := trim n) x.f5 x.f6) hr
    · show (List.map _ _).length = (List.map _ _).length
      rw [List.length_map, List.length_map]
    · obtain ⟨p, hp, rfl⟩ := List.mem_map.1 hz
      obtain ⟨i, y, _, h2, h3, _⟩ := mem_trimL.1 hp
      have hy : y ∈ x.f6 := List.mem_of_getElem? h2
      rw [h3]
      unfold one
      split
      · rename_i h70
        exact rt_trim (hk y hy) h70
      · exact hk y hy
theorem sm_trim : ∀ {n : Nat} {x : S26}, Sm n x → Sm n (trim n x)
  | 0, _, h => h
  | n + 1, x, h => by
    unfold Sm at h ⊢
    refine ⟨fun s hs => ?_, fun z hz => ?_⟩
    · exact h.1 s ((trimL_sub (f := trim n) x.f5 x.f6).subset hs)
    · obtain ⟨p, hp, rfl⟩ := List.mem_map.1 hz
      obtain ⟨i, y, _, h2, h3, _⟩ := mem_trimL.1 hp
      have hy : y ∈ x.f6 := List.mem_of_getElem? h2
      rw [h3]
      unfold one
      split
      · exact sm_trim (h.2 y hy)
      · exact h.2 y hy
theorem cnt_trimL {n : Nat} {f : S26 → S26} : ∀ (ks : List ByteArray) (xs : List S26), (∀ y ∈ xs, cnt n (one f y) ≤ cnt n y) → (((trimL f ks xs).map (·.2)).map (cnt n)).sum ≤ (xs.map (cnt n)).sum
  | [], _, _ => by simp [trimL]
  | _ :: _, [], _ => by simp [trimL]
  | k :: ks, x :: xs, h => by
    have h1 := cnt_trimL ks xs fun y hy => h y (List.mem_cons_of_mem _ hy)
    have h2 := h x List.mem_cons_self
    rw [trimL, List.map_append, List.map_append, List.sum_append, List.map_cons, List.sum_cons]
    split
    · simp only [List.map_nil, List.sum_nil]
      omega
    · simp only [List.map_cons, List.map_nil, List.sum_cons, List.sum_nil]
      omega
theorem cnt_trim : ∀ (n : Nat) (x : S26), cnt n (trim n x) ≤ cnt n x
  | 0, _ => Nat.le_refl _
  | n + 1, x => by
    have h := cnt_trimL (n := n) (f := trim n) x.f5 x.f6 fun y _ => by
      unfold one
      split
      · exact cnt_trim n y
      · exact Nat.le_refl _
    show 1 + (((trimL (trim n) x.f5 x.f6).map (·.2)).map (cnt n)).sum ≤ 1 + (x.f6.map (cnt n)).sum
    omega
/-! ### impl.IsTable -/
set_option maxHeartbeats 4000000 in
theorem zistab_calls {n : Nat} {w0 w : World} {v : Value} {y : S26} {fp : List Nat} (h : Rep n w0 v y fp) : Calls Try.prog 49 #[v] w fun e w' => e = .returned (.bool (decide (y.f0 = 7))) ∧ w' = w := by
  have HC := Aside0.mk (fun W : World => istable_calls (w := W) h)
  clear h
  go_enter Try.func49, Try.ntmps49
  go_wp2_with (go_at_call 75; go_must (refine (HC.out _).mono ?_; rintro e w1 ⟨rfl, rfl⟩))
  go_ret
  exact ⟨rfl, rfl⟩
set_option maxHeartbeats 4000000 in
theorem istab_calls (n : Nat) (x : S26) (A5 : Option Addr) (c5 : Nat) (A6 : Option Addr) (c6 : Nat) (P : Nat → Prop) (w : World) (hr : Rt n x) (hsm : Sm n x) (hv : KV w P x A5 c5 A6 c6) (hP : ∀ k, P k → k < w.heap.size) (hn : n ≤ 61) (hc : cnt n x ≤ 2000) :
    Calls Try.prog 16 #[agg26 x A5 c5 A6 c6] w (SamePost w (decide (x.f0 = 7))) := by
  have RT := Aside0.mk hr
  have SM := Aside0.mk hsm
  have HV := Aside0.mk hv
  have HP := Aside0.mk hP
  have HC := Aside0.mk hc
  clear hr hsm hv hP hc
  go_enter Try.func16, Try.ntmps16
  go_wp2_with fail
  go_at_call 48
  refine (any_of n x A5 c5 A6 c6 P 0 0 (w.heap.size + 1) _ RT.out SM.out ?_ ?_ (by omega) (by omega) (by omega) ?_ ?_).mono ?_
  · exact HV.out.below (below_alloc (below_alloc (Below.refl _ _) _) _)
  · intro k hk
    have := HP.out k hk
    simp only [World.size_alloc]
    omega
  · have := HC.out
    omega
  · have := blk_new (w.alloc (.cells #[.int .i64 x.f0, .bool x.f1, .int .i64 x.f2, .float .f64 x.f3, .string x.f4, .slice A5 x.f5.length c5, .slice A6 x.f6.length c6] 26)) (.cells #[.int .i64 0] 3)
    simpa using this
  rintro e W2 ⟨val, fp, rfl, hr, hn, hnew, hctr, hgr⟩
  have HB := Aside0.mk (below_grown (below_alloc (below_alloc (Below.refl _ w) _) _) hgr (Nat.le_succ _))
  have HR := Aside0.mk hr
  clear hr hn hnew hctr hgr
  go_wp2_with (go_at_call 49; go_must (refine (zistab_calls HR.out).mono ?_; rintro e w3 ⟨rfl, rfl⟩))
  go_ret
  exact ⟨rfl, HB.out⟩
/-! ### impl.TrimNulls -/
theorem catch44 (p1 p2 : Value) (w : World) : CallsD Try.prog 44 #[p1, p2] .returning w fun e u' w' => e = .returned (.tuple #[]) ∧ u' = .returning ∧ w' = w := by
  refine callsD_of_wpS Try.func44 rfl fun c₀ cs hu => ?_
  apply wpS_seq
  apply wpS_region
  simp [wpOpsS, go_sem, recoverD, hu, Try.ntmps44, Exit.thenS]
  refine wpS_cond (t := false) (by simp [Act.eval, Array.replicate]) ?_
  simp only [Bool.false_eq_true, if_false]
  refine wpS_of_wp (wp_skip ?_)
  cases c₀
  simp_all [bodyPostS, results, Try.results44]
set_option maxHeartbeats 4000000 in
theorem tni_calls (x : S26) (A5 : Option Addr) (c5 : Nat) (A6 : Option Addr) (c6 : Nat) (P : Nat → Prop) (w : World) (h7 : x.f0 = 7) (hr : Rt 50 x) (hsm : Sm 50 x) (hv : KV w P x A5 c5 A6 c6) (hP : ∀ k, P k → k < w.heap.size) (hc : cnt 50 x ≤ 300) :
    Calls Try.prog 13 #[agg26 x A5 c5 A6 c6] w (OkPost w (canon 50 (trim 50 x))) := by
  have hmf : ∀ (fn : Fn) (first cap : Array Value) (w : World), (Instr.makeFunc fn first cap).run Try.prog w = .ok (.func fn first cap) w := fun _ _ _ _ => rfl
  have H7 := Aside0.mk h7
  have RT := Aside0.mk hr
  have SM := Aside0.mk hsm
  have HV := Aside0.mk hv
  have HP := Aside0.mk hP
  have HC := Aside0.mk hc
  have RTN := Aside0.mk (rt_trim hr h7)
  have SMN := Aside0.mk (sm_trim hsm)
  have CN := Aside0.mk (show cnt 50 (trim 50 x) ≤ 2000 from Nat.le_trans (cnt_trim 50 x) (Nat.le_trans hc (by decide)))
  clear h7 hr hsm hv hP hc
  go_enter_defers Try.func13, Try.ntmps13
  have HR0 := Aside0.mk (Res.start w #[.int .i64 x.f0, .bool x.f1, .int .i64 x.f2, .float .f64 x.f3, .string x.f4, .slice A5 x.f5.length c5, .slice A6 x.f6.length c6])
  go_wp2_with (first
    | (go_at_call 45; go_must (
        refine (table_tvn 50 (by decide) x A5 c5 A6 c6 P _ H7.out RT.out SM.out (HV.out.below HR0.out.below) (fun k hk => Nat.lt_of_lt_of_le (HP.out k hk) HR0.out.below.size) (Nat.le_trans HC.out (by decide))).mono ?_
        rintro e w2 ⟨b, rfl, ⟨fp, t1, t2, t3, t4, t5⟩, hb⟩
        have HR2 := Aside0.mk (HR0.out.later hb)
        have HT := Aside0.mk (zztrim_calls 49 x b fp w2 t1 t2 t3 t4 t5)
        clear t1 t2 t3 t4 t5 hb))
    | (go_at_call 47; go_must (
        refine HT.out.mono ?_
        rintro e w3 ⟨hb, m, fp', rfl, hrp, hfp⟩
        have HR3 := Aside0.mk (HR2.out.later hb)
        have HRP := Aside0.mk hrp
        have HFP := Aside0.mk hfp
        clear hb hrp hfp))
    | (go_at_call 46; go_must (
        refine (val_of 50 (trim 50 x) _ fp' w3 HRP.out RTN.out SMN.out CN.out (fun k hk => (HFP.out k hk).2)).mono ?_
        intro e w4 hvp
        obtain ⟨B5, d5, B6, d6, Q, rfl, hv4, hQ, hb4⟩ := Val26.of hvp
        have HR4 := Aside0.mk (HR3.out.later hb4)
        have HV4 := Aside0.mk hv4
        have HQ := Aside0.mk hQ
        obtain ⟨⟨c0, c1, c2, c3, c4, c5', c6', c7⟩, f0, f1, f2, f3, f4, f5, f6, f7⟩ := HR4.out.cells
        clear hvp hv4 hQ hb4)))
  obtain ⟨z, hz⟩ : ∃ z, canon 50 (trim 50 x) = z := ⟨_, rfl⟩
  rw [hz] at HV4 ⊢
  have HF := Aside0.mk (finV_all HR4.out (Nat.le_succ _) HV4.out (fun k hk => by
    have h1 := HQ.out k hk
    have h2 := blk_lt HR3.out.b2
    omega) 0)
  obtain ⟨W5, hW5⟩ : ∃ W5, finV w4 (w.heap.size + 1) z B5 d5 B6 d6 0 = W5 := ⟨_, rfl⟩
  rw [hW5] at HF
  unfold finV fin26 at hW5
  rw [hW5]
  clear hW5
  refine leaves_cons (f := 44) (args := #[.pointer (some ⟨w.heap.size + 1, 0, none⟩), .pointer (some ⟨w.heap.size + 1 + 1, 0, none⟩)]) (by simp) (by simp [go_sem]) ?_
  refine (catch44 _ _ _).mono ?_
  rintro e u' w5 ⟨rfl, rfl, rfl⟩
  obtain ⟨g0, g1, g2, g3, g4, g5, g6, g7⟩ := HF.out.cells
  simp [Leaves, settle, results, Try.results13, go_sem, g0, g1, g2, g3, g4, g5, g6, g7]
  exact OkPost.of HF.out.below HF.out.val
end Go.Proofs.Ytjfbjkodjjlkiaa.HVal
