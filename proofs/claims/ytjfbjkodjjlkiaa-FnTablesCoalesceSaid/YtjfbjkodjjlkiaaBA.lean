/- Values of the packages as they lie in memory (interfaces, lists, maps), against the plain values of the thin package. A plain value that is read, with the blocks that it leads to: its parts, its elements. What impl.anyOf comes to: a plain value that can be given, as the packages have it. What impl.anyOf comes to for a list. What impl.anyOf comes to for a table, and for all values that can be given. What impl.anyOf comes to, for all values that can be given. What impl.table comes to. What impl.valueOf comes to: single values. -/
import Derived.Test.YtjfbjkodjjlkiaaGTabx1
import Derived.Test.YtjfbjkodjjlkiaaPlain
import Derived.Deep.LoopGhost
import Derived.Maps.OwnOps
import Derived.Maps.OwnSet
import Derived.Maps.RangeWalk
import Derived.Maps.Views
import Derived.Maps.Ext
import Derived.Laws.OwnMore
import Derived.OwnWalk
import Derived.WalkKit
import Derived.WalkSpells
import Derived.WalkLawsBesides
/-! Values of the packages as they lie in memory (interfaces, lists, maps), against the plain values of the thin package. -/
namespace Go.Proofs.Ytjfbjkodjjlkiaa.HVal
open Go.RowKit Go.WideMaps Go.Maps Go.Proofs.YtjfbjkodjjlkiaaW.PrintWords Go.Proofs.YtjfbjkodjjlkiaaW.PrintLast Go.Proofs.YtjfbjkodjjlkiaaW.PrintMore Go.Proofs.Ytjfbjkodjjlkiaa.Plain Go.Proofs.Ytjfbjkodjjlkiaa.GTab

/-- A float is stored as any value of one cell. -/
theorem run_store_flt {P : Program} {w : World} {a : Addr} {m : Mode} (k : FloatKind) (b : Nat) : (store a (.float k b) m).run P w = stored P w a (.float k b) m := run_store P w a _ m rfl
theorem heap26 : Kd.Heap k26 := Kd.heap_fix (fun _ h => Kd.heap_iso _ (Kd.heap_pair (Kd.heap_int _) (Kd.heap_pair Kd.heap_bool (Kd.heap_pair (Kd.heap_int _) (Kd.heap_pair Kd.heap_flt (Kd.heap_pair Kd.heap_string (Kd.heap_pair (Kd.heap_slice 9 Kd.heap_string) (Kd.heap_slice 26 h))))))))

/-! ### maps whose entries are told as the values that lie there -/
def keyS (s : ByteArray) : Lit := .string s.data.toList
theorem keyS_inj {a b : ByteArray} (h : keyS a = keyS b) : a = b := by
  have h1 : a.data.toList = b.data.toList := by simpa [keyS] using h
  exact ByteArray.ext (Array.toList_inj.1 h1)
theorem keyS_ok {s : ByteArray} (h : s.size ≤ maxLen) : keyOf Try.prog 9 (.string s) = some (keyS s) := keyOf_string_mk Try.underlying9 h
theorem law9 : Keyed Try.prog 9 := string_keyed Try.underlying9
def hR (v : Value) : Option (DataW Value × List MemPlace) := some (.held v, [])
theorem hR_inv {v v' : Value} {ps : List MemPlace} (h : hR v = some (.held v', ps)) : v = v' := by simp [hR] at h; exact h.1
theorem keyOf_inv {key : Value} {kl : Lit} (h : keyOf Try.prog 9 key = some kl) : ∃ s : ByteArray, key = .string s ∧ kl = keyS s ∧ s.size ≤ maxLen := by
  cases key <;> simp [keyOf, mapKey, Try.underlying9] at h
  obtain ⟨h1, rfl⟩ := h
  exact ⟨_, rfl, rfl, h1⟩
def look : List (ByteArray × Value) → ByteArray → Option Value
  | [], _ => none
  | (k, v) :: r, s => if k = s then some v else look r s
theorem look_snoc : ∀ (kv : List (ByteArray × Value)) (k : ByteArray) (v : Value) (s : ByteArray), look kv k = none → look (kv ++ [(k, v)]) s = if k = s then some v else look kv s
  | [], k, v, s, _ => rfl
  | (k', v') :: r, k, v, s, h => by
    simp only [look] at h
    split at h
    · cases h
    · rename_i hne
      simp only [List.cons_append, look]
      rw [look_snoc r k v s h]
      by_cases e : k' = s
      · subst e
        rw [if_pos rfl, if_pos rfl, if_neg (Ne.symm hne)]
      · rw [if_neg e, if_neg e]
/-- Block b is a map of just these entries. -/
def MapAt (w : World) (b : Nat) (kv : List (ByteArray × Value)) : Prop := ∃ D, w.ownsMap Try.prog 9 hR b kv.length D ∧ IsMap D ∧ ∀ s, Maps.has D (keyS s) = (look kv s).isSome ∧ ∀ v, look kv s = some v → ∀ z, D.atKey (keyS s) z = .held v
theorem MapAt.made (w : World) : MapAt (w.alloc (.map #[] 0)) w.heap.size [] := ⟨.map [], World.ownsMap_made _ _ _ _, isMap_empty, fun s => ⟨rfl, fun v h => by cases h⟩⟩
theorem MapAt.same {w w' : World} {b : Nat} {kv : List (ByteArray × Value)} (h : MapAt w b kv) (hb : w'.heap[b]? = w.heap[b]?) : MapAt w' b kv := by
  obtain ⟨D, ⟨es, clock, hh, F, hs, hD⟩, r⟩ := h
  exact ⟨D, ⟨es, clock, hb.trans hh, F, hs, hD⟩, r⟩
theorem MapAt.lt {w : World} {b : Nat} {kv : List (ByteArray × Value)} (h : MapAt w b kv) : b < w.heap.size := by
  obtain ⟨D, ho, _⟩ := h
  exact ho.lt
theorem MapAt.snoc {w : World} {b : Nat} {kv : List (ByteArray × Value)} {D : DataW Value} (hm : IsMap D) (h : ∀ s, Maps.has D (keyS s) = (look kv s).isSome ∧ ∀ v, look kv s = some v → ∀ z, D.atKey (keyS s) z = .held v) {k : ByteArray} {v : Value} (hk : look kv k = none)
    (ho : w.ownsMap Try.prog 9 hR b (kv.length + 1) (D.put (keyS k) (.held v))) : MapAt w b (kv ++ [(k, v)]) := by
  refine ⟨_, by rw [List.length_append]; exact ho, hm.put _ _, fun s => ?_⟩
  rw [look_snoc kv k v s hk]
  by_cases e : k = s
  · subst e
    have hl : WideAt.IsKeyLit (keyS k) := trivial
    rw [has_put_same hm hl, if_pos rfl]
    refine ⟨rfl, fun v' h' z => ?_⟩
    cases h'
    exact atKey_put_same hm hl _ _
  · have hne : keyS s ≠ keyS k := fun h => e (keyS_inj h).symm
    rw [has_put_other hne, if_neg e]
    refine ⟨(h s).1, fun v' h' z => ?_⟩
    rw [atKey_put_other hne]
    exact (h s).2 v' h' z

/-! ### three lists side by side -/
inductive All3 (R : Value → S26 → List Nat → Prop) : List Value → List S26 → List (List Nat) → Prop
  | nil : All3 R [] [] []
  | cons {v x p vs xs ps} : R v x p → All3 R vs xs ps → All3 R (v :: vs) (x :: xs) (p :: ps)
theorem All3.len {R : Value → S26 → List Nat → Prop} {vs : List Value} {xs : List S26} {ps : List (List Nat)} (h : All3 R vs xs ps) : vs.length = xs.length ∧ ps.length = xs.length := by
  induction h with
  | nil => exact ⟨rfl, rfl⟩
  | cons _ _ ih => exact ⟨by simp [ih.1], by simp [ih.2]⟩
theorem All3.snoc {R : Value → S26 → List Nat → Prop} {vs : List Value} {xs : List S26} {ps : List (List Nat)} (h : All3 R vs xs ps) {v : Value} {x : S26} {p : List Nat} (hv : R v x p) : All3 R (vs ++ [v]) (xs ++ [x]) (ps ++ [p]) := by
  induction h with
  | nil => exact .cons hv .nil
  | cons a _ ih => exact .cons a ih
theorem All3.imp {R R' : Value → S26 → List Nat → Prop} {vs : List Value} {xs : List S26} {ps : List (List Nat)} (h : All3 R vs xs ps) (hi : ∀ v x p, p ∈ ps → R v x p → R' v x p) : All3 R' vs xs ps := by
  induction h with
  | nil => exact .nil
  | cons a _ ih => exact .cons (hi _ _ _ List.mem_cons_self a) (ih fun v x p hp => hi v x p (List.mem_cons_of_mem _ hp))

/-! ### how a value lies -/
def Rep : Nat → World → Value → S26 → List Nat → Prop
  | 0, _, _, _, _ => False
  | n + 1, w, v, x, fp =>
    (x.f0 = 0 ∧ v = .nilIface ∧ fp = []) ∨ (x.f0 = 1 ∧ v = .iface 4 (.bool x.f1) ∧ fp = []) ∨ (x.f0 = 2 ∧ v = .iface 2 (.int .i64 x.f2) ∧ fp = []) ∨
    (x.f0 = 4 ∧ v = .iface 22 (.float .f64 x.f3) ∧ fp = []) ∨ (x.f0 = 5 ∧ v = .iface 9 (.string x.f4) ∧ fp = []) ∨
    (x.f0 = 6 ∧ ∃ vs fps s, v = .iface 85 s ∧ w.ownsRow 0 20 1 s vs.length vs ∧ All3 (Rep n w) vs x.f6 fps ∧ fp = s.ownBlock.toList ++ fps.flatten) ∨
    (x.f0 = 7 ∧ ∃ b vs fps, v = .iface 58 (.map (some b)) ∧ x.f5.length = x.f6.length ∧ MapAt w b (x.f5.zip vs) ∧ All3 (Rep n w) vs x.f6 fps ∧ fp = b :: fps.flatten)
theorem Rep.mk {n : Nat} {w : World} {v : Value} {x : S26} {fp : List Nat} (h : (x.f0 = 0 ∧ v = .nilIface ∧ fp = []) ∨ (x.f0 = 1 ∧ v = .iface 4 (.bool x.f1) ∧ fp = []) ∨ (x.f0 = 2 ∧ v = .iface 2 (.int .i64 x.f2) ∧ fp = []) ∨
    (x.f0 = 4 ∧ v = .iface 22 (.float .f64 x.f3) ∧ fp = []) ∨ (x.f0 = 5 ∧ v = .iface 9 (.string x.f4) ∧ fp = []) ∨
    (x.f0 = 6 ∧ ∃ vs fps s, v = .iface 85 s ∧ w.ownsRow 0 20 1 s vs.length vs ∧ All3 (Rep n w) vs x.f6 fps ∧ fp = s.ownBlock.toList ++ fps.flatten) ∨
    (x.f0 = 7 ∧ ∃ b vs fps, v = .iface 58 (.map (some b)) ∧ x.f5.length = x.f6.length ∧ MapAt w b (x.f5.zip vs) ∧ All3 (Rep n w) vs x.f6 fps ∧ fp = b :: fps.flatten)) : Rep (n + 1) w v x fp := by
  unfold Rep
  exact h
theorem own_at {w w' : World} {base n : Nat} {e : TypeId} {size : Nat} {v : Value} {xs : List Value} (h : w.ownsRow base e size v n xs) (hb : ∀ k ∈ v.ownBlock.toList, w'.heap[k]? = w.heap[k]?) : w'.ownsRow base e size v n xs :=
  own_move h fun k hk => hb k (by rw [hk]; simp)
theorem Rep.move : ∀ (n : Nat) {w w' : World} {v : Value} {x : S26} {fp : List Nat}, Rep n w v x fp → (∀ k ∈ fp, w'.heap[k]? = w.heap[k]?) → Rep n w' v x fp
  | 0, _, _, _, _, _, h, _ => h
  | n + 1, w, w', v, x, fp, h, hb => by
    unfold Rep at h ⊢
    rcases h with h | h | h | h | h | ⟨h0, vs, fps, s, hv, ho, ha, rfl⟩ | ⟨h0, b, vs, fps, hv, hl, hm, ha, rfl⟩
    · exact .inl h
    · exact .inr (.inl h)
    · exact .inr (.inr (.inl h))
    · exact .inr (.inr (.inr (.inl h)))
    · exact .inr (.inr (.inr (.inr (.inl h))))
    · refine .inr (.inr (.inr (.inr (.inr (.inl ⟨h0, vs, fps, s, hv, own_at ho (fun k hk => hb k (List.mem_append_left _ hk)), ha.imp fun v x p hp hr => Rep.move n hr fun k hk => hb k (List.mem_append_right _ (List.mem_flatten.2 ⟨p, hp, hk⟩)), rfl⟩)))))
    · refine .inr (.inr (.inr (.inr (.inr (.inr ⟨h0, b, vs, fps, hv, hl, hm.same (hb b List.mem_cons_self), ha.imp fun v x p hp hr => Rep.move n hr fun k hk => hb k (List.mem_cons_of_mem _ (List.mem_flatten.2 ⟨p, hp, hk⟩)), rfl⟩)))))

/-! ### values that can be given -/
/-- A number that is equal to itself: it is none of those that are no numbers. -/
def fin (x : Nat) : Bool := FloatKind.f64.format.order x x == some .eq
def Rising (l : List ByteArray) : Prop := l.Pairwise fun a b => Op.bytesLess a.toList b.toList = true
def Rt : Nat → S26 → Prop
  | 0, _ => False
  | n + 1, x => ((x.f0 = 0 ∨ x.f0 = 1 ∨ x.f0 = 2 ∨ x.f0 = 5) ∧ x.f5 = [] ∧ x.f6 = []) ∨ (x.f0 = 4 ∧ fin x.f3 = true ∧ x.f5 = [] ∧ x.f6 = []) ∨ (x.f0 = 6 ∧ x.f5 = [] ∧ ∀ y ∈ x.f6, Rt n y) ∨ (x.f0 = 7 ∧ Rising x.f5 ∧ x.f5.length = x.f6.length ∧ ∀ y ∈ x.f6, Rt n y)
def cnt : Nat → S26 → Nat
  | 0, _ => 0
  | n + 1, x => 1 + (x.f6.map (cnt n)).sum

end Go.Proofs.Ytjfbjkodjjlkiaa.HVal
/-! A plain value that is read, with the blocks that it leads to: its parts, its elements. -/
namespace Go.Proofs.Ytjfbjkodjjlkiaa.HVal
open Go.RowKit Go.WideMaps Go.Maps Go.Proofs.YtjfbjkodjjlkiaaW.PrintWords Go.Proofs.YtjfbjkodjjlkiaaW.PrintLast Go.Proofs.YtjfbjkodjjlkiaaW.PrintMore Go.Proofs.Ytjfbjkodjjlkiaa.Plain Go.Proofs.Ytjfbjkodjjlkiaa.GTab

/-- The world without a block. -/
def gone (W : World) (b : Nat) : World := { W with heap := W.heap.setIfInBounds b (.map #[] 0) }
theorem gone_other (W : World) {b k : Nat} (h : k ≠ b) : (gone W b).heap[k]? = W.heap[k]? := by
  simp only [gone, Array.getElem?_setIfInBounds]
  rw [if_neg (Ne.symm h)]
theorem gone_cell (W : World) {a : Addr} (h : a.block < W.heap.size) : (gone W a.block).cell? a = none := by
  have : (gone W a.block).heap[a.block]? = some (.map #[] 0) := by
    simp only [gone, Array.getElem?_setIfInBounds]
    rw [if_pos trivial, if_pos h]
  simp [World.cell?, this]
variable {α : Type} {d : Kd α} {W : World} {P : Nat → Prop} {A : Option Addr} {n : Nat} {xs : List α}
theorem add_block (a : Addr) (k : Nat) : (a.add k).block = a.block := by unfold Addr.add; split <;> rfl
/-- A row's own block is among those that its reading leads to. -/
theorem F_block {ad : Addr} (h : Kd.F d W P (some ad) n xs) (hd : 0 < d.sz) (hn : 0 < n) : P ad.block ∧ ad.block < W.heap.size := by
  have h0 := Kd.F_now h
  obtain ⟨x, hx⟩ : ∃ x, x ∈ xs := by
    cases xs with
    | nil => have := h0.1; simp at this; omega
    | cons x r => exact ⟨x, List.mem_cons_self⟩
  obtain ⟨ad1, c, e1, hl, _, hc⟩ := Kd.C_get h0 x 0 (by omega) (by omega)
  injection e1 with e1
  subst e1
  have hl' : 0 < c.length := by omega
  have c0 := hc 0 c[0] (by simp [hl'])
  have hb : (ad.add ((0 : Int).toNat * d.sz + 0)).block = ad.block := add_block _ _
  have hlt : ad.block < W.heap.size := by have := World.block_lt_of_cell? W _ c0; rwa [hb] at this
  refine ⟨Classical.byContradiction fun hp => ?_, hlt⟩
  have h1 := h (gone W ad.block) fun k hk _ => gone_other W (fun e => hp (e ▸ hk))
  obtain ⟨ad2, c', e2, hl2, _, hc2⟩ := Kd.C_get h1 x 0 (by omega) (by omega)
  injection e2 with e2
  subst e2
  have hl2' : 0 < c'.length := by omega
  have c1 := hc2 0 c'[0] (by simp [hl2'])
  have hn : (gone W ad.block).cell? (ad.add ((0 : Int).toNat * d.sz + 0)) = none := by
    have := gone_cell W (a := ad.add ((0 : Int).toNat * d.sz + 0)) (by rw [hb]; exact hlt)
    rwa [hb] at this
  rw [hn] at c1
  cases c1

/-- An element, with the blocks that the row leads to. -/
theorem F_get (h : Kd.F d W P A n xs) (hd : 0 < d.sz) (z : α) (i : Nat) (hi : i < n) : ∃ ad c, A = some ad ∧ c.length = d.sz ∧ Kd.FK d W P (xs.getD i z) c ∧ ∀ j u, c[j]? = some u → W.cell? (ad.add (i * d.sz + j)) = some u := by
  obtain ⟨ad, c, rfl, hl, hk, hc⟩ := Kd.C_get (Kd.F_now h) z i (by omega) (by omega)
  refine ⟨ad, c, rfl, hl, fun W' hW => ?_, by simpa using hc⟩
  obtain ⟨ad2, c2, e2, hl2, hk2, hc2⟩ := Kd.C_get (h W' hW) z i (by omega) (by omega)
  injection e2 with e2
  subst e2
  obtain ⟨hp, hlt⟩ := F_block h hd (by omega)
  have e : c2 = c := by
    apply List.ext_getElem?
    intro j
    by_cases hj : j < d.sz
    · have a1 := hc j _ (List.getElem?_eq_getElem (by omega))
      have a2 := hc2 j _ (List.getElem?_eq_getElem (by omega))
      have hb : (ad.add ((i : Int).toNat * d.sz + j)).block = ad.block := add_block _ _
      have hs : W'.cell? (ad.add ((i : Int).toNat * d.sz + j)) = W.cell? (ad.add ((i : Int).toNat * d.sz + j)) := World.cell?_of_block (by rw [hb]; exact hW _ hp hlt)
      rw [hs, a1] at a2
      rw [List.getElem?_eq_getElem (by omega), List.getElem?_eq_getElem (by omega)]
      exact congrArg some (Option.some.inj a2).symm
    · rw [List.getElem?_eq_none (by omega), List.getElem?_eq_none (by omega)]
  rw [← e]
  simpa using hk2

abbrev cells26 (x : S26) (A5 : Option Addr) (c5 : Nat) (A6 : Option Addr) (c6 : Nat) : List Value := [.int .i64 x.f0, .bool x.f1, .int .i64 x.f2, .float .f64 x.f3, .string x.f4, .slice A5 x.f5.length c5, .slice A6 x.f6.length c6]
abbrev agg26 (x : S26) (A5 : Option Addr) (c5 : Nat) (A6 : Option Addr) (c6 : Nat) : Value := .agg #[.int .i64 x.f0, .bool x.f1, .int .i64 x.f2, .float .f64 x.f3, .string x.f4, .slice A5 x.f5.length c5, .slice A6 x.f6.length c6]
/-- A plain value read: its two lists. -/
structure KV (w : World) (P : Nat → Prop) (x : S26) (A5 : Option Addr) (c5 : Nat) (A6 : Option Addr) (c6 : Nat) : Prop where
  l5 : x.f5.length ≤ c5
  g5 : Kd.F Kd.string w P A5 x.f5.length x.f5
  l6 : x.f6.length ≤ c6
  g6 : Kd.F k26 w P A6 x.f6.length x.f6
theorem kv_of {w : World} {x : S26} {cs : List Value} (h : Kd.FK k26 w P x cs) : ∃ A5 c5 A6 c6, cs = cells26 x A5 c5 A6 c6 ∧ KV w P x A5 c5 A6 c6 := by
  obtain ⟨A5, c5, A6, c6, rfl, l5, g5, l6, g6⟩ := k26_open (Kd.FK_now h)
  have key : ∀ W', (∀ k, P k → k < w.heap.size → W'.heap[k]? = w.heap[k]?) → Kd.string.C W' A5 x.f5.length x.f5 ∧ k26.C W' A6 x.f6.length x.f6 := fun W' hW => by
    obtain ⟨B5, d5, B6, d6, e, _, h5, _, h6⟩ := k26_open (h W' hW)
    simp only [List.cons.injEq, Value.slice.injEq, and_true, true_and] at e
    obtain ⟨⟨rfl, _⟩, rfl, _⟩ := e
    exact ⟨h5, h6⟩
  exact ⟨A5, c5, A6, c6, rfl, l5, fun W' hW => (key W' hW).1, l6, fun W' hW => (key W' hW).2⟩
theorem KV.fk {w : World} {x : S26} {A5 A6 : Option Addr} {c5 c6 : Nat} (h : KV w P x A5 c5 A6 c6) : Kd.FK k26 w P x (cells26 x A5 c5 A6 c6) := fun W' hW => k26_mk W' x h.l5 (h.g5 W' hW) h.l6 (h.g6 W' hW)
theorem KV.step {w w1 : World} {x : S26} {A5 A6 : Option Addr} {c5 c6 : Nat} (h : KV w P x A5 c5 A6 c6) (hm : ∀ k, P k → k < w.heap.size → w1.heap[k]? = w.heap[k]?) : KV w1 P x A5 c5 A6 c6 := ⟨h.l5, Kd.F_step h.g5 hm, h.l6, Kd.F_step h.g6 hm⟩
theorem KV.below {w w1 : World} {x : S26} {A5 A6 : Option Addr} {c5 c6 : Nat} (h : KV w P x A5 c5 A6 c6) (hb : Below w.heap.size w w1) : KV w1 P x A5 c5 A6 c6 := h.step fun k _ hlt => hb.block k hlt
theorem KV.grown {w w1 : World} {x : S26} {A5 A6 : Option Addr} {c5 c6 : Nat} {g : Nat} (h : KV w P x A5 c5 A6 c6) (hg : w.grownBy w1 (some g)) (hP : ∀ k, P k → k ≠ g) : KV w1 P x A5 c5 A6 c6 := h.step fun k hk hlt => hg.block k hlt (by simpa using hP k hk)
theorem KV.mono {w : World} {x : S26} {A5 A6 : Option Addr} {c5 c6 : Nat} {P' : Nat → Prop} (h : KV w P x A5 c5 A6 c6) (hp : ∀ k, P k → P' k) : KV w P' x A5 c5 A6 c6 := ⟨h.l5, Kd.F_mono h.g5 hp, h.l6, Kd.F_mono h.g6 hp⟩
/-- Element i of the list: its cells, and that it is read. -/
theorem KV.elem {w : World} {x : S26} {A5 A6 : Option Addr} {c5 c6 : Nat} (h : KV w P x A5 c5 A6 c6) (i : Nat) (hi : i < x.f6.length) : ∃ ad B5 b5 B6 b6, A6 = some ad ∧ KV w P x.f6[i] B5 b5 B6 b6 ∧ ∀ j u, (cells26 x.f6[i] B5 b5 B6 b6)[j]? = some u → w.cell? (ad.add (i * 7 + j)) = some u := by
  obtain ⟨ad, c, rfl, _, hk, hc⟩ := F_get h.g6 (by decide) z26 i hi
  rw [List.getD_eq_getElem?_getD, List.getElem?_eq_getElem hi, Option.getD_some] at hk
  obtain ⟨B5, b5, B6, b6, rfl, hv⟩ := kv_of hk
  exact ⟨ad, B5, b5, B6, b6, rfl, hv, hc⟩
theorem KV.el7 {w : World} {x : S26} {A5 A6 : Option Addr} {c5 c6 : Nat} (h : KV w P x A5 c5 A6 c6) (i : Nat) (hi : i < x.f6.length) : ∃ ad B5 b5 B6 b6, A6 = some ad ∧ KV w P x.f6[i] B5 b5 B6 b6 ∧ w.cell? (ad.add (i * 7)) = some (.int .i64 x.f6[i].f0) ∧ w.cell? ⟨(ad.add (i * 7)).block, (ad.add (i * 7)).off + 1, none⟩ = some (.bool x.f6[i].f1) ∧ w.cell? ⟨(ad.add (i * 7)).block, (ad.add (i * 7)).off + 2, none⟩ = some (.int .i64 x.f6[i].f2) ∧ w.cell? ⟨(ad.add (i * 7)).block, (ad.add (i * 7)).off + 3, none⟩ = some (.float .f64 x.f6[i].f3) ∧ w.cell? ⟨(ad.add (i * 7)).block, (ad.add (i * 7)).off + 4, none⟩ = some (.string x.f6[i].f4) ∧ w.cell? ⟨(ad.add (i * 7)).block, (ad.add (i * 7)).off + 5, none⟩ = some (.slice B5 x.f6[i].f5.length b5) ∧ w.cell? ⟨(ad.add (i * 7)).block, (ad.add (i * 7)).off + 6, none⟩ = some (.slice B6 x.f6[i].f6.length b6) := by
  obtain ⟨ad, B5, b5, B6, b6, e, hv, hc⟩ := h.elem i hi
  exact ⟨ad, B5, b5, B6, b6, e, hv, hc 0 _ rfl, by rw [← add_field _ _ 1 (by omega)]; exact hc 1 _ rfl, by rw [← add_field _ _ 2 (by omega)]; exact hc 2 _ rfl, by rw [← add_field _ _ 3 (by omega)]; exact hc 3 _ rfl, by rw [← add_field _ _ 4 (by omega)]; exact hc 4 _ rfl, by rw [← add_field _ _ 5 (by omega)]; exact hc 5 _ rfl, by rw [← add_field _ _ 6 (by omega)]; exact hc 6 _ rfl⟩
/-- A key. -/
theorem KV.key {w : World} {x : S26} {A5 A6 : Option Addr} {c5 c6 : Nat} (h : KV w P x A5 c5 A6 c6) (i : Nat) (hi : i < x.f5.length) : ∃ ad, A5 = some ad ∧ w.cell? (ad.add i) = some (.string x.f5[i]) := by
  obtain ⟨ad, e, hx⟩ := Kd.at_string (Kd.F_now h.g5) (i : Int) (Int.natCast_nonneg i) (by omega)
  rw [rdOf_nat _ _ _ hi, Int.toNat_natCast] at hx
  exact ⟨ad, e, hx⟩

end Go.Proofs.Ytjfbjkodjjlkiaa.HVal
/-! What impl.anyOf comes to: a plain value that can be given, as the packages have it. -/
namespace Go.Proofs.Ytjfbjkodjjlkiaa.HVal
open Go.RowKit Go.WideMaps Go.Maps Go.Proofs.YtjfbjkodjjlkiaaW.PrintWords Go.Proofs.YtjfbjkodjjlkiaaW.PrintLast Go.Proofs.YtjfbjkodjjlkiaaW.PrintMore Go.Proofs.Ytjfbjkodjjlkiaa.Plain Go.Proofs.Ytjfbjkodjjlkiaa.GTab

def AnyPost (n : Nat) (w : World) (g : Nat) (c : Int) (x : S26) (e : Ending) (w' : World) : Prop :=
  ∃ val fp, e = .returned (.tuple #[val, .bool true]) ∧ Rep n w' val x fp ∧ fp.Nodup ∧ (∀ k ∈ fp, w.heap.size ≤ k ∧ k < w'.heap.size) ∧ w'.heap[g]? = some (.cells #[.int .i64 c] 3 (0, 0)) ∧ w.grownBy w' (some g)

theorem grown_put {w w1 : World} {g : Nat} (h : w.grownBy w1 (some g)) (v : Value) : w.grownBy (w1.setCell ⟨g, 0, none⟩ v) (some g) :=
  ⟨h.os, h.tape, h.output, by simpa [World.setCell] using h.size, fun k hk hne => (Below.heap_setCell w1 ⟨g, 0, none⟩ v k (by simpa using hne)).trans (h.block k hk hne)⟩
theorem grown_alloc {w w1 : World} {row : Option Nat} (h : w.grownBy w1 row) (o : Obj) : w.grownBy (w1.alloc o) row :=
  ⟨h.os, h.tape, h.output, by have := h.size; rw [World.size_alloc]; omega, fun k hk hne => (Below.heap_alloc w1 o k (Nat.lt_of_lt_of_le hk h.size)).trans (h.block k hk hne)⟩
theorem grown_refl (w : World) (row : Option Nat) : w.grownBy w row := ⟨rfl, rfl, rfl, Nat.le_refl _, fun _ _ _ => rfl⟩
theorem any_end {n : Nat} {w : World} {g : Nat} {c c' : Int} {x : S26} {val : Value} {o : Obj} (hg : w.heap[g]? = some (.cells #[.int .i64 c] 3 (0, 0))) {e : Ending} {w1 : World} (he : e = .returned (.tuple #[val, .bool true])) (hw : w1 = (w.setCell ⟨g, 0, none⟩ (.int .i64 c')).alloc o) (hr : ∀ w', Rep n w' val x []) :
    AnyPost n w g c' x e w1 := by
  subst he hw
  exact ⟨val, [], rfl, hr _, List.nodup_nil, (fun k hk => by cases hk), blk_alloc (blk_put hg 0 (.int .i64 c') rfl) o, grown_alloc (grown_put (grown_refl w _) _) o⟩

set_option maxHeartbeats 2000000 in
theorem any_scalar (n : Nat) (x : S26) (A5 A6 : Option Addr) (c5 c6 : Nat) (d c : Int) (g : Nat) (w : World) (hx : (x.f0 = 0 ∨ x.f0 = 1 ∨ x.f0 = 2 ∨ x.f0 = 5) ∨ x.f0 = 4) (hd : 0 ≤ d) (hd2 : d ≤ 60) (hc : 0 ≤ c) (hc2 : c + 1 ≤ 2000) (hg : w.heap[g]? = some (.cells #[.int .i64 c] 3 (0, 0))) :
    Calls Try.prog 48 #[agg26 x A5 c5 A6 c6, .int .i64 d, .pointer (some ⟨g, 0, none⟩)] w (AnyPost (n + 1) w g (c + 1) x) := by
  have HG := Aside0.mk hg
  have h0 : w.cell? ⟨g, 0, none⟩ = some (.int .i64 c) := (blk_cell hg 0).trans rfl
  have f0 := blk_frozen hg 0
  have n0 : w.heap.size ≠ g := World.new_ne w _ h0
  have lg : g < w.heap.size := blk_lt hg
  clear hg
  rcases hx with (hx | hx | hx | hx) | hx
  all_goals
    have HX := Aside0.mk hx
    go_enter Try.func48, Try.ntmps48
    go_wp2
    go_ret2
  · exact any_end HG.out rfl rfl fun w' => Rep.mk (.inl ⟨HX.out, rfl, rfl⟩)
  · exact any_end HG.out rfl rfl fun w' => Rep.mk (.inr (.inl ⟨HX.out, rfl, rfl⟩))
  · exact any_end HG.out rfl rfl fun w' => Rep.mk (.inr (.inr (.inl ⟨HX.out, rfl, rfl⟩)))
  · exact any_end HG.out rfl rfl fun w' => Rep.mk (.inr (.inr (.inr (.inr (.inl ⟨HX.out, rfl, rfl⟩)))))
  · exact any_end HG.out rfl rfl fun w' => Rep.mk (.inr (.inr (.inr (.inl ⟨HX.out, rfl, rfl⟩))))

/-! ### the rounds over a list -/
structure LI (n : Nat) (w : World) (g : Nat) (c : Int) (x : S26) (P : Nat → Prop) (A5 : Option Addr) (c5 : Nat) (A6 : Option Addr) (c6 : Nat) (j : Nat) (v : Value) (vs : List Value) (fps : List (List Nat)) (wr : World) : Prop where
  own : wr.ownsRow (w.heap.size + 1) 20 1 v j vs
  len : vs.length = j
  all : All3 (Rep n wr) vs (x.f6.take j) fps
  nodup : (v.ownBlock.toList ++ fps.flatten).Nodup
  new : ∀ k ∈ fps.flatten, w.heap.size < k ∧ k < wr.heap.size
  ctr : wr.heap[g]? = some (.cells #[.int .i64 (c + 1 + (((x.f6.take j).map (cnt n)).sum : Nat))] 3 (0, 0))
  box : wr.heap[w.heap.size]? = some (.cells #[.int .i64 x.f0, .bool x.f1, .int .i64 x.f2, .float .f64 x.f3, .string x.f4, .slice A5 x.f5.length c5, .slice A6 x.f6.length c6] 26 (0, 0))
  grown : w.grownBy wr (some g)
  kv : KV wr P x A5 c5 A6 c6

theorem grown_trans {a b c : World} {row : Option Nat} (h : a.grownBy b row) {row' : Option Nat} (k : b.grownBy c row') (hr : ∀ j, row' = some j → a.heap.size ≤ j ∨ row = some j) : a.grownBy c row := h.andThen k hr
theorem sum_take (n : Nat) (l : List S26) (j : Nat) (h : j < l.length) : ((l.take (j + 1)).map (cnt n)).sum = ((l.take j).map (cnt n)).sum + cnt n l[j] := by
  rw [List.take_succ_eq_append_getElem h, List.map_append, List.sum_append]
  simp

theorem LI.next {n : Nat} {w : World} {g : Nat} {c : Int} {x : S26} {P : Nat → Prop} {A5 : Option Addr} {c5 : Nat} {A6 : Option Addr} {c6 : Nat} {j : Nat} {v : Value} {vs : List Value} {fps : List (List Nat)} {wr : World} (h : LI n w g c x P A5 c5 A6 c6 j v vs fps wr) (hj : j < x.f6.length) (hg : g < w.heap.size) (hP : ∀ k, P k → k ≠ g ∧ k < w.heap.size)
    {W2 : World} {o o2 : Obj} {val : Value} {fp : List Nat} (hr : Rep n W2 val x.f6[j] fp) (hn : fp.Nodup) (hnew : ∀ k ∈ fp, (wr.alloc o).heap.size ≤ k ∧ k < W2.heap.size) (hcnt : W2.heap[g]? = some (.cells #[.int .i64 (c + 1 + (((x.f6.take j).map (cnt n)).sum : Nat) + (cnt n x.f6[j] : Nat))] 3 (0, 0))) (hgr : (wr.alloc o).grownBy W2 (some g))
    {v' : Value} {W4 : World} (hown : W4.ownsRow (w.heap.size + 1) 20 1 v' (j + 1) (vs ++ [val])) (hg4 : (W2.alloc o2).grownBy W4 v.ownBlock) (hat : v'.ownBlock = v.ownBlock ∨ v'.ownBlock = some (W2.alloc o2).heap.size) :
    LI n w g c x P A5 c5 A6 c6 (j + 1) v' (vs ++ [val]) (fps ++ [fp]) W4 := by
  have s1 : (wr.alloc o).heap.size = wr.heap.size + 1 := by rw [World.size_alloc]
  have s2 := hgr.size
  have s3 : (W2.alloc o2).heap.size = W2.heap.size + 1 := by rw [World.size_alloc]
  have s4 := hg4.size
  have s0 := h.grown.size
  have s5 := blk_lt h.box
  have vb : ∀ k, v.ownBlock = some k → w.heap.size + 1 ≤ k ∧ k < wr.heap.size := fun k hk => ⟨own_base h.own k hk, own_lt h.own k hk⟩
  have mv : ∀ k, k < wr.heap.size → k ≠ g → some k ≠ v.ownBlock → W4.heap[k]? = wr.heap[k]? := fun k hk hne hv =>
    (hg4.block k (by omega) hv).trans ((Below.heap_alloc W2 o2 k (by omega)).trans ((hgr.block k (by omega) (by simpa using hne)).trans (Below.heap_alloc wr o k hk)))
  have mv2 : ∀ k, wr.heap.size + 1 ≤ k → k < W2.heap.size → W4.heap[k]? = W2.heap[k]? := fun k hk hlt =>
    (hg4.block k (by omega) (fun e => by have := (vb k e.symm).2; omega)).trans (Below.heap_alloc W2 o2 k hlt)
  have nd := List.nodup_append.1 h.nodup
  have hgr4 : w.grownBy W4 (some g) := grown_trans (grown_alloc (grown_trans (grown_alloc h.grown o) hgr (fun k hk => .inr hk)) o2) hg4 (fun k hk => .inl (by have := (vb k hk).1; omega))
  refine ⟨hown, by simp [h.len], ?_, ?_, ?_, ?_, ?_, hgr4, ?_⟩
  · rw [List.take_succ_eq_append_getElem hj]
    refine (h.all.imp fun v1 x1 p hp hr1 => Rep.move n hr1 fun k hk => ?_).snoc (Rep.move n hr fun k hk => mv2 k (by have := (hnew k hk).1; omega) (hnew k hk).2)
    have hkf : k ∈ fps.flatten := List.mem_flatten.2 ⟨p, hp, hk⟩
    have hb := h.new k hkf
    refine mv k hb.2 (by omega) (fun e => ?_)
    exact nd.2.2 k (by rw [← e]; simp) k hkf rfl
  · rw [List.flatten_append, List.flatten_cons, List.flatten_nil, List.append_nil]
    have hfl : (fps.flatten ++ fp).Nodup := List.nodup_append.2 ⟨nd.2.1, hn, fun a ha b hb => by have := (h.new a ha).2; have := (hnew b hb).1; omega⟩
    refine List.nodup_append.2 ⟨by cases v'.ownBlock <;> simp, hfl, fun a ha b hb => ?_⟩
    have ha : v'.ownBlock = some a := by cases hq : v'.ownBlock <;> simp [hq] at ha; rw [ha]
    rcases hat with e | e
    · rw [ha] at e
      rcases List.mem_append.1 hb with hb | hb
      · exact nd.2.2 a (by rw [← e]; simp) b hb
      · have := (vb a e.symm).2; have := (hnew b hb).1; omega
    · rw [ha] at e
      injection e with e
      rcases List.mem_append.1 hb with hb | hb
      · have := (h.new b hb).2; omega
      · have := (hnew b hb).2; omega
  · intro k hk
    rw [List.flatten_append, List.flatten_cons, List.flatten_nil, List.append_nil] at hk
    rcases List.mem_append.1 hk with hk | hk
    · have := h.new k hk; omega
    · have := hnew k hk; omega
  · have e1 : W4.heap[g]? = W2.heap[g]? := (hg4.block g (by omega) (fun e => by have := (vb g e.symm).1; omega)).trans (Below.heap_alloc W2 o2 g (by omega))
    rw [e1, hcnt, sum_take n x.f6 j hj]
    simp only [Int.natCast_add, Int.add_assoc]
  · rw [mv w.heap.size (by omega) (by omega) (fun e => by have := (vb _ e.symm).1; omega)]
    exact h.box
  · exact h.kv.step fun k hk hlt => mv k (by have := (hP k hk).2; omega) (hP k hk).1 (fun e => by have := (vb _ e.symm).1; have := (hP k hk).2; omega)

end Go.Proofs.Ytjfbjkodjjlkiaa.HVal
/-! What impl.anyOf comes to for a list. -/
namespace Go.Proofs.Ytjfbjkodjjlkiaa.HVal
open Go.RowKit Go.WideMaps Go.Maps Go.Proofs.YtjfbjkodjjlkiaaW.PrintWords Go.Proofs.YtjfbjkodjjlkiaaW.PrintLast Go.Proofs.YtjfbjkodjjlkiaaW.PrintMore Go.Proofs.Ytjfbjkodjjlkiaa.Plain Go.Proofs.Ytjfbjkodjjlkiaa.GTab

attribute [local go_sem] run_store_flt
/-- Keys that are no longer than a text may be. -/
def Sm : Nat → S26 → Prop
  | 0, _ => True
  | n + 1, x => (∀ s ∈ x.f5, s.size ≤ maxLen) ∧ ∀ y ∈ x.f6, Sm n y
/-- What anyOf comes to, for values of at most n levels. -/
def AnyC (n : Nat) : Prop := ∀ (x : S26) (A5 : Option Addr) (c5 : Nat) (A6 : Option Addr) (c6 : Nat) (P : Nat → Prop) (d c : Int) (g : Nat) (w : World), Rt n x → Sm n x → KV w P x A5 c5 A6 c6 → (∀ k, P k → k ≠ g ∧ k < w.heap.size) → 0 ≤ d → d + n ≤ 61 → 0 ≤ c → c + cnt n x ≤ 2000 → w.heap[g]? = some (.cells #[.int .i64 c] 3 (0, 0)) →
  Calls Try.prog 48 #[agg26 x A5 c5 A6 c6, .int .i64 d, .pointer (some ⟨g, 0, none⟩)] w (AnyPost n w g (c + cnt n x) x)

theorem info20 : (Try.prog.info? 20).map (fun i => (i.zero, i.size, i.bytes)) = some (some .nilIface, 1, 16) := by kernel_rfl
theorem Rep.one {n : Nat} {w : World} {v : Value} {x : S26} {fp : List Nat} (h : Rep n w v x fp) : v.oneCell' = true := by
  cases n with
  | zero => exact h.elim
  | succ n =>
    unfold Rep at h
    rcases h with ⟨_, rfl, _⟩ | ⟨_, rfl, _⟩ | ⟨_, rfl, _⟩ | ⟨_, rfl, _⟩ | ⟨_, rfl, _⟩ | ⟨_, _, _, _, rfl, _⟩ | ⟨_, _, _, _, rfl, _⟩ <;> rfl
theorem Rep.form {n : Nat} {w : World} {v : Value} {x : S26} {fp : List Nat} (h : Rep n w v x fp) : v = .nilIface ∨ ∃ t u, v = .iface t u := by
  cases n with
  | zero => exact h.elim
  | succ n =>
    unfold Rep at h
    rcases h with ⟨_, rfl, _⟩ | ⟨_, rfl, _⟩ | ⟨_, rfl, _⟩ | ⟨_, rfl, _⟩ | ⟨_, rfl, _⟩ | ⟨_, _, _, _, rfl, _⟩ | ⟨_, _, _, _, rfl, _⟩
    · exact .inl rfl
    all_goals exact .inr ⟨_, _, rfl⟩
theorem sum_le (n : Nat) (l : List S26) (j : Nat) (h : j < l.length) : ((l.take j).map (cnt n)).sum + cnt n l[j] ≤ (l.map (cnt n)).sum := by
  rw [← sum_take n l j h]
  have e : (l.map (cnt n)).sum = ((l.take (j + 1)).map (cnt n)).sum + ((l.drop (j + 1)).map (cnt n)).sum := by
    rw [← List.sum_append, ← List.map_append, List.take_append_drop]
  omega
theorem len_le {n : Nat} : ∀ {l : List S26}, (∀ y ∈ l, Rt n y) → l.length ≤ (l.map (cnt n)).sum
  | [], _ => by simp
  | y :: l, h => by
    have h1 := len_le (l := l) fun z hz => h z (List.mem_cons_of_mem _ hz)
    have h2 : 1 ≤ cnt n y := by
      have := h y List.mem_cons_self
      cases n with
      | zero => exact this.elim
      | succ n => unfold cnt; omega
    simp only [List.length_cons, List.map_cons, List.sum_cons]
    omega
theorem li_start {n : Nat} {w : World} {g : Nat} {c : Int} {x : S26} {P : Nat → Prop} {A5 : Option Addr} {c5 : Nat} {A6 : Option Addr} {c6 : Nat} (hg : w.heap[g]? = some (.cells #[.int .i64 c] 3 (0, 0))) (hv : KV w P x A5 c5 A6 c6) (hP : ∀ k, P k → k ≠ g ∧ k < w.heap.size) {wr : World}
    (hw : wr = ((w.setCell ⟨g, 0, none⟩ (.int .i64 (c + 1))).alloc (.cells #[.int .i64 x.f0, .bool x.f1, .int .i64 x.f2, .float .f64 x.f3, .string x.f4, .slice A5 x.f5.length c5, .slice A6 x.f6.length c6] 26)).alloc (.cells #[] 20)) :
    LI n w g c x P A5 c5 A6 c6 0 (.slice (some ⟨w.heap.size + 1, 0, none⟩) 0 0) [] [] wr := by
  subst hw
  have hs : (w.setCell ⟨g, 0, none⟩ (.int .i64 (c + 1))).heap.size = w.heap.size := by simp [World.setCell]
  have b0 := blk_alloc (blk_new (w.setCell ⟨g, 0, none⟩ (.int .i64 (c + 1))) (.cells #[.int .i64 x.f0, .bool x.f1, .int .i64 x.f2, .float .f64 x.f3, .string x.f4, .slice A5 x.f5.length c5, .slice A6 x.f6.length c6] 26)) (.cells #[] 20)
  rw [hs] at b0
  have b1 := blk_new ((w.setCell ⟨g, 0, none⟩ (.int .i64 (c + 1))).alloc (.cells #[.int .i64 x.f0, .bool x.f1, .int .i64 x.f2, .float .f64 x.f3, .string x.f4, .slice A5 x.f5.length c5, .slice A6 x.f6.length c6] 26)) (.cells #[] 20)
  rw [World.size_alloc, hs] at b1
  refine ⟨⟨rfl, .inr ⟨w.heap.size + 1, 0, #[], rfl, Nat.le_refl _, b1, Nat.le_refl _, Nat.zero_le _, rfl, rfl⟩⟩, rfl, .nil, by simp [Value.ownBlock], fun k hk => by simp at hk, ?_, b0, grown_alloc (grown_alloc (grown_put (grown_refl w _) _) _) _, ?_⟩
  · have := blk_alloc (blk_alloc (blk_put hg 0 (.int .i64 (c + 1)) rfl) (.cells #[.int .i64 x.f0, .bool x.f1, .int .i64 x.f2, .float .f64 x.f3, .string x.f4, .slice A5 x.f5.length c5, .slice A6 x.f6.length c6] 26)) (.cells #[] 20)
    simpa using this
  · exact hv.grown (grown_alloc (grown_alloc (grown_put (grown_refl w _) _) _) _) fun k hk => (hP k hk).1

theorem any_list_end {n : Nat} {w : World} {g : Nat} {c : Int} {x : S26} {P : Nat → Prop} {A5 : Option Addr} {c5 : Nat} {A6 : Option Addr} {c6 : Nat} {v : Value} {vs : List Value} {fps : List (List Nat)} {wr : World} (h : LI n w g c x P A5 c5 A6 c6 x.f6.length v vs fps wr) (hx : x.f0 = 6) {e : Ending} (he : e = .returned (.tuple #[.iface 85 v, .bool true])) : AnyPost (n + 1) w g (c + cnt (n + 1) x) x e wr := by
  subst he
  have ha := h.all
  rw [List.take_length] at ha
  have hc := h.ctr
  rw [List.take_length] at hc
  refine ⟨_, _, rfl, Rep.mk (.inr (.inr (.inr (.inr (.inr (.inl ⟨hx, vs, fps, v, rfl, by rw [h.len]; exact own_less h.own (Nat.zero_le _), ha, rfl⟩)))))), h.nodup, fun k hk => ?_, ?_, h.grown⟩
  · rcases List.mem_append.1 hk with hk | hk
    · have hk : v.ownBlock = some k := by cases hq : v.ownBlock <;> simp [hq] at hk; rw [hk]
      have := own_base h.own k hk
      have := own_lt h.own k hk
      omega
    · have := h.new k hk; omega
  · rw [hc]
    unfold cnt
    simp only [Int.natCast_add, Int.add_assoc]
    rfl
/-- The row is still there behind a call. -/
theorem own_far {n : Nat} {w : World} {g : Nat} {c : Int} {x : S26} {P : Nat → Prop} {A5 : Option Addr} {c5 : Nat} {A6 : Option Addr} {c6 : Nat} {j : Nat} {v : Value} {vs : List Value} {fps : List (List Nat)} {wr : World} (h : LI n w g c x P A5 c5 A6 c6 j v vs fps wr) {o : Obj} {W2 : World} (hg : g < w.heap.size) (hgr : (wr.alloc o).grownBy W2 (some g)) : W2.ownsRow (w.heap.size + 1) 20 1 v j vs :=
  own_move h.own fun k hk => by
    have := own_base h.own k hk
    have := own_lt h.own k hk
    exact (hgr.block k (by rw [World.size_alloc]; omega) (by simp; omega)).trans (Below.heap_alloc wr o k (by omega))
set_option maxRecDepth 100000 in
set_option maxHeartbeats 4000000 in
theorem any_list (n : Nat) (ih : AnyC n) (x : S26) (A5 : Option Addr) (c5 : Nat) (A6 : Option Addr) (c6 : Nat) (P : Nat → Prop) (d c : Int) (g : Nat) (w : World) (hx : x.f0 = 6) (hch : ∀ y ∈ x.f6, Rt n y) (hsm : ∀ y ∈ x.f6, Sm n y) (hv : KV w P x A5 c5 A6 c6) (hP : ∀ k, P k → k ≠ g ∧ k < w.heap.size)
    (hd : 0 ≤ d) (hd2 : d + n ≤ 60) (hc : 0 ≤ c) (hc2 : c + cnt (n + 1) x ≤ 2000) (hg : w.heap[g]? = some (.cells #[.int .i64 c] 3 (0, 0))) :
    Calls Try.prog 48 #[agg26 x A5 c5 A6 c6, .int .i64 d, .pointer (some ⟨g, 0, none⟩)] w (AnyPost (n + 1) w g (c + cnt (n + 1) x) x) := by
  have HG := Aside0.mk hg
  have h0 : w.cell? ⟨g, 0, none⟩ = some (.int .i64 c) := (blk_cell hg 0).trans rfl
  have f0 := blk_frozen hg 0
  have n0 : w.heap.size ≠ g := World.new_ne w _ h0
  have lg : g < w.heap.size := blk_lt hg
  have HX := Aside0.mk hx
  have b1 : c + 1 ≤ 2000 := by have : 1 ≤ cnt (n + 1) x := by unfold cnt; omega
                               omega
  have b2 : d ≤ 60 := by omega
  have LL : x.f6.length ≤ 2000 := by have := len_le hch; unfold cnt at hc2; omega
  have HC2 := Aside0.mk hc2
  have HD2 := Aside0.mk hd2
  have IH := Aside0.mk ih
  have HCH := Aside0.mk hch
  have HSM := Aside0.mk hsm
  have HV := Aside0.mk hv
  have HP := Aside0.mk hP
  clear hg hc2 hd2 ih hch hsm hv hP
  obtain ⟨i0, hi, hz0, hz1, hz2⟩ := info_parts info20
  go_enter Try.func48, Try.ntmps48
  go_wp2
  go_loopw [8, 61] (fun v i wr => ∃ (j : Nat) (vs : List Value) (fps : List (List Nat)), j ≤ x.f6.length ∧ i = .int .i64 j ∧ Aside0 (LI n w g c x P A5 c5 A6 c6 j v vs fps wr)) (fun _ i _ => x.f6.length - (intOf i).toNat)
  case atStart => exact ⟨0, [], [], Nat.zero_le _, rfl, ⟨li_start HG.out HV.out HP.out (by rw [HX.out])⟩⟩
  case round =>
    obtain ⟨j, vs, fps, hj, rfl, HI⟩ := hrel
    by_cases hlt : j < x.f6.length
    · have HLT := Aside0.mk hlt
      obtain ⟨ad, B5, b5, B6, b6, e0, hvj, e1, e2, e3, e4, e5, e6, e7⟩ := HI.out.kv.el7 j hlt
      cases e0
      have HVJ := Aside0.mk hvj
      have RTJ := Aside0.mk (HCH.out _ (List.getElem_mem hlt))
      have SMJ := Aside0.mk (HSM.out _ (List.getElem_mem hlt))
      clear hvj
      have q1 : 0 ≤ c + 1 + (((x.f6.take j).map (cnt n)).sum : Nat) := by omega
      have q2 := sum_le n x.f6 j hlt
      have q3 := HC2.out
      unfold cnt at q3
      have Q4 := Aside0.mk (show c + 1 + (((x.f6.take j).map (cnt n)).sum : Nat) + (cnt n x.f6[j] : Nat) ≤ 2000 by omega)
      have Q5 := Aside0.mk (show d + 1 + n ≤ 61 by have := HD2.out; omega)
      clear q2 q3
      go_wp2_with fail
      go_at_call 48
      refine (IH.out x.f6[j] B5 b5 B6 b6 P (d + 1) (c + 1 + (((x.f6.take j).map (cnt n)).sum : Nat)) g _ RTJ.out SMJ.out (HVJ.out.below (below_alloc (Below.refl _ _) _)) ?_ (by omega) Q5.out q1 Q4.out (blk_alloc HI.out.ctr _)).mono ?_
      · intro k hk
        exact ⟨(HP.out k hk).1, by have := (HP.out k hk).2; have := HI.out.grown.size; rw [World.size_alloc]; omega⟩
      rintro e W2 ⟨val, fp, rfl, hr, hn, hnew, hctr, hgr⟩
      have HR := Aside0.mk hr
      have HN := Aside0.mk hn
      have HW := Aside0.mk hnew
      have HCT := Aside0.mk hctr
      have HGR := Aside0.mk hgr
      have VF := hr.form
      clear hr hn hnew hctr hgr
      rcases VF with rfl | ⟨vt, vu, rfl⟩
      all_goals
        have lw : j + 1 ≤ x.f6.length := hlt
        clear e1 e2 e3 e4 e5 e6 e7
        go_wp2_with (at_builtin; refine wpList_append_own_at _ rfl _ _ 85 rfl (w.heap.size + 1) 20 i0 .nilIface 1 16 Try.underlying85 hi hz0 hz1 hz2 rfl (by decide) _ j vs rfl (own_alloc (own_far HI.out lg HGR.out) _) ⟨W2.heap.size, 0, none⟩ 1 1 [_] rfl rfl (cell_one_new _ _ _) (by intro u hu; simp at hu; subst hu; rfl) (by unfold maxLen; omega) (by omega) (by have := HI.out.grown.size; have := HGR.out.size; simp only [World.size_alloc] at *; omega) ?_; intro v' W4 hown hg4 _ hat)
        go_roundw
        case rel => exact ⟨j + 1, _, _, lw, rfl, ⟨HI.out.next HLT.out lg HP.out HR.out HN.out HW.out HCT.out HGR.out hown hg4 hat⟩⟩
        case measure => simp only [intOf]; omega
    · have e : j = x.f6.length := by omega
      subst e
      go_wp2
      go_ret2
      exact any_list_end HI.out HX.out rfl

end Go.Proofs.Ytjfbjkodjjlkiaa.HVal
/-! What impl.anyOf comes to for a table, and for all values that can be given. -/
namespace Go.Proofs.Ytjfbjkodjjlkiaa.HVal
open Go.RowKit Go.WideMaps Go.Maps Go.Proofs.YtjfbjkodjjlkiaaW.PrintWords Go.Proofs.YtjfbjkodjjlkiaaW.PrintLast Go.Proofs.YtjfbjkodjjlkiaaW.PrintMore Go.Proofs.Ytjfbjkodjjlkiaa.Plain Go.Proofs.Ytjfbjkodjjlkiaa.GTab
attribute [local go_sem] run_store_flt

theorem less_irrefl : ∀ l : List UInt8, Op.bytesLess l l = false
  | [] => rfl
  | c :: r => by simp [Op.bytesLess, less_irrefl r]
theorem rising_ne {l : List ByteArray} (h : Rising l) : l.Pairwise fun a b => a ≠ b := h.imp fun {a b} hab e => by rw [e, less_irrefl] at hab; cases hab
theorem look_none : ∀ (ks : List ByteArray) (vs : List Value) (k : ByteArray), k ∉ ks → look (ks.zip vs) k = none
  | [], _, _, _ => rfl
  | _ :: _, [], _, _ => rfl
  | a :: ks, v :: vs, k, h => by
    simp only [List.zip_cons_cons, look]
    rw [if_neg (fun e : a = k => h (by rw [e]; exact List.mem_cons_self))]
    exact look_none ks vs k fun hm => h (List.mem_cons_of_mem _ hm)
theorem rising_new {l : List ByteArray} (h : Rising l) {j : Nat} (hj : j < l.length) : l[j] ∉ l.take j := fun hm => by
  obtain ⟨i, hi, e⟩ := List.mem_take_iff_getElem.1 hm
  exact List.pairwise_iff_getElem.1 (rising_ne h) i j (by omega) hj (by omega) e
theorem rising_at {l : List ByteArray} (h : Rising l) {j : Nat} (hj : j < l.length) (h0 : 0 < j) : Op.bytesLess (l[j - 1]'(by omega)).toList l[j].toList = true := List.pairwise_iff_getElem.1 h (j - 1) j (by omega) hj (by omega)
theorem zip_snoc : ∀ (ks : List ByteArray) (vs : List Value) (k : ByteArray) (v : Value), ks.length = vs.length → (ks ++ [k]).zip (vs ++ [v]) = ks.zip vs ++ [(k, v)]
  | [], [], _, _, _ => rfl
  | [], _ :: _, _, _, h => by simp at h
  | _ :: _, [], _, _, h => by simp at h
  | a :: ks, b :: vs, k, v, h => by simp only [List.cons_append, List.zip_cons_cons]; rw [zip_snoc ks vs k v (by simpa using h)]

/-! ### the rounds over a table -/
structure TI (n : Nat) (w : World) (g : Nat) (c : Int) (x : S26) (P : Nat → Prop) (A5 : Option Addr) (c5 : Nat) (A6 : Option Addr) (c6 : Nat) (j : Nat) (vs : List Value) (fps : List (List Nat)) (wr : World) : Prop where
  map : MapAt wr (w.heap.size + 1) ((x.f5.take j).zip vs)
  len : vs.length = j
  all : All3 (Rep n wr) vs (x.f6.take j) fps
  nodup : fps.flatten.Nodup
  new : ∀ k ∈ fps.flatten, w.heap.size + 1 < k ∧ k < wr.heap.size
  ctr : wr.heap[g]? = some (.cells #[.int .i64 (c + 1 + (((x.f6.take j).map (cnt n)).sum : Nat))] 3 (0, 0))
  box : wr.heap[w.heap.size]? = some (.cells #[.int .i64 x.f0, .bool x.f1, .int .i64 x.f2, .float .f64 x.f3, .string x.f4, .slice A5 x.f5.length c5, .slice A6 x.f6.length c6] 26 (0, 0))
  grown : w.grownBy wr (some g)
  kv : KV wr P x A5 c5 A6 c6

theorem TI.next {n : Nat} {w : World} {g : Nat} {c : Int} {x : S26} {P : Nat → Prop} {A5 : Option Addr} {c5 : Nat} {A6 : Option Addr} {c6 : Nat} {j : Nat} {vs : List Value} {fps : List (List Nat)} {wr : World} (h : TI n w g c x P A5 c5 A6 c6 j vs fps wr) (hj : j < x.f6.length) (hl : x.f5.length = x.f6.length) (hrs : Rising x.f5) (hg : g < w.heap.size) (hP : ∀ k, P k → k ≠ g ∧ k < w.heap.size)
    {W2 : World} {val : Value} {fp : List Nat} (hr : Rep n W2 val x.f6[j] fp) (hn : fp.Nodup) (hnew : ∀ k ∈ fp, wr.heap.size ≤ k ∧ k < W2.heap.size) (hcnt : W2.heap[g]? = some (.cells #[.int .i64 (c + 1 + (((x.f6.take j).map (cnt n)).sum : Nat) + (cnt n x.f6[j] : Nat))] 3 (0, 0))) (hgr : wr.grownBy W2 (some g))
    {D : DataW Value} (hm : IsMap D) (hd : ∀ s, Maps.has D (keyS s) = (look ((x.f5.take j).zip vs) s).isSome ∧ ∀ v, look ((x.f5.take j).zip vs) s = some v → ∀ z, D.atKey (keyS s) z = .held v)
    {W4 : World} (hown : W4.ownsMap Try.prog 9 hR (w.heap.size + 1) (((x.f5.take j).zip vs).length + 1) (D.put (keyS (x.f5[j]'(by omega))) (.held val))) (hg4 : W2.grownBy W4 (some (w.heap.size + 1))) :
    TI n w g c x P A5 c5 A6 c6 (j + 1) (vs ++ [val]) (fps ++ [fp]) W4 := by
  have s2 := hgr.size
  have s4 := hg4.size
  have s0 := h.grown.size
  have s5 := h.map.lt
  have mv : ∀ k, k < wr.heap.size → k ≠ g → k ≠ w.heap.size + 1 → W4.heap[k]? = wr.heap[k]? := fun k hk hne hv =>
    (hg4.block k (by omega) (by simpa using hv)).trans (hgr.block k hk (by simpa using hne))
  have mv2 : ∀ k, wr.heap.size ≤ k → k < W2.heap.size → W4.heap[k]? = W2.heap[k]? := fun k hk hlt => hg4.block k hlt (by simp; omega)
  have hgr4 : w.grownBy W4 (some g) := grown_trans (grown_trans h.grown hgr (fun k hk => .inr hk)) hg4 (fun k hk => .inl (by cases hk; omega))
  have hj5 : j < x.f5.length := by omega
  refine ⟨?_, by simp [h.len], ?_, ?_, ?_, ?_, ?_, hgr4, ?_⟩
  · rw [List.take_succ_eq_append_getElem hj5, zip_snoc _ _ _ _ (by rw [List.length_take, h.len]; omega)]
    exact MapAt.snoc hm hd (look_none _ _ _ (rising_new hrs hj5)) hown
  · rw [List.take_succ_eq_append_getElem hj]
    refine (h.all.imp fun v1 x1 p hp hr1 => Rep.move n hr1 fun k hk => ?_).snoc (Rep.move n hr fun k hk => mv2 k (hnew k hk).1 (hnew k hk).2)
    have hb := h.new k (List.mem_flatten.2 ⟨p, hp, hk⟩)
    exact mv k hb.2 (by omega) (by omega)
  · rw [List.flatten_append, List.flatten_cons, List.flatten_nil, List.append_nil]
    exact List.nodup_append.2 ⟨h.nodup, hn, fun a ha b hb => by have := (h.new a ha).2; have := (hnew b hb).1; omega⟩
  · intro k hk
    rw [List.flatten_append, List.flatten_cons, List.flatten_nil, List.append_nil] at hk
    rcases List.mem_append.1 hk with hk | hk
    · have := h.new k hk; omega
    · have := hnew k hk; omega
  · have e1 : W4.heap[g]? = W2.heap[g]? := hg4.block g (by omega) (by simp; omega)
    rw [e1, hcnt, sum_take n x.f6 j hj]
    simp only [Int.natCast_add, Int.add_assoc]
  · rw [mv w.heap.size (by omega) (by omega) (by omega)]
    exact h.box
  · exact h.kv.step fun k hk hlt => mv k hlt (hP k hk).1 (by have := (hP k hk).2; omega)

theorem ti_start {n : Nat} {w : World} {g : Nat} {c : Int} {x : S26} {P : Nat → Prop} {A5 : Option Addr} {c5 : Nat} {A6 : Option Addr} {c6 : Nat} (hg : w.heap[g]? = some (.cells #[.int .i64 c] 3 (0, 0))) (hv : KV w P x A5 c5 A6 c6) (hP : ∀ k, P k → k ≠ g ∧ k < w.heap.size) {wr : World}
    (hw : wr = ((w.setCell ⟨g, 0, none⟩ (.int .i64 (c + 1))).alloc (.cells #[.int .i64 x.f0, .bool x.f1, .int .i64 x.f2, .float .f64 x.f3, .string x.f4, .slice A5 x.f5.length c5, .slice A6 x.f6.length c6] 26)).alloc (.map #[] 0)) :
    TI n w g c x P A5 c5 A6 c6 0 [] [] wr := by
  subst hw
  have hs : (w.setCell ⟨g, 0, none⟩ (.int .i64 (c + 1))).heap.size = w.heap.size := by simp [World.setCell]
  have b0 := blk_alloc (blk_new (w.setCell ⟨g, 0, none⟩ (.int .i64 (c + 1))) (.cells #[.int .i64 x.f0, .bool x.f1, .int .i64 x.f2, .float .f64 x.f3, .string x.f4, .slice A5 x.f5.length c5, .slice A6 x.f6.length c6] 26)) (.map #[] 0)
  rw [hs] at b0
  have b1 := MapAt.made ((w.setCell ⟨g, 0, none⟩ (.int .i64 (c + 1))).alloc (.cells #[.int .i64 x.f0, .bool x.f1, .int .i64 x.f2, .float .f64 x.f3, .string x.f4, .slice A5 x.f5.length c5, .slice A6 x.f6.length c6] 26))
  rw [World.size_alloc, hs] at b1
  refine ⟨b1, rfl, .nil, by simp, fun k hk => by simp at hk, ?_, b0, grown_alloc (grown_alloc (grown_put (grown_refl w _) _) _) _, ?_⟩
  · have := blk_alloc (blk_alloc (blk_put hg 0 (.int .i64 (c + 1)) rfl) (.cells #[.int .i64 x.f0, .bool x.f1, .int .i64 x.f2, .float .f64 x.f3, .string x.f4, .slice A5 x.f5.length c5, .slice A6 x.f6.length c6] 26)) (.map #[] 0)
    simpa using this
  · exact hv.grown (grown_alloc (grown_alloc (grown_put (grown_refl w _) _) _) _) fun k hk => (hP k hk).1

theorem any_table_end {n : Nat} {w : World} {g : Nat} {c : Int} {x : S26} {P : Nat → Prop} {A5 : Option Addr} {c5 : Nat} {A6 : Option Addr} {c6 : Nat} {vs : List Value} {fps : List (List Nat)} {wr : World} (h : TI n w g c x P A5 c5 A6 c6 x.f6.length vs fps wr) (hx : x.f0 = 7) (hl : x.f5.length = x.f6.length) {e : Ending} (he : e = .returned (.tuple #[.iface 58 (.map (some (w.heap.size + 1))), .bool true])) : AnyPost (n + 1) w g (c + cnt (n + 1) x) x e wr := by
  subst he
  have ha := h.all
  rw [List.take_length] at ha
  have hc := h.ctr
  rw [List.take_length] at hc
  have hm := h.map
  rw [← hl, List.take_length] at hm
  refine ⟨_, _, rfl, Rep.mk (.inr (.inr (.inr (.inr (.inr (.inr ⟨hx, w.heap.size + 1, vs, fps, rfl, hl, hm, ha, rfl⟩)))))), List.nodup_cons.2 ⟨fun hm2 => by have := (h.new _ hm2).1; omega, h.nodup⟩, fun k hk => ?_, ?_, h.grown⟩
  · rcases List.mem_cons.1 hk with rfl | hk
    · have := h.map.lt; omega
    · have := h.new k hk; omega
  · rw [hc]
    unfold cnt
    simp only [Int.natCast_add, Int.add_assoc]
    rfl

set_option maxRecDepth 100000 in
set_option maxHeartbeats 4000000 in
theorem any_table (n : Nat) (ih : AnyC n) (x : S26) (A5 : Option Addr) (c5 : Nat) (A6 : Option Addr) (c6 : Nat) (P : Nat → Prop) (d c : Int) (g : Nat) (w : World) (hx : x.f0 = 7) (hrs : Rising x.f5) (hl : x.f5.length = x.f6.length) (hch : ∀ y ∈ x.f6, Rt n y) (hks : ∀ s ∈ x.f5, s.size ≤ maxLen) (hsm : ∀ y ∈ x.f6, Sm n y) (hv : KV w P x A5 c5 A6 c6) (hP : ∀ k, P k → k ≠ g ∧ k < w.heap.size)
    (hd : 0 ≤ d) (hd2 : d + n ≤ 60) (hc : 0 ≤ c) (hc2 : c + cnt (n + 1) x ≤ 2000) (hg : w.heap[g]? = some (.cells #[.int .i64 c] 3 (0, 0))) :
    Calls Try.prog 48 #[agg26 x A5 c5 A6 c6, .int .i64 d, .pointer (some ⟨g, 0, none⟩)] w (AnyPost (n + 1) w g (c + cnt (n + 1) x) x) := by
  have HG := Aside0.mk hg
  have h0 : w.cell? ⟨g, 0, none⟩ = some (.int .i64 c) := (blk_cell hg 0).trans rfl
  have f0 := blk_frozen hg 0
  have n0 : w.heap.size ≠ g := World.new_ne w _ h0
  have lg : g < w.heap.size := blk_lt hg
  have HX := Aside0.mk hx
  have b1 : c + 1 ≤ 2000 := by have : 1 ≤ cnt (n + 1) x := by unfold cnt; omega
                               omega
  have b2 : d ≤ 60 := by omega
  have LL : x.f6.length ≤ 2000 := by have := len_le hch; unfold cnt at hc2; omega
  have HC2 := Aside0.mk hc2
  have HD2 := Aside0.mk hd2
  have IH := Aside0.mk ih
  have HCH := Aside0.mk hch
  have HSM := Aside0.mk hsm
  have HKS := Aside0.mk hks
  have HRS := Aside0.mk hrs
  have HL := Aside0.mk hl
  have HV := Aside0.mk hv
  have HP := Aside0.mk hP
  have hq : ((x.f5.length : Int) != (x.f6.length : Int)) = false := by rw [hl]; simp
  have hmm := @run_makeMap Try.prog
  clear hg hc2 hd2 ih hch hsm hks hrs hl hv hP
  go_enter Try.func48, Try.ntmps48
  go_wp2
  go_loopw [95] (fun i wr => ∃ (j : Nat) (vs : List Value) (fps : List (List Nat)), j ≤ x.f6.length ∧ i = .int .i64 j ∧ Aside0 (TI n w g c x P A5 c5 A6 c6 j vs fps wr)) (fun i _ => x.f6.length - (intOf i).toNat)
  case atStart => exact ⟨0, [], [], Nat.zero_le _, rfl, ⟨ti_start HG.out HV.out HP.out (by rw [HX.out])⟩⟩
  case round =>
    obtain ⟨j, vs, fps, hj, rfl, HI⟩ := hrel
    by_cases hlt : j < x.f6.length
    · have hj5 : j < x.f5.length := by rw [HL.out]; exact hlt
      have HLT := Aside0.mk hlt
      obtain ⟨ad, B5, b5, B6, b6, e0, hvj, e1, e2, e3, e4, e5, e6, e7⟩ := HI.out.kv.el7 j hlt
      cases e0
      obtain ⟨ad5, e50, k5⟩ := HI.out.kv.key j hj5
      cases e50
      have HVJ := Aside0.mk hvj
      have RTJ := Aside0.mk (HCH.out _ (List.getElem_mem hlt))
      have SMJ := Aside0.mk (HSM.out _ (List.getElem_mem hlt))
      clear hvj
      have q1 : 0 ≤ c + 1 + (((x.f6.take j).map (cnt n)).sum : Nat) := by omega
      have q2 := sum_le n x.f6 j hlt
      have q3 := HC2.out
      unfold cnt at q3
      have Q4 := Aside0.mk (show c + 1 + (((x.f6.take j).map (cnt n)).sum : Nat) + (cnt n x.f6[j] : Nat) ≤ 2000 by omega)
      have Q5 := Aside0.mk (show d + 1 + n ≤ 61 by have := HD2.out; omega)
      clear q2 q3
      have bx6 : wr.cell? ⟨w.heap.size, 6, none⟩ = some (.slice (some ad) x.f6.length c6) := (blk_cell HI.out.box 6).trans rfl
      go_wp2_with fail
      go_at_call 48
      refine (IH.out x.f6[j] B5 b5 B6 b6 P (d + 1) (c + 1 + (((x.f6.take j).map (cnt n)).sum : Nat)) g _ RTJ.out SMJ.out HVJ.out ?_ (by omega) Q5.out q1 Q4.out HI.out.ctr).mono ?_
      · intro k hk
        exact ⟨(HP.out k hk).1, by have := (HP.out k hk).2; have := HI.out.grown.size; omega⟩
      rintro e W2 ⟨val, fp, rfl, hr, hn, hnew, hctr, hgr⟩
      have bx5 : W2.cell? ⟨w.heap.size, 5, none⟩ = some (.slice (some ad5) x.f5.length c5) := World.grownBy.cell hgr ((blk_cell HI.out.box 5).trans rfl) (by simpa using n0)
      have HR := Aside0.mk hr
      have HN := Aside0.mk hn
      have HW := Aside0.mk hnew
      have HCT := Aside0.mk hctr
      have HGR := Aside0.mk hgr
      have VF := hr.form
      clear hr hn hnew hctr hgr e1 e2 e3 e4 e5 e6 e7
      have MA := HI.out.map.same (w' := W2) (HGR.out.block _ HI.out.map.lt (by simp; omega))
      obtain ⟨D, hown0, him, hdl⟩ := MA
      have HOWN := Aside0.mk hown0
      have HIM := Aside0.mk him
      have HDL := Aside0.mk hdl
      clear hown0 him hdl
      rcases VF with rfl | ⟨vt, vu, rfl⟩
      all_goals
        have lw : j + 1 ≤ x.f6.length := hlt
        by_cases hj0 : j = 0
        · subst hj0
          go_wp2_with (at_mapUpdate; refine wpList_mapUpdate_own _ rfl _ _ _ 58 rfl 9 20 law9 Try.underlying58 hR _ _ D rfl HOWN.out (by have := HI.out.len; rw [List.length_zip]; unfold maxLen; omega) _ _ _ rfl rfl (keyS_ok (HKS.out _ (List.getElem_mem hj5))) _ [] rfl ?_; intro W4 hown hg4)
          go_roundw
          case rel => exact ⟨_, _, _, lw, rfl, ⟨HI.out.next HLT.out HL.out HRS.out lg HP.out HR.out HN.out HW.out HCT.out HGR.out HIM.out HDL.out hown hg4⟩⟩
          case measure => simp only [intOf]; omega
        · have hjp : 0 < j := by omega
          obtain ⟨ad5', e5', k7⟩ := (HI.out.kv.grown HGR.out fun k hk => (HP.out k hk).1).key (j - 1) (by omega)
          cases e5'
          have rs := rising_at HRS.out hj5 hjp
          go_wp2_with (at_mapUpdate; refine wpList_mapUpdate_own _ rfl _ _ _ 58 rfl 9 20 law9 Try.underlying58 hR _ _ D rfl HOWN.out (by have := HI.out.len; rw [List.length_zip]; unfold maxLen; omega) _ _ _ rfl rfl (keyS_ok (HKS.out _ (List.getElem_mem hj5))) _ [] rfl ?_; intro W4 hown hg4)
          go_roundw
          case rel => exact ⟨_, _, _, lw, rfl, ⟨HI.out.next HLT.out HL.out HRS.out lg HP.out HR.out HN.out HW.out HCT.out HGR.out HIM.out HDL.out hown hg4⟩⟩
          case measure => simp only [intOf]; omega
    · have e : j = x.f6.length := by omega
      subst e
      have e5 : ¬ x.f6.length < x.f5.length := by rw [HL.out]; omega
      go_wp2
      go_ret2
      exact any_table_end HI.out HX.out HL.out rfl

end Go.Proofs.Ytjfbjkodjjlkiaa.HVal
/-! What impl.anyOf comes to, for all values that can be given. -/
namespace Go.Proofs.Ytjfbjkodjjlkiaa.HVal
open Go.RowKit Go.WideMaps Go.Maps Go.Proofs.YtjfbjkodjjlkiaaW.PrintWords Go.Proofs.YtjfbjkodjjlkiaaW.PrintLast Go.Proofs.YtjfbjkodjjlkiaaW.PrintMore Go.Proofs.Ytjfbjkodjjlkiaa.Plain Go.Proofs.Ytjfbjkodjjlkiaa.GTab

theorem any_of : ∀ n, AnyC n
  | 0 => fun _ _ _ _ _ _ _ _ _ _ hr => hr.elim
  | n + 1 => fun x A5 c5 A6 c6 P d c g w hr hsm hv hP hd hd2 hc hc2 hg => by
    unfold Sm at hsm
    have e1 : ∀ {y : S26}, y.f6 = [] → cnt (n + 1) y = 1 := fun {y} h => by unfold cnt; rw [h]; rfl
    unfold Rt at hr
    rcases hr with ⟨h0, _, h6⟩ | ⟨h0, _, _, h6⟩ | ⟨h0, _, hch⟩ | ⟨h0, hrs, hl, hch⟩
    · rw [e1 h6] at hc2 ⊢
      exact any_scalar n x A5 A6 c5 c6 d c g w (.inl h0) hd (by omega) hc hc2 hg
    · rw [e1 h6] at hc2 ⊢
      exact any_scalar n x A5 A6 c5 c6 d c g w (.inr h0) hd (by omega) hc hc2 hg
    · exact any_list n (any_of n) x A5 c5 A6 c6 P d c g w h0 hch hsm.2 hv hP hd (by omega) hc hc2 hg
    · exact any_table n (any_of n) x A5 c5 A6 c6 P d c g w h0 hrs hl hch hsm.1 hsm.2 hv hP hd (by omega) hc hc2 hg

end Go.Proofs.Ytjfbjkodjjlkiaa.HVal
/-! What impl.table comes to. -/
namespace Go.Proofs.Ytjfbjkodjjlkiaa.HVal
open Go.RowKit Go.WideMaps Go.Maps Go.Proofs.YtjfbjkodjjlkiaaW.PrintWords Go.Proofs.YtjfbjkodjjlkiaaW.PrintLast Go.Proofs.YtjfbjkodjjlkiaaW.PrintMore Go.Proofs.Ytjfbjkodjjlkiaa.Plain Go.Proofs.Ytjfbjkodjjlkiaa.GTab
attribute [local go_sem] run_store_flt

/-- What table gives: the map of a table, the nil map of a nil, and else nothing. -/
def TPost (n : Nat) (w : World) (x : S26) (e : Ending) (w' : World) : Prop :=
  ∃ m, e = .returned (.tuple #[.map m, .bool (decide (x.f0 = 7) || decide (x.f0 = 0))]) ∧ Below w.heap.size w w' ∧ (x.f0 ≠ 7 → m = none) ∧
    (x.f0 = 7 → ∃ fp, Rep n w' (.iface 58 (.map m)) x fp ∧ fp.Nodup ∧ ∀ k ∈ fp, w.heap.size ≤ k ∧ k < w'.heap.size)

theorem as58_nil (w : World) : (Instr.typeAssert .nilIface 20 58 true).run Try.prog w = .ok (.tuple #[.map none, .bool false]) w := by kernel_rfl
theorem as58_bool (b : Bool) (w : World) : (Instr.typeAssert (.iface 4 (.bool b)) 20 58 true).run Try.prog w = .ok (.tuple #[.map none, .bool false]) w := by kernel_rfl
theorem as58_int (i : Int) (w : World) : (Instr.typeAssert (.iface 2 (.int .i64 i)) 20 58 true).run Try.prog w = .ok (.tuple #[.map none, .bool false]) w := by kernel_rfl
theorem as58_flt (f : Nat) (w : World) : (Instr.typeAssert (.iface 22 (.float .f64 f)) 20 58 true).run Try.prog w = .ok (.tuple #[.map none, .bool false]) w := by kernel_rfl
theorem as58_str (s : ByteArray) (w : World) : (Instr.typeAssert (.iface 9 (.string s)) 20 58 true).run Try.prog w = .ok (.tuple #[.map none, .bool false]) w := by kernel_rfl
theorem as58_list (v : Value) (w : World) : (Instr.typeAssert (.iface 85 v) 20 58 true).run Try.prog w = .ok (.tuple #[.map none, .bool false]) w := by kernel_rfl
theorem as58_map (m : Option Nat) (w : World) : (Instr.typeAssert (.iface 58 (.map m)) 20 58 true).run Try.prog w = .ok (.tuple #[.map m, .bool true]) w := by kernel_rfl

theorem Rep.kind {n : Nat} {w : World} {v : Value} {x : S26} {fp : List Nat} (h : Rep n w v x fp) : (x.f0 = 0 ∧ v = .nilIface) ∨ (x.f0 = 1 ∧ v = .iface 4 (.bool x.f1)) ∨ (x.f0 = 2 ∧ v = .iface 2 (.int .i64 x.f2)) ∨ (x.f0 = 4 ∧ v = .iface 22 (.float .f64 x.f3)) ∨ (x.f0 = 5 ∧ v = .iface 9 (.string x.f4)) ∨ (x.f0 = 6 ∧ ∃ s, v = .iface 85 s) ∨ (x.f0 = 7 ∧ ∃ b, v = .iface 58 (.map (some b))) := by
  cases n with
  | zero => exact h.elim
  | succ n =>
    unfold Rep at h
    rcases h with ⟨h0, rfl, _⟩ | ⟨h0, rfl, _⟩ | ⟨h0, rfl, _⟩ | ⟨h0, rfl, _⟩ | ⟨h0, rfl, _⟩ | ⟨h0, _, _, s, rfl, _⟩ | ⟨h0, b, _, _, rfl, _⟩
    · exact .inl ⟨h0, rfl⟩
    · exact .inr (.inl ⟨h0, rfl⟩)
    · exact .inr (.inr (.inl ⟨h0, rfl⟩))
    · exact .inr (.inr (.inr (.inl ⟨h0, rfl⟩)))
    · exact .inr (.inr (.inr (.inr (.inl ⟨h0, rfl⟩))))
    · exact .inr (.inr (.inr (.inr (.inr (.inl ⟨h0, s, rfl⟩)))))
    · exact .inr (.inr (.inr (.inr (.inr (.inr ⟨h0, b, rfl⟩)))))

theorem table_none {n : Nat} {w w' : World} {x : S26} {e : Ending} (hb : Below w.heap.size w w') (hx : x.f0 ≠ 7) {b : Bool} (he : e = .returned (.tuple #[.map none, .bool b])) (hq : b = decide (x.f0 = 0)) : TPost n w x e w' :=
  ⟨none, by rw [he, hq, decide_eq_false hx, Bool.false_or], hb, fun _ => rfl, fun h => absurd h hx⟩

theorem below_grown {w w1 w2 : World} {k : Nat} (hb : Below w.heap.size w w1) (hg : w1.grownBy w2 (some k)) (hk : w.heap.size ≤ k) : Below w.heap.size w w2 :=
  ⟨hg.os.trans hb.os, hg.tape.trans hb.tape, hg.output.trans hb.output, Nat.le_trans hb.size hg.size, fun j hj => (hg.block j (by have := hb.size; omega) (by simp; omega)).trans (hb.block j hj)⟩

set_option maxHeartbeats 4000000 in
theorem table_calls (n : Nat) (x : S26) (A5 : Option Addr) (c5 : Nat) (A6 : Option Addr) (c6 : Nat) (P : Nat → Prop) (w : World) (hr : Rt n x) (hsm : Sm n x) (hv : KV w P x A5 c5 A6 c6) (hP : ∀ k, P k → k < w.heap.size) (hn : n ≤ 61) (hc : cnt n x ≤ 2000) :
    Calls Try.prog 45 #[agg26 x A5 c5 A6 c6] w (TPost n w x) := by
  have RT := Aside0.mk hr
  have SM := Aside0.mk hsm
  have HV := Aside0.mk hv
  have HP := Aside0.mk hP
  have HC := Aside0.mk hc
  clear hr hsm hv hP hc
  have t1 := as58_nil
  have t2 := as58_bool
  have t3 := as58_int
  have t4 := as58_flt
  have t5 := as58_str
  have t6 := as58_list
  have t7 := as58_map
  go_enter Try.func45, Try.ntmps45
  go_wp2_with fail
  go_at_call 48
  refine (any_of n x A5 c5 A6 c6 P 0 0 (w.heap.size + 1) _ RT.out SM.out ?_ ?_ (by omega) (by omega) (by omega) ?_ ?_).mono ?_
  · exact HV.out.below (below_alloc (below_alloc (Below.refl _ _) _) _)
  · intro k hk
    have := HP.out k hk
    simp only [World.size_alloc]
    omega
  · have := HC.out
    omega
  · have := blk_new (w.alloc (.cells #[.int .i64 x.f0, .bool x.f1, .int .i64 x.f2, .float .f64 x.f3, .string x.f4, .slice A5 x.f5.length c5, .slice A6 x.f6.length c6] 26)) (.cells #[.int .i64 0] 3)
    simpa using this
  rintro e W2 ⟨val, fp, rfl, hr, hn, hnew, hctr, hgr⟩
  have bx : W2.cell? ⟨w.heap.size, 0, none⟩ = some (.int .i64 x.f0) := World.grownBy.cell hgr ((blk_cell (blk_alloc (blk_new w _) _) 0).trans rfl) (by simp)
  have HR := Aside0.mk hr
  have HN := Aside0.mk hn
  have HW := Aside0.mk hnew
  have HGR := Aside0.mk hgr
  have VF := hr.kind
  clear hr hn hnew hctr hgr
  rcases VF with ⟨hx, rfl⟩ | ⟨hx, rfl⟩ | ⟨hx, rfl⟩ | ⟨hx, rfl⟩ | ⟨hx, rfl⟩ | ⟨hx, s, rfl⟩ | ⟨hx, b, rfl⟩
  all_goals
    have HX := Aside0.mk hx
    rw [hx] at bx
    go_wp2
    go_quiet (fail)
    go_wp2
    go_ret2
    have HB := pw_below_drewN (below_grown (below_alloc (below_alloc (Below.refl _ w) _) _) HGR.out (Nat.le_succ _)) nq
  · exact table_none HB (by omega) rfl (by rw [HX.out]; rfl)
  · exact table_none HB (by omega) rfl (by rw [HX.out]; rfl)
  · exact table_none HB (by omega) rfl (by rw [HX.out]; rfl)
  · exact table_none HB (by omega) rfl (by rw [HX.out]; rfl)
  · exact table_none HB (by omega) rfl (by rw [HX.out]; rfl)
  · exact table_none HB (by omega) rfl (by rw [HX.out]; rfl)
  · refine ⟨some b, by rw [HX.out]; rfl, HB, fun h => absurd HX.out h, fun _ => ⟨_, Rep.move n HR.out fun k _ => rfl, HN.out, fun k hk => ?_⟩⟩
    have := HW.out k hk
    simp only [World.size_alloc, World.heap_drewN] at *
    omega

end Go.Proofs.Ytjfbjkodjjlkiaa.HVal
/-! What impl.valueOf comes to: single values. -/
namespace Go.Proofs.Ytjfbjkodjjlkiaa.HVal
open Go.RowKit Go.WideMaps Go.Maps Go.Proofs.YtjfbjkodjjlkiaaW.PrintWords Go.Proofs.YtjfbjkodjjlkiaaW.PrintLast Go.Proofs.YtjfbjkodjjlkiaaW.PrintMore Go.Proofs.Ytjfbjkodjjlkiaa.Plain Go.Proofs.Ytjfbjkodjjlkiaa.GTab
attribute [local go_sem] run_store_flt

/-- A value with the fields that its kind does not use as they are made. -/
def canon : Nat → S26 → S26
  | 0, _ => z26
  | n + 1, x => if x.f0 = 0 then z26 else if x.f0 = 1 then { z26 with f0 := 1, f1 := x.f1 } else if x.f0 = 2 then { z26 with f0 := 2, f2 := x.f2 } else if x.f0 = 4 then { z26 with f0 := 4, f3 := x.f3 }
    else if x.f0 = 5 then { z26 with f0 := 5, f4 := x.f4 } else if x.f0 = 6 then { z26 with f0 := 6, f6 := x.f6.map (canon n) } else { z26 with f0 := 7, f5 := x.f5, f6 := x.f6.map (canon n) }
/-- What valueOf gives: cells that are made. -/
def ValPost (n : Nat) (w : World) (x : S26) (e : Ending) (w' : World) : Prop :=
  ∃ v5 v6, e = .returned (.agg #[.int .i64 (canon n x).f0, .bool (canon n x).f1, .int .i64 (canon n x).f2, .float .f64 (canon n x).f3, .string (canon n x).f4, v5, v6]) ∧
    k26.M w' w.heap.size (fun _ => True) (canon n x) [.int .i64 (canon n x).f0, .bool (canon n x).f1, .int .i64 (canon n x).f2, .float .f64 (canon n x).f3, .string (canon n x).f4, v5, v6] ∧ Below w.heap.size w w'

theorem val_end {n : Nat} {w w' : World} {x y : S26} {e : Ending} (hb : Below w.heap.size w w') (hy : canon n x = y) (h5 : y.f5 = []) (h6 : y.f6 = []) (he : e = .returned (.agg #[.int .i64 y.f0, .bool y.f1, .int .i64 y.f2, .float .f64 y.f3, .string y.f4, .slice none 0 0, .slice none 0 0])) : ValPost n w x e w' := by
  subst hy
  exact ⟨.slice none 0 0, .slice none 0 0, he, k26_mkM w' _ _ _ (by rw [h5]; exact Kd.R_nil _ _ _ _ _) (by rw [h6]; exact Kd.R_nil _ _ _ _ _), hb⟩
/-- What valueOf comes to, for values of at most n levels. -/
def ValC (n : Nat) : Prop := ∀ (x : S26) (v : Value) (fp : List Nat) (w : World), Rep n w v x fp → Rt n x → Sm n x → cnt n x ≤ 2000 → (∀ k ∈ fp, k < w.heap.size) → Calls Try.prog 46 #[v] w (ValPost n w x)

theorem vs4_bool (b : Bool) (w : World) : (Instr.typeAssert (.iface 4 (.bool b)) 20 4 true).run Try.prog w = .ok (.tuple #[.bool b, .bool true]) w := by kernel_rfl
theorem vs4_int (i : Int) (w : World) : (Instr.typeAssert (.iface 2 (.int .i64 i)) 20 4 true).run Try.prog w = .ok (.tuple #[.bool false, .bool false]) w := by kernel_rfl
theorem vs2_int (i : Int) (w : World) : (Instr.typeAssert (.iface 2 (.int .i64 i)) 20 2 true).run Try.prog w = .ok (.tuple #[.int .i64 i, .bool true]) w := by kernel_rfl
theorem vs4_flt (f : Nat) (w : World) : (Instr.typeAssert (.iface 22 (.float .f64 f)) 20 4 true).run Try.prog w = .ok (.tuple #[.bool false, .bool false]) w := by kernel_rfl
theorem vs2_flt (f : Nat) (w : World) : (Instr.typeAssert (.iface 22 (.float .f64 f)) 20 2 true).run Try.prog w = .ok (.tuple #[.int .i64 0, .bool false]) w := by kernel_rfl
theorem vs22_flt (f : Nat) (w : World) : (Instr.typeAssert (.iface 22 (.float .f64 f)) 20 22 true).run Try.prog w = .ok (.tuple #[.float .f64 f, .bool true]) w := by kernel_rfl
theorem vs4_str (s : ByteArray) (w : World) : (Instr.typeAssert (.iface 9 (.string s)) 20 4 true).run Try.prog w = .ok (.tuple #[.bool false, .bool false]) w := by kernel_rfl
theorem vs2_str (s : ByteArray) (w : World) : (Instr.typeAssert (.iface 9 (.string s)) 20 2 true).run Try.prog w = .ok (.tuple #[.int .i64 0, .bool false]) w := by kernel_rfl
theorem vs22_str (s : ByteArray) (w : World) : (Instr.typeAssert (.iface 9 (.string s)) 20 22 true).run Try.prog w = .ok (.tuple #[.float .f64 0, .bool false]) w := by kernel_rfl
theorem vs9_str (s : ByteArray) (w : World) : (Instr.typeAssert (.iface 9 (.string s)) 20 9 true).run Try.prog w = .ok (.tuple #[.string s, .bool true]) w := by kernel_rfl
theorem vs4_list (v : Value) (w : World) : (Instr.typeAssert (.iface 85 v) 20 4 true).run Try.prog w = .ok (.tuple #[.bool false, .bool false]) w := by kernel_rfl
theorem vs2_list (v : Value) (w : World) : (Instr.typeAssert (.iface 85 v) 20 2 true).run Try.prog w = .ok (.tuple #[.int .i64 0, .bool false]) w := by kernel_rfl
theorem vs22_list (v : Value) (w : World) : (Instr.typeAssert (.iface 85 v) 20 22 true).run Try.prog w = .ok (.tuple #[.float .f64 0, .bool false]) w := by kernel_rfl
theorem vs9_list (v : Value) (w : World) : (Instr.typeAssert (.iface 85 v) 20 9 true).run Try.prog w = .ok (.tuple #[.string ⟨#[]⟩, .bool false]) w := by kernel_rfl
theorem vs85_list (v : Value) (w : World) : (Instr.typeAssert (.iface 85 v) 20 85 true).run Try.prog w = .ok (.tuple #[v, .bool true]) w := by kernel_rfl
theorem vs4_map (m : Option Nat) (w : World) : (Instr.typeAssert (.iface 58 (.map m)) 20 4 true).run Try.prog w = .ok (.tuple #[.bool false, .bool false]) w := by kernel_rfl
theorem vs2_map (m : Option Nat) (w : World) : (Instr.typeAssert (.iface 58 (.map m)) 20 2 true).run Try.prog w = .ok (.tuple #[.int .i64 0, .bool false]) w := by kernel_rfl
theorem vs22_map (m : Option Nat) (w : World) : (Instr.typeAssert (.iface 58 (.map m)) 20 22 true).run Try.prog w = .ok (.tuple #[.float .f64 0, .bool false]) w := by kernel_rfl
theorem vs9_map (m : Option Nat) (w : World) : (Instr.typeAssert (.iface 58 (.map m)) 20 9 true).run Try.prog w = .ok (.tuple #[.string ⟨#[]⟩, .bool false]) w := by kernel_rfl
theorem vs85_map (m : Option Nat) (w : World) : (Instr.typeAssert (.iface 58 (.map m)) 20 85 true).run Try.prog w = .ok (.tuple #[.slice none 0 0, .bool false]) w := by kernel_rfl
theorem vs70_map (m : Option Nat) (w : World) : (Instr.typeAssert (.iface 58 (.map m)) 20 70 true).run Try.prog w = .ok (.tuple #[.map none, .bool false]) w := by kernel_rfl
theorem vs58_map (m : Option Nat) (w : World) : (Instr.typeAssert (.iface 58 (.map m)) 20 58 true).run Try.prog w = .ok (.tuple #[.map m, .bool true]) w := by kernel_rfl

set_option maxRecDepth 100000 in
set_option maxHeartbeats 4000000 in
theorem val_scalar (n : Nat) (x : S26) (v : Value) (w : World) (hr : (x.f0 = 0 ∧ v = .nilIface) ∨ (x.f0 = 1 ∧ v = .iface 4 (.bool x.f1)) ∨ (x.f0 = 2 ∧ v = .iface 2 (.int .i64 x.f2)) ∨ (x.f0 = 4 ∧ v = .iface 22 (.float .f64 x.f3)) ∨ (x.f0 = 5 ∧ v = .iface 9 (.string x.f4))) :
    Calls Try.prog 46 #[v] w (ValPost (n + 1) w x) := by
  rcases hr with ⟨hx, rfl⟩ | ⟨hx, rfl⟩ | ⟨hx, rfl⟩ | ⟨hx, rfl⟩ | ⟨hx, rfl⟩
  · have HX := Aside0.mk hx
    clear hx
    go_enter Try.func46, Try.ntmps46
    go_wp2
    refine bodyPost_ret (results_cell_row rfl _ _ w.heap.size 26 _ (0, 0) _ rfl (blk_new w _) rfl rfl rfl) rfl ?_
    exact val_end (y := z26) (below_alloc (Below.refl _ _) _) (by unfold canon; rw [HX.out]; rfl) rfl rfl rfl
  · have HX := Aside0.mk hx
    clear hx
    have t0 := vs4_bool
    go_enter Try.func46, Try.ntmps46
    go_wp2
    refine bodyPost_ret (results_cell_row rfl _ _ w.heap.size 26 _ (0, 0) _ rfl (blk_new w _) rfl rfl rfl) rfl ?_
    exact val_end (y := { z26 with f0 := 1, f1 := x.f1 }) (below_alloc (Below.refl _ _) _) (by unfold canon; rw [HX.out]; rfl) rfl rfl rfl
  · have HX := Aside0.mk hx
    clear hx
    have t0 := vs4_int
    have t1 := vs2_int
    go_enter Try.func46, Try.ntmps46
    go_wp2
    refine bodyPost_ret (results_cell_row rfl _ _ w.heap.size 26 _ (0, 0) _ rfl (blk_new w _) rfl rfl rfl) rfl ?_
    exact val_end (y := { z26 with f0 := 2, f2 := x.f2 }) (below_alloc (Below.refl _ _) _) (by unfold canon; rw [HX.out]; rfl) rfl rfl rfl
  · have HX := Aside0.mk hx
    clear hx
    have t0 := vs4_flt
    have t1 := vs2_flt
    have t2 := vs22_flt
    go_enter Try.func46, Try.ntmps46
    go_wp2
    refine bodyPost_ret (results_cell_row rfl _ _ w.heap.size 26 _ (0, 0) _ rfl (blk_new w _) rfl rfl rfl) rfl ?_
    exact val_end (y := { z26 with f0 := 4, f3 := x.f3 }) (below_alloc (Below.refl _ _) _) (by unfold canon; rw [HX.out]; rfl) rfl rfl rfl
  · have HX := Aside0.mk hx
    clear hx
    have t0 := vs4_str
    have t1 := vs2_str
    have t2 := vs22_str
    have t3 := vs9_str
    go_enter Try.func46, Try.ntmps46
    go_wp2
    refine bodyPost_ret (results_cell_row rfl _ _ w.heap.size 26 _ (0, 0) _ rfl (blk_new w _) rfl rfl rfl) rfl ?_
    exact val_end (y := { z26 with f0 := 5, f4 := x.f4 }) (below_alloc (Below.refl _ _) _) (by unfold canon; rw [HX.out]; rfl) rfl rfl rfl

end Go.Proofs.Ytjfbjkodjjlkiaa.HVal
