/- A table of one name, made of a plain value: it is read. -/
import Derived.Test.YtjfbjkodjjlkiaaBC
namespace Go.Proofs.Ytjfbjkodjjlkiaa.HVal
open Go.RowKit Go.WideMaps Go.Maps Go.Proofs.YtjfbjkodjjlkiaaW.PrintWords Go.Proofs.YtjfbjkodjjlkiaaW.PrintLast Go.Proofs.YtjfbjkodjjlkiaaW.PrintMore Go.Proofs.Ytjfbjkodjjlkiaa.Plain Go.Proofs.Ytjfbjkodjjlkiaa.GTab

/-- A table of one name. -/
def tab1 (s : ByteArray) (x : S26) : S26 := { z26 with f0 := 7, f5 := [s], f6 := [x] }
/-- A table at a road of names. -/
def pmap (l : List ByteArray) (x : S26) : S26 := l.foldr tab1 x
theorem pmap_drop {l : List ByteArray} {x : S26} {j : Nat} (h : j < l.length) : pmap (l.drop j) x = tab1 l[j] (pmap (l.drop (j + 1)) x) := by
  rw [List.drop_eq_getElem_cons h]
  rfl
theorem C_one {α : Type} (d : Kd α) {W : World} {ad : Addr} {x : α} {c : List Value} (hk : d.K W x c) (hc : ∀ i u, c[i]? = some u → W.cell? (ad.add i) = some u) : d.C W (some ad) 1 [x] :=
  ⟨rfl, by decide, fun _ => ⟨ad, rfl, fun j p hp => by
    cases j with
    | zero =>
      cases hp
      exact ⟨c, d.K_len hk, hk, fun i u hu => by rw [Nat.zero_mul, Nat.zero_add]; exact hc i u hu⟩
    | succ j => simp at hp⟩⟩
theorem add_blk (b i : Nat) : (⟨b, 0, none⟩ : Addr).add i = ⟨b, i, none⟩ := by
  unfold Addr.add
  split
  · rename_i h
    subst h
    rfl
  · simp
theorem KV.bound {w : World} {P : Nat → Prop} {x : S26} {A5 A6 : Option Addr} {c5 c6 : Nat} (h : KV w P x A5 c5 A6 c6) : KV w (fun k => P k ∧ k < w.heap.size) x A5 c5 A6 c6 := ⟨h.l5, Kd.F_bound h.g5, h.l6, Kd.F_bound h.g6⟩
/-- A table of one name over two new blocks. -/
theorem kv_tab {W : World} {P : Nat → Prop} {x : S26} {s : ByteArray} {A5 A6 : Option Addr} {c5 c6 a c : Nat} {q1 q2 : Nat} (h : KV W P x A5 c5 A6 c6) (ha : W.heap[a]? = some (.cells #[.string s] q1 (0, 0)))
    (hc : W.heap[c]? = some (.cells #[.int .i64 x.f0, .bool x.f1, .int .i64 x.f2, .float .f64 x.f3, .string x.f4, .slice A5 x.f5.length c5, .slice A6 x.f6.length c6] q2 (0, 0))) :
    KV W (fun k => P k ∨ k = a ∨ k = c) (tab1 s x) (some ⟨a, 0, none⟩) 1 (some ⟨c, 0, none⟩) 1 := by
  refine ⟨Nat.le_refl _, fun W' hW => ?_, Nat.le_refl _, fun W' hW => ?_⟩
  · have e := (hW a (.inr (.inl rfl)) (blk_lt ha)).trans ha
    exact C_one Kd.string (c := [.string s]) rfl fun i u hu => by
      rw [add_blk, blk_cell e]
      simpa using hu
  · have e := (hW c (.inr (.inr rfl)) (blk_lt hc)).trans hc
    have hk := Kd.FK_now (h.step (w1 := W') fun k hk hlt => hW k (.inl hk) hlt).fk
    exact C_one k26 hk fun i u hu => by
      rw [add_blk, blk_cell e]
      simpa using hu
end Go.Proofs.Ytjfbjkodjjlkiaa.HVal
