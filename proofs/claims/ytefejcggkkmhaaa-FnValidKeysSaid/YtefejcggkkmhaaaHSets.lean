/- Sets of texts (kyaml's sets.String): what their methods come to. -/
import Derived.Test.YtefejcggkkmhaaaProg
import Derived.Test.YtefejcggkkmhaaaWMore
import Derived.Deep.LoopGhost
import Derived.Maps.OwnSet
import Derived.Maps.Views
import Derived.Laws.OwnMore
import Derived.OwnWalk
import Derived.WalkKit
import Derived.WalkSpells
namespace Go.Proofs.Ytefejcggkkmhaaa.HSets
open Go.RowKit Go.WideMaps Go.Maps Go.Proofs.YtefejcggkkmhaaaW.PrintWords Go.Proofs.YtefejcggkkmhaaaW.PrintLast Go.Proofs.YtefejcggkkmhaaaW.PrintMore

def keyS (s : ByteArray) : Lit := .string s.data.toList
theorem keyS_inj {a b : ByteArray} (h : keyS a = keyS b) : a = b := by
  have h1 : a.data.toList = b.data.toList := by simpa [keyS] using h
  exact ByteArray.ext (Array.toList_inj.1 h1)
theorem keyS_ok {s : ByteArray} (h : s.size ≤ maxLen) : keyOf Try.prog 9 (.string s) = some (keyS s) := keyOf_string_mk Try.underlying9 h
theorem law9 : Keyed Try.prog 9 := string_keyed Try.underlying9
theorem isKey (s : ByteArray) : WideAt.IsKeyLit (keyS s) := trivial
/-- How an element reads: none. -/
def nR (v : Value) : Option (DataW Unit × List MemPlace) := match v with
  | .nilIface => some (.nil, [])
  | _ => none
def inS (S : List ByteArray) (s : ByteArray) : Bool := S.any fun t => decide (t = s)
/-- Block b is the set of these texts. -/
def SetAt (w : World) (b : Nat) (S : List ByteArray) : Prop := ∃ D, w.ownsMap Try.prog 9 nR b S.length D ∧ (∀ s, Maps.has D (keyS s) = inS S s) ∧ (Maps.size D = 0 ↔ S = [])
theorem SetAt.made (w : World) : SetAt (w.alloc (.map #[] 0)) w.heap.size [] := ⟨.map [], World.ownsMap_made _ _ _ _, fun s => rfl, by simp [size_eq]⟩
theorem SetAt.same {w w' : World} {b : Nat} {S : List ByteArray} (h : SetAt w b S) (hb : w'.heap[b]? = w.heap[b]?) : SetAt w' b S := by
  obtain ⟨D, ⟨es, clock, hh, F, hs, hD⟩, r⟩ := h
  exact ⟨D, ⟨es, clock, hb.trans hh, F, hs, hD⟩, r⟩
theorem SetAt.lt {w : World} {b : Nat} {S : List ByteArray} (h : SetAt w b S) : b < w.heap.size := by
  obtain ⟨D, ho, _⟩ := h
  exact ho.lt
theorem put_set {w : World} {b n : Nat} {S : List ByteArray} {D : DataW Unit} (ho : w.ownsMap Try.prog 9 nR b n D) (hh : ∀ s, Maps.has D (keyS s) = inS S s) (hs : Maps.size D = 0 ↔ S = []) (s : ByteArray) {w' : World} (ho' : w'.ownsMap Try.prog 9 nR b (S.length + 1) (D.put (keyS s) .nil)) : SetAt w' b (S ++ [s]) := by
  have ht : Tidy D := ho.tidy law9
  refine ⟨_, by rw [List.length_append]; exact ho', fun t => ?_, ?_⟩
  · by_cases e : t = s
    · subst e
      rw [has_put_same ht.isMap (isKey t)]
      simp [inS]
    · have hne : keyS t ≠ keyS s := fun h => e (keyS_inj h)
      rw [has_put_other hne, hh]
      simp [inS, Ne.symm e]
  · have h1 : Maps.size (D.put (keyS s) .nil) ≠ 0 := by
      rw [size_put ht]
      have := hh s
      split
      · rename_i hq
        intro h0
        rw [hs.1 h0] at this
        rw [hq] at this
        simp [inS] at this
      · omega
    simp [h1]

theorem elem_cell {w : World} {g : Nat} {s : ByteArray} (h : w.heap[g]? = some (.cells #[.string s] 9 (0, 0))) : w.cell? ⟨g, 0, none⟩ = some (.string s) := (blk_cell h 0).trans rfl
set_option maxHeartbeats 1000000 in
theorem insert_calls (b g : Nat) (S : List ByteArray) (s : ByteArray) (w : World) (hs : SetAt w b S) (hg : w.heap[g]? = some (.cells #[.string s] 9 (0, 0))) (hl : s.size ≤ maxLen) (hn : S.length < maxLen) :
    Calls Try.prog 25 #[.map (some b), .slice (some ⟨g, 0, none⟩) 1 1] w fun e w' => e = .returned (.tuple #[]) ∧ SetAt w' b (S ++ [s]) ∧ w.grownBy w' (some b) := by
  have HS := Aside0.mk hs
  have HG := Aside0.mk hg
  have c0 := elem_cell hg
  clear hs hg
  go_enter Try.func25, Try.ntmps25
  go_wp2
  go_loopw [8] (fun i wr => ∃ j : Nat, j ≤ 1 ∧ i = .int .i64 j ∧ Aside0 (j = 0 → wr = w) ∧ Aside0 (j = 1 → SetAt wr b (S ++ [s]) ∧ w.grownBy wr (some b))) (fun i _ => 1 - (intOf i).toNat)
  case atStart => exact ⟨0, Nat.zero_le _, rfl, ⟨fun _ => rfl⟩, ⟨fun h => by cases h⟩⟩
  case round =>
    obtain ⟨j, hj, rfl, H0, H1⟩ := hrel
    by_cases h0 : j = 0
    · subst h0
      obtain rfl := H0.out rfl
      obtain ⟨D, ho, hh, hz⟩ := HS.out
      have HO := Aside0.mk ho
      have HH := Aside0.mk hh
      have HZ := Aside0.mk hz
      clear ho hh hz
      go_wp2_with (at_mapUpdate; refine wpList_mapUpdate_own _ rfl _ _ _ 42 rfl 9 20 law9 Try.underlying42 nR _ _ D rfl HO.out hn _ _ _ rfl rfl (keyS_ok hl) _ [] rfl ?_; intro W4 hown hg4)
      go_roundw
      case rel => exact ⟨1, Nat.le_refl _, rfl, ⟨fun h => by cases h⟩, ⟨fun _ => ⟨put_set HO.out HH.out HZ.out s hown, hg4⟩⟩⟩
      case measure => simp only [intOf]; omega
    · have h1 : j = 1 := by omega
      subst h1
      go_wp2
      exact bodyPost_end (v := .tuple #[]) (by simp [results, Try.results25, go_sem]) rfl ⟨rfl, H1.out trivial⟩

set_option maxHeartbeats 400000 in
theorem len_calls (b : Nat) (S : List ByteArray) (w : World) (hs : SetAt w b S) : Calls Try.prog 26 #[.map (some b)] w fun e w' => ∃ n : Nat, e = .returned (.int .i64 n) ∧ (n = 0 ↔ S = []) ∧ w = w' := by
  obtain ⟨D, ho, _, hz⟩ := hs
  have HO := Aside0.mk ho
  have HZ := Aside0.mk hz
  clear ho hz
  go_enter Try.func26, Try.ntmps26
  go_wp2_with (at_len; refine wpList_len_own _ rfl _ 42 rfl 9 20 Try.underlying42 nR _ _ D rfl HO.out ?_)
  go_ret
  exact ⟨_, rfl, HZ.out, rfl⟩

theorem zero20 (w : World) : (zeroValue 20).run Try.prog w = .ok .nilIface w := by kernel_rfl
set_option maxHeartbeats 400000 in
theorem has_calls (b : Nat) (S : List ByteArray) (s : ByteArray) (w : World) (hs : SetAt w b S) (hl : s.size ≤ maxLen) : Calls Try.prog 27 #[.map (some b), .string s] w fun e w' => e = .returned (.bool (inS S s)) ∧ w = w' := by
  obtain ⟨D, ho, hh, _⟩ := hs
  have HO := Aside0.mk ho
  have HH := Aside0.mk hh
  clear ho hh
  go_enter Try.func27, Try.ntmps27
  go_wp2_with (at_lookup; refine wpList_lookup_own_ok _ rfl _ _ 42 rfl 9 20 law9 Try.underlying42 nR (zero20 _) .nil [] rfl _ _ D rfl HO.out _ _ rfl (keyS_ok hl) ?_; intro v ps hv; clear hv; rw [HH.out s])
  go_ret
  exact ⟨rfl, rfl⟩

end Go.Proofs.Ytefejcggkkmhaaa.HSets
