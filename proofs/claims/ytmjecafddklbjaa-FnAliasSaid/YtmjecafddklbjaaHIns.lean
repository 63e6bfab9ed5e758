/- The two keys of an import put into a new map. -/
import Derived.Test.YtmjecafddklbjaaHAlias3
import Derived.WideMake
namespace Go.Proofs.Ytmjecafddklbjaa.HAlias
open Go.RowKit Go.WideMaps Go.Maps Go.Proofs.YtmjecafddklbjaaW.PrintWords Go.Proofs.YtmjecafddklbjaaW.PrintLast Go.Proofs.YtmjecafddklbjaaW.PrintMore Go.Proofs.Ytmjecafddklbjaa.HMapI Go.Proofs.Ytmjecafddklbjaa.HSchema Go.Proofs.Ytmjecafddklbjaa.Plain Go.Proofs.Ytmjecafddklbjaa.GWants

def kChild : ByteArray := ⟨#[99, 104, 105, 108, 100]⟩
def kParent : ByteArray := ⟨#[112, 97, 114, 101, 110, 116]⟩
theorem below_put {w : World} {r B : Nat} (hr : B ≤ r) (o : Obj) : Below B w { w with heap := w.heap.setIfInBounds r o } :=
  ⟨rfl, rfl, rfl, by simp, fun k hk => by
    have : r ≠ k := by omega
    simp [this]⟩
theorem insert1 {W : World} {r : Nat} {c : Nat} (s : ByteArray) (v : Value) (h : W.heap[r]? = some (.map #[] c)) :
    ∃ W1, (Instr.mapUpdate 65 (.map (some r)) (.string s) v).run Try.prog W = .ok () W1 ∧ W1.heap[r]? = some (.map #[{ key := .string s, val := v, born := c }] (c + 1)) ∧ (∀ B, B ≤ r → Below B W W1) := by
  refine ⟨_, run_mapUpdate_first W 65 9 20 r c s v rfl rfl h, (MapKept.heap_set h).1, fun B hB => below_put hB _⟩
theorem insert2 {W : World} {r : Nat} {c : Nat} {e : MapEntry} (s : ByteArray) (v : Value) (h : W.heap[r]? = some (.map #[e] c)) (hf : Instr.findNow .string (.string s) ([e] : List MapEntry) 0 = some none) :
    ∃ W1, (Instr.mapUpdate 65 (.map (some r)) (.string s) v).run Try.prog W = .ok () W1 ∧ (∀ B, B ≤ r → Below B W W1) := by
  have hk : Try.prog.underlying 9 = some .string := rfl
  have hm : Try.prog.underlying 65 = some (.map 9 20) := rfl
  have hc : (Instr.checkKey false 10000 9 (.string s)).run Try.prog W = .ok () W := MapKept.run_checkKey (k := .string s) hk (by simp [MapKept.IsKey]) false 9999
  refine ⟨{ W with heap := W.heap.setIfInBounds r (.map #[e, { key := .string s, val := v, born := c }] (c + 1)) }, ?_, fun B hB => below_put hB _⟩
  simp [Instr.mapUpdate, run_underlying hm, MapKept.run_getObj_map h, hc, MapKept.run_findKey hk hf, MapKept.run_setObj_map _ h, Result.andThen]
theorem parent_new (v : Value) (c : Nat) : Instr.findNow .string (.string kParent) ([{ key := .string kChild, val := v, born := c }] : List MapEntry) 0 = some none := by rfl
theorem child_new (v : Value) (c : Nat) : Instr.findNow .string (.string kChild) ([{ key := .string kParent, val := v, born := c }] : List MapEntry) 0 = some none := by rfl
/-- Two keys, one behind the other, in a map just made. -/
theorem insert_two (w : World) (k1 k2 f1 f2 : ByteArray) (hf : ∀ v c, Instr.findNow .string (.string k2) ([{ key := .string k1, val := v, born := c }] : List MapEntry) 0 = some none) :
    ∃ WA WB, (Instr.mapUpdate 65 (.map (some w.heap.size)) (.string k1) (.iface 9 (.string f1))).run Try.prog (w.alloc (.map #[] 0)).drew = .ok () WA ∧ (Instr.mapUpdate 65 (.map (some w.heap.size)) (.string k2) (.iface 9 (.string f2))).run Try.prog WA = .ok () WB ∧ Below w.heap.size w WA ∧ Below w.heap.size w WB := by
  obtain ⟨WA, h1, h2, h3⟩ := insert1 (W := (w.alloc (.map #[] 0)).drew) (r := w.heap.size) k1 (.iface 9 (.string f1)) (blk_drew (HSchema.blk_at _ rfl))
  obtain ⟨WB, h4, h5⟩ := insert2 k2 (.iface 9 (.string f2)) h2 (hf _ _)
  have b1 : Below w.heap.size w (w.alloc (.map #[] 0)).drew := below_drew (below_alloc (Below.refl _ _) _)
  have b2 := b1.trans (h3 _ (Nat.le_refl _))
  exact ⟨WA, WB, h1, h4, b2, b2.trans (h5 _ (Nat.le_refl _))⟩
theorem insert_cp (w : World) (f1 f2 : ByteArray) :
    ∃ WA WB, (Instr.mapUpdate 65 (.map (some w.heap.size)) (.string ⟨#[99, 104, 105, 108, 100]⟩) (.iface 9 (.string f1))).run Try.prog (w.alloc (.map #[] 0)).drew = .ok () WA ∧ (Instr.mapUpdate 65 (.map (some w.heap.size)) (.string ⟨#[112, 97, 114, 101, 110, 116]⟩) (.iface 9 (.string f2))).run Try.prog WA = .ok () WB ∧ Below w.heap.size w WA ∧ Below w.heap.size w WB := insert_two w kChild kParent f1 f2 parent_new
theorem insert_pc (w : World) (f1 f2 : ByteArray) :
    ∃ WA WB, (Instr.mapUpdate 65 (.map (some w.heap.size)) (.string ⟨#[112, 97, 114, 101, 110, 116]⟩) (.iface 9 (.string f2))).run Try.prog (w.alloc (.map #[] 0)).drew = .ok () WA ∧ (Instr.mapUpdate 65 (.map (some w.heap.size)) (.string ⟨#[99, 104, 105, 108, 100]⟩) (.iface 9 (.string f1))).run Try.prog WA = .ok () WB ∧ Below w.heap.size w WA ∧ Below w.heap.size w WB := insert_two w kParent kChild f2 f1 child_new
end Go.Proofs.Ytmjecafddklbjaa.HAlias
