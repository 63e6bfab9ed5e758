/- What SchemaKeys comes to, for a schema of a list: with a strategy, with a key, or without. -/
import Derived.Test.YtmjecafddklbjaaHSchemaOf
import Derived.Defers
import Derived.Recover
namespace Go.Proofs.Ytmjecafddklbjaa.HSchema
open Go.RowKit Go.WideMaps Go.Maps Go.Proofs.YtmjecafddklbjaaW.PrintWords Go.Proofs.Ytmjecafddklbjaa.HMapI

/-- A schema from block base on tells a strategy and a key. -/
def Tells (base q : Nat) (s k : ByteArray) (w : World) : Prop := base ≤ q ∧ q < w.heap.size ∧
  ((w.cell? ⟨q, 4, none⟩ = some (.map none) ∧ s = ⟨#[]⟩ ∧ k = ⟨#[]⟩) ∨
   ∃ B n D, w.cell? ⟨q, 4, none⟩ = some (.map (some B)) ∧ base ≤ B ∧ w.ownsMap Try.prog 9 (ifR 9) B n D ∧ has D (.string kL.data.toList) = false ∧ D.atKey (.string kL.data.toList) .nil = .nil ∧
    ((has D (.string kS.data.toList) = false ∧ D.atKey (.string kS.data.toList) .nil = .nil ∧ s = ⟨#[]⟩ ∧ k = ⟨#[]⟩) ∨
     (has D (.string kS.data.toList) = true ∧ D.atKey (.string kS.data.toList) .nil = .lit (.string s.data.toList) ∧
      ((has D (.string kK.data.toList) = false ∧ D.atKey (.string kK.data.toList) .nil = .nil ∧ k = ⟨#[]⟩) ∨ (has D (.string kK.data.toList) = true ∧ D.atKey (.string kK.data.toList) .nil = .lit (.string k.data.toList))))))

theorem Tells.kept {base q : Nat} {s k : ByteArray} {w w1 : World} (h : Tells base q s k w) (hs : w.heap.size ≤ w1.heap.size) (hb : ∀ b, base ≤ b → b < w.heap.size → w1.heap[b]? = w.heap[b]?) : Tells base q s k w1 := by
  obtain ⟨h1, h2, h3⟩ := h
  have hc : w1.cell? ⟨q, 4, none⟩ = w.cell? ⟨q, 4, none⟩ := World.cell?_of_block (hb q h1 h2)
  refine ⟨h1, Nat.lt_of_lt_of_le h2 hs, ?_⟩
  rcases h3 with h3 | ⟨B, n, D, e1, e2, e3, e4⟩
  · exact .inl ⟨hc.trans h3.1, h3.2⟩
  · refine .inr ⟨B, n, D, hc.trans e1, e2, ?_, e4⟩
    have hlt := e3.lt
    obtain ⟨es, clock, hh, F, hs, hD⟩ := e3
    exact ⟨es, clock, (hb B e2 hlt).trans hh, F, hs, hD⟩
theorem Tells.below {base q : Nat} {s k : ByteArray} {w w1 : World} (h : Tells base q s k w) (hb : Below w.heap.size w w1) : Tells base q s k w1 := h.kept hb.size fun b _ hlt => hb.block b hlt
theorem Tells.set {base q : Nat} {s k : ByteArray} {w : World} (h : Tells base q s k w) {p : Addr} (hp : p.block < base) (v : Value) : Tells base q s k (w.setCell p v) :=
  h.kept (by simp [World.setCell]) fun b hb _ => Below.heap_setCell _ _ _ _ (by omega)

theorem tells14 (base pb q : Nat) (s k : ByteArray) (w : World) (h0 : w.cell? ⟨pb, 0, none⟩ = some (.pointer (some ⟨q, 0, none⟩))) (h : Tells base q s k w) :
    Calls Try.prog 14 #[.pointer (some ⟨pb, 0, none⟩)] w fun e w' => e = .returned (.tuple #[.string s, .string k]) ∧ Below w.heap.size w w' := by
  obtain ⟨_, _, h | ⟨B, n, D, e1, _, ho, l1, l2, h | ⟨a1, a2, h | h⟩⟩⟩ := h
  · obtain ⟨h, rfl, rfl⟩ := h
    exact nil_calls pb q w h0 h
  · obtain ⟨a1, a2, rfl, rfl⟩ := h
    exact none_calls pb q B n D w h0 e1 ho a2 a1
  · obtain ⟨b1, b2, rfl⟩ := h
    exact one_calls pb q B n D s w h0 e1 ho a2 a1 b2 b1
  · exact both_calls pb q B n D s k w h0 e1 ho a2 a1 h.2 h.1
theorem tells13 (base pb q : Nat) (s k : ByteArray) (w : World) (h0 : w.cell? ⟨pb, 0, none⟩ = some (.pointer (some ⟨q, 0, none⟩))) (h : Tells base q s k w) :
    Calls Try.prog 13 #[.pointer (some ⟨pb, 0, none⟩)] w (TextAnd w s) := by
  obtain ⟨_, _, h | ⟨B, n, D, e1, _, ho, l1, l2, h | ⟨a1, a2, h | h⟩⟩⟩ := h
  · obtain ⟨h, rfl, rfl⟩ := h
    exact list_nil pb q w h0 h
  · obtain ⟨a1, a2, rfl, rfl⟩ := h
    exact list_none pb q B n D w h0 e1 ho a2 a1
  · obtain ⟨b1, b2, rfl⟩ := h
    exact list_one pb q B n D s w h0 e1 ho a2 a1 l2 l1 b2 b1
  · exact list_both pb q B n D s k w h0 e1 ho a2 a1 l2 l1 h.2 h.1

/-- A schema made anew. -/
def Told (w : World) (s k : ByteArray) (e : Ending) (w' : World) : Prop := ∃ q : Nat, e = .returned (.tuple #[.pointer (some ⟨q, 0, none⟩), .bool true]) ∧ Tells w.heap.size q s k w' ∧ Below w.heap.size w w'
def sOf (h : Bool) (s : ByteArray) : ByteArray := if h then s else ⟨#[]⟩
theorem of_any (A : Option Addr) (n c : Nat) (h k : Bool) (s t : ByteArray) (w : World) :
    Calls Try.prog 12 #[inS (.slice A n c) h k s t, .int .i64 0] w (Told w (sOf h s) (sOf (h && k) t)) := by
  cases h with
  | false =>
    cases k with
    | false =>
      refine (of_none A n c s t w).mono ?_
      rintro e w' ⟨q, rfl, hc, hlt, hq, hb⟩
      exact ⟨q, rfl, ⟨hq, hlt, .inl ⟨hc, rfl, rfl⟩⟩, hb⟩
    | true =>
      refine (of_key A n c s t w).mono ?_
      rintro e w' ⟨q, B, rfl, hc, ho, hlt, hq, hB, hb⟩
      exact ⟨q, rfl, ⟨hq, hlt, .inr ⟨B, _, _, hc, hB, ho, rfl, rfl, .inl ⟨rfl, rfl, rfl, rfl⟩⟩⟩, hb⟩
  | true =>
    cases k with
    | false =>
      refine (of_strategy A n c s t w).mono ?_
      rintro e w' ⟨q, B, rfl, hc, ho, hlt, hq, hB, hb⟩
      exact ⟨q, rfl, ⟨hq, hlt, .inr ⟨B, _, _, hc, hB, ho, rfl, rfl, .inr ⟨rfl, rfl, .inl ⟨rfl, rfl, rfl⟩⟩⟩⟩, hb⟩
    | true =>
      refine (of_both A n c s t w).mono ?_
      rintro e w' ⟨q, B, rfl, hc, ho, hlt, hq, hB, hb⟩
      exact ⟨q, rfl, ⟨hq, hlt, .inr ⟨B, _, _, hc, hB, ho, rfl, rfl, .inr ⟨rfl, rfl, .inr ⟨rfl, rfl⟩⟩⟩⟩, hb⟩

theorem catch_idle (p1 p2 p3 p4 p5 : Value) (w : World) :
    CallsD Try.prog 11 #[p1, p2, p3, p4, p5] .returning w fun e u' w' => e = .returned (.tuple #[]) ∧ u' = .returning ∧ w' = w := by
  refine callsD_of_wpS Try.func11 rfl fun c₀ cs hu => ?_
  apply wpS_seq
  apply wpS_region
  simp [wpOpsS, go_sem, recoverD, hu, Try.ntmps11, Exit.thenS]
  refine wpS_cond (t := false) (by simp [Act.eval, Array.replicate]) ?_
  simp only [Bool.false_eq_true, if_false]
  refine wpS_of_wp (wp_skip ?_)
  cases c₀
  simp_all [bodyPostS, results, Try.results11]

def Keys (w : World) (s k : ByteArray) (e : Ending) (w' : World) : Prop := ∃ v : Value, e = .returned (.tuple #[.string s, v, .string s, .string k, .int .i64 0]) ∧ Below w.heap.size w w'
theorem blk_at {w : World} {b : Nat} (o : Obj) (h : w.heap.size = b) : (w.alloc o).heap[b]? = some o := by subst h; exact blk_new w o
theorem blk_setO {w : World} {b : Nat} {o : Obj} (h : w.heap[b]? = some o) {p : Addr} (hne : b ≠ p.block) (v : Value) : (w.setCell p v).heap[b]? = some o := (Below.heap_setCell w p v b hne).trans h
theorem nn {a b : Nat} (h : a ≠ b) : a ≠ b := h

/-- The results are laid, and laid once more. -/
def fin5 (w4 : World) (n : Nat) (s k : ByteArray) (v : Value) : World := (((((((w4.setCell ⟨n + 1 + 1 + 1, 0, none⟩ (.string s)).setCell ⟨n + 1 + 1 + 1 + 1, 0, none⟩ (.string k)).setCell ⟨n + 1, 0, none⟩ (.string s)).setCell ⟨n + 1 + 1, 0, none⟩ v).setCell ⟨n + 1 + 1 + 1, 0, none⟩ (.string s)).setCell ⟨n + 1 + 1 + 1 + 1, 0, none⟩ (.string k)).setCell ⟨n + 1 + 1 + 1 + 1 + 1, 0, none⟩ (.int .i64 0)).drew
theorem fin5_below {B : Nat} {w w4 : World} {n : Nat} {s k : ByteArray} {v : Value} (h : Below B w w4) (hn : B ≤ n) : Below B w (fin5 w4 n s k v) :=
  (((((((h.setCell (p := ⟨n + 1 + 1 + 1, 0, none⟩) (by simp only; omega) _).setCell (p := ⟨n + 1 + 1 + 1 + 1, 0, none⟩) (by simp only; omega) _).setCell (p := ⟨n + 1, 0, none⟩) (by simp only; omega) _).setCell (p := ⟨n + 1 + 1, 0, none⟩) (by simp only; omega) _).setCell (p := ⟨n + 1 + 1 + 1, 0, none⟩) (by simp only; omega) _).setCell (p := ⟨n + 1 + 1 + 1 + 1, 0, none⟩) (by simp only; omega) _).setCell (p := ⟨n + 1 + 1 + 1 + 1 + 1, 0, none⟩) (by simp only; omega) _).drew
theorem fin5_cells {w4 : World} {n : Nat} {s k : ByteArray} {v x1 x2 x3 x4 x5 : Value} {t1 t2 t3 t4 t5 : TypeId} (h1 : w4.heap[n + 1]? = some (.cells #[x1] t1 (0, 0))) (h2 : w4.heap[n + 1 + 1]? = some (.cells #[x2] t2 (0, 0))) (h3 : w4.heap[n + 1 + 1 + 1]? = some (.cells #[x3] t3 (0, 0))) (h4 : w4.heap[n + 1 + 1 + 1 + 1]? = some (.cells #[x4] t4 (0, 0))) (h5 : w4.heap[n + 1 + 1 + 1 + 1 + 1]? = some (.cells #[x5] t5 (0, 0))) :
    (fin5 w4 n s k v).cell? ⟨n + 1, 0, none⟩ = some (.string s) ∧ (fin5 w4 n s k v).cell? ⟨n + 1 + 1, 0, none⟩ = some v ∧ (fin5 w4 n s k v).cell? ⟨n + 1 + 1 + 1, 0, none⟩ = some (.string s) ∧ (fin5 w4 n s k v).cell? ⟨n + 1 + 1 + 1 + 1, 0, none⟩ = some (.string k) ∧ (fin5 w4 n s k v).cell? ⟨n + 1 + 1 + 1 + 1 + 1, 0, none⟩ = some (.int .i64 0) := by
  refine ⟨?_, ?_, ?_, ?_, ?_⟩
  · exact (blk_cell (t := t1) (blk_drew (blk_setO (blk_setO (blk_setO (blk_setO (blk_put (blk_setO (blk_setO h1 (by simp only; omega) _) (by simp only; omega) _) 0 (.string s) rfl) (by simp only; omega) _) (by simp only; omega) _) (by simp only; omega) _) (by simp only; omega) _)) 0).trans rfl
  · exact (blk_cell (t := t2) (blk_drew (blk_setO (blk_setO (blk_setO (blk_put (blk_setO (blk_setO (blk_setO h2 (by simp only; omega) _) (by simp only; omega) _) (by simp only; omega) _) 0 v rfl) (by simp only; omega) _) (by simp only; omega) _) (by simp only; omega) _)) 0).trans rfl
  · exact (blk_cell (t := t3) (blk_drew (blk_setO (blk_setO (blk_put (blk_setO (blk_setO (blk_setO (blk_put h3 0 (.string s) rfl) (by simp only; omega) _) (by simp only; omega) _) (by simp only; omega) _) 0 (.string s) rfl) (by simp only; omega) _) (by simp only; omega) _)) 0).trans rfl
  · exact (blk_cell (t := t4) (blk_drew (blk_setO (blk_put (blk_setO (blk_setO (blk_setO (blk_put (blk_setO h4 (by simp only; omega) _) 0 (.string k) rfl) (by simp only; omega) _) (by simp only; omega) _) (by simp only; omega) _) 0 (.string k) rfl) (by simp only; omega) _)) 0).trans rfl
  · exact (blk_cell (t := t5) (blk_drew (blk_put (blk_setO (blk_setO (blk_setO (blk_setO (blk_setO (blk_setO h5 (by simp only; omega) _) (by simp only; omega) _) (by simp only; omega) _) (by simp only; omega) _) (by simp only; omega) _) (by simp only; omega) _) 0 (.int .i64 0) rfl)) 0).trans rfl
theorem box_new (w2 : World) (q : Nat) : (w2.alloc (.cells #[.pointer (some ⟨q, 0, none⟩)] 52)).cell? ⟨w2.heap.size, 0, none⟩ = some (.pointer (some ⟨q, 0, none⟩)) := by rw [blk_cell (blk_new w2 _)]; rfl
theorem far {w2 : World} {b : Nat} {o : Obj} (h : w2.heap[b]? = some o) : w2.heap.size ≠ b := by have := blk_lt h; omega

set_option maxHeartbeats 2000000 in
theorem keys_calls (A : Option Addr) (n c : Nat) (h k : Bool) (s t : ByteArray) (w : World) :
    Calls Try.prog 5 #[inS (.slice A n c) h k s t] w (Keys w (sOf h s) (sOf (h && k) t)) := by
  have hmf : ∀ (fn : Fn) (first cap : Array Value) (w : World), (Instr.makeFunc fn first cap).run Try.prog w = .ok (.func fn first cap) w := fun _ _ _ _ => rfl
  obtain ⟨s1, hs1⟩ : ∃ s1, sOf h s = s1 := ⟨_, rfl⟩
  obtain ⟨k1, hk1⟩ : ∃ k1, sOf (h && k) t = k1 := ⟨_, rfl⟩
  have HC := Aside0.mk (of_any A n c h k s t)
  rw [hs1, hk1] at HC
  rw [hs1, hk1]
  clear hs1 hk1
  go_enter_defers Try.func5, Try.ntmps5
  go_wp2_with (first
    | (go_at_call 12; refine (HC.out _).mono ?_; rintro e w2 ⟨q, rfl, ht, hb⟩; have HT := Aside0.mk ht; have HB := Aside0.mk (show Below w.heap.size w w2 from below_step (by repeat (first | exact Below.refl _ _ | apply below_alloc)) hb); have B1 := Aside0.mk (blk_below (blk_alloc (blk_alloc (blk_alloc (blk_alloc (blk_at (b := w.heap.size + 1) (.cells #[.string ⟨#[]⟩] 9) (by simp)) _) _) _) _) hb); have B2 := Aside0.mk (blk_below (blk_alloc (blk_alloc (blk_alloc (blk_at (b := w.heap.size + 1 + 1) (.cells #[.slice none 0 0] 22) (by simp)) _) _) _) hb); have B3 := Aside0.mk (blk_below (blk_alloc (blk_alloc (blk_at (b := w.heap.size + 1 + 1 + 1) (.cells #[.string ⟨#[]⟩] 9) (by simp)) _) _) hb); have B4 := Aside0.mk (blk_below (blk_alloc (blk_at (b := w.heap.size + 1 + 1 + 1 + 1) (.cells #[.string ⟨#[]⟩] 9) (by simp)) _) hb); have B5 := Aside0.mk (blk_below (blk_at (b := w.heap.size + 1 + 1 + 1 + 1 + 1) (.cells #[.int .i64 0] 3) (by simp)) hb); clear ht hb)
    | (go_at_call 13; refine (tells13 _ _ q s1 k1 _ (box_new _ _) (HT.out.below (below_alloc (Below.refl _ _) _))).mono ?_; rintro e w3 ⟨vA, vn, vc, rfl, hb3⟩; have HB3 := Aside0.mk (below_step (below_alloc HB.out _) hb3); have T3 := Aside0.mk ((HT.out.below (below_alloc (Below.refl _ _) _)).below hb3); have Q3 := Aside0.mk (blk_below (blk_new _ _) hb3); have C1 := Aside0.mk (blk_below (blk_alloc B1.out _) hb3); have C2 := Aside0.mk (blk_below (blk_alloc B2.out _) hb3); have C3 := Aside0.mk (blk_below (blk_alloc B3.out _) hb3); have C4 := Aside0.mk (blk_below (blk_alloc B4.out _) hb3); have C5 := Aside0.mk (blk_below (blk_alloc B5.out _) hb3); have c1 := (blk_cell C1.out 0).trans rfl; have c2 := (blk_cell C2.out 0).trans rfl; have f1 := blk_frozen C1.out 0; have f2 := blk_frozen C2.out 0; clear hb3))
  have hq := (blk_cell (blk_setO (p := ⟨w.heap.size + 1 + 1, 0, none⟩) (blk_setO (p := ⟨w.heap.size + 1, 0, none⟩) Q3.out (far B1.out) (.string s1)) (far B2.out) (.slice vA vn vc)) 0).trans rfl
  have ht := (T3.out.set (p := ⟨w.heap.size + 1, 0, none⟩) (by simp) (.string s1)).set (p := ⟨w.heap.size + 1 + 1, 0, none⟩) (by simp) (.slice vA vn vc)
  go_at_call 14
  refine (tells14 _ _ q s1 k1 _ hq ht).mono ?_
  rintro e w4 ⟨rfl, hb4⟩
  have D1 := Aside0.mk (blk_below (blk_setO (p := ⟨w.heap.size + 1 + 1, 0, none⟩) (blk_put C1.out 0 (.string s1) rfl) (by simp <;> omega) (.slice vA vn vc)) hb4)
  have D2 := Aside0.mk (blk_below (blk_put (blk_setO (p := ⟨w.heap.size + 1, 0, none⟩) C2.out (by simp <;> omega) (.string s1)) 0 (.slice vA vn vc) rfl) hb4)
  have D3 := Aside0.mk (blk_below (blk_setO (p := ⟨w.heap.size + 1 + 1, 0, none⟩) (blk_setO (p := ⟨w.heap.size + 1, 0, none⟩) C3.out (by simp <;> omega) (.string s1)) (by simp <;> omega) (.slice vA vn vc)) hb4)
  have D4 := Aside0.mk (blk_below (blk_setO (p := ⟨w.heap.size + 1 + 1, 0, none⟩) (blk_setO (p := ⟨w.heap.size + 1, 0, none⟩) C4.out (by simp <;> omega) (.string s1)) (by simp <;> omega) (.slice vA vn vc)) hb4)
  have D5 := Aside0.mk (blk_below (blk_setO (p := ⟨w.heap.size + 1 + 1, 0, none⟩) (blk_setO (p := ⟨w.heap.size + 1, 0, none⟩) C5.out (by simp <;> omega) (.string s1)) (by simp <;> omega) (.slice vA vn vc)) hb4)
  have HB4 := Aside0.mk (below_step ((HB3.out.setCell (p := ⟨w.heap.size + 1, 0, none⟩) (by simp <;> omega) (.string s1)).setCell (p := ⟨w.heap.size + 1 + 1, 0, none⟩) (by simp <;> omega) (.slice vA vn vc)) hb4)
  clear hq ht hb4 c1 c2 f1 f2
  have c1 := (blk_cell D1.out 0).trans rfl
  have c2 := (blk_cell D2.out 0).trans rfl
  have c3 := (blk_cell D3.out 0).trans rfl
  have c4 := (blk_cell D4.out 0).trans rfl
  have c5 := (blk_cell D5.out 0).trans rfl
  have f1 := blk_frozen D1.out 0
  have f2 := blk_frozen D2.out 0
  have f3 := blk_frozen D3.out 0
  have f4 := blk_frozen D4.out 0
  have f5 := blk_frozen D5.out 0
  go_wp2_with fail
  go_region
  go_wp2_with fail
  have HE := Aside0.mk (fin5_cells (s := s1) (k := k1) (v := .slice vA vn vc) D1.out D2.out D3.out D4.out D5.out)
  have HF := Aside0.mk (fin5_below (s := s1) (k := k1) (v := .slice vA vn vc) HB4.out (Nat.le_refl _))
  obtain ⟨W5, hW5⟩ : ∃ W5, fin5 w4 w.heap.size s1 k1 (.slice vA vn vc) = W5 := ⟨_, rfl⟩
  rw [hW5] at HE HF
  unfold fin5 at hW5
  rw [hW5]
  clear hW5 c1 c2 c3 c4 c5 f1 f2 f3 f4 f5
  refine leaves_cons (f := 11) (args := #[.pointer (some ⟨w.heap.size + 1, 0, none⟩), .pointer (some ⟨w.heap.size + 1 + 1, 0, none⟩), .pointer (some ⟨w.heap.size + 1 + 1 + 1, 0, none⟩), .pointer (some ⟨w.heap.size + 1 + 1 + 1 + 1, 0, none⟩), .pointer (some ⟨w.heap.size + 1 + 1 + 1 + 1 + 1, 0, none⟩)]) (by simp) (by simp [go_sem]) ?_
  refine (catch_idle _ _ _ _ _ _).mono ?_
  rintro e u' w5 ⟨rfl, rfl, rfl⟩
  obtain ⟨c1, c2, c3, c4, c5⟩ := HE.out
  simp [Leaves, settle, results, Try.results5, go_sem, c1, c2, c3, c4, c5]
  exact ⟨_, rfl, HF.out⟩
end Go.Proofs.Ytmjecafddklbjaa.HSchema
