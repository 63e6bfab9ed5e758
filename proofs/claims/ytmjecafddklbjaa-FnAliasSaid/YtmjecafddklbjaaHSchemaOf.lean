/- What schemaOf comes to, for a schema of a list: with a strategy, with a key, or without. -/
import Derived.Test.YtmjecafddklbjaaHSchema
import Derived.LoopTactic
namespace Go.Proofs.Ytmjecafddklbjaa.HSchema
open Go.RowKit Go.WideMaps Go.Maps Go.Proofs.YtmjecafddklbjaaW.PrintWords Go.Proofs.Ytmjecafddklbjaa.HMapI

/-- The schema as it came: a slice of one text, flags, two texts. -/
abbrev inS (T : Value) (h k : Bool) (s t : ByteArray) : Value := .agg #[T, .slice none 0 0, .slice none 0 0, .slice none 0 0, .slice none 0 0, .bool h, .bool k, .bool false, .string s, .string t, .slice none 0 0]

theorem blk_second (w : World) (A B : Obj) : ((w.alloc A).alloc B).heap[w.heap.size + 1]? = some B := by
  have h := blk_new (w.alloc A) B
  rwa [World.size_alloc] at h
theorem made_at (w : World) (b : Nat) (h : w.heap.size = b) : (w.alloc (.map #[] 0)).ownsMap Try.prog 9 (ifR 9) b 0 (.map []) := by
  subst h
  exact World.ownsMap_made _ _ _ _
set_option maxHeartbeats 4000000 in
set_option maxRecDepth 100000 in
theorem of_none (A : Option Addr) (n c : Nat) (s t : ByteArray) (w : World) :
    Calls Try.prog 12 #[inS (.slice A n c) false false s t, .int .i64 0] w fun e w' => ∃ q : Nat, e = .returned (.tuple #[.pointer (some ⟨q, 0, none⟩), .bool true]) ∧ w'.cell? ⟨q, 4, none⟩ = some (.map none) ∧ q < w'.heap.size ∧ w.heap.size ≤ q ∧ Below w.heap.size w w' := by
  have hmm := @run_makeMap Try.prog
  go_enter Try.func12, Try.ntmps12
  go_wp2
  refine wp_loop_rounds 1 ?_
  rw [rounds_succ]
  go_wp2
  refine wp_loop_rounds 1 ?_
  rw [rounds_succ]
  go_wp2
  refine wp_loop_rounds 1 ?_
  rw [rounds_succ]
  go_wp2_with (at_len; refine wpList_len_own _ rfl _ 65 rfl 9 20 Try.underlying65 (ifR 9) _ 0 (.map []) rfl (made_at _ _ (by simp)) ?_; rw [show size (.map [] : DataW Unit) = 0 from rfl])
  go_ret2
  exact ⟨w.heap.size + 1, rfl, (blk_cell (blk_alloc (blk_second w _ _) _) 4).trans rfl, by simp, by simp, below_alloc (below_alloc (below_alloc (Below.refl _ _) _) _) _⟩

/-- The map of the texts that are there. -/
abbrev putS (D : DataW Unit) (s : ByteArray) : DataW Unit := D.put (.string kS.data.toList) (.lit (.string s.data.toList))
abbrev putK (D : DataW Unit) (s : ByteArray) : DataW Unit := D.put (.string kK.data.toList) (.lit (.string s.data.toList))

/-- A schema, a map of texts in it. -/
def Made (w : World) (n : Nat) (D : DataW Unit) (e : Ending) (w' : World) : Prop := ∃ q B : Nat, e = .returned (.tuple #[.pointer (some ⟨q, 0, none⟩), .bool true]) ∧ w'.cell? ⟨q, 4, none⟩ = some (.map (some B)) ∧ w'.ownsMap Try.prog 9 (ifR 9) B n D ∧ q < w'.heap.size ∧ w.heap.size ≤ q ∧ w.heap.size ≤ B ∧ Below w.heap.size w w'
theorem made_of {w w1 : World} {b B n : Nat} {D : DataW Unit} {x0 x1 x2 x3 x4 : Value} (hB : w1.heap[b]? = some (.cells #[x0, x1, x2, x3, x4] 77 (0, 0))) (ho : w1.ownsMap Try.prog 9 (ifR 9) B n D) (hne : B ≠ b) (hb : w.heap.size ≤ b) (hB' : w.heap.size ≤ B) (hbl : Below w.heap.size w w1) :
    Made w n D (.returned (.tuple #[.pointer (some ⟨b, 0, none⟩), .bool true])) (w1.setCell ⟨b, 4, none⟩ (.map (some B))) := by
  have h1 := blk_put hB 4 (.map (some B)) rfl
  refine ⟨b, B, rfl, (blk_cell h1 4).trans rfl, ?_, blk_lt h1, hb, hB', hbl.setCell (p := ⟨b, 4, none⟩) hb _⟩
  obtain ⟨es, clock, hh, F, hs, hD⟩ := ho
  exact ⟨es, clock, (Below.heap_setCell _ _ _ _ hne).trans hh, F, hs, hD⟩
theorem size_s (s : ByteArray) : size (putS (.map []) s) = 1 := rfl
theorem size_k (s : ByteArray) : size (putK (.map []) s) = 1 := rfl
theorem size_b (s t : ByteArray) : size (putK (putS (.map []) s) t) = 2 := rfl

set_option maxHeartbeats 4000000 in
set_option maxRecDepth 100000 in
theorem of_strategy (A : Option Addr) (n c : Nat) (s t : ByteArray) (w : World) :
    Calls Try.prog 12 #[inS (.slice A n c) true false s t, .int .i64 0] w (Made w 1 (putS (.map []) s)) := by
  have hmm := @run_makeMap Try.prog
  go_enter Try.func12, Try.ntmps12
  go_wp2
  refine wp_loop_rounds 1 ?_
  rw [rounds_succ]
  go_wp2
  refine wp_loop_rounds 1 ?_
  rw [rounds_succ]
  go_wp2
  refine wp_loop_rounds 1 ?_
  rw [rounds_succ]
  go_wp2_with (first
    | (at_mapUpdate; refine wpList_mapUpdate_own _ rfl _ _ _ 65 rfl 9 20 law Try.underlying65 (ifR 9) _ 0 (.map []) rfl (made_at _ _ (by simp)) (by unfold maxLen; omega) _ _ _ rfl rfl keyS _ [] (ifR_text 9 s) ?_; intro w1 hown1 hg1; have HO := Aside0.mk hown1; have BA := Aside0.mk (blk_grown (blk_alloc (blk_alloc (blk_new w _) _) _) hg1 (by simp; omega)); have BB := Aside0.mk (blk_grown (blk_alloc (blk_second w _ _) _) hg1 (by simp)); have HB := Aside0.mk (pw_below_grown (below_alloc (below_alloc (below_alloc (Below.refl _ _) _) _) _) (some (w.heap.size + 1 + 1)) (by simp; omega) hg1 (by intro k hk; cases hk; omega)); clear hown1 hg1; have c0 := (blk_cell BA.out 0).trans rfl; have c1 := (blk_cell BA.out 1).trans rfl; have c2 := (blk_cell BA.out 2).trans rfl; have c3 := (blk_cell BA.out 3).trans rfl; have c4 := (blk_cell BA.out 4).trans rfl; have c5 := (blk_cell BA.out 5).trans rfl; have c6 := (blk_cell BA.out 6).trans rfl; have c7 := (blk_cell BA.out 7).trans rfl; have c8 := (blk_cell BA.out 8).trans rfl; have c9 := (blk_cell BA.out 9).trans rfl; have c10 := (blk_cell BA.out 10).trans rfl; have d0 := (blk_cell BB.out 0).trans rfl; have d1 := (blk_cell BB.out 1).trans rfl; have d2 := (blk_cell BB.out 2).trans rfl; have d3 := (blk_cell BB.out 3).trans rfl; have d4 := (blk_cell BB.out 4).trans rfl; have f4 := blk_frozen BB.out 4)
    | (at_len; refine wpList_len_own _ rfl _ 65 rfl 9 20 Try.underlying65 (ifR 9) _ 1 (putS (.map []) s) rfl HO.out ?_; rw [size_s]))
  go_ret2
  exact made_of BB.out HO.out (by omega) (by omega) (by omega) HB.out

set_option maxHeartbeats 4000000 in
set_option maxRecDepth 100000 in
theorem of_key (A : Option Addr) (n c : Nat) (s t : ByteArray) (w : World) :
    Calls Try.prog 12 #[inS (.slice A n c) false true s t, .int .i64 0] w (Made w 1 (putK (.map []) t)) := by
  have hmm := @run_makeMap Try.prog
  go_enter Try.func12, Try.ntmps12
  go_wp2
  refine wp_loop_rounds 1 ?_
  rw [rounds_succ]
  go_wp2
  refine wp_loop_rounds 1 ?_
  rw [rounds_succ]
  go_wp2
  refine wp_loop_rounds 1 ?_
  rw [rounds_succ]
  go_wp2_with (first
    | (at_mapUpdate; refine wpList_mapUpdate_own _ rfl _ _ _ 65 rfl 9 20 law Try.underlying65 (ifR 9) _ 0 (.map []) rfl (made_at _ _ (by simp)) (by unfold maxLen; omega) _ _ _ rfl rfl keyK _ [] (ifR_text 9 t) ?_; intro w1 hown1 hg1; have HO := Aside0.mk hown1; have BA := Aside0.mk (blk_grown (blk_alloc (blk_alloc (blk_new w _) _) _) hg1 (by simp; omega)); have BB := Aside0.mk (blk_grown (blk_alloc (blk_second w _ _) _) hg1 (by simp)); have HB := Aside0.mk (pw_below_grown (below_alloc (below_alloc (below_alloc (Below.refl _ _) _) _) _) (some (w.heap.size + 1 + 1)) (by simp; omega) hg1 (by intro k hk; cases hk; omega)); clear hown1 hg1; have c0 := (blk_cell BA.out 0).trans rfl; have c1 := (blk_cell BA.out 1).trans rfl; have c2 := (blk_cell BA.out 2).trans rfl; have c3 := (blk_cell BA.out 3).trans rfl; have c4 := (blk_cell BA.out 4).trans rfl; have c5 := (blk_cell BA.out 5).trans rfl; have c6 := (blk_cell BA.out 6).trans rfl; have c7 := (blk_cell BA.out 7).trans rfl; have c8 := (blk_cell BA.out 8).trans rfl; have c9 := (blk_cell BA.out 9).trans rfl; have c10 := (blk_cell BA.out 10).trans rfl; have d0 := (blk_cell BB.out 0).trans rfl; have d1 := (blk_cell BB.out 1).trans rfl; have d2 := (blk_cell BB.out 2).trans rfl; have d3 := (blk_cell BB.out 3).trans rfl; have d4 := (blk_cell BB.out 4).trans rfl; have f4 := blk_frozen BB.out 4)
    | (at_len; refine wpList_len_own _ rfl _ 65 rfl 9 20 Try.underlying65 (ifR 9) _ 1 (putK (.map []) t) rfl HO.out ?_; rw [size_k]))
  go_ret2
  exact made_of BB.out HO.out (by omega) (by omega) (by omega) HB.out

set_option maxHeartbeats 4000000 in
set_option maxRecDepth 100000 in
theorem of_both (A : Option Addr) (n c : Nat) (s t : ByteArray) (w : World) :
    Calls Try.prog 12 #[inS (.slice A n c) true true s t, .int .i64 0] w (Made w 2 (putK (putS (.map []) s) t)) := by
  have hmm := @run_makeMap Try.prog
  go_enter Try.func12, Try.ntmps12
  go_wp2
  refine wp_loop_rounds 1 ?_
  rw [rounds_succ]
  go_wp2
  refine wp_loop_rounds 1 ?_
  rw [rounds_succ]
  go_wp2
  refine wp_loop_rounds 1 ?_
  rw [rounds_succ]
  go_wp2_with (first
    | (at_mapUpdate; refine wpList_mapUpdate_own _ rfl _ _ _ 65 rfl 9 20 law Try.underlying65 (ifR 9) _ 0 (.map []) rfl (made_at _ _ (by simp)) (by unfold maxLen; omega) _ _ _ rfl rfl keyS _ [] (ifR_text 9 s) ?_; intro w1 hown1 hg1; have HO := Aside0.mk hown1; have BA := Aside0.mk (blk_grown (blk_alloc (blk_alloc (blk_new w _) _) _) hg1 (by simp; omega)); have BB := Aside0.mk (blk_grown (blk_alloc (blk_second w _ _) _) hg1 (by simp)); have HB := Aside0.mk (pw_below_grown (below_alloc (below_alloc (below_alloc (Below.refl _ _) _) _) _) (some (w.heap.size + 1 + 1)) (by simp; omega) hg1 (by intro k hk; cases hk; omega)); clear hown1 hg1; have c0 := (blk_cell BA.out 0).trans rfl; have c1 := (blk_cell BA.out 1).trans rfl; have c2 := (blk_cell BA.out 2).trans rfl; have c3 := (blk_cell BA.out 3).trans rfl; have c4 := (blk_cell BA.out 4).trans rfl; have c5 := (blk_cell BA.out 5).trans rfl; have c6 := (blk_cell BA.out 6).trans rfl; have c7 := (blk_cell BA.out 7).trans rfl; have c8 := (blk_cell BA.out 8).trans rfl; have c9 := (blk_cell BA.out 9).trans rfl; have c10 := (blk_cell BA.out 10).trans rfl; have d0 := (blk_cell BB.out 0).trans rfl; have d1 := (blk_cell BB.out 1).trans rfl; have d2 := (blk_cell BB.out 2).trans rfl; have d3 := (blk_cell BB.out 3).trans rfl; have d4 := (blk_cell BB.out 4).trans rfl; have f4 := blk_frozen BB.out 4)
    | (at_mapUpdate; refine wpList_mapUpdate_own _ rfl _ _ _ 65 rfl 9 20 law Try.underlying65 (ifR 9) _ 1 (putS (.map []) s) rfl HO.out (by unfold maxLen; omega) _ _ _ rfl rfl keyK _ [] (ifR_text 9 t) ?_; intro w2 hown2 hg2; have HO2 := Aside0.mk hown2; have BA2 := Aside0.mk (blk_grown BA.out hg2 (by simp; omega)); have BB2 := Aside0.mk (blk_grown BB.out hg2 (by simp)); have HB2 := Aside0.mk (pw_below_grown HB.out (some (w.heap.size + 1 + 1)) HB.out.size hg2 (by intro k hk; cases hk; omega)); clear hown2 hg2; clear c0 c1 c2 c3 c4 c5 c6 c7 c8 c9 c10 d0 d1 d2 d3 d4 f4; have c0 := (blk_cell BA2.out 0).trans rfl; have c1 := (blk_cell BA2.out 1).trans rfl; have c2 := (blk_cell BA2.out 2).trans rfl; have c3 := (blk_cell BA2.out 3).trans rfl; have c4 := (blk_cell BA2.out 4).trans rfl; have c5 := (blk_cell BA2.out 5).trans rfl; have c6 := (blk_cell BA2.out 6).trans rfl; have c7 := (blk_cell BA2.out 7).trans rfl; have c8 := (blk_cell BA2.out 8).trans rfl; have c9 := (blk_cell BA2.out 9).trans rfl; have c10 := (blk_cell BA2.out 10).trans rfl; have d0 := (blk_cell BB2.out 0).trans rfl; have d1 := (blk_cell BB2.out 1).trans rfl; have d2 := (blk_cell BB2.out 2).trans rfl; have d3 := (blk_cell BB2.out 3).trans rfl; have d4 := (blk_cell BB2.out 4).trans rfl; have f4 := blk_frozen BB2.out 4)
    | (at_len; refine wpList_len_own _ rfl _ 65 rfl 9 20 Try.underlying65 (ifR 9) _ 2 (putK (putS (.map []) s) t) rfl HO2.out ?_; rw [size_b]))
  go_ret2
  exact made_of BB2.out HO2.out (by omega) (by omega) (by omega) HB2.out

end Go.Proofs.Ytmjecafddklbjaa.HSchema
