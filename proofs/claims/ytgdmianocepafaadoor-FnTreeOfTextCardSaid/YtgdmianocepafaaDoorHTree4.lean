/- Nodes made of a text: SetString, NewStringRNode, NewScalarRNode, StringNode. -/
import Derived.Test.YtgdmianocepafaaDoorHTree3
namespace Go.Proofs.YtgdmianocepafaaDoor.HTree
open Go.RowKit Go.Proofs.YtgdmianocepafaaDoorW.PrintWords Go.Proofs.YtgdmianocepafaaDoorW.PrintLast Go.Proofs.YtgdmianocepafaaDoorW.PrintMore Go.Proofs.YtgdmianocepafaaDoor.Plain Go.Proofs.YtgdmianocepafaaDoor.PFnTreeOfText

def Tabs (w : World) : Prop := Lib.Utf8Tabs (Tryd.laysValid_ren.g 3) (Tryd.laysValid_ren.g 4) w
theorem Tabs.below {w w' : World} (h : Tabs w) (hb : Below w.heap.size w w') : Tabs w' :=
  ⟨fun c hc => pw_cell_below hb (h.1 c hc), fun i hi => ⟨pw_cell_below hb (h.2 i hi).1, pw_cell_below hb (h.2 i hi).2⟩⟩
theorem valid_calls (s : ByteArray) (w : World) (hs : s.size ≤ 1000) (hl : Low s) (hT : Tabs w) : Calls Tryd.prog 18 #[.string s] w fun e w' => e = .returned (.bool true) ∧ Below w.heap.size w w' := by
  have h := Any.utf8_ValidString Tryd.laysValid s w (by omega) hT
  rw [low_valid hl] at h
  exact h
def SPost (w : World) (b : Nat) (s : ByteArray) (e : Ending) (w' : World) : Prop := e = .returned (.tuple #[]) ∧ NodeAt w' b strT s ∧ w.grownBy w' (some b)
theorem grown_put (w : World) (g i : Nat) (v : Value) : w.grownBy (w.setCell ⟨g, i, none⟩ v) (some g) :=
  ⟨rfl, rfl, rfl, by simp [World.setCell], fun k _ hne => Below.heap_setCell w ⟨g, i, none⟩ v k (by simpa using hne)⟩
theorem grown_b {w w1 : World} {g : Nat} (h : Below w.heap.size w w1) : w.grownBy w1 (some g) := ⟨h.os, h.tape, h.output, h.size, fun k hk _ => h.block k hk⟩
theorem grown_tr {a b c : World} {g : Nat} (h : a.grownBy b (some g)) (k : b.grownBy c (some g)) : a.grownBy c (some g) := h.andThen k (fun _ hj => .inr hj)

set_option maxHeartbeats 1000000 in
theorem set_calls (b : Nat) (s : ByteArray) (w0 w : World) (hn : NodeAt w b E0 E0) (hs : s.size ≤ 1000) (hl : Low s) (hT : Tabs w0) (hB : Below w0.heap.size w0 w) (hb : w0.heap.size ≤ b) : Calls Tryd.prog 16 #[.pointer (some ⟨b, 0, none⟩), .string s] w (SPost w b s) := by
  obtain ⟨k, hk⟩ := (low_index hl hs).rounds
  have HN := Aside0.mk hn
  have HK := Aside0.mk hk
  have HV := Aside0.mk (valid_calls s (w.setCell ⟨b, 0, none⟩ (.int .u32 8)) hs hl (hT.below (hB.setCell (p := ⟨b, 0, none⟩) hb _)))
  have H1 := Aside0.mk (blk_put (cs' := sc E0 E0) hn 0 (.int .u32 8) rfl)
  obtain ⟨c0, c1, c2, c3, c4, c5, c6, c7, c8, c9, c10, c11⟩ := hn.cells
  have hf := blk_frozen hn
  have f0 := hf 0
  clear hn hk hT hB hl hf c1 c2 c3 c4 c5 c6 c7 c8 c9 c10 c11
  go_enter Tryd.func16, Tryd.ntmps16
  go_wp2_with fail
  go_at_call 18
  refine HV.out.mono ?_
  rintro e w1 ⟨rfl, hb1⟩
  have N1 : NodeAt w1 b E0 E0 := blk_below H1.out hb1
  have G1 := Aside0.mk (grown_tr (grown_put w b 0 (.int .u32 8)) (grown_b (g := b) hb1))
  clear hb1 c0 f0
  obtain ⟨c0, c1, c2, c3, c4, c5, c6, c7, c8, c9, c10, c11⟩ := N1.cells
  have hf := blk_frozen N1
  have f2 := hf 2
  have f3 := hf 3
  have N2 := Aside0.mk N1
  clear hf N1 c0 c1 c4 c5 c6 c7 c8 c9 c10 c11
  go_wp2_with (go_at_call 20; refine (yaml_zzContains.calls k s _ false _ HK.out).mono ?_; rintro e w2 ⟨rfl, hd⟩)
  obtain ⟨q, rfl⟩ := hd.out
  refine bodyPost_end (v := .tuple #[]) (by simp [results, Tryd.results16, go_sem]) rfl ⟨rfl, ?_, ?_⟩
  · exact blk_drewN (blk_put (cs' := sc strT s) (blk_put (cs' := sc E0 s) N2.out 3 (.string s) rfl) 2 (.string strT) rfl) q
  · exact grown_tr (grown_tr (grown_tr G1.out (grown_put w1 b 3 _)) (grown_put _ b 2 _)) (grown_b (pw_below_drewN (Below.refl _ _) q))

def RPost (w : World) (tag s : ByteArray) (e : Ending) (w' : World) : Prop := ∃ r b, e = .returned (.pointer (some ⟨r, 0, none⟩)) ∧ TreeAt w' r b tag s ∧ Below w.heap.size w w'
set_option maxHeartbeats 1000000 in
theorem new_scalar (s : ByteArray) (w : World) : Calls Tryd.prog 11 #[.string s] w (RPost w E0 s) := by
  go_enter Tryd.func11, Tryd.ntmps11
  go_wp2
  go_ret
  refine ⟨w.heap.size + 1, w.heap.size, rfl, ⟨?_, ?_⟩, below_alloc (below_alloc (Below.refl _ _) _) _⟩
  · have := blk_new (w.alloc (.cells (sc E0 s) 43)) (.cells #[.slice none 0 0, .pointer (some ⟨w.heap.size, 0, none⟩), .bool false, .slice none 0 0] 48)
    rw [World.size_alloc] at this
    exact this
  · exact blk_alloc (blk_new w (.cells (sc E0 s) 43)) _
set_option maxHeartbeats 1000000 in
theorem new_rnode (b : Nat) (w : World) : Calls Tryd.prog 17 #[.pointer (some ⟨b, 0, none⟩)] w fun e w' => e = .returned (.pointer (some ⟨w.heap.size, 0, none⟩)) ∧ w' = w.alloc (.cells #[.slice none 0 0, .pointer (some ⟨b, 0, none⟩), .bool false, .slice none 0 0] 48) := by
  go_enter Tryd.func17, Tryd.ntmps17
  go_wp2
  go_ret
  exact ⟨rfl, rfl⟩
set_option maxHeartbeats 1000000 in
theorem new_string (s : ByteArray) (w0 w : World) (hs : s.size ≤ 1000) (hl : Low s) (hT : Tabs w0) (hB : Below w0.heap.size w0 w) : Calls Tryd.prog 10 #[.string s] w (RPost w strT s) := by
  have HS := Aside0.mk (set_calls w.heap.size s w0 (w.alloc (.cells (sc E0 E0) 43)) (blk_new w _) hs hl hT (hB.alloc hB.size _) hB.size)
  clear hs hl hT hB
  go_enter Tryd.func10, Tryd.ntmps10
  go_wp2_with (first
    | (go_at_call 16; go_must (refine HS.out.mono ?_; rintro e w1 ⟨rfl, hn, hg⟩; have N1 := Aside0.mk hn; have B1 := Aside0.mk (show Below w.heap.size w w1 from ⟨hg.os, hg.tape, hg.output, by have := hg.size; rw [World.size_alloc] at this; omega, fun k hk => (hg.block k (by rw [World.size_alloc]; omega) (by simp; omega)).trans (Below.heap_alloc _ _ _ hk)⟩); clear hn hg))
    | (go_at_call 17; refine (new_rnode w.heap.size _).mono ?_; rintro e w2 ⟨rfl, rfl⟩))
  go_ret
  exact ⟨w1.heap.size, w.heap.size, rfl, ⟨blk_new _ _, blk_alloc N1.out _⟩, below_alloc B1.out _⟩

set_option maxHeartbeats 2000000 in
theorem string_node (s : ByteArray) (w : World) (hs : s.size ≤ 1000) (hl : Low s) (hT : Tabs w) : Calls Tryd.prog 5 #[.string s] w fun e w' => e = .returned (.tuple #[dat strT s, dat E0 s]) ∧ Below w.heap.size w w' := by
  have HS := Aside0.mk (fun W hB => new_string s w W hs hl hT hB)
  clear hs hl hT
  have e1 : (w.alloc (.cells zd 25)).heap[w.heap.size]? = some (.cells zd 25 (0, 0)) := blk_new w _
  have R1 := Aside0.mk (blk_alloc e1 (.cells zd 25))
  have e2 := blk_new (w.alloc (.cells zd 25)) (.cells zd 25)
  rw [World.size_alloc] at e2
  have R2 := Aside0.mk e2
  have B0 := Aside0.mk (below_alloc (below_alloc (Below.refl w.heap.size w) (.cells zd 25)) (.cells zd 25))
  have K1 := Aside0.mk trivial
  have K2 := Aside0.mk trivial
  clear e1 e2
  go_enter Tryd.func5, Tryd.ntmps5
  go_wp2_with (first
    | (go_at_call 10; go_must (refine (HS.out _ B0.out).mono ?_; rintro e w1 ⟨r, b, rfl, ht, hb⟩; have T1 := Aside0.mk ht; have B1 := Aside0.mk (below_step B0.out hb); have Q1 := Aside0.mk (blk_below R1.out hb); have Q2 := Aside0.mk (blk_below R2.out hb); clear ht hb R1 R2))
    | (go_at_call 9; have tok := K1; go_must (refine (tree_calls r b strT s _ T1.out).mono ?_; rintro e w2 ⟨rfl, hb⟩; have B2 := Aside0.mk (below_step B1.out hb); have P1 := Aside0.mk (blk_below Q1.out hb); have P2 := Aside0.mk (blk_below Q2.out hb); clear hb Q1 Q2 tok K1 T1))
    | (go_at_call 11; go_must (refine (new_scalar s _).mono ?_; rintro e w3 ⟨r2, b2, rfl, ht, hb⟩; have T2 := Aside0.mk ht; have B3 := Aside0.mk (below_step B2.out hb); have S1 := Aside0.mk (blk_below P1.out hb); have S2 := Aside0.mk (blk_below P2.out hb); clear ht hb P1 P2))
    | (go_at_call 9; go_must (refine (tree_calls r2 b2 E0 s _ T2.out).mono ?_; rintro e w4 ⟨rfl, hb⟩; have B4 := Aside0.mk (below_step B3.out hb); have U1 := Aside0.mk (blk_below S1.out hb); have U2 := Aside0.mk (blk_below S2.out hb); have hf := blk_frozen U1.out; have hg := blk_frozen U2.out; have f0 := hf 0; have g0 := hg 0; have f1 := hf 1; have g1 := hg 1; have f2 := hf 2; have g2 := hg 2; have f3 := hf 3; have g3 := hg 3; have f4 := hf 4; have g4 := hg 4; have f5 := hf 5; have g5 := hg 5; have f6 := hf 6; have g6 := hg 6; have f7 := hf 7; have g7 := hg 7; have f8 := hf 8; have g8 := hg 8; have f9 := hf 9; have g9 := hg 9; have f10 := hf 10; have g10 := hg 10; have f11 := hf 11; have g11 := hg 11; have o0 : w4.cell? ⟨w.heap.size, 0, none⟩ = some (.int .i64 0) := (blk_cell U1.out 0).trans rfl; have p0 : w4.cell? ⟨w.heap.size + 1, 0, none⟩ = some (.int .i64 0) := (blk_cell U2.out 0).trans rfl; have o1 : w4.cell? ⟨w.heap.size, 1, none⟩ = some (.int .i64 0) := (blk_cell U1.out 1).trans rfl; have p1 : w4.cell? ⟨w.heap.size + 1, 1, none⟩ = some (.int .i64 0) := (blk_cell U2.out 1).trans rfl; have o2 : w4.cell? ⟨w.heap.size, 2, none⟩ = some (.string ⟨#[]⟩) := (blk_cell U1.out 2).trans rfl; have p2 : w4.cell? ⟨w.heap.size + 1, 2, none⟩ = some (.string ⟨#[]⟩) := (blk_cell U2.out 2).trans rfl; have o3 : w4.cell? ⟨w.heap.size, 3, none⟩ = some (.string ⟨#[]⟩) := (blk_cell U1.out 3).trans rfl; have p3 : w4.cell? ⟨w.heap.size + 1, 3, none⟩ = some (.string ⟨#[]⟩) := (blk_cell U2.out 3).trans rfl; have o4 : w4.cell? ⟨w.heap.size, 4, none⟩ = some (.string ⟨#[]⟩) := (blk_cell U1.out 4).trans rfl; have p4 : w4.cell? ⟨w.heap.size + 1, 4, none⟩ = some (.string ⟨#[]⟩) := (blk_cell U2.out 4).trans rfl; have o5 : w4.cell? ⟨w.heap.size, 5, none⟩ = some (.string ⟨#[]⟩) := (blk_cell U1.out 5).trans rfl; have p5 : w4.cell? ⟨w.heap.size + 1, 5, none⟩ = some (.string ⟨#[]⟩) := (blk_cell U2.out 5).trans rfl; have o6 : w4.cell? ⟨w.heap.size, 6, none⟩ = some (.string ⟨#[]⟩) := (blk_cell U1.out 6).trans rfl; have p6 : w4.cell? ⟨w.heap.size + 1, 6, none⟩ = some (.string ⟨#[]⟩) := (blk_cell U2.out 6).trans rfl; have o7 : w4.cell? ⟨w.heap.size, 7, none⟩ = some (.string ⟨#[]⟩) := (blk_cell U1.out 7).trans rfl; have p7 : w4.cell? ⟨w.heap.size + 1, 7, none⟩ = some (.string ⟨#[]⟩) := (blk_cell U2.out 7).trans rfl; have o8 : w4.cell? ⟨w.heap.size, 8, none⟩ = some (.int .i64 0) := (blk_cell U1.out 8).trans rfl; have p8 : w4.cell? ⟨w.heap.size + 1, 8, none⟩ = some (.int .i64 0) := (blk_cell U2.out 8).trans rfl; have o9 : w4.cell? ⟨w.heap.size, 9, none⟩ = some (.int .i64 0) := (blk_cell U1.out 9).trans rfl; have p9 : w4.cell? ⟨w.heap.size + 1, 9, none⟩ = some (.int .i64 0) := (blk_cell U2.out 9).trans rfl; have o10 : w4.cell? ⟨w.heap.size, 10, none⟩ = some (.int .i64 0) := (blk_cell U1.out 10).trans rfl; have p10 : w4.cell? ⟨w.heap.size + 1, 10, none⟩ = some (.int .i64 0) := (blk_cell U2.out 10).trans rfl; have o11 : w4.cell? ⟨w.heap.size, 11, none⟩ = some (.slice none 0 0) := (blk_cell U1.out 11).trans rfl; have p11 : w4.cell? ⟨w.heap.size + 1, 11, none⟩ = some (.slice none 0 0) := (blk_cell U2.out 11).trans rfl; clear hb hf hg)))
  have h1 := put12_blk U1.out (.int .i64 8) (.int .i64 0) (.string strT) (.string s) (.string E0) (.string E0) (.string E0) (.string E0) (.int .i64 0) (.int .i64 0) (.int .i64 (-1)) (.slice none 0 0)
  have h2 := put12_blk (b := w.heap.size + 1) ((put12_other w4 w.heap.size (.int .i64 8) (.int .i64 0) (.string strT) (.string s) (.string E0) (.string E0) (.string E0) (.string E0) (.int .i64 0) (.int .i64 0) (.int .i64 (-1)) (.slice none 0 0) (w.heap.size + 1) (by omega)).trans U2.out) (.int .i64 8) (.int .i64 0) (.string E0) (.string s) (.string E0) (.string E0) (.string E0) (.string E0) (.int .i64 0) (.int .i64 0) (.int .i64 (-1)) (.slice none 0 0)
  have h3 := (put12_other (put12 w4 w.heap.size (.int .i64 8) (.int .i64 0) (.string strT) (.string s) (.string E0) (.string E0) (.string E0) (.string E0) (.int .i64 0) (.int .i64 0) (.int .i64 (-1)) (.slice none 0 0)) (w.heap.size + 1) (.int .i64 8) (.int .i64 0) (.string E0) (.string s) (.string E0) (.string E0) (.string E0) (.string E0) (.int .i64 0) (.int .i64 0) (.int .i64 (-1)) (.slice none 0 0) w.heap.size (by omega)).trans h1
  exact bodyPost_ret (results_cc rfl _ _ w.heap.size (w.heap.size + 1) 25 25 _ _ (0, 0) (0, 0) _ _ rfl h3 Tryd.underlying25 rfl rfl rfl h2 Tryd.underlying25 rfl rfl) rfl ⟨rfl, put12_below (put12_below B4.out (Nat.le_refl _) _ _ _ _ _ _ _ _ _ _ _ _) (Nat.le_succ _) _ _ _ _ _ _ _ _ _ _ _ _⟩

end Go.Proofs.YtgdmianocepafaaDoor.HTree
