/- The law FnTreeOfText, where the tables of unicode/utf8 lie. -/
import Derived.Test.YtgdmianocepafaaDoorHTree4
namespace Go.Proofs.YtgdmianocepafaaDoor.HTree
open Go.RowKit Go.Proofs.YtgdmianocepafaaDoorW.PrintWords Go.Proofs.YtgdmianocepafaaDoorW.PrintLast Go.Proofs.YtgdmianocepafaaDoorW.PrintMore Go.Proofs.YtgdmianocepafaaDoor.Plain Go.Proofs.YtgdmianocepafaaDoor.PFnTreeOfText

theorem blk_at {w : World} {b : Nat} (o : Obj) (h : w.heap.size = b) : (w.alloc o).heap[b]? = some o := by subst h; exact blk_new w o
theorem same_tells (s : ByteArray) : spec_SameTree.f 3 8 0 strT s E0 E0 E0 E0 0 0 (-1) [] 8 0 strT s E0 E0 E0 E0 0 0 (-1) [] = some true := by
  have e1 : spec_tagOf.f 8 0 strT s E0 E0 E0 E0 0 0 (-1) [] = some strT := by
    unfold spec_tagOf.f
    rw [if_neg (by decide +kernel)]
  rw [spec_SameTree.f.eq_2]
  rw [if_pos rfl, if_pos rfl, if_pos rfl, if_pos rfl, e1]
  simp only [Option.bind_some]
  rw [spec_SameTree.j0.eq_2]
  rw [if_neg (by simp), spec_SameTree.l0.eq_2]
  rw [if_neg (by simp)]
theorem same_calls (s : ByteArray) (A : Option Addr) (c : Nat) (w : World) (h : Kd.C k25 w A 0 []) : Calls Tryd.prog 6 #[dat strT s, .agg #[.int .i64 8, .int .i64 0, .string strT, .string s, .string E0, .string E0, .string E0, .string E0, .int .i64 0, .int .i64 0, .int .i64 (-1), .slice A 0 c]] w fun e w' => e = .returned (.bool true) ∧ Below w.heap.size w w' :=
  spec_SameTree.calls 3 8 0 strT s E0 E0 E0 E0 0 0 (-1) none 0 [] 8 0 strT s E0 E0 E0 E0 0 0 (-1) A c [] true w (Kd.R_reads' (Kd.R_nil k25 25 w 0 (fun _ => True))).2.2 (Nat.le_refl _) h (Nat.zero_le _) (same_tells s)
/-- The two data that are held. -/
structure LK (w : World) (n : Nat) (s : ByteArray) (W : World) : Prop where
  one : W.heap[n]? = some (.cells #[.int .i64 8, .int .i64 0, .string strT, .string s, .string E0, .string E0, .string E0, .string E0, .int .i64 0, .int .i64 0, .int .i64 (-1), .slice none 0 0] 25 (0, 0))
  two : W.heap[n + 1]? = some (.cells #[.int .i64 8, .int .i64 0, .string E0, .string s, .string E0, .string E0, .string E0, .string E0, .int .i64 0, .int .i64 0, .int .i64 (-1), .slice none 0 0] 25 (0, 0))
  below : Below w.heap.size w W
theorem LK.drew {w : World} {n : Nat} {s : ByteArray} {W : World} (h : LK w n s W) : LK w n s W.drew := ⟨blk_drew h.one, blk_drew h.two, below_drew h.below⟩
theorem LK.call {w : World} {n : Nat} {s : ByteArray} {W W' : World} (h : LK w n s W) (hb : Below W.heap.size W W') : LK w n s W' := ⟨blk_below h.one hb, blk_below h.two hb, below_step h.below hb⟩
theorem LK.all {w : World} {n : Nat} {s : ByteArray} {w' : World} (h : LK w n s w') : w'.cell? ⟨n, 0, none⟩ = some (.int .i64 8) ∧ w'.cell? ⟨n, 1, none⟩ = some (.int .i64 0) ∧ w'.cell? ⟨n, 2, none⟩ = some (.string strT) ∧ w'.cell? ⟨n, 3, none⟩ = some (.string s) ∧ w'.cell? ⟨n, 4, none⟩ = some (.string E0) ∧ w'.cell? ⟨n, 5, none⟩ = some (.string E0) ∧ w'.cell? ⟨n, 6, none⟩ = some (.string E0) ∧ w'.cell? ⟨n, 7, none⟩ = some (.string E0) ∧ w'.cell? ⟨n, 8, none⟩ = some (.int .i64 0) ∧ w'.cell? ⟨n, 9, none⟩ = some (.int .i64 0) ∧ w'.cell? ⟨n, 10, none⟩ = some (.int .i64 (-1)) ∧ w'.cell? ⟨n, 11, none⟩ = some (.slice none 0 0) ∧ w'.cell? ⟨n + 1, 0, none⟩ = some (.int .i64 8) ∧ w'.cell? ⟨n + 1, 1, none⟩ = some (.int .i64 0) ∧ w'.cell? ⟨n + 1, 2, none⟩ = some (.string E0) ∧ w'.cell? ⟨n + 1, 3, none⟩ = some (.string s) ∧ w'.cell? ⟨n + 1, 4, none⟩ = some (.string E0) ∧ w'.cell? ⟨n + 1, 5, none⟩ = some (.string E0) ∧ w'.cell? ⟨n + 1, 6, none⟩ = some (.string E0) ∧ w'.cell? ⟨n + 1, 7, none⟩ = some (.string E0) ∧ w'.cell? ⟨n + 1, 8, none⟩ = some (.int .i64 0) ∧ w'.cell? ⟨n + 1, 9, none⟩ = some (.int .i64 0) ∧ w'.cell? ⟨n + 1, 10, none⟩ = some (.int .i64 (-1)) ∧ w'.cell? ⟨n + 1, 11, none⟩ = some (.slice none 0 0) ∧ LK w n s w' :=
  ⟨(blk_cell h.one 0).trans rfl, (blk_cell h.one 1).trans rfl, (blk_cell h.one 2).trans rfl, (blk_cell h.one 3).trans rfl, (blk_cell h.one 4).trans rfl, (blk_cell h.one 5).trans rfl, (blk_cell h.one 6).trans rfl, (blk_cell h.one 7).trans rfl, (blk_cell h.one 8).trans rfl, (blk_cell h.one 9).trans rfl, (blk_cell h.one 10).trans rfl, (blk_cell h.one 11).trans rfl, (blk_cell h.two 0).trans rfl, (blk_cell h.two 1).trans rfl, (blk_cell h.two 2).trans rfl, (blk_cell h.two 3).trans rfl, (blk_cell h.two 4).trans rfl, (blk_cell h.two 5).trans rfl, (blk_cell h.two 6).trans rfl, (blk_cell h.two 7).trans rfl, (blk_cell h.two 8).trans rfl, (blk_cell h.two 9).trans rfl, (blk_cell h.two 10).trans rfl, (blk_cell h.two 11).trans rfl, h⟩
theorem keep_call {w : World} {n : Nat} {s : ByteArray} {w' W' : World} (h : w'.cell? ⟨n, 0, none⟩ = some (.int .i64 8) ∧ w'.cell? ⟨n, 1, none⟩ = some (.int .i64 0) ∧ w'.cell? ⟨n, 2, none⟩ = some (.string strT) ∧ w'.cell? ⟨n, 3, none⟩ = some (.string s) ∧ w'.cell? ⟨n, 4, none⟩ = some (.string E0) ∧ w'.cell? ⟨n, 5, none⟩ = some (.string E0) ∧ w'.cell? ⟨n, 6, none⟩ = some (.string E0) ∧ w'.cell? ⟨n, 7, none⟩ = some (.string E0) ∧ w'.cell? ⟨n, 8, none⟩ = some (.int .i64 0) ∧ w'.cell? ⟨n, 9, none⟩ = some (.int .i64 0) ∧ w'.cell? ⟨n, 10, none⟩ = some (.int .i64 (-1)) ∧ w'.cell? ⟨n, 11, none⟩ = some (.slice none 0 0) ∧ w'.cell? ⟨n + 1, 0, none⟩ = some (.int .i64 8) ∧ w'.cell? ⟨n + 1, 1, none⟩ = some (.int .i64 0) ∧ w'.cell? ⟨n + 1, 2, none⟩ = some (.string E0) ∧ w'.cell? ⟨n + 1, 3, none⟩ = some (.string s) ∧ w'.cell? ⟨n + 1, 4, none⟩ = some (.string E0) ∧ w'.cell? ⟨n + 1, 5, none⟩ = some (.string E0) ∧ w'.cell? ⟨n + 1, 6, none⟩ = some (.string E0) ∧ w'.cell? ⟨n + 1, 7, none⟩ = some (.string E0) ∧ w'.cell? ⟨n + 1, 8, none⟩ = some (.int .i64 0) ∧ w'.cell? ⟨n + 1, 9, none⟩ = some (.int .i64 0) ∧ w'.cell? ⟨n + 1, 10, none⟩ = some (.int .i64 (-1)) ∧ w'.cell? ⟨n + 1, 11, none⟩ = some (.slice none 0 0) ∧ LK w n s w') (hb : Below w'.heap.size w' W') : W'.cell? ⟨n, 0, none⟩ = some (.int .i64 8) ∧ W'.cell? ⟨n, 1, none⟩ = some (.int .i64 0) ∧ W'.cell? ⟨n, 2, none⟩ = some (.string strT) ∧ W'.cell? ⟨n, 3, none⟩ = some (.string s) ∧ W'.cell? ⟨n, 4, none⟩ = some (.string E0) ∧ W'.cell? ⟨n, 5, none⟩ = some (.string E0) ∧ W'.cell? ⟨n, 6, none⟩ = some (.string E0) ∧ W'.cell? ⟨n, 7, none⟩ = some (.string E0) ∧ W'.cell? ⟨n, 8, none⟩ = some (.int .i64 0) ∧ W'.cell? ⟨n, 9, none⟩ = some (.int .i64 0) ∧ W'.cell? ⟨n, 10, none⟩ = some (.int .i64 (-1)) ∧ W'.cell? ⟨n, 11, none⟩ = some (.slice none 0 0) ∧ W'.cell? ⟨n + 1, 0, none⟩ = some (.int .i64 8) ∧ W'.cell? ⟨n + 1, 1, none⟩ = some (.int .i64 0) ∧ W'.cell? ⟨n + 1, 2, none⟩ = some (.string E0) ∧ W'.cell? ⟨n + 1, 3, none⟩ = some (.string s) ∧ W'.cell? ⟨n + 1, 4, none⟩ = some (.string E0) ∧ W'.cell? ⟨n + 1, 5, none⟩ = some (.string E0) ∧ W'.cell? ⟨n + 1, 6, none⟩ = some (.string E0) ∧ W'.cell? ⟨n + 1, 7, none⟩ = some (.string E0) ∧ W'.cell? ⟨n + 1, 8, none⟩ = some (.int .i64 0) ∧ W'.cell? ⟨n + 1, 9, none⟩ = some (.int .i64 0) ∧ W'.cell? ⟨n + 1, 10, none⟩ = some (.int .i64 (-1)) ∧ W'.cell? ⟨n + 1, 11, none⟩ = some (.slice none 0 0) ∧ LK w n s W' :=
  (h.2.2.2.2.2.2.2.2.2.2.2.2.2.2.2.2.2.2.2.2.2.2.2.2.call hb).all
set_option maxHeartbeats 2000000 in
theorem law_calls (s : ByteArray) (w : World) (hs : s.size ≤ 140737488351232) (hT : Tabs w) : Calls Tryd.prog 3 #[.string s] w fun e w' => e = .returned (.bool true) ∧ Below w.heap.size w w' := by
  have HB := Aside0.mk (Below.refl w.heap.size w)
  by_cases h31 : 2147483647 < (s.size : Int)
  · go_enter Tryd.func3, Tryd.ntmps3
    go_wp2
    go_ret
    exact ⟨rfl, HB.out⟩
  obtain ⟨r, hr, hw⟩ := word_tells s (by omega)
  obtain ⟨k, hk⟩ := hr.rounds
  have HK := Aside0.mk hk
  cases r with
  | false =>
    clear hk hr hw
    go_enter Tryd.func3, Tryd.ntmps3
    go_wp2_with (go_at_call 4; refine (spec_Word.calls k s false _ HK.out).mono ?_; rintro e w1 ⟨rfl, hd⟩; have n1 := Aside0.mk hd.below; clear hd)
    go_ret
    exact ⟨rfl, n1.out⟩
  | true =>
    obtain ⟨hl, h20⟩ := hw rfl
    have HS := Aside0.mk (fun W (hB : Below w.heap.size w W) => string_node s W (by omega) hl (hT.below hB))
    clear hk hr hw hl hT
    go_enter Tryd.func3, Tryd.ntmps3
    go_wp2_with (first
      | (go_at_call 4; refine (spec_Word.calls k s true _ HK.out).mono ?_; rintro e w1 ⟨rfl, hd⟩; have n1 := Aside0.mk hd.below; clear hd)
      | (go_at_call 5; refine (HS.out _ n1.out).mono ?_; rintro e w2 ⟨rfl, hb⟩; have n2 := Aside0.mk (below_step n1.out hb); clear hb))
    have HL := Aside0.mk (LK.mk (w := w) (n := w2.heap.size) (s := s) (W := (w2.alloc (.cells #[.int .i64 8, .int .i64 0, .string strT, .string s, .string E0, .string E0, .string E0, .string E0, .int .i64 0, .int .i64 0, .int .i64 (-1), .slice none 0 0] 25)).alloc (.cells #[.int .i64 8, .int .i64 0, .string E0, .string s, .string E0, .string E0, .string E0, .string E0, .int .i64 0, .int .i64 0, .int .i64 (-1), .slice none 0 0] 25)) (blk_alloc (blk_new w2 _) _) (blk_at _ (by simp)) (below_alloc (below_alloc n2.out _) _))
    have q0 : (s.toList == s.toList) = true := by simp
    go_region_held3 (fun w' => w'.cell? ⟨w2.heap.size, 0, none⟩ = some (.int .i64 8) ∧ w'.cell? ⟨w2.heap.size, 1, none⟩ = some (.int .i64 0) ∧ w'.cell? ⟨w2.heap.size, 2, none⟩ = some (.string strT) ∧ w'.cell? ⟨w2.heap.size, 3, none⟩ = some (.string s) ∧ w'.cell? ⟨w2.heap.size, 4, none⟩ = some (.string E0) ∧ w'.cell? ⟨w2.heap.size, 5, none⟩ = some (.string E0) ∧ w'.cell? ⟨w2.heap.size, 6, none⟩ = some (.string E0) ∧ w'.cell? ⟨w2.heap.size, 7, none⟩ = some (.string E0) ∧ w'.cell? ⟨w2.heap.size, 8, none⟩ = some (.int .i64 0) ∧ w'.cell? ⟨w2.heap.size, 9, none⟩ = some (.int .i64 0) ∧ w'.cell? ⟨w2.heap.size, 10, none⟩ = some (.int .i64 (-1)) ∧ w'.cell? ⟨w2.heap.size, 11, none⟩ = some (.slice none 0 0) ∧ w'.cell? ⟨w2.heap.size + 1, 0, none⟩ = some (.int .i64 8) ∧ w'.cell? ⟨w2.heap.size + 1, 1, none⟩ = some (.int .i64 0) ∧ w'.cell? ⟨w2.heap.size + 1, 2, none⟩ = some (.string E0) ∧ w'.cell? ⟨w2.heap.size + 1, 3, none⟩ = some (.string s) ∧ w'.cell? ⟨w2.heap.size + 1, 4, none⟩ = some (.string E0) ∧ w'.cell? ⟨w2.heap.size + 1, 5, none⟩ = some (.string E0) ∧ w'.cell? ⟨w2.heap.size + 1, 6, none⟩ = some (.string E0) ∧ w'.cell? ⟨w2.heap.size + 1, 7, none⟩ = some (.string E0) ∧ w'.cell? ⟨w2.heap.size + 1, 8, none⟩ = some (.int .i64 0) ∧ w'.cell? ⟨w2.heap.size + 1, 9, none⟩ = some (.int .i64 0) ∧ w'.cell? ⟨w2.heap.size + 1, 10, none⟩ = some (.int .i64 (-1)) ∧ w'.cell? ⟨w2.heap.size + 1, 11, none⟩ = some (.slice none 0 0) ∧ LK w w2.heap.size s w')
      (first | exact hkeep.out | exact HL.out.all | exact HL.out.drew.all | (go_keep))
      (first
        | (go_at_call 7; refine (spec_Text.calls s 8 0 strT s E0 E0 E0 E0 0 0 (-1) [] _ rfl).mono ?_; rintro e w5 ⟨v5, rfl, ho, hb5⟩; obtain ⟨A5, c5, rfl⟩ := Kd.R_slice ho; have hkeep := Aside0.mk (keep_call ‹_› hb5); have HO := Aside0.mk (Kd.R_reads' ho).2.2; clear ho hb5)
        | (go_at_call 6; refine (same_calls s A5 c5 _ HO.out).mono ?_; rintro e w6 ⟨rfl, hb6⟩; have hkeep := Aside0.mk (keep_call ‹_› hb6); clear hb6))
    go_wp2
    go_ret
    exact ⟨rfl, hkeep.out.2.2.2.2.2.2.2.2.2.2.2.2.2.2.2.2.2.2.2.2.2.2.2.2.below⟩

end Go.Proofs.YtgdmianocepafaaDoor.HTree
