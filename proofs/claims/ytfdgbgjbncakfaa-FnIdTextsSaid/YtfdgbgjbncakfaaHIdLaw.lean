/- The law FnIdTexts returns true for every input: the text of an id, and its namespace. -/
import Derived.Test.YtfdgbgjbncakfaaHIdTexts2
import Derived.Test.YtfdgbgjbncakfaaPzzFits12x
namespace Go.Proofs.Ytfdgbgjbncakfaa.HIdLaw
open Go.RowKit Go.Proofs.YtfdgbgjbncakfaaW.PrintWords Go.Proofs.YtfdgbgjbncakfaaW.PrintLast Go.Proofs.YtfdgbgjbncakfaaW.PrintMore Go.Proofs.Ytfdgbgjbncakfaa.Plain Go.Proofs.Ytfdgbgjbncakfaa.HId Go.Proofs.Ytfdgbgjbncakfaa.QkyPlain Go.Proofs.Ytfdgbgjbncakfaa.HGvk

def fitsB (a0 a1 a2 a3 a4 : ByteArray) : Bool := decide (a0.size ≤ 2147483647) && decide (a1.size ≤ 2147483647) && decide (a2.size ≤ 2147483647) && decide (a3.size ≤ 2147483647) && decide (a4.size ≤ 2147483647)
theorem fits_calls (a0 a1 a2 a3 a4 : ByteArray) (w : World) : Calls Try.prog 6 #[.agg #[.string a0, .string a1, .string a2, .string a3, .string a4]] w fun e w' => e = .returned (.bool (fitsB a0 a1 a2 a3 a4)) ∧ Below w.heap.size w w' := by
  refine PzzFits12.laws_zzFits12.calls a0 a1 a2 a3 a4 _ w ?_
  unfold PzzFits12.laws_zzFits12.f fitsB
  by_cases h0 : a0.size ≤ 2147483647
  · by_cases h1 : a1.size ≤ 2147483647
    · by_cases h2 : a2.size ≤ 2147483647
      · by_cases h3 : a3.size ≤ 2147483647
        · by_cases h4 : a4.size ≤ 2147483647
          · rw [if_neg (by omega), if_neg (by omega), if_neg (by omega), if_neg (by omega), if_neg (by omega)]; simp [h0, h1, h2, h3, h4]
          · rw [if_neg (by omega), if_neg (by omega), if_neg (by omega), if_neg (by omega), if_pos (by omega)]; simp [h4]
        · rw [if_neg (by omega), if_neg (by omega), if_neg (by omega), if_pos (by omega)]; simp [h3]
      · rw [if_neg (by omega), if_neg (by omega), if_pos (by omega)]; simp [h2]
    · rw [if_neg (by omega), if_pos (by omega)]; simp [h1]
  · rw [if_pos (by omega)]; simp [h0]

theorem id_any (a0 a1 a2 a3 a4 : ByteArray) (h : fitsB a0 a1 a2 a3 a4 = true) : ∃ g v k n s, IdOk g v k n s ∧ ∀ w : World, Calls Try.prog 7 #[.agg #[.string a0, .string a1, .string a2, .string a3, .string a4]] w fun e w' => e = .returned (.agg #[.string g, .string v, .string k, .string n, .string s]) ∧ Below w.heap.size w w' := by
  simp only [fitsB, Bool.and_eq_true, decide_eq_true_iff] at h
  obtain ⟨g, v, k, n, s, hok, he⟩ := id_ev a0 a1 a2 a3 a4 h.1.1.1.1 h.1.1.1.2 h.1.1.2 h.1.2 h.2
  obtain ⟨q, hq⟩ := he.rounds
  exact ⟨g, v, k, n, s, hok, fun w => HkyId.laws_kyId.calls q a0 a1 a2 a3 a4 g v k n s w hq⟩

theorem id_small {g v k n s : ByteArray} (h : IdOk g v k n s) : g.size ≤ 1000 ∧ v.size ≤ 1000 ∧ k.size ≤ 1000 ∧ n.size ≤ 1000 ∧ s.size ≤ 1000 := by
  refine ⟨?_, by have := h.v.1; omega, ?_, ?_, by have := h.s.1; omega⟩
  · obtain ⟨u, hu, hg⟩ := h.g
    have := hu.1
    rcases hg with rfl | rfl
    · omega
    · rw [ByteArray.size_append]; show u.size + 3 ≤ _; omega
  · rcases h.k with rfl | ⟨u, hu, rfl⟩
    · decide
    · have := hu.1
      rw [ByteArray.size_append]; show 2 + u.size ≤ _; omega
  · obtain ⟨u, hu, hg⟩ := h.n
    have := hu.1
    rcases hg with rfl | rfl
    · omega
    · rw [ByteArray.size_append]; show u.size + 2 ≤ _; omega

/-- An id that is within namespaces: with a kind. -/
abbrev zz : ByteArray := ⟨#[90, 122]⟩

set_option maxHeartbeats 4000000 in
theorem law_calls (a0 a1 a2 a3 a4 : ByteArray) (w : World) :
    Calls Try.prog 5 #[.agg #[.string a0, .string a1, .string a2, .string a3, .string a4]] w fun e w' => e = .returned (.bool true) ∧ Below w.heap.size w w' := by
  cases hf : fitsB a0 a1 a2 a3 a4 with
  | false =>
    have HF := Aside0.mk hf
    clear hf
    go_enter Try.func5, Try.ntmps5
    go_wp2_with (go_at_call 6; refine (fits_calls a0 a1 a2 a3 a4 _).mono ?_; rw [HF.out]; rintro e w2 ⟨rfl, hb⟩; have HB := Aside0.mk (below_step (below_alloc (Below.refl _ _) _) hb); clear hb)
    go_ret
    exact ⟨rfl, HB.out⟩
  | true =>
    obtain ⟨g, v, k, n, s, hok, hid⟩ := id_any a0 a1 a2 a3 a4 hf
    have HF := Aside0.mk hf
    have HI := Aside0.mk hid
    have HG := Aside0.mk (id_small hok).1
    have HV := Aside0.mk (id_small hok).2.1
    have HK := Aside0.mk (show (orB k zz).size ≤ 1000 from or_size (id_small hok).2.2.1 (by decide))
    have HN := Aside0.mk (id_small hok).2.2.2.1
    have HS := Aside0.mk (id_small hok).2.2.2.2
    clear hf hok hid
    rcases or_cases k zz with ⟨k1, k2⟩ | ⟨k1, k2⟩ <;> rcases or_cases s dflt with ⟨s1, s2⟩ | ⟨s1, s2⟩
    all_goals
      have S2 := Aside0.mk s2
      rw [k2] at HK
      clear s2 k2
      go_enter Try.func5, Try.ntmps5
      go_upto_region 6 with (first
        | (go_at_call 6; refine (fits_calls a0 a1 a2 a3 a4 _).mono ?_; rw [HF.out]; rintro e w2 ⟨rfl, hb⟩; have HB := Aside0.mk (below_step (below_alloc (Below.refl _ _) _) hb); have BK := Aside0.mk (blk_below (blk_new w _) hb); have c0 := (blk_cell BK.out 0).trans rfl; have c1 := (blk_cell BK.out 1).trans rfl; have c2 := (blk_cell BK.out 2).trans rfl; have c3 := (blk_cell BK.out 3).trans rfl; have c4 := (blk_cell BK.out 4).trans rfl; clear hb)
        | (go_at_call 7; refine (HI.out _).mono ?_; rintro e w3 ⟨rfl, hb⟩; have HB3 := Aside0.mk (below_step HB.out hb); have BK3 := Aside0.mk (blk_below BK.out hb); have c0 := (blk_cell BK3.out 0).trans rfl; have c1 := (blk_cell BK3.out 1).trans rfl; have c2 := (blk_cell BK3.out 2).trans rfl; have c3 := (blk_cell BK3.out 3).trans rfl; have c4 := (blk_cell BK3.out 4).trans rfl; have f0 := blk_frozen BK3.out 0; have f1 := blk_frozen BK3.out 1; have f2 := blk_frozen BK3.out 2; have f3 := blk_frozen BK3.out 3; have f4 := blk_frozen BK3.out 4; have BK4 := Aside0.mk (blk_put (blk_put (blk_put (blk_put (blk_put BK3.out 0 (.string g) rfl) 1 (.string v) rfl) 2 (.string k) rfl) 3 (.string n) rfl) 4 (.string s) rfl); have HB4 := Aside0.mk (((((HB3.out.setCell (p := ⟨w.heap.size, 0, none⟩) (Nat.le_refl _) (.string g)).setCell (p := ⟨w.heap.size, 1, none⟩) (Nat.le_refl _) (.string v)).setCell (p := ⟨w.heap.size, 2, none⟩) (Nat.le_refl _) (.string k)).setCell (p := ⟨w.heap.size, 3, none⟩) (Nat.le_refl _) (.string n)).setCell (p := ⟨w.heap.size, 4, none⟩) (Nat.le_refl _) (.string s)); clear hb))
    · have BK5 := Aside0.mk (blk_put BK4.out 2 (.string zz) rfl)
      have HB5 := Aside0.mk (HB4.out.setCell (p := ⟨w.heap.size, 2, none⟩) (Nat.le_refl _) (.string zz))
      clear c0 c1 c2 c3 c4 f0 f1 f2 f3 f4 BK4 HB4
      generalize World.setCell _ ⟨w.heap.size, 2, none⟩ (.string zz) = W5 at BK5 HB5 ⊢
      have c0 := (blk_cell BK5.out 0).trans rfl
      have c1 := (blk_cell BK5.out 1).trans rfl
      have c2 := (blk_cell BK5.out 2).trans rfl
      have c3 := (blk_cell BK5.out 3).trans rfl
      have c4 := (blk_cell BK5.out 4).trans rfl
      go_wp2_with (first
        | (go_at_call 13; refine (idtexts_calls g v zz n s _ HG.out HV.out HK.out HN.out HS.out).mono ?_; rintro e w5 ⟨rfl, hb⟩; have HB6 := Aside0.mk (below_step HB5.out hb); have BK6 := Aside0.mk (blk_below BK5.out hb); clear c0 c1 c2 c3 c4; have c0 := (blk_cell BK6.out 0).trans rfl; have c1 := (blk_cell BK6.out 1).trans rfl; have c2 := (blk_cell BK6.out 2).trans rfl; have c3 := (blk_cell BK6.out 3).trans rfl; have c4 := (blk_cell BK6.out 4).trans rfl; rw [S2.out]; clear hb)
        | (go_at_call 14; refine (ids_calls g v zz n s _ HG.out HV.out HK.out HN.out HS.out).mono ?_; rintro e w7 ⟨rfl, hb⟩; have HB7 := Aside0.mk (below_step HB6.out hb); clear hb))
      go_ret
      exact ⟨rfl, HB7.out⟩
    · have BK5 := Aside0.mk (blk_put BK4.out 2 (.string zz) rfl)
      have HB5 := Aside0.mk (HB4.out.setCell (p := ⟨w.heap.size, 2, none⟩) (Nat.le_refl _) (.string zz))
      clear c0 c1 c2 c3 c4 f0 f1 f2 f3 f4 BK4 HB4
      generalize World.setCell _ ⟨w.heap.size, 2, none⟩ (.string zz) = W5 at BK5 HB5 ⊢
      have c0 := (blk_cell BK5.out 0).trans rfl
      have c1 := (blk_cell BK5.out 1).trans rfl
      have c2 := (blk_cell BK5.out 2).trans rfl
      have c3 := (blk_cell BK5.out 3).trans rfl
      have c4 := (blk_cell BK5.out 4).trans rfl
      go_wp2_with (first
        | (go_at_call 13; refine (idtexts_calls g v zz n s _ HG.out HV.out HK.out HN.out HS.out).mono ?_; rintro e w5 ⟨rfl, hb⟩; have HB6 := Aside0.mk (below_step HB5.out hb); have BK6 := Aside0.mk (blk_below BK5.out hb); clear c0 c1 c2 c3 c4; have c0 := (blk_cell BK6.out 0).trans rfl; have c1 := (blk_cell BK6.out 1).trans rfl; have c2 := (blk_cell BK6.out 2).trans rfl; have c3 := (blk_cell BK6.out 3).trans rfl; have c4 := (blk_cell BK6.out 4).trans rfl; rw [S2.out]; clear hb)
        | (go_at_call 14; refine (ids_calls g v zz n s _ HG.out HV.out HK.out HN.out HS.out).mono ?_; rintro e w7 ⟨rfl, hb⟩; have HB7 := Aside0.mk (below_step HB6.out hb); clear hb))
      go_ret
      exact ⟨rfl, HB7.out⟩
    · have BK5 := BK4
      have HB5 := HB4
      clear c0 c1 c2 c3 c4 f0 f1 f2 f3 f4 BK4 HB4
      generalize World.setCell _ ⟨w.heap.size, 4, none⟩ (.string s) = W5 at BK5 HB5 ⊢
      have c0 := (blk_cell BK5.out 0).trans rfl
      have c1 := (blk_cell BK5.out 1).trans rfl
      have c2 := (blk_cell BK5.out 2).trans rfl
      have c3 := (blk_cell BK5.out 3).trans rfl
      have c4 := (blk_cell BK5.out 4).trans rfl
      go_wp2_with (first
        | (go_at_call 13; refine (idtexts_calls g v k n s _ HG.out HV.out HK.out HN.out HS.out).mono ?_; rintro e w5 ⟨rfl, hb⟩; have HB6 := Aside0.mk (below_step HB5.out hb); have BK6 := Aside0.mk (blk_below BK5.out hb); clear c0 c1 c2 c3 c4; have c0 := (blk_cell BK6.out 0).trans rfl; have c1 := (blk_cell BK6.out 1).trans rfl; have c2 := (blk_cell BK6.out 2).trans rfl; have c3 := (blk_cell BK6.out 3).trans rfl; have c4 := (blk_cell BK6.out 4).trans rfl; rw [S2.out]; clear hb)
        | (go_at_call 14; refine (ids_calls g v k n s _ HG.out HV.out HK.out HN.out HS.out).mono ?_; rintro e w7 ⟨rfl, hb⟩; have HB7 := Aside0.mk (below_step HB6.out hb); clear hb))
      go_ret
      exact ⟨rfl, HB7.out⟩
    · have BK5 := BK4
      have HB5 := HB4
      clear c0 c1 c2 c3 c4 f0 f1 f2 f3 f4 BK4 HB4
      generalize World.setCell _ ⟨w.heap.size, 4, none⟩ (.string s) = W5 at BK5 HB5 ⊢
      have c0 := (blk_cell BK5.out 0).trans rfl
      have c1 := (blk_cell BK5.out 1).trans rfl
      have c2 := (blk_cell BK5.out 2).trans rfl
      have c3 := (blk_cell BK5.out 3).trans rfl
      have c4 := (blk_cell BK5.out 4).trans rfl
      go_wp2_with (first
        | (go_at_call 13; refine (idtexts_calls g v k n s _ HG.out HV.out HK.out HN.out HS.out).mono ?_; rintro e w5 ⟨rfl, hb⟩; have HB6 := Aside0.mk (below_step HB5.out hb); have BK6 := Aside0.mk (blk_below BK5.out hb); clear c0 c1 c2 c3 c4; have c0 := (blk_cell BK6.out 0).trans rfl; have c1 := (blk_cell BK6.out 1).trans rfl; have c2 := (blk_cell BK6.out 2).trans rfl; have c3 := (blk_cell BK6.out 3).trans rfl; have c4 := (blk_cell BK6.out 4).trans rfl; rw [S2.out]; clear hb)
        | (go_at_call 14; refine (ids_calls g v k n s _ HG.out HV.out HK.out HN.out HS.out).mono ?_; rintro e w7 ⟨rfl, hb⟩; have HB7 := Aside0.mk (below_step HB6.out hb); clear hb))
      go_ret
      exact ⟨rfl, HB7.out⟩

end Go.Proofs.Ytfdgbgjbncakfaa.HIdLaw
