/- The law FnGvkTexts returns true for every input: the texts of a group, version and kind. -/
import Derived.Test.YtfdgbgjbncakfaaHGvkTexts
import Derived.Test.YtfdgbgjbncakfaaPzzFits12x
import Derived.LoopTactic
namespace Go.Proofs.Ytfdgbgjbncakfaa.HGvk
open Go.RowKit Go.Proofs.YtfdgbgjbncakfaaW.PrintWords Go.Proofs.YtfdgbgjbncakfaaW.PrintLast Go.Proofs.YtfdgbgjbncakfaaW.PrintMore Go.Proofs.Ytfdgbgjbncakfaa.Plain Go.Proofs.Ytfdgbgjbncakfaa.HId Go.Proofs.Ytfdgbgjbncakfaa.QkyPlain

def fitsB (a0 a1 a2 a3 a4 : ByteArray) : Bool := decide (a0.size ≤ 2147483647) && decide (a1.size ≤ 2147483647) && decide (a2.size ≤ 2147483647) && decide (a3.size ≤ 2147483647) && decide (a4.size ≤ 2147483647)
theorem fits_calls (a0 a1 a2 a3 a4 : ByteArray) (w : World) : Calls Try.prog 6 #[.agg #[.string a0, .string a1, .string a2, .string a3, .string a4]] w fun e w' => e = .returned (.bool (fitsB a0 a1 a2 a3 a4)) ∧ Below w.heap.size w w' := by
  refine PzzFits12.laws_zzFits12.calls a0 a1 a2 a3 a4 _ w ?_
  unfold PzzFits12.laws_zzFits12.f fitsB
  by_cases h0 : a0.size ≤ 2147483647
  · by_cases h1 : a1.size ≤ 2147483647
    · by_cases h2 : a2.size ≤ 2147483647
      · by_cases h3 : a3.size ≤ 2147483647
        · by_cases h4 : a4.size ≤ 2147483647
          · rw [if_neg (by omega), if_neg (by omega), if_neg (by omega), if_neg (by omega), if_neg (by omega)]; simp [h0, h1, h2, h3, h4]
          · rw [if_neg (by omega), if_neg (by omega), if_neg (by omega), if_neg (by omega), if_pos (by omega)]; simp [h4]
        · rw [if_neg (by omega), if_neg (by omega), if_neg (by omega), if_pos (by omega)]; simp [h3]
      · rw [if_neg (by omega), if_neg (by omega), if_pos (by omega)]; simp [h2]
    · rw [if_neg (by omega), if_pos (by omega)]; simp [h1]
  · rw [if_pos (by omega)]; simp [h0]

theorem id_any (a0 a1 a2 a3 a4 : ByteArray) (h : fitsB a0 a1 a2 a3 a4 = true) : ∃ g v k n s, IdOk g v k n s ∧ ∀ w : World, Calls Try.prog 7 #[.agg #[.string a0, .string a1, .string a2, .string a3, .string a4]] w fun e w' => e = .returned (.agg #[.string g, .string v, .string k, .string n, .string s]) ∧ Below w.heap.size w w' := by
  simp only [fitsB, Bool.and_eq_true, decide_eq_true_iff] at h
  obtain ⟨g, v, k, n, s, hok, he⟩ := id_ev a0 a1 a2 a3 a4 h.1.1.1.1 h.1.1.1.2 h.1.1.2 h.1.2 h.2
  obtain ⟨q, hq⟩ := he.rounds
  exact ⟨g, v, k, n, s, hok, fun w => HkyId.laws_kyId.calls q a0 a1 a2 a3 a4 g v k n s w hq⟩

theorem id_small {g v k n s : ByteArray} (h : IdOk g v k n s) : g.size ≤ 1000 ∧ v.size ≤ 1000 ∧ k.size ≤ 1000 := by
  refine ⟨?_, by have := h.v.1; omega, ?_⟩
  · obtain ⟨u, hu, hg⟩ := h.g
    have := hu.1
    rcases hg with rfl | rfl
    · omega
    · rw [ByteArray.size_append]; show u.size + 3 ≤ _; omega
  · rcases h.k with rfl | ⟨u, hu, rfl⟩
    · decide
    · have := hu.1
      rw [ByteArray.size_append]; show 2 + u.size ≤ _; omega

theorem cat1 {g v : ByteArray} (hg : g.size ≤ 1000) (_hv : v.size ≤ 1000) : ¬ 9223372036854775807 < g.size + 1 := by omega
theorem cat2 {g v : ByteArray} (hg : g.size ≤ 1000) (hv : v.size ≤ 1000) : ¬ 9223372036854775807 < g.size + 1 + v.size := by omega

def fw (l : List ByteArray) : ByteArray := l.foldl few ByteArray.empty
theorem fw_snoc (l : List ByteArray) (x : ByteArray) : fw (l ++ [x]) = few (fw l) x := by simp [fw]
theorem cat3 {acc : ByteArray} {j : Nat} (h : acc.size ≤ 2000 * j) (hj : j ≤ 3) : ¬ 9223372036854775807 < acc.size + 1 := by omega
theorem cat4 {acc x : ByteArray} {j : Nat} (h : acc.size ≤ 2000 * j) (hj : j ≤ 3) (hx : x.size ≤ 1000) : ¬ 9223372036854775807 < acc.size + x.size := by omega
theorem cat5 {acc x : ByteArray} {j : Nat} (h : acc.size ≤ 2000 * j) (hj : j ≤ 3) (hx : x.size ≤ 1000) : ¬ 9223372036854775807 < acc.size + 1 + x.size := by omega
theorem meas2 {L j : Nat} (h : j < L) : L - (intOf (.int .i64 ((j : Int) + 1))).toNat < L - (intOf (.int .i64 (j : Int))).toNat := by
  simp only [intOf]
  omega
theorem api_empty {g v : ByteArray} (h : g = ByteArray.empty) : apiB g v = v := if_pos h
theorem api_full {g v : ByteArray} (h : g ≠ ByteArray.empty) : apiB g v = g ++ ⟨#[47]⟩ ++ v := if_neg h
theorem C_lit (W : World) (e : TypeId) (xs : List ByteArray) (h : xs.length ≤ 9223372036854775807) : Kd.C Kd.string (W.alloc (.cells (xs.map Value.string).toArray e)) (some ⟨W.heap.size, 0, none⟩) xs.length xs := by
  refine Kd.C_of_reads (d := ByteArray.empty) (h1 := fun _ => rfl) ⟨rfl, h, fun _ => ⟨_, rfl, fun j hj => ?_⟩⟩
  rw [add_plain, blk_cell (blk_new W _)]
  rw [List.getD_eq_getElem?_getD, List.getElem?_eq_getElem hj]
  simp [hj]

set_option maxHeartbeats 2000000 in
theorem law_calls (a0 a1 a2 a3 a4 : ByteArray) (w : World) :
    Calls Try.prog 4 #[.agg #[.string a0, .string a1, .string a2, .string a3, .string a4]] w fun e w' => e = .returned (.bool true) ∧ Below w.heap.size w w' := by
  cases hf : fitsB a0 a1 a2 a3 a4 with
  | false =>
    have HF := Aside0.mk hf
    clear hf
    go_enter Try.func4, Try.ntmps4
    go_wp2_with (go_at_call 6; refine (fits_calls a0 a1 a2 a3 a4 _).mono ?_; rw [HF.out]; rintro e w2 ⟨rfl, hb⟩; have HB := Aside0.mk (below_step (below_alloc (Below.refl _ _) _) hb); clear hb)
    go_ret
    exact ⟨rfl, HB.out⟩
  | true =>
    obtain ⟨g, v, k, n, s, hok, hid⟩ := id_any a0 a1 a2 a3 a4 hf
    have HF := Aside0.mk hf
    have HI := Aside0.mk hid
    have HG := Aside0.mk (id_small hok).1
    have HV := Aside0.mk (id_small hok).2.1
    have HK := Aside0.mk (id_small hok).2.2
    clear hf hok hid
    go_enter Try.func4, Try.ntmps4
    go_upto_region 4 with (first
      | (go_at_call 6; refine (fits_calls a0 a1 a2 a3 a4 _).mono ?_; rw [HF.out]; rintro e w2 ⟨rfl, hb⟩; have HB := Aside0.mk (below_step (below_alloc (Below.refl _ _) _) hb); have BK := Aside0.mk (blk_below (blk_new w _) hb); have c0 := (blk_cell BK.out 0).trans rfl; have c1 := (blk_cell BK.out 1).trans rfl; have c2 := (blk_cell BK.out 2).trans rfl; have c3 := (blk_cell BK.out 3).trans rfl; have c4 := (blk_cell BK.out 4).trans rfl; clear hb)
      | (go_at_call 7; refine (HI.out _).mono ?_; rintro e w3 ⟨rfl, hb⟩; have HB3 := Aside0.mk (below_step HB.out hb); have BK3 := Aside0.mk (blk_below BK.out hb); have c0 := (blk_cell BK3.out 0).trans rfl; have c1 := (blk_cell BK3.out 1).trans rfl; have c2 := (blk_cell BK3.out 2).trans rfl; have c3 := (blk_cell BK3.out 3).trans rfl; have c4 := (blk_cell BK3.out 4).trans rfl; have f0 := blk_frozen BK3.out 0; have f1 := blk_frozen BK3.out 1; have f2 := blk_frozen BK3.out 2; have f3 := blk_frozen BK3.out 3; have f4 := blk_frozen BK3.out 4; have BK4 := Aside0.mk (blk_put (blk_put (blk_put (blk_put (blk_put BK3.out 0 (.string g) rfl) 1 (.string v) rfl) 2 (.string k) rfl) 3 (.string n) rfl) 4 (.string s) rfl); have HB4 := Aside0.mk (((((HB3.out.setCell (p := ⟨w.heap.size, 0, none⟩) (Nat.le_refl _) (.string g)).setCell (p := ⟨w.heap.size, 1, none⟩) (Nat.le_refl _) (.string v)).setCell (p := ⟨w.heap.size, 2, none⟩) (Nat.le_refl _) (.string k)).setCell (p := ⟨w.heap.size, 3, none⟩) (Nat.le_refl _) (.string n)).setCell (p := ⟨w.heap.size, 4, none⟩) (Nat.le_refl _) (.string s)); clear hb))
    rcases em_cases g with ⟨g1, g2⟩ | ⟨g1, g2⟩
    all_goals
      have GE := Aside0.mk g2
      have p1 := cat1 HG.out HV.out
      have p2 := cat2 HG.out HV.out
      clear g2
      go_upto_block 0 with (first
        | (go_at_call 11; refine (texts_calls g v k n s _ HG.out HV.out HK.out).mono ?_; rintro e w5 ⟨rfl, hb⟩; have HB5 := Aside0.mk (below_step HB4.out hb); have BK5 := Aside0.mk (blk_below BK4.out hb); clear c0 c1 c2 c3 c4; have c0 := (blk_cell BK5.out 0).trans rfl; have c1 := (blk_cell BK5.out 1).trans rfl; have c2 := (blk_cell BK5.out 2).trans rfl; have c3 := (blk_cell BK5.out 3).trans rfl; have c4 := (blk_cell BK5.out 4).trans rfl; clear hb))
      have HC := Aside0.mk (C_lit w5 9 [g, v, k] (by simp))
      have HXS := Aside0.mk (show ∀ x ∈ [g, v, k], x.size ≤ 1000 by intro x hx; simp at hx; rcases hx with rfl | rfl | rfl; exact HG.out; exact HV.out; exact HK.out)
      obtain ⟨b5, hb5⟩ : ∃ b5, w5.heap.size = b5 := ⟨_, rfl⟩
      obtain ⟨W6, hW6⟩ : ∃ W6, w5.alloc (.cells #[.string g, .string v, .string k] 9) = W6 := ⟨_, rfl⟩
      have HC6 := Aside0.mk (show Kd.C Kd.string W6 (some ⟨b5, 0, none⟩) 3 [g, v, k] by rw [← hW6, ← hb5]; exact HC.out)
      have HB6 := Aside0.mk (show Below w.heap.size w W6 by rw [← hW6]; exact below_alloc HB5.out _)
      have BK6 := Aside0.mk (show W6.heap[w.heap.size]? = some (.cells #[.string g, .string v, .string k, .string n, .string s] 23 (0, 0)) by rw [← hW6]; exact blk_alloc BK5.out _)
      rw [hW6, hb5]
      clear hW6 hb5 HC c0 c1 c2 c3 c4 f0 f1 f2 f3 f4
      obtain ⟨xs, hxs⟩ : ∃ xs, [g, v, k] = xs := ⟨_, rfl⟩
      have HX := Aside0.mk hxs
      have HN := Aside0.mk (show xs.length = 3 by rw [← hxs]; rfl)
      rw [hxs] at HC6 HXS
      clear hxs
      go_wp2
      go_loop [7, 40] (fun t i => ∃ (j : Nat) (acc : ByteArray), j ≤ 3 ∧ i = .int .i64 j ∧ t = .string acc ∧ Aside0 (acc = fw (xs.take j)) ∧ Aside0 (acc.size ≤ 2000 * j)) (fun _ i => 3 - (intOf i).toNat)
      case atStart => exact ⟨0, ByteArray.empty, Nat.zero_le _, rfl, rfl, ⟨rfl⟩, ⟨by decide⟩⟩
      case round =>
        obtain ⟨j, acc, hj, rfl, rfl, HA, HS⟩ := hrel
        by_cases hlt : j < 3
        · have hlx : j < xs.length := by rw [HN.out]; exact hlt
          have HLT := Aside0.mk hlt
          obtain ⟨ad, e0, hx⟩ := Kd.at_string HC6.out (j : Int) (Int.natCast_nonneg j) (by omega)
          cases e0
          rw [rdOf_nat _ _ _ hlx, Int.toNat_natCast, add_plain] at hx
          have HXJ := Aside0.mk (HXS.out xs[j] (List.getElem_mem hlx))
          have HNX := Aside0.mk (show few acc xs[j] = fw (xs.take (j + 1)) by rw [take_next hlx, fw_snoc, ← HA.out])
          obtain ⟨x, hxe⟩ : ∃ x, xs[j] = x := ⟨_, rfl⟩
          rw [hxe] at hx HXJ HNX
          clear hxe
          have p0 : 0 ≤ (j : Int) := Int.natCast_nonneg j
          have q0 : (j : Int) < 3 := by omega
          have q1 := cat3 HS.out hj
          have q2 := cat4 HS.out hj HXJ.out
          have q3 := cat5 HS.out hj HXJ.out
          rcases em_cases x with ⟨x1, x2⟩ | ⟨x1, x2⟩ <;> rcases em_cases acc with ⟨y1, y2⟩ | ⟨y1, y2⟩
          all_goals
            have X2 := Aside0.mk x2
            have Y2 := Aside0.mk y2
            clear x2 y2
            go_wp2
            go_round
            case rel => exact ⟨j + 1, _, HLT.out, rfl, rfl, ⟨by rw [← HNX.out]; simp [few, X2.out, Y2.out]⟩, ⟨by have a := HS.out; have b := HXJ.out; first | omega | (rw [ByteArray.size_append]; omega) | (rw [ByteArray.size_append, ByteArray.size_append]; show acc.size + 1 + x.size ≤ _; omega)⟩⟩
            case measure => exact meas2 HLT.out
        · have e : j = 3 := by omega
          have HE := Aside0.mk (show acc = shortB g v k by rw [HA.out, e, ← HX.out]; rfl)
          have HAP := Aside0.mk (by first | exact api_empty (v := v) GE.out | exact api_full (v := v) GE.out)
          clear e
          have c0 := (blk_cell BK6.out 0).trans rfl
          have c1 := (blk_cell BK6.out 1).trans rfl
          have c2 := (blk_cell BK6.out 2).trans rfl
          have c3 := (blk_cell BK6.out 3).trans rfl
          have c4 := (blk_cell BK6.out 4).trans rfl
          rw [HE.out, HAP.out]
          go_wp2_with (go_at_call 12; refine (spec_calls g v k n s _ HG.out HV.out HK.out).mono ?_; rintro e w7 ⟨rfl, hb⟩; have HB7 := Aside0.mk (below_step HB6.out hb); clear hb)
          go_ret
          exact ⟨rfl, HB7.out⟩

end Go.Proofs.Ytfdgbgjbncakfaa.HGvk
