/- The law FnRemoveText returns true for every input: a list loses the first one of a text. -/
import Derived.Test.YtefejcggkkmhaaaHRemove
import Derived.Test.YtefejcggkkmhaaaQzzFits4
import Derived.Test.YtefejcggkkmhaaaQkyCut
import Derived.Test.YtefejcggkkmhaaaQKySameTexts
import Derived.WalkSpells
namespace Go.Proofs.Ytefejcggkkmhaaa.HRemove
open Go.RowKit Go.Proofs.YtefejcggkkmhaaaW.PrintWords Go.Proofs.YtefejcggkkmhaaaW.PrintLast Go.Proofs.YtefejcggkkmhaaaW.PrintMore Go.Proofs.Ytefejcggkkmhaaa.Plain

theorem removed_skip {a x : ByteArray} : ∀ {l : List ByteArray}, has a l = false → x = a → removed a (l ++ [x]) = removed a l
  | [], _, h => by simp [removed, h]
  | y :: r, hn, h => by
    rw [has_cons, Bool.or_eq_false_iff] at hn
    rw [List.cons_append, removed, removed, if_neg (of_decide_eq_false hn.1), if_neg (of_decide_eq_false hn.1), removed_skip hn.2 h]
theorem removed_more {a x : ByteArray} : ∀ {l : List ByteArray}, (has a l = true ∨ x ≠ a) → removed a (l ++ [x]) = removed a l ++ [x]
  | [], h => by
    rcases h with h | h
    · cases h
    · simp [removed, h]
  | y :: r, h => by
    rw [List.cons_append, removed, removed]
    by_cases e : y = a
    · rw [if_pos e, if_pos e]
    · rw [if_neg e, if_neg e, List.cons_append, removed_more]
      rw [has_cons] at h
      simpa [e] using h
theorem removed_length (a : ByteArray) : ∀ l : List ByteArray, (removed a l).length ≤ l.length
  | [] => Nat.le_refl _
  | x :: r => by
    rw [removed]
    split
    · simp
    · simp; exact removed_length a r

/-- Texts that lie in a block of their own. -/
theorem C_lit (W : World) (e : TypeId) (xs : List ByteArray) (h : xs.length ≤ 9223372036854775807) : Kd.C Kd.string (W.alloc (.cells (xs.map Value.string).toArray e)) (some ⟨W.heap.size, 0, none⟩) xs.length xs := by
  refine Kd.C_of_reads (d := ByteArray.empty) (h1 := fun _ => rfl) ⟨rfl, h, fun _ => ⟨_, rfl, fun j hj => ?_⟩⟩
  rw [add_plain, blk_cell (blk_new W _)]
  rw [List.getD_eq_getElem?_getD, List.getElem?_eq_getElem hj]
  simp [hj]

theorem meas {L j : Nat} (h : j < L) (hw : wrap64 ((j : Int) + 1) = ((j + 1 : Nat) : Int)) : L - (intOf (.int .i64 (wrap64 ((j : Int) + 1)))).toNat < L - (intOf (.int .i64 (j : Int))).toNat := by
  rw [hw]
  simp only [intOf]
  omega
theorem wr64 {L j : Nat} (h : j < L) (hL : L ≤ 12) : wrap64 ((j : Int) + 1) = ((j + 1 : Nat) : Int) := wrap_nat (by omega)

set_option maxHeartbeats 1000000 in
theorem law_calls (l : List ByteArray) (a : ByteArray) (A : Option Addr) (c : Nat) (w : World) (hr : Kd.C Kd.string w A l.length l) (hc : l.length ≤ c) (hl : l.length * 16 ≤ 140737488351232) :
    Calls Try.prog 3 #[.slice A l.length c, .string a] w fun e w' => e = .returned (.bool true) ∧ Below w.heap.size w w' := by
  obtain ⟨b, k1, hb⟩ : ∃ b k, PzzFits4.laws_zzFits4.f k l = some b := by
    obtain ⟨b, h⟩ := QzzFits4.fits4 l (by omega)
    obtain ⟨k, h⟩ := h.rounds
    exact ⟨b, k, h⟩
  have HR := Aside0.mk hr
  have HC := Aside0.mk hc
  have HL := Aside0.mk hl
  have HF := Aside0.mk hb
  clear hr hc hl hb
  by_cases hbt : b = true
  · subst hbt
    by_cases hs : (a.size : Int) > 2147483647
    · have hs1 : decide (2147483647 < (a.size : Int)) = true := by simpa using hs
      go_enter Try.func3, Try.ntmps3
      go_wp2_with (go_at_call 7; refine (PzzFits4.laws_zzFits4.calls k1 A c l true _ HR.out HC.out HF.out).mono ?_; rintro e w1 ⟨rfl, hd⟩; obtain ⟨nd, rfl⟩ := hd.out)
      go_ret
      exact ⟨rfl, by first | exact Below.refl _ _ | exact pw_below_drewN (Below.refl _ _) _⟩
    · have hs1 : decide (2147483647 < (a.size : Int)) = false := by simpa using hs
      obtain ⟨lc, k2, hlc, hk2⟩ : ∃ lc k, lc.length ≤ 12 ∧ PkyCut.laws_kyCut.f k l 12 = some lc := by
        obtain ⟨k, h⟩ := (QkyCut.kyCut l 12 (by omega) (by have := HL.out; omega)).rounds
        exact ⟨_, k, by simp; omega, h⟩
      have HK := Aside0.mk hk2
      clear hk2
      have HLC := Aside0.mk hlc
      clear hlc
      go_enter Try.func3, Try.ntmps3
      go_wp2_with (first
        | (go_at_call 7; refine (PzzFits4.laws_zzFits4.calls k1 A c l true _ HR.out HC.out HF.out).mono ?_; rintro e w1 ⟨rfl, hd⟩; obtain ⟨nd, rfl⟩ := hd.out; clear hd)
        | (go_at_call 8; refine (PkyCut.laws_kyCut.calls k2 A c l 12 lc _ (by first | exact HR.out | exact Kd.C_drewN HR.out _) HC.out HK.out).mono ?_; rintro e w2 ⟨v2, rfl, ho2, hb2⟩; obtain ⟨A2, c2, rfl⟩ := Kd.R_slice ho2))
      have HO2 := Aside0.mk (show Kd.R Kd.string 9 w2 w.heap.size (fun k => k < w2.heap.size) (.slice A2 lc.length c2) lc from Kd.R_mono (Kd.R_bound ho2) (fun k h => h.2.2.1))
      have HB2 := Aside0.mk (show Below w.heap.size w w2 from ⟨hb2.os, hb2.tape, hb2.output, hb2.size, hb2.block⟩)
      clear ho2 hb2
      go_loopw [5, 6, 21] (fun v g i wr => ∃ j : Nat, j ≤ lc.length ∧ i = .int .i64 j ∧ g = .bool (has a (lc.take j)) ∧ Aside0 (Kd.R Kd.string 9 wr w.heap.size (fun k => w2.heap.size ≤ k) v (removed a (lc.take j))) ∧ Aside0 (Kd.R Kd.string 9 wr w.heap.size (fun k => k < w2.heap.size) (.slice A2 lc.length c2) lc) ∧ Aside0 (Below w.heap.size w wr) ∧ Aside0 (w2.heap.size ≤ wr.heap.size)) (fun _ _ i _ => lc.length - (intOf i).toNat)
      case atStart => exact ⟨0, Nat.zero_le _, rfl, rfl, ⟨Kd.R_nil _ _ _ _ _⟩, HO2, HB2, ⟨Nat.le_refl _⟩⟩
      case round =>
        obtain ⟨j, hj, rfl, rfl, HV, HO, HB, HZ⟩ := hrel
        by_cases hlt : j < lc.length
        · obtain ⟨ad, e0, hcell⟩ := Kd.at_string (Kd.R_reads' HO.out).2.2 (j : Int) (by omega) (by omega)
          cases e0
          rw [rdOf_nat _ _ _ hlt, Int.toNat_natCast] at hcell
          have HW := Aside0.mk (wr64 hlt HLC.out)
          have HJ := Aside0.mk hlt
          have HT := Aside0.mk (take_next hlt)
          have HP := Aside0.mk (has_snoc a lc[j] (lc.take j))
          generalize hx : has a (lc.take j) = gone at *
          have HG := Aside0.mk hx
          clear hx
          by_cases hs : lc[j] = a
          · have hs1 : (lc[j].toList == a.toList) = true := by rw [beq_toList]; simp [hs]
            have HS := Aside0.mk hs
            clear hs
            cases gone with
            | false =>
              go_wp2
              go_roundw
              case rel => exact ⟨j + 1, HJ.out, congrArg (Value.int .i64) HW.out, by rw [HT.out, HP.out]; simp [HS.out], ⟨by rw [HT.out, removed_skip HG.out HS.out]; exact HV.out⟩, HO, HB, HZ⟩
              case measure => exact meas HJ.out HW.out
            | true =>
              go_wp2_with (refine gate_builtin (b := .append) (xs := #[.tmp 32, .tmp 34]) rfl ?_; at_builtin; refine Kd.R_append Kd.string (w0 := w) w.heap.size rfl (.tmp 32) (.tmp 34) 22 9 (.string ⟨#[]⟩) 16 rfl Try.underlying22 info9 rfl (by decide) (by omega) _ (removed a (lc.take j)) lc[j] [.string lc[j]] (fun k => w2.heap.size ≤ k) (fun _ => False) rfl rfl rfl (fun _ h => h.elim) (fun k h => Nat.le_trans HZ.out h) HV.out HB.out HB.out.size ?aL ?_; (case aL => have h1 := removed_length a (lc.take j); have h2 : (lc.take j).length ≤ j := List.length_take_le _ _; have h3 := HLC.out; omega); intro v3 w3 ho3 hb3 hg3 _)
              go_roundw
              case rel => exact ⟨j + 1, HJ.out, congrArg (Value.int .i64) HW.out, by rw [HT.out, HP.out]; simp, ⟨by rw [HT.out, removed_more (.inl HG.out)]; exact ho3⟩, ⟨Kd.R_grown HO.out hg3 (fun k hk e => by have := HV.out.1 k e.symm; omega)⟩, ⟨hb3⟩, ⟨Nat.le_trans HZ.out hg3.size⟩⟩
              case measure => exact meas HJ.out HW.out
          · have hs1 : (lc[j].toList == a.toList) = false := by rw [beq_toList]; simp [hs]
            go_wp2_with (refine gate_builtin (b := .append) (xs := #[.tmp 32, .tmp 34]) rfl ?_; at_builtin; refine Kd.R_append Kd.string (w0 := w) w.heap.size rfl (.tmp 32) (.tmp 34) 22 9 (.string ⟨#[]⟩) 16 rfl Try.underlying22 info9 rfl (by decide) (by omega) _ (removed a (lc.take j)) lc[j] [.string lc[j]] (fun k => w2.heap.size ≤ k) (fun _ => False) rfl rfl rfl (fun _ h => h.elim) (fun k h => Nat.le_trans HZ.out h) HV.out HB.out HB.out.size ?aL ?_; (case aL => have h1 := removed_length a (lc.take j); have h2 : (lc.take j).length ≤ j := List.length_take_le _ _; have h3 := HLC.out; omega); intro v3 w3 ho3 hb3 hg3 _)
            go_roundw
            case rel => exact ⟨j + 1, HJ.out, congrArg (Value.int .i64) HW.out, by rw [HT.out, HP.out]; simp [hs], ⟨by rw [HT.out, removed_more (.inr hs)]; exact ho3⟩, ⟨Kd.R_grown HO.out hg3 (fun k hk e => by have := HV.out.1 k e.symm; omega)⟩, ⟨hb3⟩, ⟨Nat.le_trans HZ.out hg3.size⟩⟩
            case measure => exact meas HJ.out HW.out
        · have ej : j = lc.length := by omega
          have HE := Aside0.mk ej
          have HV2 := Aside0.mk (show Kd.R Kd.string 9 wr w.heap.size (fun k => w2.heap.size ≤ k) _ (removed a lc) by have h := HV.out; rw [HE.out, List.take_length] at h; exact h)
          clear ej HV
          obtain ⟨A5, c5, e5⟩ := Kd.R_slice HV2.out
          subst e5
          obtain ⟨k4, hk4⟩ := (QKySameTexts.same_refl (removed a lc) (by have h1 := removed_length a lc; have h3 := HLC.out; omega)).rounds
          have HK4 := Aside0.mk hk4
          clear hk4
          go_wp2_with (first
            | (refine gate_dst (N := 37) rfl ?_; refine Kd.R_lit Kd.string (w0 := wr) wr.heap.size 9 rfl (N := 37) rfl (xs := ([] : List ByteArray)) (inner := []) (ok := fun _ => True) (okp := fun _ => True) ?hr (Reps.none _ _) (fun _ hk => hk) trivial (Below.refl _ _) (Nat.le_refl _) (by simp) ?_; (case hr => first | (go_simp; done) | (go_simp; rfl)); intro v6 w6 ho6 hb6 _ _; have HO6 := Aside0.mk ho6; have HB6 := Aside0.mk hb6; clear ho6 hb6)
            | (refine gate_builtin (b := .append) (xs := #[.tmp 37, .tmp 38]) rfl ?_; at_builtin; refine Kd.R_append_rows Kd.string (w0 := wr) wr.heap.size rfl (.tmp 37) (.tmp 38) 22 9 (.string ⟨#[]⟩) 16 rfl Try.underlying22 info9 rfl (by decide) (by omega) v6 [] lc _ _ _ (fun _ => True) (fun _ => False) rfl rfl HO6.out (Kd.C_below (Kd.R_reads' HO.out).2.2 HB6.out) (fun _ _ h => h) (fun _ h => h.elim) (fun _ _ => trivial) HB6.out HB6.out.size ?aL ?_; (case aL => simp only [List.length_nil]; have := HLC.out; omega); intro v7 w7 ho7 hb7 _ _; have HO7 := Aside0.mk ho7; have HB7 := Aside0.mk hb7; clear ho7 hb7; obtain ⟨A7, c7, e7⟩ := Kd.R_slice HO7.out; subst e7)
            | (go_at_call 10; have tok := HO7; refine (impl_calls lc a A7 c7 _ (Kd.R_reads' HO7.out).2.2 (by have := HLC.out; omega)).mono ?_; rintro e w8 ⟨v8, rfl, ho8, hb8⟩; have HO8 := Aside0.mk ho8; have HB8 := Aside0.mk (below_step HB7.out hb8); clear ho8 hb8 tok HO7; obtain ⟨A8, c8, e8⟩ := Kd.R_slice HO8.out; subst e8)
            | (go_at_call 10; refine (impl_calls [⟨#[97]⟩, ⟨#[98]⟩] ⟨#[97]⟩ _ 2 _ (C_lit w9 9 [⟨#[97]⟩, ⟨#[98]⟩] (by decide)) (by decide)).mono ?_; rintro e w10 ⟨v10, rfl, ho10, hb10⟩; obtain ⟨A10, c10, e10⟩ := Kd.R_slice ho10; subst e10; have HB10 := Aside0.mk (below_step (below_alloc HB9.out _) hb10); clear ho10 hb10)
            | (go_at_call 9; refine (PKySameTexts.spec_KySameTexts.calls k4 A8 c8 (removed a lc) A5 c5 (removed a lc) true _ (Kd.R_reads' HO8.out).2.2 (Kd.R_reads' HO8.out).2.1 (Kd.C_below (Kd.R_reads' HV2.out).2.2 HB8.out) (Kd.R_reads' HV2.out).2.1 HK4.out).mono ?_; rintro e w9 ⟨rfl, hd9⟩; have HB9 := Aside0.mk (below_step HB8.out hd9.below); clear hd9))
          go_ret
          exact ⟨rfl, below_step HB.out HB10.out⟩
  · have hbf : b = false := by simpa using hbt
    subst hbf
    go_enter Try.func3, Try.ntmps3
    go_wp2_with (go_at_call 7; refine (PzzFits4.laws_zzFits4.calls k1 A c l false _ HR.out HC.out HF.out).mono ?_; rintro e w1 ⟨rfl, hd⟩; obtain ⟨nd, rfl⟩ := hd.out)
    go_ret
    exact ⟨rfl, by first | exact Below.refl _ _ | exact pw_below_drewN (Below.refl _ _) _⟩

theorem row_calls (A : Option Addr) (c : Nat) (l : List ByteArray) (a : ByteArray) (w : World) (hr : Kd.C Kd.string w A l.length l) (hc : l.length ≤ c) (hl : l.length ≤ maxLen ∧ l.length * 16 ≤ 140737488351232 ∧ ∀ a ∈ l, (fun s : ByteArray => s.size ≤ 140737488351232) a) (_ha : a.size ≤ 140737488351232) :
    Calls Try.prog 3 #[.slice A l.length c, .string a] w fun e w' => e = .returned (.bool true) ∧ Below w.heap.size w w' := law_calls l a A c w hr hc hl.2.1

end Go.Proofs.Ytefejcggkkmhaaa.HRemove
