/- The law FnKeyLine returns true for every input: the line of a key is the last one that is no comment, cut at a sign. -/
import Derived.Test.YtgdffbjkafbkcaaHKeyLine
import Derived.Test.YtgdffbjkafbkcaaQzzFits4
import Derived.Test.YtgdffbjkafbkcaaQkyCut
import Derived.Deep.DeepCutAuto
namespace Go.Proofs.Ytgdffbjkafbkcaa.HKeyLine
open Go.RowKit Go.Proofs.YtgdffbjkafbkcaaW.PrintWords Go.Proofs.YtgdffbjkafbkcaaW.PrintLast Go.Proofs.YtgdffbjkafbkcaaW.PrintMore Go.Proofs.Ytgdffbjkafbkcaa.Plain Go.Proofs.Ytgdffbjkafbkcaa.HBytes Go.Proofs.Ytgdffbjkafbkcaa.HTrim Go.Proofs.Ytgdffbjkafbkcaa.HKeyPure

theorem fits_any (A : Option Addr) (c : Nat) (l : List ByteArray) (w : World) (hr : Kd.C Kd.string w A l.length l) (hc : l.length ≤ c) (hl : l.length * 16 ≤ 140737488351232) :
    ∃ b : Bool, Calls Try.prog 6 #[.slice A l.length c] w fun e w' => e = .returned (.bool b) ∧ ∃ n, w' = w.drewN n := by
  obtain ⟨b, h⟩ := QzzFits4.fits4 l (by omega)
  obtain ⟨k, h⟩ := h.rounds
  exact ⟨b, (PzzFits4.laws_zzFits4.calls k A c l b w hr hc h).mono fun e w' ⟨he, hd⟩ => ⟨he, hd.out⟩⟩
theorem cut_calls (A : Option Addr) (c : Nat) (l : List ByteArray) (w : World) (hr : Kd.C Kd.string w A l.length l) (hc : l.length ≤ c) (hl : l.length * 16 ≤ 140737488351232) :
    Calls Try.prog 10 #[.slice A l.length c, .int .i64 12] w fun e w' => ∃ (lc : List ByteArray) (B : Option Addr) (d : Nat), e = .returned (.slice B lc.length d) ∧ lc.length ≤ 12 ∧ (∀ s ∈ lc, s.size ≤ 40) ∧ Kd.C Kd.string w' B lc.length lc ∧ Below w.heap.size w w' := by
  obtain ⟨k, h⟩ := (QkyCut.kyCut l 12 (by omega) (by omega)).rounds
  refine (PkyCut.laws_kyCut.calls k A c l 12 _ w hr hc h).mono ?_
  rintro e w' ⟨v, rfl, ho, hb⟩
  obtain ⟨B, d, rfl⟩ := Kd.R_slice ho
  refine ⟨_, B, d, rfl, by rw [List.length_map, List.length_take]; omega, ?_, (Kd.R_reads' ho).2.2, hb⟩
  intro s hs
  obtain ⟨t, _, rfl⟩ := List.mem_map.1 hs
  unfold QkyCut.cut40
  rw [ByteArray.size_extract]
  omega

theorem mod_place (a : Int) (n : Nat) (h : n ≤ 12) : ∃ j : Nat, j ≤ n ∧ wrap64 ((IntKind.u64.wrap a).tmod ((n : Int) + 1)) = (j : Int) := by
  have h0 : 0 ≤ IntKind.u64.wrap a := by simp [IntKind.wrap, IntKind.signed]; omega
  have h1 := Int.tmod_nonneg ((n : Int) + 1) h0
  have h2 := Int.tmod_lt_of_pos (IntKind.u64.wrap a) (show (0 : Int) < (n : Int) + 1 by omega)
  generalize (IntKind.u64.wrap a).tmod ((n : Int) + 1) = x at h1 h2
  refine ⟨x.toNat, by omega, ?_⟩
  rw [wrap_id (by omega) (by omega)]
  omega

/-- Two lines that lie in a block of their own: the call that the law ends with. -/
theorem C_lit (W : World) (e : TypeId) (xs : List ByteArray) (h : xs.length ≤ 9223372036854775807) : Kd.C Kd.string (W.alloc (.cells (xs.map Value.string).toArray e)) (some ⟨W.heap.size, 0, none⟩) xs.length xs := by
  refine Kd.C_of_reads (d := ByteArray.empty) (h1 := fun _ => rfl) ⟨rfl, h, fun _ => ⟨_, rfl, fun j hj => ?_⟩⟩
  rw [add_plain, blk_cell (blk_new W _)]
  rw [List.getD_eq_getElem?_getD, List.getElem?_eq_getElem hj]
  simp [hj]
theorem end_calls (w : World) : Calls Try.prog 11 #[.slice (some ⟨w.heap.size, 0, none⟩) 2 2, .int .i64 2] (w.alloc (.cells #[.string ⟨#[97, 58, 32, 35, 32, 98]⟩, .string ⟨#[35, 32, 99]⟩] 9)) fun e w' => e = .returned (.string ⟨#[97, 58, 32]⟩) ∧ Below w.heap.size w w' := by
  have h := impl_calls _ 2 [B [97, 58, 32, 35, 32, 98], B [35, 32, 99]] 2 _ (C_lit w 9 [B [97, 58, 32, 35, 32, 98], B [35, 32, 99]] (by simp)) (by simp) (by simp) (by intro s hs; simp at hs; rcases hs with rfl | rfl <;> (rw [B_size]; simp))
  refine h.mono ?_
  rintro e w' ⟨rfl, hb⟩
  exact ⟨by rw [show keyAt [B [97, 58, 32, 35, 32, 98], B [35, 32, 99]] 2 = B [97, 58, 32] by decide]; rfl, below_step (below_alloc (Below.refl _ _) _) hb⟩

set_option maxHeartbeats 2000000 in
theorem law_calls (A : Option Addr) (c : Nat) (l : List ByteArray) (a : Int) (w : World) (hr : Kd.C Kd.string w A l.length l) (hc : l.length ≤ c) (hl : l.length ≤ maxLen ∧ l.length * 16 ≤ 140737488351232 ∧ ∀ a ∈ l, (fun s : ByteArray => s.size ≤ 140737488351232) a) (_ha : (Lit.int .i64 a).wf = true) :
    Calls Try.prog 4 #[.slice A l.length c, .int .i64 a] w fun e w' => e = .returned (.bool true) ∧ Below w.heap.size w w' := by
  have hl2 := hl.2.1
  obtain ⟨b, hb⟩ := fits_any A c l w hr hc hl2
  have HF := Aside0.mk hb
  have HR := Aside0.mk hr
  have HC := Aside0.mk hc
  have HL := Aside0.mk hl2
  clear hr hl hl2 hb hc
  cases b with
  | false =>
    go_enter Try.func4, Try.ntmps4
    go_wp2_with (go_at_call 6; refine (HF.out).mono ?_; rintro e w1 ⟨rfl, nd, rfl⟩)
    go_ret
    exact ⟨rfl, pw_below_drewN (Below.refl _ _) _⟩
  | true =>
    go_enter Try.func4, Try.ntmps4
    go_upto_region 4 with (first
      | (go_at_call 6; refine (HF.out).mono ?_; rintro e w1 ⟨rfl, nd, rfl⟩)
      | (go_at_call 10; refine (cut_calls A c l _ (Kd.C_drewN HR.out nd) HC.out HL.out).mono ?_; rintro e w2 ⟨lc, B', d, rfl, h12, h40, hc2, hb2⟩; have HC2 := Aside0.mk hc2; have HB2 := Aside0.mk (below_step (pw_below_drewN (Below.refl _ _) nd) hb2); have H40 := Aside0.mk h40; have H12 := Aside0.mk h12; clear hc2 hb2 h40))
    go_cut [5] (fun s5 wx => ∃ j : Nat, j ≤ lc.length ∧ s5 = .int .i64 (j : Int) ∧ wx = w2)
    case first =>
      go_wp2
      go_meet
      obtain ⟨j, h1, h2⟩ := mod_place a lc.length H12.out
      exact ⟨j, h1, by rw [h2], rfl⟩
    case rest =>
      obtain ⟨j, hj, rfl, rfl⟩ := hcut
      have HI1 := Aside0.mk (fun w hr => impl_calls B' d lc j w hr hj (by omega) (fun s hs => Nat.le_trans (H40.out s hs) (by omega)))
      have HI2 := Aside0.mk (fun w hr => spec_calls B' d lc j w hr hj (by omega) (fun s hs => Nat.le_trans (H40.out s hs) (by omega)))
      clear hj
      go_wp2_with (first
        | (go_at_call 12; refine (HI2.out _ (Kd.C_below HC2.out HB5.out)).mono ?_; rintro e w6 ⟨rfl, hb6⟩; have HB6 := Aside0.mk (below_step HB4.out hb6); clear hb6)
        | (go_at_call 11; have tok := HC2; refine (HI1.out _ HC2.out).mono ?_; rintro e w5 ⟨rfl, hb5⟩; have HB5 := Aside0.mk hb5; have HB4 := Aside0.mk (below_step HB2.out hb5); clear tok HI1 hb5)
        | (go_at_call 11; refine (end_calls _).mono ?_; rintro e w7 ⟨rfl, hb7⟩; have HB7 := Aside0.mk (below_step HB6.out hb7); clear hb7))
      go_ret
      exact ⟨rfl, HB7.out⟩

end Go.Proofs.Ytgdffbjkafbkcaa.HKeyLine
