/- The law FnValidKeys returns true for every input: the keys that count, and their values. -/
import Derived.Test.YtefejcggkkmhaaaHKeys
import Derived.Test.YtefejcggkkmhaaaQvLists
import Derived.Test.YtefejcggkkmhaaaQvSame
namespace Go.Proofs.Ytefejcggkkmhaaa.HSets
open Go.RowKit Go.Proofs.YtefejcggkkmhaaaW.PrintWords Go.Proofs.YtefejcggkkmhaaaW.PrintLast Go.Proofs.YtefejcggkkmhaaaW.PrintMore Go.Proofs.Ytefejcggkkmhaaa.Plain Go.Proofs.Ytefejcggkkmhaaa.PFnValidKeys

abbrev wfS (s : ByteArray) : Prop := s.size ≤ 140737488351232
abbrev wfL (l : List ByteArray) : Prop := l.length ≤ maxLen ∧ l.length * 16 ≤ 140737488351232 ∧ ∀ a ∈ l, (fun s : ByteArray => s.size ≤ 140737488351232) a
theorem valid_len (ll : List (List ByteArray)) (values keys : List ByteArray) (hk : keys.length ≤ 10) (hv : values.length ≤ 10) : (valid ll values keys).1.length ≤ 10 ∧ (valid ll values keys).2.length ≤ 10 := by
  unfold valid
  split
  · exact ⟨hk, hv⟩
  · exact ⟨Nat.le_trans (kp_len _ _ _) hk, Nat.le_trans (kv_len _ _ _ _) hv⟩
theorem valid_one : valid [[⟨#[97]⟩]] [⟨#[97]⟩] [⟨#[107]⟩] = ([⟨#[107]⟩], [⟨#[97]⟩]) := by decide +kernel
/-- Texts that lie in a block of their own. -/
theorem C_one (W : World) (s : ByteArray) : Kd.C Kd.string (W.alloc (.cells #[.string s] 9)) (some ⟨W.heap.size, 0, none⟩) 1 [s] := by
  refine Kd.C_of_reads (d := ByteArray.empty) (h1 := fun _ => rfl) ⟨rfl, by omega, fun _ => ⟨_, rfl, fun j hj => ?_⟩⟩
  obtain rfl : j = 0 := by omega
  rw [add_plain, blk_cell (blk_new W _)]
  rfl
theorem C_row (W : World) (A : Option Addr) (l : List ByteArray) (c : Nat) (hc : l.length ≤ c) (hr : Kd.C Kd.string W A l.length l) : Kd.C (Kd.slice 9 Kd.string) (W.alloc (.cells #[.slice A l.length c] 22)) (some ⟨W.heap.size, 0, none⟩) 1 [l] := by
  refine ⟨rfl, by omega, fun _ => ⟨⟨W.heap.size, 0, none⟩, rfl, fun j p hp => ?_⟩⟩
  obtain rfl : j = 0 := by
    rcases j with _ | j
    · rfl
    · simp at hp
  simp only [List.getElem?_cons_zero, Option.some.injEq] at hp
  subst hp
  refine ⟨[.slice A l.length c], rfl, ⟨A, c, rfl, hc, Kd.C_below hr (below_alloc (Below.refl _ _) _)⟩, fun i u hu => ?_⟩
  have hi : i = 0 := by
    rcases i with _ | i
    · rfl
    · simp at hu
  subst hi
  simp only [List.getElem?_cons_zero, Option.some.injEq] at hu
  subst hu
  rw [add_plain]
  exact (blk_cell (blk_new W _) 0).trans rfl
theorem s_src {w : World} {base : Nat} {ok : Nat → Prop} {v : Value} {r : List (List ByteArray)} (h : Kd.S (Kd.slice 9 Kd.string) 22 w base ok v r) : (v = .slice none 0 0 ∧ r = []) ∨ ∃ ad ca, v = .slice (some ad) r.length ca ∧ Kd.C (Kd.slice 9 Kd.string) w (some ad) r.length r := by
  obtain ⟨A, c, rfl, _, hr⟩ := Kd.S_reads h
  obtain ⟨inner, ho⟩ := Kd.S_own h
  rcases ho.2 with ⟨e, h0⟩ | ⟨g, cap, cur, e, _⟩
  · have e' := e
    simp only [Value.slice.injEq] at e'
    exact .inl ⟨e, List.eq_nil_of_length_eq_zero e'.2.1⟩
  · cases e
    exact .inr ⟨_, _, rfl, hr⟩
theorem keys_one (w : World) : Calls Try.prog 16 #[.slice (some ⟨w.heap.size + 1, 0, none⟩) 1 1, .slice (some ⟨w.heap.size + 1 + 1, 0, none⟩) 1 1, .slice (some ⟨w.heap.size + 1 + 1 + 1, 0, none⟩) 1 1] ((((w.alloc (.cells #[.string ⟨#[97]⟩] 9)).alloc (.cells #[.slice (some ⟨w.heap.size, 0, none⟩) 1 1] 22)).alloc (.cells #[.string ⟨#[97]⟩] 9)).alloc (.cells #[.string ⟨#[107]⟩] 9))
    fun e w' => ∃ A c v2, e = .returned (.tuple #[.slice A 1 c, v2, .int .i64 0]) ∧ Below w.heap.size w w' := by
  have e1 : (w.alloc (.cells #[.string ⟨#[97]⟩] 9)).heap.size = w.heap.size + 1 := by simp
  have hA := C_row (w.alloc (.cells #[.string ⟨#[97]⟩] 9)) (some ⟨w.heap.size, 0, none⟩) [⟨#[97]⟩] 1 (by simp) (C_one w _)
  rw [e1] at hA
  have hB := C_one ((w.alloc (.cells #[.string ⟨#[97]⟩] 9)).alloc (.cells #[.slice (some ⟨w.heap.size, 0, none⟩) 1 1] 22)) ⟨#[97]⟩
  have e2 : ((w.alloc (.cells #[.string ⟨#[97]⟩] 9)).alloc (.cells #[.slice (some ⟨w.heap.size, 0, none⟩) 1 1] 22)).heap.size = w.heap.size + 1 + 1 := by simp
  rw [e2] at hB
  have hC := C_one (((w.alloc (.cells #[.string ⟨#[97]⟩] 9)).alloc (.cells #[.slice (some ⟨w.heap.size, 0, none⟩) 1 1] 22)).alloc (.cells #[.string ⟨#[97]⟩] 9)) ⟨#[107]⟩
  have e3 : (((w.alloc (.cells #[.string ⟨#[97]⟩] 9)).alloc (.cells #[.slice (some ⟨w.heap.size, 0, none⟩) 1 1] 22)).alloc (.cells #[.string ⟨#[97]⟩] 9)).heap.size = w.heap.size + 1 + 1 + 1 := by simp
  rw [e3] at hC
  refine (keys_calls _ _ _ 1 1 [[⟨#[97]⟩]] [⟨#[97]⟩] [⟨#[107]⟩] _ (.inr ⟨_, 1, rfl, Kd.C_below hA (below_alloc (below_alloc (Below.refl _ _) _) _)⟩) (Kd.C_below hB (below_alloc (Below.refl _ _) _)) hC (by simp) rfl (by simp) (by simp) (fun s hs => by rw [List.mem_singleton.1 hs]; decide) (by simp) (by simp)).mono ?_
  rintro e w' ⟨v1, v2, rfl, ⟨A, c, rfl, _⟩, _, hb⟩
  exact ⟨A, c, v2, by rw [valid_one]; rfl, below_step (below_alloc (below_alloc (below_alloc (below_alloc (Below.refl _ _) _) _) _) _) hb⟩

theorem rd_C {w : World} {A : Option Addr} {n c : Nat} {l : List ByteArray} (h : Rd w (.slice A n c) l) : Kd.C Kd.string w A l.length l := by
  obtain ⟨A', c', e, _, hr⟩ := h
  cases e
  exact hr
theorem rd_c {w : World} {A : Option Addr} {n c : Nat} {l : List ByteArray} (h : Rd w (.slice A n c) l) : l.length ≤ c := by
  obtain ⟨A', c', e, hc, _⟩ := h
  cases e
  exact hc
set_option maxHeartbeats 2000000 in
theorem law_calls (A : Option Addr) (ca : Nat) (ll : List (List ByteArray)) (B : Option Addr) (cb : Nat) (values : List ByteArray) (K : Option Addr) (ck : Nat) (keys : List ByteArray) (w : World) (hr : Kd.C (Kd.slice 9 Kd.string) w A ll.length ll) (hc : ll.length ≤ ca) (hl : ll.length ≤ maxLen ∧ ll.length * 24 ≤ 140737488351232 ∧ ∀ a ∈ ll, wfL a)
    (hs : Kd.C Kd.string w B values.length values) (hd : values.length ≤ cb) (hm : wfL values) (hk : Kd.C Kd.string w K keys.length keys) (hd2 : keys.length ≤ ck) (hm2 : wfL keys) :
    Calls Try.prog 6 #[.slice A ll.length ca, .slice B values.length cb, .slice K keys.length ck] w fun e w' => e = .returned (.bool true) ∧ Below w.heap.size w w' := by
  have lb : ∀ l ∈ ll, l.length ≤ 9223372036854775806 := fun l h => by have := (hl.2.2 l h).2.1; omega
  have vb : values.length ≤ 9223372036854775806 := by have := hm.2.1; omega
  have kb : keys.length ≤ 9223372036854775806 := by have := hm2.2.1; omega
  obtain ⟨b1, k1, hb1⟩ : ∃ b k, laws_zzFits13.f k ll = some b := by
    obtain ⟨b, h⟩ := QvLists.fits13 ll (by have := hl.2.1; omega) lb
    obtain ⟨k, h⟩ := h.rounds
    exact ⟨b, k, h⟩
  obtain ⟨b2, k2, hb2⟩ : ∃ b k, laws_zzFits4.f k values = some b := by
    obtain ⟨b, h⟩ := QvFits4.fits4 values vb
    obtain ⟨k, h⟩ := h.rounds
    exact ⟨b, k, h⟩
  obtain ⟨b3, k3, hb3⟩ : ∃ b k, laws_zzFits4.f k keys = some b := by
    obtain ⟨b, h⟩ := QvFits4.fits4 keys kb
    obtain ⟨k, h⟩ := h.rounds
    exact ⟨b, k, h⟩
  obtain ⟨kc, k4, hkc, hks, hk4⟩ : ∃ kc k, kc.length ≤ 5 ∧ (∀ s ∈ kc, s.size ≤ 1000) ∧ laws_kyCut.f k keys 5 = some kc := by
    obtain ⟨k, h⟩ := (QvKyCut.kyCut keys 5 (by omega) kb).rounds
    refine ⟨_, k, by simp; omega, fun s hs => ?_, h⟩
    obtain ⟨x, _, rfl⟩ := List.mem_map.1 hs
    simp [QvKyCut.cut40]
    omega
  obtain ⟨lc, k5, hlc, hlx, hk5⟩ : ∃ lc k, lc.length ≤ 10 ∧ (∀ x ∈ lc, x.length = kc.length) ∧ laws_kyLists.f k ll (kc.length : Int) = some lc := by
    obtain ⟨r, h, h1, h2⟩ := QvLists.lists ll kc.length hkc (by have := hl.2.1; omega) lb
    obtain ⟨k, h⟩ := h.rounds
    exact ⟨r, k, by omega, h2, h⟩
  obtain ⟨vc, k6, hvx, hk6⟩ : ∃ vc k, vc.length = kc.length ∧ laws_kyLists.f k [values] (kc.length : Int) = some [vc] := by
    obtain ⟨r, h, h1, h2⟩ := QvLists.lists [values] kc.length hkc (by simp) (fun l hl => by rw [List.mem_singleton.1 hl]; exact vb)
    obtain ⟨k, h⟩ := h.rounds
    have e : r.length = 1 := by rw [h1]; simp
    obtain ⟨vc, rfl⟩ := List.length_eq_one_iff.1 e
    exact ⟨vc, k, h2 vc (by simp), h⟩
  obtain ⟨q1, q2⟩ := valid_len lc vc kc (by omega) (by omega)
  obtain ⟨k7, hk7⟩ := (QvSame.same_refl (valid lc vc kc).1 (by omega)).rounds
  obtain ⟨k8, hk8⟩ := (QvSame.same_refl (valid lc vc kc).2 (by omega)).rounds
  have HR := Aside0.mk hr
  have HC := Aside0.mk hc
  have HS := Aside0.mk hs
  have HD := Aside0.mk hd
  have HK := Aside0.mk hk
  have HD2 := Aside0.mk hd2
  have F1 := Aside0.mk hb1
  have F2 := Aside0.mk hb2
  have F3 := Aside0.mk hb3
  have H4 := Aside0.mk hk4
  have H5 := Aside0.mk hk5
  have H6 := Aside0.mk hk6
  have H7 := Aside0.mk hk7
  have H8 := Aside0.mk hk8
  have HKC := Aside0.mk hkc
  have HKS := Aside0.mk hks
  have HLC := Aside0.mk hlc
  have HLX := Aside0.mk hlx
  have HVX := Aside0.mk hvx
  clear hr hc hl hs hd hm hk hd2 hm2 lb vb kb hb1 hb2 hb3 hkc hks hk4 hlc hlx hk5 hvx hk6 q1 q2 hk7 hk8
  cases b1 with
  | false =>
    go_enter Try.func6, Try.ntmps6
    go_wp2_with (go_at_call 14; refine (laws_zzFits13.calls k1 A ca ll false _ HR.out HC.out F1.out).mono ?_; rintro e w1 ⟨rfl, hd⟩; have n1 := Aside0.mk hd.below; clear hd)
    go_ret
    exact ⟨rfl, n1.out⟩
  | true =>
  cases b2 with
  | false =>
    go_enter Try.func6, Try.ntmps6
    go_wp2_with (first
      | (go_at_call 14; refine (laws_zzFits13.calls k1 A ca ll true _ HR.out HC.out F1.out).mono ?_; rintro e w1 ⟨rfl, hd⟩; have n1 := Aside0.mk hd.below; clear hd)
      | (go_at_call 7; refine (laws_zzFits4.calls k2 B cb values false _ (Kd.C_below HS.out n1.out) HD.out F2.out).mono ?_; rintro e w2 ⟨rfl, hd⟩; have n2 := Aside0.mk (below_step n1.out hd.below); clear hd))
    go_ret
    exact ⟨rfl, n2.out⟩
  | true =>
  cases b3 with
  | false =>
    go_enter Try.func6, Try.ntmps6
    go_wp2_with (first
      | (go_at_call 14; refine (laws_zzFits13.calls k1 A ca ll true _ HR.out HC.out F1.out).mono ?_; rintro e w1 ⟨rfl, hd⟩; have n1 := Aside0.mk hd.below; clear hd)
      | (go_at_call 7; have tok := F2; refine (laws_zzFits4.calls k2 B cb values true _ (Kd.C_below HS.out n1.out) HD.out F2.out).mono ?_; rintro e w2 ⟨rfl, hd⟩; have n2 := Aside0.mk (below_step n1.out hd.below); clear hd tok F2)
      | (go_at_call 7; refine (laws_zzFits4.calls k3 K ck keys false _ (Kd.C_below HK.out n2.out) HD2.out F3.out).mono ?_; rintro e w3 ⟨rfl, hd⟩; have n3 := Aside0.mk (below_step n2.out hd.below); clear hd))
    go_ret
    exact ⟨rfl, n3.out⟩
  | true =>
    go_enter Try.func6, Try.ntmps6
    go_wp2_with (first
      | (go_at_call 14; refine (laws_zzFits13.calls k1 A ca ll true _ HR.out HC.out F1.out).mono ?_; rintro e w1 ⟨rfl, hd⟩; have n1 := Aside0.mk hd.below; clear hd)
      | (go_at_call 7; have tok := F2; refine (laws_zzFits4.calls k2 B cb values true _ (Kd.C_below HS.out n1.out) HD.out F2.out).mono ?_; rintro e w2 ⟨rfl, hd⟩; have n2 := Aside0.mk (below_step n1.out hd.below); clear hd tok F2)
      | (go_at_call 7; have tok := F3; refine (laws_zzFits4.calls k3 K ck keys true _ (Kd.C_below HK.out n2.out) HD2.out F3.out).mono ?_; rintro e w3 ⟨rfl, hd⟩; have n3 := Aside0.mk (below_step n2.out hd.below); clear hd tok F3)
      | (go_at_call 8; refine (laws_kyCut.calls k4 K ck keys 5 kc _ (Kd.C_below HK.out n3.out) HD2.out H4.out).mono ?_; rintro e w4 ⟨v4, rfl, ho, hb⟩; obtain ⟨A4, c4, rfl⟩ := Kd.R_slice ho; have n4 := Aside0.mk (below_step n3.out hb); have K4 := Aside0.mk (Kd.R_reads' ho).2.2; have X4 := Aside0.mk (Kd.R_reads' ho).2.1; clear ho hb)
      | (go_at_call 15; have tok := H5; refine (laws_kyLists.calls k5 A ca ll (kc.length : Int) lc _ (Kd.C_below HR.out n4.out) HC.out H5.out).mono ?_; rintro e w5 ⟨v5, rfl, ho, hb⟩; obtain ⟨A5, c5, rfl⟩ := Kd.S_slice ho; have n5 := Aside0.mk (below_step n4.out hb); have K5 := Aside0.mk (Kd.C_below K4.out hb); have S5 := Aside0.mk ho; clear ho hb tok H5 K4)
      | (go_at_call 15; go_must (refine (laws_kyLists.calls k6 _ 1 [values] (kc.length : Int) [vc] _ (C_row _ B values cb HD.out (Kd.C_below HS.out n5.out)) (Nat.le_refl _) H6.out).mono ?_; rintro e w6 ⟨v6, rfl, ho, hb0⟩; have hb := below_step (below_alloc (Below.refl _ w5) _) hb0; obtain ⟨A6, c6, rfl⟩ := Kd.S_slice ho; obtain ⟨ad6, B6, d6, e6, hcell, hcap, hrow⟩ := row_at (Kd.S_reads' ho).2.2 0 (by simp); cases e6; simp only [List.getElem_cons_zero] at hcell hcap hrow; have hcell2 : w6.cell? ad6 = some (.slice B6 vc.length d6) := (show w6.cell? ad6 = w6.cell? (ad6.add 0) by congr 1) ▸ hcell; have n6 := Aside0.mk (below_step n5.out hb); have K6 := Aside0.mk (Kd.C_below K5.out hb); have S6 := Aside0.mk (Kd.S_below S5.out hb); have V6 := Aside0.mk hrow; have X6 := Aside0.mk hcap; clear ho hb0 hb hcap hrow K5 S5))
      | (go_at_call 16; have tok := V6; go_must (refine (keys_calls _ B6 A4 d6 c4 lc vc kc _ (s_src S6.out) V6.out K6.out HLX.out HVX.out HLC.out (Nat.le_trans HKC.out (by decide)) HKS.out X6.out X4.out).mono ?_; rintro e w7 ⟨v1, v2, rfl, h1, h2, hb⟩; have R1 := Aside0.mk h1; have R2 := Aside0.mk h2; obtain ⟨A7, c7, rfl, _, _⟩ := h1; obtain ⟨A8, c8, rfl, _, _⟩ := h2; have n7 := Aside0.mk (below_step n6.out hb); have K7 := Aside0.mk (Kd.C_below K6.out hb); have S7 := Aside0.mk (Kd.S_below S6.out hb); have V7 := Aside0.mk (Kd.C_below V6.out hb); clear hb tok V6 K6 S6 hcell hcell2))
      | (go_at_call 17; go_must (refine (ky_calls A5 B6 A4 c5 d6 c4 lc vc kc _ (Kd.S_reads' S7.out).2.2 V7.out K7.out HLX.out HVX.out HLC.out (Nat.le_trans HKC.out (by decide)) X6.out X4.out).mono ?_; rintro e w8 ⟨v3, v4, rfl, h3, h4, hb⟩; have R3 := Aside0.mk h3; have R4 := Aside0.mk h4; obtain ⟨A9, c9, rfl, _, _⟩ := h3; obtain ⟨A10, c10, rfl, _, _⟩ := h4; have n8 := Aside0.mk (below_step n7.out hb); have Q1 := Aside0.mk (R1.out.below hb); have Q2 := Aside0.mk (R2.out.below hb); clear hb K7 S7 V7 R1 R2))
      | (go_at_call 16; go_must (refine (keys_one w8).mono ?_; rintro e w9 ⟨A11, c11, v11, rfl, hb⟩; have n9 := Aside0.mk (below_step n8.out hb); have U1 := Aside0.mk (Q1.out.below hb); have U2 := Aside0.mk (Q2.out.below hb); have U3 := Aside0.mk (R3.out.below hb); have U4 := Aside0.mk (R4.out.below hb); clear hb Q1 Q2 R3 R4))
      | (go_at_call 9; have tok := H7; go_must (refine (spec_KySameTexts.calls k7 A7 c7 (valid lc vc kc).1 A9 c9 (valid lc vc kc).1 true _ (rd_C U1.out) (rd_c U1.out) (rd_C U3.out) (rd_c U3.out) H7.out).mono ?_; rintro e w10 ⟨rfl, hd⟩; have n10 := Aside0.mk (below_step n9.out hd.below); have W2 := Aside0.mk (U2.out.below hd.below); have W4 := Aside0.mk (U4.out.below hd.below); clear hd tok H7 U1 U2 U3 U4))
      | (go_at_call 9; go_must (refine (spec_KySameTexts.calls k8 A8 c8 (valid lc vc kc).2 A10 c10 (valid lc vc kc).2 true _ (rd_C W2.out) (rd_c W2.out) (rd_C W4.out) (rd_c W4.out) H8.out).mono ?_; rintro e w11 ⟨rfl, hd⟩; have n11 := Aside0.mk (below_step n10.out hd.below); clear hd)))
    go_ret
    exact ⟨rfl, n11.out⟩

end Go.Proofs.Ytefejcggkkmhaaa.HSets
