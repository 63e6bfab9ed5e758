/- The law FnKeyMatch returns true for every input: values of keys that are of one element. -/
import Derived.Test.YtefejcggkkmhaaaHMatch
import Derived.Test.YtefejcggkkmhaaaPKyMatchx
import Derived.Test.YtefejcggkkmhaaaQzzFits4
import Derived.Test.YtefejcggkkmhaaaQkyCut
import Derived.Test.YtefejcggkkmhaaaQKySameTexts
namespace Go.Proofs.Ytefejcggkkmhaaa.HMatch
open Go.RowKit Go.Proofs.YtefejcggkkmhaaaW.PrintWords Go.Proofs.YtefejcggkkmhaaaW.PrintLast Go.Proofs.YtefejcggkkmhaaaW.PrintMore Go.Proofs.Ytefejcggkkmhaaa.Plain

theorem mt_length : ∀ (l m : List ByteArray) (c : Bool) (acc : List ByteArray), (mt c acc l m).2.length ≤ acc.length + l.length
  | [], m, c, acc => by cases m <;> simp [mt]
  | x :: r, [], c, acc => by simp [mt]
  | x :: r, y :: s, c, acc => by
    have h := fun c a => mt_length r s c (acc ++ [a])
    simp only [List.length_append, List.length_cons, List.length_nil] at h
    rw [mt]
    simp only [List.length_cons]
    split
    · have := h true x; omega
    · split
      · have := h c y; omega
      · split
        · have := h c x; omega
        · simp
theorem mat_length (l m : List ByteArray) : (mat l m).2.length ≤ l.length := by
  unfold mat
  split
  · have := mt_length l m false []; simpa using this
  · simp

theorem match_tells (l m : List ByteArray) (hl : l.length ≤ 1000) : Ev (fun k => PKyMatch.spec_KyMatch.f k l m) (mat l m) := by
  unfold PKyMatch.spec_KyMatch.f
  by_cases he : l.length = m.length
  · refine Ev.pos (by omega) ?_
    have main : ∀ d j b acc, l.length - j = d → j ≤ l.length → acc.length = j → mt b acc (l.drop j) (m.drop j) = mat l m → Ev (fun k => PKyMatch.spec_KyMatch.l0 k l m acc b (l.length : Int) (j : Int)) (mat l m) := by
      intro d
      induction d with
      | zero =>
        intro j b acc hd hj ha ht
        refine evEq (Ev.step (fun k => PKyMatch.spec_KyMatch.l0.eq_2 ..) (Ev.neg (by omega) (Ev.now _))) ?_
        rw [← ht, mt_end (by omega)]
      | succ d ih =>
        intro j b acc hd hj ha ht
        have h0 : j < l.length := by omega
        have h1 : j < m.length := by omega
        refine Ev.step (fun k => PKyMatch.spec_KyMatch.l0.eq_2 ..) (Ev.pos (by omega) (Ev.pos (by omega) (Ev.pos (by omega) (Ev.pos (by omega) ?_))))
        rw [rdOf_nat _ _ _ h0, rdOf_nat _ _ _ h1, wrap_nat (by omega)]
        by_cases hxy : l[j] = m[j]
        · exact Ev.pos (toList_inj.2 hxy) (Ev.pos (by omega) (ih (j + 1) true _ (by omega) (by omega) (by simp [ha]) ((mt_eq h0 h1 hxy).symm.trans ht)))
        · refine Ev.neg (fun h => hxy (toList_inj.1 h)) ?_
          by_cases hy : m[j].size = 0
          · have hx : l[j].size ≠ 0 := fun hx => hxy (toList_inj.1 ((toList_nil hx).trans (toList_nil hy).symm))
            exact Ev.pos (toList_nil hy) (Ev.pos (by omega) (ih (j + 1) b _ (by omega) (by omega) (by simp [ha]) ((mt_right h0 h1 hxy hx hy).symm.trans ht)))
          · refine Ev.neg (toList_ne hy) ?_
            by_cases hx : l[j].size = 0
            · exact Ev.pos (toList_nil hx) (Ev.pos (by omega) (ih (j + 1) b _ (by omega) (by omega) (by simp [ha]) ((mt_left h0 h1 hxy hx).symm.trans ht)))
            · exact evEq (Ev.neg (toList_ne hx) (Ev.now _)) ((mt_none h0 h1 hxy hx hy).symm.trans ht)
    exact main _ 0 false [] rfl (by omega) rfl (if_pos he).symm
  · exact evEq (Ev.neg (by omega) (Ev.now _)) (if_neg he).symm

set_option maxHeartbeats 400000 in
theorem zz_calls (A B : Option Addr) (c d : Nat) (l m : List ByteArray) (w : World) (hr : Kd.C Kd.string w A l.length l) (hs : Kd.C Kd.string w B m.length m) (hl : l.length ≤ 1000) :
    Calls Try.prog 20 #[.slice A l.length c, .slice B m.length d] w fun e w' => ∃ v : Value, e = .returned (.tuple #[.bool (mat l m).1, v]) ∧ Kd.R Kd.string 9 w' w.heap.size (fun _ => True) v (mat l m).2 ∧ Below w.heap.size w w' := by
  go_enter Try.func20, Try.ntmps20
  go_wp2_with (go_at_call 23; refine (match_calls A B c d l m _ hr hs hl).mono ?_; rintro e w1 ⟨v, rfl, ho, hb⟩)
  go_ret2
  exact ⟨_, rfl, ho, hb⟩

set_option maxHeartbeats 400000 in
theorem key_calls (A B : Option Addr) (c d : Nat) (l m : List ByteArray) (w : World) (hr : Kd.C Kd.string w A l.length l) (hs : Kd.C Kd.string w B m.length m) (hl : l.length ≤ 1000) :
    Calls Try.prog 12 #[.slice A l.length c, .slice B m.length d] w fun e w' => ∃ v : Value, e = .returned (.tuple #[.bool (mat l m).1, v]) ∧ Kd.R Kd.string 9 w' w.heap.size (fun _ => True) v (mat l m).2 ∧ Below w.heap.size w w' := by
  go_enter Try.func12, Try.ntmps12
  go_wp2_with (go_at_call 20; refine (zz_calls A B c d l m _ hr hs hl).mono ?_; rintro e w1 ⟨v, rfl, ho, hb⟩)
  go_ret2
  exact ⟨_, rfl, ho, hb⟩

/-- Texts that lie in a block of their own. -/
theorem C_lit (W : World) (e : TypeId) (xs : List ByteArray) (h : xs.length ≤ 9223372036854775807) : Kd.C Kd.string (W.alloc (.cells (xs.map Value.string).toArray e)) (some ⟨W.heap.size, 0, none⟩) xs.length xs := by
  refine Kd.C_of_reads (d := ByteArray.empty) (h1 := fun _ => rfl) ⟨rfl, h, fun _ => ⟨_, rfl, fun j hj => ?_⟩⟩
  rw [add_plain, blk_cell (blk_new W _)]
  rw [List.getD_eq_getElem?_getD, List.getElem?_eq_getElem hj]
  simp [hj]

theorem C_one (W : World) (s : ByteArray) : Kd.C Kd.string (W.alloc (.cells #[.string s] 9)) (some ⟨W.heap.size, 0, none⟩) 1 [s] := C_lit W 9 [s] (by simp)
theorem C_two (W : World) (o : Obj) (s : ByteArray) : Kd.C Kd.string ((W.alloc o).alloc (.cells #[.string s] 9)) (some ⟨W.heap.size + 1, 0, none⟩) 1 [s] := by
  have h := C_one (W.alloc o) s
  rwa [World.size_alloc] at h
theorem C_fst (W : World) (o : Obj) (s : ByteArray) : Kd.C Kd.string ((W.alloc (.cells #[.string s] 9)).alloc o) (some ⟨W.heap.size, 0, none⟩) 1 [s] := Kd.C_below (C_one W s) (below_alloc (Below.refl _ _) _)
theorem key_one (w : World) : Calls Try.prog 12 #[.slice (some ⟨w.heap.size, 0, none⟩) 1 1, .slice (some ⟨w.heap.size + 1, 0, none⟩) 1 1] ((w.alloc (.cells #[.string ⟨#[97]⟩] 9)).alloc (.cells #[.string ⟨#[97]⟩] 9)) fun e w' => ∃ v : Value, e = .returned (.tuple #[.bool true, v]) ∧ Below w.heap.size w w' := by
  refine (key_calls _ _ 1 1 [⟨#[97]⟩] [⟨#[97]⟩] _ (C_fst w _ _) (C_two w _ _) (by simp)).mono ?_
  rintro e w' ⟨v, rfl, _, hb⟩
  exact ⟨v, rfl, below_step (below_alloc (below_alloc (Below.refl _ _) _) _) hb⟩

set_option maxHeartbeats 1000000 in
theorem law_calls (A : Option Addr) (c : Nat) (l : List ByteArray) (B : Option Addr) (d : Nat) (m : List ByteArray) (w : World) (hr : Kd.C Kd.string w A l.length l) (hc : l.length ≤ c) (hl : l.length ≤ maxLen ∧ l.length * 16 ≤ 140737488351232 ∧ ∀ a ∈ l, (fun s : ByteArray => s.size ≤ 140737488351232) a)
    (hs : Kd.C Kd.string w B m.length m) (hd : m.length ≤ d) (hm : m.length ≤ maxLen ∧ m.length * 16 ≤ 140737488351232 ∧ ∀ a ∈ m, (fun s : ByteArray => s.size ≤ 140737488351232) a) :
    Calls Try.prog 5 #[.slice A l.length c, .slice B m.length d] w fun e w' => e = .returned (.bool true) ∧ Below w.heap.size w w' := by
  have hl2 := hl.2.1
  have hm2 := hm.2.1
  obtain ⟨b1, k1, hb1⟩ : ∃ b k, PzzFits4.laws_zzFits4.f k l = some b := by
    obtain ⟨b, h⟩ := QzzFits4.fits4 l (by omega)
    obtain ⟨k, h⟩ := h.rounds
    exact ⟨b, k, h⟩
  obtain ⟨b2, k2, hb2⟩ : ∃ b k, PzzFits4.laws_zzFits4.f k m = some b := by
    obtain ⟨b, h⟩ := QzzFits4.fits4 m (by omega)
    obtain ⟨k, h⟩ := h.rounds
    exact ⟨b, k, h⟩
  obtain ⟨lc, k3, hlc, hk3⟩ : ∃ lc k, lc.length ≤ 1000 ∧ PkyCut.laws_kyCut.f k l 5 = some lc := by
    obtain ⟨k, h⟩ := (QkyCut.kyCut l 5 (by omega) (by omega)).rounds
    exact ⟨_, k, by simp; omega, h⟩
  obtain ⟨mc, k4, hmc, hk4⟩ : ∃ mc k, mc.length ≤ 1000 ∧ PkyCut.laws_kyCut.f k m 5 = some mc := by
    obtain ⟨k, h⟩ := (QkyCut.kyCut m 5 (by omega) (by omega)).rounds
    exact ⟨_, k, by simp; omega, h⟩
  obtain ⟨k5, hk5⟩ := (match_tells lc mc hlc).rounds
  obtain ⟨k6, hk6⟩ := (QKySameTexts.same_refl (mat lc mc).2 (by have := mat_length lc mc; omega)).rounds
  have HR := Aside0.mk hr
  have HC := Aside0.mk hc
  have HF := Aside0.mk hb1
  have HS := Aside0.mk hs
  have HD := Aside0.mk hd
  have HG := Aside0.mk hb2
  have H3 := Aside0.mk hk3
  have H4 := Aside0.mk hk4
  have H5 := Aside0.mk hk5
  have H6 := Aside0.mk hk6
  have HLC := Aside0.mk hlc
  clear hr hc hl hl2 hs hd hm hm2 hb1 hb2 hk3 hk4 hk5 hk6 hlc hmc
  have HB := Aside0.mk (Below.refl w.heap.size w)
  cases b1 with
  | false =>
    go_enter Try.func5, Try.ntmps5
    go_wp2_with (go_at_call 7; refine (PzzFits4.laws_zzFits4.calls k1 A c l false _ HR.out HC.out HF.out).mono ?_; rintro e w1 ⟨rfl, hd⟩; have n1 := Aside0.mk hd.below; clear hd)
    go_ret
    exact ⟨rfl, n1.out⟩
  | true =>
    cases b2 with
    | false =>
      go_enter Try.func5, Try.ntmps5
      go_wp2_with (first
        | (go_at_call 7; have tok := HF; refine (PzzFits4.laws_zzFits4.calls k1 A c l true _ HR.out HC.out HF.out).mono ?_; rintro e w1 ⟨rfl, hd⟩; have n1 := Aside0.mk hd.below; clear hd tok HF)
        | (go_at_call 7; refine (PzzFits4.laws_zzFits4.calls k2 B d m false _ (Kd.C_below HS.out n1.out) HD.out HG.out).mono ?_; rintro e w2 ⟨rfl, hd⟩; have n2 := Aside0.mk (below_step n1.out hd.below); clear hd))
      go_ret
      exact ⟨rfl, n2.out⟩
    | true =>
      go_enter Try.func5, Try.ntmps5
      go_wp2_with (first
        | (go_at_call 7; have tok := HF; refine (PzzFits4.laws_zzFits4.calls k1 A c l true _ HR.out HC.out HF.out).mono ?_; rintro e w1 ⟨rfl, hd⟩; have n1 := Aside0.mk hd.below; clear hd tok HF)
        | (go_at_call 7; refine (PzzFits4.laws_zzFits4.calls k2 B d m true _ (Kd.C_below HS.out n1.out) HD.out HG.out).mono ?_; rintro e w2 ⟨rfl, hd⟩; have n2 := Aside0.mk (below_step n1.out hd.below); clear hd n1)
        | (go_at_call 8; have tok := H3; refine (PkyCut.laws_kyCut.calls k3 A c l 5 lc _ (Kd.C_below HR.out n2.out) HC.out H3.out).mono ?_; rintro e w3 ⟨v3, rfl, ho, hb⟩; obtain ⟨A3, c3, rfl⟩ := Kd.R_slice ho; have n3 := Aside0.mk (below_step n2.out hb); have O3 := Aside0.mk ho; clear ho hb tok H3)
        | (go_at_call 8; refine (PkyCut.laws_kyCut.calls k4 B d m 5 mc _ (Kd.C_below HS.out n3.out) HD.out H4.out).mono ?_; rintro e w4 ⟨v4, rfl, ho, hb⟩; obtain ⟨A4, c4, rfl⟩ := Kd.R_slice ho; have n4 := Aside0.mk (below_step n3.out hb); have O4 := Aside0.mk ho; have L3 := Aside0.mk (Kd.C_below (Kd.R_reads' O3.out).2.2 hb); have X3 := Aside0.mk (Kd.R_reads' O3.out).2.1; clear ho hb)
        | (go_at_call 12; have tok := L3; refine (key_calls A3 A4 c3 c4 lc mc _ L3.out (Kd.R_reads' O4.out).2.2 HLC.out).mono ?_; rintro e w5 ⟨v5, rfl, ho, hb⟩; obtain ⟨A5, c5, rfl⟩ := Kd.R_slice ho; have n5 := Aside0.mk (below_step n4.out hb); have O5 := Aside0.mk ho; have M3 := Aside0.mk (Kd.C_below L3.out hb); have M4 := Aside0.mk (Kd.C_below (Kd.R_reads' O4.out).2.2 hb); have X4 := Aside0.mk (Kd.R_reads' O4.out).2.1; clear ho hb tok L3)
        | (go_at_call 13; refine (PKyMatch.spec_KyMatch.calls k5 A3 c3 lc A4 c4 mc (mat lc mc).1 (mat lc mc).2 _ M3.out X3.out M4.out X4.out H5.out).mono ?_; rintro e w6 ⟨v6, rfl, ho, hb⟩; obtain ⟨A6, c6, rfl⟩ := Kd.R_slice ho; have n6 := Aside0.mk (below_step n5.out hb); have O6 := Aside0.mk ho; have N5 := Aside0.mk (Kd.C_below (Kd.R_reads' O5.out).2.2 hb); have X5 := Aside0.mk (Kd.R_reads' O5.out).2.1; clear ho hb)
        | (go_at_call 12; refine (key_one w6).mono ?_; rintro e w7 ⟨v7, rfl, hb⟩; have n7 := Aside0.mk (below_step n6.out hb); have P5 := Aside0.mk (Kd.C_below N5.out hb); have P6 := Aside0.mk (Kd.C_below (Kd.R_reads' O6.out).2.2 hb); have X6 := Aside0.mk (Kd.R_reads' O6.out).2.1; clear hb)
        | (go_at_call 9; refine (PKySameTexts.spec_KySameTexts.calls k6 A5 c5 (mat lc mc).2 A6 c6 (mat lc mc).2 true _ P5.out X5.out P6.out X6.out H6.out).mono ?_; rintro e w8 ⟨rfl, hd⟩; have n8 := Aside0.mk (below_step n7.out hd.below); clear hd))
      go_ret
      exact ⟨rfl, n8.out⟩

end Go.Proofs.Ytefejcggkkmhaaa.HMatch
