/- Whether lists and wants are within bounds is told, whatever they are; and what is known of those that are. -/
import Derived.Test.YtmjecafddklbjaaHVer
namespace Go.Proofs.Ytmjecafddklbjaa.HFits
open Go.RowKit Go.Proofs.YtmjecafddklbjaaW.PrintWords Go.Proofs.Ytmjecafddklbjaa.Plain Go.Proofs.Ytmjecafddklbjaa.GWants

theorem getD_nat {α : Type} (d : α) (xs : List α) (j : Nat) (h : j < xs.length) : xs.getD (j : Int).toNat d = xs[j] := by
  rw [Int.toNat_natCast, List.getD_eq_getElem?_getD, List.getElem?_eq_getElem h]
  rfl
theorem fits4 (l : List ByteArray) : ∃ b, Ev (fun k => laws_zzFits4.f k l) b ∧ (b = true → l.length ≤ 2147483647 ∧ ∀ x ∈ l, x.size ≤ 2147483647) := by
  unfold laws_zzFits4.f
  by_cases h : (l.length : Int) > 2147483647
  · exact ⟨false, Ev.pos h (Ev.now _), fun e => by cases e⟩
  · have main : ∀ d j, l.length - j = d → j ≤ l.length → ∃ b, Ev (fun k => laws_zzFits4.l0 k l (l.length : Int) (j : Int)) b ∧ (b = true → ∀ x ∈ l.drop j, x.size ≤ 2147483647) := by
      intro d
      induction d with
      | zero =>
        intro j hd hj
        refine ⟨true, Ev.step (fun k => laws_zzFits4.l0.eq_2 ..) (Ev.neg (by omega) (Ev.now _)), fun _ x hx => ?_⟩
        rw [List.drop_eq_nil_of_le (by omega)] at hx
        cases hx
      | succ d ih =>
        intro j hd hj
        have hlt : j < l.length := by omega
        obtain ⟨b, hb, hP⟩ := ih (j + 1) (by omega) (by omega)
        have hr : rdOf ByteArray.empty l (j : Int) = l[j] := rdOf_nat _ l j hlt
        by_cases hs : ((rdOf ByteArray.empty l (j : Int)).size : Int) > 2147483647
        · exact ⟨false, Ev.step (fun k => laws_zzFits4.l0.eq_2 ..) (Ev.pos (by omega) (Ev.pos (by omega) (Ev.pos (by omega) (Ev.pos hs (Ev.now _))))), fun e => by cases e⟩
        · refine ⟨b, Ev.step (fun k => laws_zzFits4.l0.eq_2 ..) (Ev.pos (by omega) (Ev.pos (by omega) (Ev.pos (by omega) (Ev.neg hs ?_)))), fun e x hx => ?_⟩
          · rw [wrap_nat (by omega)]
            exact hb
          · rw [drop_next hlt, List.mem_cons] at hx
            rcases hx with rfl | hx
            · rw [hr] at hs
              omega
            · exact hP e x hx
    obtain ⟨b, hb, hP⟩ := main l.length 0 (by omega) (by omega)
    exact ⟨b, Ev.neg h hb, fun e => ⟨by omega, fun x hx => hP e x (by simpa using hx)⟩⟩
theorem fits6 (x : S60) : ∃ b, laws_zzFits6.f x.f0 x.f1 x.f2 x.f3 = some b ∧ (b = true → x.f1.size ≤ 2147483647 ∧ x.f2.size ≤ 2147483647) := by
  unfold laws_zzFits6.f
  by_cases h0 : (x.f0.size : Int) > 2147483647
  · exact ⟨false, by rw [if_pos h0], fun e => by cases e⟩
  by_cases h1 : (x.f1.size : Int) > 2147483647
  · exact ⟨false, by rw [if_neg h0, if_pos h1], fun e => by cases e⟩
  by_cases h2 : (x.f2.size : Int) > 2147483647
  · exact ⟨false, by rw [if_neg h0, if_neg h1, if_pos h2], fun e => by cases e⟩
  exact ⟨true, by rw [if_neg h0, if_neg h1, if_neg h2], fun _ => ⟨by omega, by omega⟩⟩
theorem fits5 (l : List S60) : ∃ b, Ev (fun k => laws_zzFits5.f k l) b ∧ (b = true → ∀ x ∈ l, x.f1.size ≤ 2147483647 ∧ x.f2.size ≤ 2147483647) := by
  unfold laws_zzFits5.f
  by_cases h : (l.length : Int) > 2147483647
  · exact ⟨false, Ev.pos h (Ev.now _), fun e => by cases e⟩
  · have main : ∀ d j, l.length - j = d → j ≤ l.length → ∃ b, Ev (fun k => laws_zzFits5.l0 k l (l.length : Int) (j : Int)) b ∧ (b = true → ∀ x ∈ l.drop j, x.f1.size ≤ 2147483647 ∧ x.f2.size ≤ 2147483647) := by
      intro d
      induction d with
      | zero =>
        intro j hd hj
        refine ⟨true, Ev.step (fun k => laws_zzFits5.l0.eq_2 ..) (Ev.neg (by omega) (Ev.now _)), fun _ x hx => ?_⟩
        rw [List.drop_eq_nil_of_le (by omega)] at hx
        cases hx
      | succ d ih =>
        intro j hd hj
        have hlt : j < l.length := by omega
        obtain ⟨b, hb, hP⟩ := ih (j + 1) (by omega) (by omega)
        have hr : rd_T60 l (j : Int) = l[j] := getD_nat _ l j hlt
        obtain ⟨b6, e6, h6⟩ := fits6 (rd_T60 l (j : Int))
        cases b6 with
        | false =>
          exact ⟨false, Ev.step (fun k => laws_zzFits5.l0.eq_2 ..) (Ev.pos (by omega) (Ev.pos (by omega) (Ev.pos (by omega) (Ev.bind (by rw [e6]; exact Ev.now _) (Ev.neg (by decide) (Ev.now _)))))), fun e => by cases e⟩
        | true =>
          refine ⟨b, Ev.step (fun k => laws_zzFits5.l0.eq_2 ..) (Ev.pos (by omega) (Ev.pos (by omega) (Ev.pos (by omega) (Ev.bind (by rw [e6]; exact Ev.now _) (Ev.pos rfl ?_))))), fun e x hx => ?_⟩
          · rw [wrap_nat (by omega)]
            exact hb
          · rw [drop_next hlt, List.mem_cons] at hx
            rcases hx with rfl | hx
            · rw [← hr]
              exact h6 rfl
            · exact hP e x hx
    obtain ⟨b, hb, hP⟩ := main l.length 0 (by omega) (by omega)
    exact ⟨b, Ev.neg h hb, fun e x hx => hP e x (by simpa using hx)⟩
theorem fits3 (n v cnd al : ByteArray) (l4 : List ByteArray) (en : Bool) (l6 : List S60) : ∃ b, Ev (fun k => laws_zzFits3.f k n v cnd al l4 en l6) b ∧ (b = true → v.size ≤ 2147483647 ∧ ∀ x ∈ l6, x.f1.size ≤ 2147483647 ∧ x.f2.size ≤ 2147483647) := by
  unfold laws_zzFits3.f
  by_cases h0 : (n.size : Int) > 2147483647
  · exact ⟨false, Ev.pos h0 (Ev.now _), fun e => by cases e⟩
  by_cases h1 : (v.size : Int) > 2147483647
  · exact ⟨false, Ev.neg h0 (Ev.pos h1 (Ev.now _)), fun e => by cases e⟩
  by_cases h2 : (cnd.size : Int) > 2147483647
  · exact ⟨false, Ev.neg h0 (Ev.neg h1 (Ev.pos h2 (Ev.now _))), fun e => by cases e⟩
  by_cases h3 : (al.size : Int) > 2147483647
  · exact ⟨false, Ev.neg h0 (Ev.neg h1 (Ev.neg h2 (Ev.pos h3 (Ev.now _)))), fun e => by cases e⟩
  obtain ⟨b4, e4, _⟩ := fits4 l4
  cases b4 with
  | false => exact ⟨false, Ev.neg h0 (Ev.neg h1 (Ev.neg h2 (Ev.neg h3 (Ev.bind e4 (Ev.neg (by decide) (Ev.now _)))))), fun e => by cases e⟩
  | true =>
    obtain ⟨b5, e5, h5⟩ := fits5 l6
    cases b5 with
    | false => exact ⟨false, Ev.neg h0 (Ev.neg h1 (Ev.neg h2 (Ev.neg h3 (Ev.bind e4 (Ev.pos rfl (Ev.bind e5 (Ev.neg (by decide) (Ev.now _)))))))), fun e => by cases e⟩
    | true => exact ⟨true, Ev.neg h0 (Ev.neg h1 (Ev.neg h2 (Ev.neg h3 (Ev.bind e4 (Ev.pos rfl (Ev.bind e5 (Ev.pos rfl (Ev.now _)))))))), fun _ => ⟨by omega, h5 rfl⟩⟩

/-- The imports of the one want. -/
theorem imps_ev (x : S31) (l : List S60) (hl : l.length ≤ 10) (hs : ∀ y ∈ l, y.f1.size ≤ 2147483647 ∧ y.f2.size ≤ 2147483647) :
    ∀ d j, l.length - j = d → j ≤ l.length → ∃ b, Ev (fun k => laws_chWants.l1 k [x] [x] 1 0 l (l.length : Int) (j : Int)) b := by
  intro d
  induction d with
  | zero =>
    intro j hd hj
    refine ⟨true, Ev.step (fun k => laws_chWants.l1.eq_2 ..) (Ev.neg (by omega) (Ev.step (fun k => laws_chWants.l0.eq_2 ..) (Ev.neg (by unfold wrap64; decide) (Ev.now _))))⟩
  | succ d ih =>
    intro j hd hj
    have hlt : j < l.length := by omega
    obtain ⟨b, hb⟩ := ih (j + 1) (by omega) (by omega)
    have hr : rd_T60 l (j : Int) = l[j] := getD_nat _ l j hlt
    have hz := hs l[j] (List.getElem_mem hlt)
    rw [← hr] at hz
    have hw : Ev (fun k => laws_chWants.l1 k [x] [x] 1 0 l (l.length : Int) (wrap64 ((j : Int) + 1))) b := by rw [wrap_nat (by omega)]; exact hb
    by_cases c3 : (rd_T60 l (j : Int)).f3 = true
    · by_cases c0 : ((rd_T60 l (j : Int)).f0).toList = ([] : List UInt8)
      · exact ⟨b, Ev.step (fun k => laws_chWants.l1.eq_2 ..) (Ev.pos (by omega) (Ev.pos (by omega) (Ev.pos (by omega) (Ev.pos c3 (Ev.pos c0 (Ev.pos c3 hw))))))⟩
      · exact ⟨false, Ev.step (fun k => laws_chWants.l1.eq_2 ..) (Ev.pos (by omega) (Ev.pos (by omega) (Ev.pos (by omega) (Ev.pos c3 (Ev.neg c0 (Ev.now _))))))⟩
    · by_cases c1 : (((rd_T60 l (j : Int)).f1) ++ ((rd_T60 l (j : Int)).f2)).toList = ([] : List UInt8)
      · exact ⟨b, Ev.step (fun k => laws_chWants.l1.eq_2 ..) (Ev.pos (by omega) (Ev.pos (by omega) (Ev.pos (by omega) (Ev.neg c3 (Ev.neg c3 (Ev.pos (by omega) (Ev.pos c1 hw)))))))⟩
      · exact ⟨false, Ev.step (fun k => laws_chWants.l1.eq_2 ..) (Ev.pos (by omega) (Ev.pos (by omega) (Ev.pos (by omega) (Ev.neg c3 (Ev.neg c3 (Ev.pos (by omega) (Ev.neg c1 (Ev.now _))))))))⟩
theorem one_want (x : S31) (hv : x.f1.size ≤ 2147483647) (hs : ∀ y ∈ x.f6, y.f1.size ≤ 2147483647 ∧ y.f2.size ≤ 2147483647) :
    ∃ b, Ev (fun k => laws_chWants.f k [x]) b ∧ (b = true → Ev (fun k => impl_plain.f k x.f1) true ∧ x.f4.length ≤ 10 ∧ x.f6.length ≤ 10) := by
  have hr : rd_T31 [x] 0 = x := rfl
  have bad : Ev (fun k => laws_chWants.j1 k [x] [x] 1 0 true x.f0 x.f1 x.f2 x.f3 x.f4 x.f5 x.f6) false := Ev.step (fun k => laws_chWants.j1.eq_2 ..) (Ev.pos rfl (Ev.now _))
  obtain ⟨bv, ev, hpl⟩ := HVer.version_plain x.f1 hv
  have start : ∀ b, Ev (fun k => (spec_Version.f k x.f1).bind fun t113 => (if t113 = true then (if ((x.f2).size : Int) > 100 then (laws_chWants.j1 k [x] [x] 1 0 true x.f0 x.f1 x.f2 x.f3 x.f4 x.f5 x.f6) else (if ((x.f4).length : Int) > 10 then (laws_chWants.j1 k [x] [x] 1 0 true x.f0 x.f1 x.f2 x.f3 x.f4 x.f5 x.f6) else (if ((x.f6).length : Int) > 10 then (laws_chWants.j1 k [x] [x] 1 0 true x.f0 x.f1 x.f2 x.f3 x.f4 x.f5 x.f6) else (if ((x.f0).size : Int) > 100 then (laws_chWants.j1 k [x] [x] 1 0 true x.f0 x.f1 x.f2 x.f3 x.f4 x.f5 x.f6) else (laws_chWants.j1 k [x] [x] 1 0 (decide (((x.f3).size : Int) > 100)) x.f0 x.f1 x.f2 x.f3 x.f4 x.f5 x.f6))))) else (laws_chWants.j1 k [x] [x] 1 0 true x.f0 x.f1 x.f2 x.f3 x.f4 x.f5 x.f6))) b → Ev (fun k => laws_chWants.f k [x]) b := by
    intro b h
    exact Ev.step (fun k => laws_chWants.l0.eq_2 ..) (Ev.pos (by simp) (Ev.pos (by decide) (Ev.pos (by simp) h)))
  cases bv with
  | false => exact ⟨false, start _ (Ev.bind ev (Ev.neg (by decide) bad)), fun e => by cases e⟩
  | true =>
    by_cases c2 : ((x.f2).size : Int) > 100
    · exact ⟨false, start _ (Ev.bind ev (Ev.pos rfl (Ev.pos c2 bad))), fun e => by cases e⟩
    by_cases c4 : ((x.f4).length : Int) > 10
    · exact ⟨false, start _ (Ev.bind ev (Ev.pos rfl (Ev.neg c2 (Ev.pos c4 bad)))), fun e => by cases e⟩
    by_cases c6 : ((x.f6).length : Int) > 10
    · exact ⟨false, start _ (Ev.bind ev (Ev.pos rfl (Ev.neg c2 (Ev.neg c4 (Ev.pos c6 bad))))), fun e => by cases e⟩
    by_cases c0 : ((x.f0).size : Int) > 100
    · exact ⟨false, start _ (Ev.bind ev (Ev.pos rfl (Ev.neg c2 (Ev.neg c4 (Ev.neg c6 (Ev.pos c0 bad)))))), fun e => by cases e⟩
    by_cases c3 : ((x.f3).size : Int) > 100
    · exact ⟨false, start _ (Ev.bind ev (Ev.pos rfl (Ev.neg c2 (Ev.neg c4 (Ev.neg c6 (Ev.neg c0 (by rw [decide_eq_true c3]; exact bad))))))), fun e => by cases e⟩
    obtain ⟨b, hb⟩ := imps_ev x x.f6 (by omega) hs x.f6.length 0 (by omega) (by omega)
    refine ⟨b, start _ (Ev.bind ev (Ev.pos rfl (Ev.neg c2 (Ev.neg c4 (Ev.neg c6 (Ev.neg c0 ?_)))))), fun _ => ⟨hpl rfl, by omega, by omega⟩⟩
    rw [decide_eq_false c3]
    exact Ev.step (fun k => laws_chWants.j1.eq_2 ..) (Ev.neg (by decide) hb)
end Go.Proofs.Ytmjecafddklbjaa.HFits
