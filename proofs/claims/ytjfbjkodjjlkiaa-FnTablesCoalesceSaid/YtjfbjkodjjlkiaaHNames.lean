/- What spec.Names and tbPath come to. -/
import Derived.Test.YtjfbjkodjjlkiaaGPathx1
import Derived.Test.YtjfbjkodjjlkiaaBF
namespace Go.Proofs.Ytjfbjkodjjlkiaa.HVal
open Go.RowKit Go.Proofs.YtjfbjkodjjlkiaaW.PrintWords Go.Proofs.YtjfbjkodjjlkiaaW.PrintLast Go.Proofs.YtjfbjkodjjlkiaaW.PrintMore Go.Proofs.Ytjfbjkodjjlkiaa.Plain Go.Proofs.Ytjfbjkodjjlkiaa.HBytes Go.Proofs.Ytjfbjkodjjlkiaa.GPath

theorem bt_B (pre r : List UInt8) (c : UInt8) : bt (B (pre ++ c :: r)) (pre.length : Int) = (c.toNat : Int) := by
  have h : (pre.length : Int).toNat < (B (pre ++ c :: r)).size := by rw [B_size]; simp
  rw [← bt_at _ _ h]
  congr 1
  simp [B, ByteArray.getElem_eq_getElem_data]
theorem names_ev (all : List UInt8) (hs : all.length ≤ 2147483647) : ∀ (rest done cur : List UInt8) (out : List ByteArray), done ++ cur ++ rest = all → out.length + rest.length ≤ 2147483647 →
    Ev (fun k => spec_Names.l0 k (B all) out (done.length : Int) ((done ++ cur).length : Int)) (out ++ (spA 46 cur rest).map B)
  | [], done, cur, out, h, ho => by
    have hl := congrArg List.length h
    simp only [List.append_nil, List.length_append] at hl
    have hw : wrap64 (((done ++ cur).length : Int) + 1) = (((done ++ cur).length + 1 : Nat) : Int) := wrap_nat (by simp only [List.length_append]; omega)
    have hsz : (B all).size = (done ++ cur).length := by rw [B_size, List.length_append]; omega
    have hx : (B all).extract ((done.length : Int)).toNat (((done ++ cur).length : Int)).toNat = B cur := by
      rw [Int.toNat_natCast, Int.toNat_natCast, B_extract, ← h]
      simp
    refine Ev.step (fun k => spec_Names.l0.eq_2 ..) ?_
    rw [hw, hx, hsz]
    refine Ev.pos (Int.le_refl _) (Ev.pos rfl (Ev.pos (by omega) (Ev.pos (by simp only [List.length_append]; omega) (Ev.pos (by simp at ho; omega) ?_))))
    refine Ev.step (fun k => spec_Names.l0.eq_2 ..) ?_
    rw [hsz]
    refine Ev.neg (by omega) ?_
    rw [spA]
    exact Ev.now _
  | c :: r, done, cur, out, h, ho => by
    have hl := congrArg List.length h
    simp only [List.length_append, List.length_cons] at hl ho
    have hw : wrap64 (((done ++ cur).length : Int) + 1) = (((done ++ cur).length + 1 : Nat) : Int) := wrap_nat (by simp only [List.length_append]; omega)
    have hsz : ((B all).size : Int) = ((done ++ cur).length : Int) + (r.length : Int) + 1 := by rw [B_size]; simp only [List.length_append]; omega
    have hb : bt (B all) ((done ++ cur).length : Int) = (c.toNat : Int) := by rw [← h]; exact bt_B (done ++ cur) r c
    have hx : (B all).extract ((done.length : Int)).toNat (((done ++ cur).length : Int)).toNat = B cur := by
      rw [Int.toNat_natCast, Int.toNat_natCast, B_extract, ← h]
      simp
    refine Ev.step (fun k => spec_Names.l0.eq_2 ..) ?_
    rw [hw, hx, hb]
    refine Ev.pos (by omega) (Ev.neg (by omega) (Ev.pos (by omega) (Ev.pos (by omega) ?_)))
    rw [spA]
    by_cases hc : c = 46
    · subst hc
      refine Ev.pos rfl (Ev.pos (by omega) (Ev.pos (by simp only [List.length_append]; omega) (Ev.pos (by omega) ?_)))
      rw [if_pos rfl]
      have := names_ev all hs r (done ++ cur ++ [46]) [] (out ++ [B cur]) (by rw [← h]; simp) (by simp only [List.length_append, List.length_singleton]; omega)
      simp only [List.append_nil, List.length_append, List.length_singleton, List.append_assoc, List.singleton_append] at this
      simp only [List.length_append, List.map_cons]
      exact this
    · refine Ev.neg (fun e => hc ?_) ?_
      · exact UInt8.toNat_inj.1 (Int.ofNat.inj e)
      rw [if_neg hc]
      have := names_ev all hs r done (cur ++ [c]) out (by rw [← h]; simp) (by omega)
      simp only [List.length_append, List.length_singleton] at this ⊢
      exact this
theorem names_f (s : ByteArray) (hs : s.size ≤ 2147483647) : Ev (fun k => spec_Names.f k s) (namesB s) := by
  have h := names_ev s.data.toList hs s.data.toList [] [] [] rfl (by simpa using hs)
  simp only [B_data, List.nil_append, List.length_nil] at h
  exact h
theorem specNames_calls (s : ByteArray) (w : World) (hs : s.size ≤ 2147483647) : Calls Try.prog 24 #[.string s] w (NamesPost w s) := by
  obtain ⟨k, hk⟩ := (names_f s hs).rounds
  exact spec_Names.calls k s _ w hk
/-- A path of at most 200 bytes without empty names. -/
def okPath (s : ByteArray) : Bool := (namesB s).all (fun t => t.toList != []) && decide (s.size ≤ 200)
theorem tbPath_ev (s : ByteArray) (l : List ByteArray) (hl : l.length ≤ 2147483648) : ∀ j, j ≤ l.length → Ev (fun k => laws_tbPath.l0 k s l (l.length : Int) (j : Int)) ((l.drop j).all (fun t => t.toList != []) && decide (s.size ≤ 200)) := by
  intro j hj
  by_cases hlt : j < l.length
  · have hw : wrap64 ((j : Int) + 1) = ((j + 1 : Nat) : Int) := wrap_nat (by omega)
    refine Ev.step (fun k => laws_tbPath.l0.eq_2 ..) ?_
    rw [hw, rdOf_nat _ _ _ hlt]
    refine Ev.pos (by omega) (Ev.pos (by omega) (Ev.pos (by omega) ?_))
    rw [List.drop_eq_getElem_cons hlt, List.all_cons]
    by_cases he : l[j].toList = []
    · refine Ev.pos he ?_
      rw [he]
      exact Ev.now _
    · refine Ev.neg he ?_
      have h1 : (l[j].toList != []) = true := by simpa using he
      rw [h1, Bool.true_and]
      exact tbPath_ev s l hl (j + 1) hlt
  · have e : j = l.length := by omega
    subst e
    refine Ev.step (fun k => laws_tbPath.l0.eq_2 ..) (Ev.neg (by omega) ?_)
    rw [List.drop_length]
    refine evEq (Ev.now _) ?_
    simp only [List.all_nil, Bool.true_and]
    exact decide_eq_decide.2 (by omega)
termination_by j => l.length - j
theorem tbPath_calls (s : ByteArray) (w : World) (hs : s.size ≤ 2147483647) : Calls Try.prog 23 #[.string s] w fun e w' => e = .returned (.bool (okPath s)) ∧ Below w.heap.size w w' := by
  have h : Ev (fun k => laws_tbPath.f k s) (okPath s) := Ev.bind (names_f s hs) (tbPath_ev s (namesB s) (by have := (names_init (s := s)).2; omega) 0 (Nat.zero_le _))
  obtain ⟨k, hk⟩ := h.rounds
  exact laws_tbPath.calls k s _ w hk
end Go.Proofs.Ytjfbjkodjjlkiaa.HVal
