/- What the reference's Joined and the thin law's heSame come to, over lists of bytes. -/
import Derived.Test.YtgdffbjkafbkcaaHSplitPure
import Derived.Test.YtgdffbjkafbkcaaPJoinedx
import Derived.Test.YtgdffbjkafbkcaaPheSamex
namespace Go.Proofs.Ytgdffbjkafbkcaa.HJoinPure
open Go.RowKit Go.Proofs.YtgdffbjkafbkcaaW.PrintWords Go.Proofs.Ytgdffbjkafbkcaa.Plain Go.Proofs.Ytgdffbjkafbkcaa.HSplit Go.Proofs.Ytgdffbjkafbkcaa.HSplitPure Go.Proofs.Ytgdffbjkafbkcaa.PJoined Go.Proofs.Ytgdffbjkafbkcaa.PheSame

def N (l : List UInt8) : List Int := l.map fun c => (c.toNat : Int)
theorem N_len (l : List UInt8) : (N l).length = l.length := by simp [N]
theorem N_app (l m : List UInt8) : N l ++ N m = N (l ++ m) := by simp [N]
theorem str_N (l : List UInt8) : strOfNums (N l) = B l := by
  unfold strOfNums N B
  rw [List.map_map]
  congr
  conv => rhs; rw [← List.map_id l]
  apply List.map_congr_left
  intro c _
  simp
theorem B_get (l : List UInt8) (i : Nat) (h : i < (B l).size) : (B l)[i]'h = l[i]'h := rfl
theorem bt_B (pre r : List UInt8) (c : UInt8) : bt (B (pre ++ c :: r)) (pre.length : Int) = (c.toNat : Int) := by
  have h : (pre.length : Int).toNat < (B (pre ++ c :: r)).size := by rw [B_size, Int.toNat_natCast]; simp
  rw [← bt_at _ _ h, B_get]
  simp
theorem nat_inj {c d : UInt8} : ((c.toNat : Int) = (d.toNat : Int)) ↔ c = d := by
  constructor
  · intro h
    exact UInt8.toNat_inj.1 (by omega)
  · rintro rfl; rfl

theorem inner (d : UInt8) (ps : List ByteArray) (len j : Int) (R : ByteArray) : ∀ (r pre acc : List UInt8), acc.length + 2 * r.length ≤ 1000000 → pre.length + r.length ≤ 1000000 → Ev (fun k => spec_Joined.l0 k (d.toNat : Int) (N (acc ++ esc d r)) ps len (wrap64 (j + 1))) R →
    Ev (fun k => spec_Joined.l1 k (d.toNat : Int) (N acc) (B (pre ++ r)) ps len j ((pre ++ r).length : Int) (pre.length : Int)) R
  | [], pre, acc, h1, h2, h => by
    refine Ev.step (fun k => spec_Joined.l1.eq_2 ..) ?_
    rw [show acc ++ esc d [] = acc from List.append_nil _] at h
    exact Ev.neg (by simp) h
  | c :: r, pre, acc, h1, h2, h => by
    rw [List.length_cons] at h1 h2
    have hw : wrap64 ((pre.length : Int) + 1) = (((pre ++ [c]).length : Nat) : Int) := by rw [wrap_nat (by omega), List.length_append]; rfl
    refine Ev.step (fun k => spec_Joined.l1.eq_2 ..) ?_
    rw [bt_B, hw]
    have ih := inner d ps len j R r (pre ++ [c])
    simp only [List.append_assoc, List.cons_append, List.nil_append] at ih
    refine Ev.pos (by rw [List.length_append, List.length_cons]; omega) (Ev.pos (by omega) (Ev.pos (by rw [B_size, List.length_append, List.length_cons]; omega) ?_))
    by_cases hc : c = d
    · refine Ev.pos (by rw [hc]) (Ev.pos (by rw [N_len]; omega) ?_)
      refine Ev.bind (f := fun k (y105 : List Int) => if y105.length < 140737488355328 then _ else _) (Ev.now _) (Ev.pos (by rw [List.length_append, N_len]; simp; omega) ?_)
      have e : (N acc ++ [92]) ++ [(c.toNat : Int)] = N (acc ++ [92, c]) := by simp [N]
      rw [e]
      refine ih (acc ++ [92, c]) (by simp; omega) (by simp; omega) ?_
      rw [esc, if_pos hc] at h
      simpa using h
    · refine Ev.neg (by rw [nat_inj]; exact hc) (Ev.pos (by rw [N_len]; omega) ?_)
      have e : N acc ++ [(c.toNat : Int)] = N (acc ++ [c]) := by simp [N]
      rw [e]
      refine ih (acc ++ [c]) (by simp; omega) (by simp; omega) ?_
      rw [esc, if_neg hc] at h
      simpa using h

def tot (l : List (List UInt8)) : Nat := (l.map fun p => 2 * p.length + 1).sum
theorem tot_cons (p : List UInt8) (l : List (List UInt8)) : tot (p :: l) = 2 * p.length + 1 + tot l := by simp [tot]
theorem esc_len (d : UInt8) : ∀ p : List UInt8, (esc d p).length ≤ 2 * p.length
  | [] => Nat.le_refl _
  | c :: p => by
    have := esc_len d p
    rw [esc]
    split <;> simp <;> omega

theorem outer (d : UInt8) (all : List (List UInt8)) (hall : all.length ≤ 1000) : ∀ (ps pre : List (List UInt8)) (acc : List UInt8), pre ++ ps = all → pre ≠ [] → acc.length + tot ps ≤ 1000000 →
    Ev (fun k => spec_Joined.l0 k (d.toNat : Int) (N acc) (all.map B) ((all.map B).length : Int) (pre.length : Int)) (B (acc ++ jn d ps))
  | [], pre, acc, h0, h1, h2 => by
    have hlen := congrArg List.length h0
    rw [List.append_nil] at hlen
    refine Ev.step (fun k => spec_Joined.l0.eq_2 ..) ?_
    refine Ev.neg (by rw [List.length_map]; omega) ?_
    rw [jn, List.append_nil, str_N]
    exact Ev.now _
  | p :: ps, pre, acc, h0, h1, h2 => by
    have hlen := congrArg List.length h0
    rw [List.length_append, List.length_cons] at hlen
    rw [tot_cons] at h2
    have hp : 0 < pre.length := List.length_pos_iff.2 h1
    have hel := esc_len d p
    refine Ev.step (fun k => spec_Joined.l0.eq_2 ..) ?_
    refine Ev.pos (by rw [List.length_map]; omega) (Ev.pos (by omega) (Ev.pos (by rw [List.length_map]; omega) (Ev.pos (by omega) (Ev.pos (by rw [N_len]; omega) ?_))))
    refine Ev.step (fun k => spec_Joined.j1.eq_2 ..) ?_
    have e1 : rdOf ByteArray.empty (all.map B) (pre.length : Int) = B p := by
      rw [rdOf_nat _ _ _ (by rw [List.length_map]; omega), List.getElem_map]
      congr 1
      subst h0
      simp
    have e2 : N acc ++ [(d.toNat : Int)] = N (acc ++ [d]) := by simp [N]
    rw [e1, e2]
    have := inner d (all.map B) ((all.map B).length : Int) (pre.length : Int) (B (acc ++ jn d (p :: ps))) p [] (acc ++ [d]) (by simp; omega) (by simp; omega) ?_
    · simpa [B_size] using this
    · have hw : wrap64 ((pre.length : Int) + 1) = (((pre ++ [p]).length : Nat) : Int) := by rw [wrap_nat (by omega), List.length_append]; rfl
      rw [hw]
      have ih := outer d all hall ps (pre ++ [p]) (acc ++ [d] ++ esc d p) (by rw [← h0]; simp) (by simp) (by simp; omega)
      simpa [jn] using ih

theorem joined_ev (d : UInt8) (p : List UInt8) (ps : List (List UInt8)) (h0 : ps.length < 1000) (h2 : tot (p :: ps) ≤ 1000000) :
    Ev (fun k => spec_Joined.f k ((p :: ps).map B) (d.toNat : Int)) (B (esc d p ++ jn d ps)) := by
  rw [tot_cons] at h2
  have hel := esc_len d p
  refine Ev.step (fun k => (spec_Joined.l0.eq_2 ..)) ?_
  refine Ev.pos (by rw [List.length_map, List.length_cons]; omega) (Ev.pos (by omega) (Ev.pos (by rw [List.length_map, List.length_cons]; omega) (Ev.neg (by omega) ?_)))
  refine Ev.step (fun k => spec_Joined.j1.eq_2 ..) ?_
  have e1 : rdOf ByteArray.empty ((p :: ps).map B) 0 = B p := rfl
  rw [e1]
  have := inner d ((p :: ps).map B) (((p :: ps).map B).length : Int) 0 (B (esc d p ++ jn d ps)) p [] [] (by simp; omega) (by simp; omega) ?_
  · exact this
  · have hw : wrap64 ((0 : Int) + 1) = (([p].length : Nat) : Int) := wrap_nat (j := 0) (by omega)
    rw [hw]
    exact outer d (p :: ps) (by simp; omega) ps [p] (esc d p) rfl (by simp) (by omega)

theorem same_ev (l : List ByteArray) (hl : l.length ≤ 1000000) : Ev (fun k => laws_heSame.f k l l) true := by
  unfold laws_heSame.f
  refine Ev.pos rfl ?_
  have main : ∀ n j, l.length - j = n → j ≤ l.length → Ev (fun k => laws_heSame.l0 k l l (l.length : Int) (j : Int)) true := by
    intro n
    induction n with
    | zero =>
      intro j hd hj
      exact Ev.step (fun k => laws_heSame.l0.eq_2 ..) (Ev.neg (by omega) (Ev.now _))
    | succ n ih =>
      intro j hd hj
      refine Ev.step (fun k => laws_heSame.l0.eq_2 ..) (Ev.pos (by omega) (Ev.pos (by omega) (Ev.pos (by omega) (Ev.pos (by omega) (Ev.pos rfl ?_)))))
      rw [wrap_nat (by omega)]
      exact ih (j + 1) (by omega) (by omega)
  exact main l.length 0 (by omega) (by omega)

end Go.Proofs.Ytgdffbjkafbkcaa.HJoinPure
