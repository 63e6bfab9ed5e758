/- What utils.SmarterPathSplitter's own parts come to, over lists of bytes. -/
import Derived.Test.YtgdffbjkafbkcaaHSplitPure
import Derived.Test.YtgdffbjkafbkcaaGSmartx
namespace Go.Proofs.Ytgdffbjkafbkcaa.HSmart
open Go.RowKit Go.Proofs.YtgdffbjkafbkcaaW.PrintWords Go.Proofs.Ytgdffbjkafbkcaa.Plain Go.Proofs.Ytgdffbjkafbkcaa.HSplit Go.Proofs.Ytgdffbjkafbkcaa.HSplitPure Go.Proofs.Ytgdffbjkafbkcaa.HJoin

def N (l : List UInt8) : List Int := l.map fun c => (c.toNat : Int)
theorem N_len (l : List UInt8) : (N l).length = l.length := by simp [N]
theorem str_N (l : List UInt8) : strOfNums (N l) = B l := by
  unfold strOfNums N B
  rw [List.map_map]
  congr
  conv => rhs; rw [← List.map_id l]
  apply List.map_congr_left
  intro c _
  simp
theorem B_get (l : List UInt8) (i : Nat) (h : i < (B l).size) : (B l)[i]'h = l[i]'h := rfl
theorem bt_B (pre r : List UInt8) (c : UInt8) : bt (B (pre ++ c :: r)) (pre.length : Int) = (c.toNat : Int) := by
  have h : (pre.length : Int).toNat < (B (pre ++ c :: r)).size := by rw [B_size, Int.toNat_natCast]; simp
  rw [← bt_at _ _ h, B_get]
  simp
theorem nat_inj {c d : UInt8} : ((c.toNat : Int) = (d.toNat : Int)) ↔ c = d := by
  constructor
  · intro h
    exact UInt8.toNat_inj.1 (by omega)
  · rintro rfl; rfl

/-- A word: one to six small letters. -/
structure Word (p : List UInt8) : Prop where
  one : p ≠ []
  six : p.length ≤ 6
  low : ∀ c ∈ p, 97 ≤ (c.toNat : Int) ∧ (c.toNat : Int) ≤ 122

open Go.Proofs.Ytgdffbjkafbkcaa.GSmart in
theorem letters_ev (all : List UInt8) (hall : all.length ≤ 140737488351232) : ∀ (r pre acc : List UInt8), pre ++ r = all → acc.length ≤ 6 → (∀ c ∈ acc, 97 ≤ (c.toNat : Int) ∧ (c.toNat : Int) ≤ 122) →
    ∃ p, Word p ∧ Ev (fun k => laws_heLetters.l0 k (B all) (N acc) (all.length : Int) (pre.length : Int)) (B p)
  | [], pre, acc, h0, h1, h2 => by
    have hlen := congrArg List.length h0
    rw [List.append_nil] at hlen
    by_cases ha : acc = []
    · refine ⟨[120], ⟨by simp, by simp, by simp⟩, Ev.step (fun k => laws_heLetters.l0.eq_2 ..) (Ev.neg (by omega) (Ev.pos (by rw [ha]; rfl) (Ev.now _)))⟩
    · have hp : 0 < acc.length := List.length_pos_iff.2 ha
      refine ⟨acc, ⟨ha, h1, h2⟩, Ev.step (fun k => laws_heLetters.l0.eq_2 ..) (Ev.neg (by omega) (Ev.neg (by rw [N_len]; omega) ?_))⟩
      rw [str_N]
      exact Ev.now _
  | c :: r, pre, acc, h0, h1, h2 => by
    have hlen := congrArg List.length h0
    rw [List.length_append, List.length_cons] at hlen
    have hw : wrap64 ((pre.length : Int) + 1) = (((pre ++ [c]).length : Nat) : Int) := by rw [wrap_nat (by omega), List.length_append]; rfl
    have hb : bt (B all) (pre.length : Int) = (c.toNat : Int) := by rw [← h0, bt_B]
    have go : ∀ acc : List UInt8, acc.length ≤ 6 → (∀ c ∈ acc, 97 ≤ (c.toNat : Int) ∧ (c.toNat : Int) ≤ 122) → ∃ p, Word p ∧ Ev (fun k => laws_heLetters.l0 k (B all) (N acc) (all.length : Int) (wrap64 ((pre.length : Int) + 1))) (B p) := by
      intro acc h1 h2
      rw [hw]
      exact letters_ev all hall r (pre ++ [c]) acc (by rw [← h0]; simp) h1 h2
    by_cases q1 : (c.toNat : Int) ≥ 97
    · by_cases q2 : (c.toNat : Int) ≤ 122
      · by_cases q3 : acc.length < 6
        · obtain ⟨p, hp, hev⟩ := go (acc ++ [c]) (by simp; omega) (by
            intro x hx
            rcases List.mem_append.1 hx with hx | hx
            · exact h2 x hx
            · rw [List.mem_singleton] at hx; subst hx; exact ⟨q1, q2⟩)
          refine ⟨p, hp, Ev.step (fun k => laws_heLetters.l0.eq_2 ..) ?_⟩
          rw [hb]
          refine Ev.pos (by omega) (Ev.pos (by omega) (Ev.pos (by rw [B_size]; omega) (Ev.pos q1 (Ev.pos q2 (Ev.pos (by rw [N_len]; omega) (Ev.pos (by rw [N_len]; omega) ?_))))))
          have e : N acc ++ [(c.toNat : Int)] = N (acc ++ [c]) := by simp [N]
          rw [e]
          exact hev
        · obtain ⟨p, hp, hev⟩ := go acc h1 h2
          refine ⟨p, hp, Ev.step (fun k => laws_heLetters.l0.eq_2 ..) ?_⟩
          rw [hb]
          exact Ev.pos (by omega) (Ev.pos (by omega) (Ev.pos (by rw [B_size]; omega) (Ev.pos q1 (Ev.pos q2 (Ev.neg (by rw [N_len]; omega) hev)))))
      · obtain ⟨p, hp, hev⟩ := go acc h1 h2
        refine ⟨p, hp, Ev.step (fun k => laws_heLetters.l0.eq_2 ..) ?_⟩
        rw [hb]
        exact Ev.pos (by omega) (Ev.pos (by omega) (Ev.pos (by rw [B_size]; omega) (Ev.pos q1 (Ev.neg q2 hev))))
    · obtain ⟨p, hp, hev⟩ := go acc h1 h2
      refine ⟨p, hp, Ev.step (fun k => laws_heLetters.l0.eq_2 ..) ?_⟩
      rw [hb]
      exact Ev.pos (by omega) (Ev.pos (by omega) (Ev.pos (by rw [B_size]; omega) (Ev.neg q1 hev)))

open Go.Proofs.Ytgdffbjkafbkcaa.GSmart in
theorem letters (s : ByteArray) (hs : s.size ≤ 140737488351232) : ∃ p, Word p ∧ Ev (fun k => laws_heLetters.f k s) (B p) :=
  letters_ev s.data.toList hs s.data.toList [] [] rfl (by simp) (by simp)

open Go.Proofs.Ytgdffbjkafbkcaa.GSmart in
theorem fits4 (l : List ByteArray) (hl : l.length ≤ 9223372036854775806) : ∃ b, Ev (fun k => laws_zzFits4.f k l) b := by
  unfold laws_zzFits4.f
  by_cases h : (l.length : Int) > 2147483647
  · exact ⟨false, Ev.pos h (Ev.now _)⟩
  · have main : ∀ d j, l.length - j = d → j ≤ l.length → ∃ b, Ev (fun k => laws_zzFits4.l0 k l (l.length : Int) (j : Int)) b := by
      intro d
      induction d with
      | zero =>
        intro j hd hj
        refine ⟨true, Ev.step (fun k => laws_zzFits4.l0.eq_2 ..) (Ev.neg (by omega) (Ev.now _))⟩
      | succ d ih =>
        intro j hd hj
        have hlt : j < l.length := by omega
        obtain ⟨b, hb⟩ := ih (j + 1) (by omega) (by omega)
        by_cases hs : ((rdOf ByteArray.empty l (j : Int)).size : Int) > 2147483647
        · exact ⟨false, Ev.step (fun k => laws_zzFits4.l0.eq_2 ..) (Ev.pos (by omega) (Ev.pos (by omega) (Ev.pos (by omega) (Ev.pos hs (Ev.now _)))))⟩
        · refine ⟨b, Ev.step (fun k => laws_zzFits4.l0.eq_2 ..) (Ev.pos (by omega) (Ev.pos (by omega) (Ev.pos (by omega) (Ev.neg hs ?_))))⟩
          rw [wrap_nat (by omega)]
          exact hb
    obtain ⟨b, hb⟩ := main l.length 0 (by omega) (by omega)
    exact ⟨b, Ev.neg h hb⟩

open Go.Proofs.Ytgdffbjkafbkcaa.GSmart in
theorem same_ev (l : List ByteArray) (hl : l.length ≤ 1000000) : Ev (fun k => laws_heSame.f k l l) true := by
  unfold laws_heSame.f
  refine Ev.pos rfl ?_
  have main : ∀ n j, l.length - j = n → j ≤ l.length → Ev (fun k => laws_heSame.l0 k l l (l.length : Int) (j : Int)) true := by
    intro n
    induction n with
    | zero =>
      intro j hd hj
      exact Ev.step (fun k => laws_heSame.l0.eq_2 ..) (Ev.neg (by omega) (Ev.now _))
    | succ n ih =>
      intro j hd hj
      refine Ev.step (fun k => laws_heSame.l0.eq_2 ..) (Ev.pos (by omega) (Ev.pos (by omega) (Ev.pos (by omega) (Ev.pos (by omega) (Ev.pos rfl ?_)))))
      rw [wrap_nat (by omega)]
      exact ih (j + 1) (by omega) (by omega)
  exact main l.length 0 (by omega) (by omega)

open Go.Proofs.Ytgdffbjkafbkcaa.GSmart in
theorem index_ev (d : UInt8) (l : List UInt8) (hl : l.length ≤ 1000000) : ∀ (r pre : List UInt8), pre ++ r = l → Ev (fun k => utils_zzIndex.l0 k (B l) (B [d]) (pre.length : Int)) (idxI (idx d pre.length r))
  | [], pre, h => by
    have hlen := congrArg List.length h
    rw [List.append_nil] at hlen
    have hw : wrap64 ((pre.length : Int) + ((B [d]).size : Int)) = ((pre.length + 1 : Nat) : Int) := wrap_nat (by omega)
    refine Ev.step (fun k => utils_zzIndex.l0.eq_2 ..) ?_
    rw [hw, B_size]
    exact Ev.neg (by omega) (Ev.now _)
  | c :: r, pre, h => by
    have hlen := congrArg List.length h
    rw [List.length_append, List.length_cons] at hlen
    have hw : wrap64 ((pre.length : Int) + ((B [d]).size : Int)) = ((pre.length + 1 : Nat) : Int) := wrap_nat (by omega)
    have hw2 : wrap64 ((pre.length : Int) + 1) = ((pre.length + 1 : Nat) : Int) := wrap_nat (by omega)
    refine Ev.step (fun k => utils_zzIndex.l0.eq_2 ..) ?_
    rw [hw, hw2, B_size]
    refine Ev.pos (by omega) (Ev.pos (by omega) (Ev.pos (by omega) ?_))
    have ec : ((B l).extract ((pre.length : Int)).toNat (((pre.length + 1 : Nat) : Int)).toNat).toList = [c] := by
      rw [Int.toNat_natCast, Int.toNat_natCast, B_extract, B_toList, ← h]
      simp
    rw [ec, B_toList, idx]
    by_cases hc : c = d
    · rw [if_pos hc]
      exact Ev.pos (by rw [hc]) (Ev.now _)
    · rw [if_neg hc]
      refine Ev.neg (by simpa using hc) ?_
      have := index_ev d l hl r (pre ++ [c]) (by rw [← h]; simp)
      rw [List.length_append] at this
      exact this
theorem idx_not {d : UInt8} : ∀ {l : List UInt8} (j : Nat), d ∉ l → idx d j l = none
  | [], _, _ => rfl
  | c :: r, j, h => by
    rw [idx, if_neg (fun e => h (by simp [e])), idx_not (j + 1) (fun e => h (by simp [e]))]
theorem idx_in {d : UInt8} : ∀ {l : List UInt8} (j : Nat), d ∈ l → 0 ≤ idxI (idx d j l)
  | [], _, h => by simp at h
  | c :: r, j, h => by
    rw [idx]
    split
    · simp [idxI]
    · rename_i hc
      rcases List.mem_cons.1 h with h | h
      · exact absurd h.symm hc
      · exact idx_in (j + 1) h

open Go.Proofs.Ytgdffbjkafbkcaa.GSmart in
theorem pre_f (c d : UInt8) (l : List UInt8) : strings_HasPrefix.f (B (c :: l)) (B [d]) = some (decide (c = d)) := by
  unfold strings_HasPrefix.f stringslite_HasPrefix.f
  rw [B_size, B_size, if_pos (by simp; omega), if_pos (by omega), if_pos (by simp; omega), Option.bind_some, B_extract, B_toList, B_toList]
  congr 1
  show ((c :: l).take 1 == [d]) = _
  simp only [List.take_succ_cons, List.take_zero]
  by_cases h : c = d
  · simp [h]
  · simp [h]
open Go.Proofs.Ytgdffbjkafbkcaa.GSmart in
theorem suf_f (c d : UInt8) (l : List UInt8) (hl : l.length ≤ 1000000) : strings_HasSuffix.f (B (l ++ [c])) (B [d]) = some (decide (c = d)) := by
  have hw : wrap64 (((B (l ++ [c])).size : Int) - ((B [d]).size : Int)) = (l.length : Int) := by
    rw [B_size, B_size]
    have e : ((l ++ [c]).length : Int) - (([d] : List UInt8).length : Int) = (l.length : Int) := by simp
    rw [e]
    exact wrap_id (by omega) (by omega)
  unfold strings_HasSuffix.f stringslite_HasSuffix.f
  rw [hw, B_size, B_size, if_pos (by simp; omega), if_pos (by omega), if_pos (by simp; omega), Option.bind_some, B_extract, B_toList, B_toList, Int.toNat_natCast, List.drop_left, List.take_of_length_le (by simp)]
  congr 1
  by_cases h : c = d
  · simp [h]
  · simp [h]
theorem join_f (ps : List (List UInt8)) (d : UInt8) (hl : ps.length ≤ 1000000) (hz : (Lib.join ps [d]).length ≤ 1000000) : joinF (ps.map B) (B [d]) = some (B (Lib.join ps [d])) := by
  have e : joinB (ps.map B) (B [d]) = B (Lib.join ps [d]) := by
    unfold joinB
    rw [List.map_map]
    have : ((fun x : ByteArray => x.data.toList) ∘ B) = id := by funext l; rfl
    rw [this, List.map_id]
    rfl
  unfold joinF
  rw [e, if_pos ⟨by rw [List.length_map]; exact hl, by rw [B_size]; exact hz⟩]

open Go.Proofs.Ytgdffbjkafbkcaa.GSmart in
/-- A text in brackets, itself without them at both ends, loses them. -/
theorem trim_ev (c d : UInt8) (m : List UInt8) (hm : m.length ≤ 1000000) (h1 : ¬ (c.toNat : Int) = 91) (h2 : ¬ (c.toNat : Int) = 93) (h3 : ¬ (d.toNat : Int) = 91) (h4 : ¬ (d.toNat : Int) = 93) :
    Ev (fun k => utils_zzTrimBrackets.f k (B ([91] ++ (c :: m ++ [d]) ++ [93]))) (B (c :: m ++ [d])) := by
  refine Ev.step (fun k => utils_zzTrimBrackets.l0.eq_2 ..) ?_
  refine Ev.neg (by rw [B_toList]; simp) (Ev.pos (by rw [B_size]; simp; omega) (Ev.pos (bt_B [] ((c :: m ++ [d]) ++ [93]) 91) (Ev.pos (by rw [B_size]; simp; omega) ?_)))
  rw [B_size, B_extract]
  have e : (([91] ++ (c :: m ++ [d]) ++ [93]).drop 1).take (([91] ++ (c :: m ++ [d]) ++ [93]).length - 1) = c :: m ++ [d] ++ [93] := by
    rw [List.take_of_length_le (by simp)]; rfl
  rw [e]
  refine Ev.step (fun k => utils_zzTrimBrackets.l0.eq_2 ..) ?_
  have hb : bt (B (c :: m ++ [d] ++ [93])) 0 = (c.toNat : Int) := bt_B [] (m ++ [d] ++ [93]) c
  rw [hb]
  refine Ev.neg (by rw [B_toList]; simp) (Ev.pos (by rw [B_size]; simp; omega) (Ev.neg h1 (Ev.neg h2 ?_)))
  refine Ev.step (fun k => utils_zzTrimBrackets.j1.eq_2 ..) ?_
  refine Ev.step (fun k => utils_zzTrimBrackets.l1.eq_2 ..) ?_
  have hw : wrap64 (((B (c :: m ++ [d] ++ [93])).size : Int) - 1) = ((c :: m ++ [d]).length : Int) := by
    rw [B_size]
    have e : ((c :: m ++ [d] ++ [93]).length : Int) - 1 = ((c :: m ++ [d]).length : Int) := by simp; omega
    rw [e]
    exact wrap_id (by omega) (by simp; omega)
  have hb2 : bt (B (c :: m ++ [d] ++ [93])) ((c :: m ++ [d]).length : Int) = ((93 : UInt8).toNat : Int) := bt_B (c :: m ++ [d]) [] 93
  rw [hw, hb2]
  refine Ev.neg (by rw [B_toList]; simp) (Ev.pos (by omega) (Ev.pos (by rw [B_size]; simp) (Ev.neg (by decide) (Ev.pos rfl (Ev.pos (by rw [B_size]; simp) ?_)))))
  rw [Int.toNat_natCast, B_extract, List.drop_zero, Nat.sub_zero, List.take_left]
  refine Ev.step (fun k => utils_zzTrimBrackets.l1.eq_2 ..) ?_
  have hw3 : wrap64 (((B (c :: m ++ [d])).size : Int) - 1) = ((c :: m).length : Int) := by
    rw [B_size]
    have e : ((c :: m ++ [d]).length : Int) - 1 = ((c :: m).length : Int) := by simp
    rw [e]
    exact wrap_id (by omega) (by simp; omega)
  have hb3 : bt (B (c :: m ++ [d])) ((c :: m).length : Int) = (d.toNat : Int) := bt_B (c :: m) [] d
  rw [hw3, hb3]
  exact Ev.neg (by rw [B_toList]; simp) (Ev.pos (by omega) (Ev.pos (by rw [B_size]; simp; omega) (Ev.neg h3 (Ev.neg h4 (Ev.now _)))))
end Go.Proofs.Ytgdffbjkafbkcaa.HSmart
