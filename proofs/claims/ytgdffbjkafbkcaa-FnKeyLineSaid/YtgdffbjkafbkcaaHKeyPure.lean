/- What the functions of the law FnKeyLine come to that were printed: kyTrim, kySplit, zzTrimRight, zzIndex; over lists of bytes. -/
import Derived.Test.YtgdffbjkafbkcaaHTrim
import Derived.Test.YtgdffbjkafbkcaaPkySplitx
import Derived.Test.YtgdffbjkafbkcaaPkyTrimx
import Derived.Test.YtgdffbjkafbkcaaPzzTrimRightx
import Derived.Test.YtgdffbjkafbkcaaPzzIndexx
import Derived.Test.YtgdffbjkafbkcaaPHasPrefixx
namespace Go.Proofs.Ytgdffbjkafbkcaa.HKeyPure
open Go.RowKit Go.Proofs.YtgdffbjkafbkcaaW.PrintWords Go.Proofs.Ytgdffbjkafbkcaa.Plain Go.Proofs.Ytgdffbjkafbkcaa.HBytes Go.Proofs.Ytgdffbjkafbkcaa.HTrim

open PkySplit in
theorem index_evK (d : UInt8) (l : List UInt8) (hl : l.length ≤ 1000000) : ∀ (r pre : List UInt8), pre ++ r = l → Ev (fun k => spec_kyIndex.l0 k (B l) (B [d]) (pre.length : Int)) (idxI (idx d pre.length r))
  | [], pre, h => by
    have hlen := congrArg List.length h
    rw [List.append_nil] at hlen
    have hw : wrap64 ((pre.length : Int) + ((B [d]).size : Int)) = ((pre.length + 1 : Nat) : Int) := wrap_nat (by omega)
    refine Ev.step (fun k => spec_kyIndex.l0.eq_2 ..) ?_
    rw [hw, B_size]
    exact Ev.neg (by omega) (Ev.now _)
  | c :: r, pre, h => by
    have hlen := congrArg List.length h
    rw [List.length_append, List.length_cons] at hlen
    have hw : wrap64 ((pre.length : Int) + ((B [d]).size : Int)) = ((pre.length + 1 : Nat) : Int) := wrap_nat (by omega)
    have hw2 : wrap64 ((pre.length : Int) + 1) = ((pre.length + 1 : Nat) : Int) := wrap_nat (by omega)
    refine Ev.step (fun k => spec_kyIndex.l0.eq_2 ..) ?_
    rw [hw, hw2, B_size]
    refine Ev.pos (by omega) (Ev.pos (by omega) (Ev.pos (by omega) ?_))
    have ec : ((B l).extract ((pre.length : Int)).toNat (((pre.length + 1 : Nat) : Int)).toNat).toList = [c] := by
      rw [Int.toNat_natCast, Int.toNat_natCast, B_extract, B_toList, ← h]
      simp
    rw [ec, B_toList, idx]
    by_cases hc : c = d
    · rw [if_pos hc]
      exact Ev.pos (by rw [hc]) (Ev.now _)
    · rw [if_neg hc]
      refine Ev.neg (by simpa using hc) ?_
      have := index_evK d l hl r (pre ++ [c]) (by rw [← h]; simp)
      rw [List.length_append] at this
      exact this

open Go.Proofs.Ytgdffbjkafbkcaa.PkySplit in
theorem split_evK (d : UInt8) : ∀ (n : Nat) (l : List UInt8) (out : List ByteArray), l.length ≤ n → n ≤ 1000000 → out.length + l.length ≤ 1000000 → Ev (fun k => spec_kySplit.l0 k (B l) (B [d]) out) (out ++ (spA d [] l).map B) := by
  intro n
  induction n with
  | zero =>
    intro l out h0 _ h2
    obtain rfl : l = [] := List.eq_nil_of_length_eq_zero (by omega)
    refine Ev.step (fun k => spec_kySplit.l0.eq_2 ..) ?_
    exact Ev.bind (f := fun k t101 => if t101 < 0 then _ else _) (index_evK d [] (by simp) [] [] rfl) (Ev.pos (by simp [idx, idxI]) (Ev.pos (by omega) (Ev.now _)))
  | succ n ih =>
    intro l out h0 h1 h2
    refine Ev.step (fun k => spec_kySplit.l0.eq_2 ..) ?_
    have hi := index_evK d l (by omega) l [] rfl
    cases he : idx d 0 l with
    | none =>
      rw [List.length_nil, he] at hi
      rw [idx_none [] he]
      exact Ev.bind (f := fun k t101 => if t101 < 0 then _ else _) hi (Ev.pos (by simp [idxI]) (Ev.pos (by omega) (Ev.now _)))
    | some m =>
      rw [List.length_nil, he] at hi
      obtain ⟨_, h3, h4⟩ := idx_some [] he
      rw [Nat.sub_zero] at h3 h4
      have hw : wrap64 (idxI (some m) + ((B [d]).size : Int)) = ((m + 1 : Nat) : Int) := wrap_nat (by omega)
      refine Ev.bind (f := fun k t101 => if t101 < 0 then _ else _) hi ?_
      rw [hw]
      refine Ev.neg (by simp [idxI]) (Ev.pos (by simp [idxI]) (Ev.pos (by simp [idxI, B_size]; omega) (Ev.pos (by omega) (Ev.pos (by omega) (Ev.pos (by rw [B_size]; omega) ?_)))))
      rw [show (idxI (some m)).toNat = m from Int.toNat_natCast m, Int.toNat_natCast, B_extract, B_extract, B_size]
      have := ih (l.drop (m + 1)) (out ++ [B (l.take m)]) (by rw [List.length_drop]; omega) (by omega) (by rw [List.length_append, List.length_drop]; simp; omega)
      rw [h4]
      simp only [List.drop_zero, Nat.sub_zero, List.nil_append, List.map_cons]
      rw [List.append_assoc] at this
      rw [List.take_of_length_le (l := l.drop (m + 1)) (by rw [List.length_drop]; exact Nat.le_refl _)]
      exact this

open Go.Proofs.Ytgdffbjkafbkcaa.PzzIndex in
theorem index_evY (d : UInt8) (l : List UInt8) (hl : l.length ≤ 1000000) : ∀ (r pre : List UInt8), pre ++ r = l → Ev (fun k => yaml_zzIndex.l0 k (B l) (B [d]) (pre.length : Int)) (idxI (idx d pre.length r))
  | [], pre, h => by
    have hlen := congrArg List.length h
    rw [List.append_nil] at hlen
    have hw : wrap64 ((pre.length : Int) + ((B [d]).size : Int)) = ((pre.length + 1 : Nat) : Int) := wrap_nat (by omega)
    refine Ev.step (fun k => yaml_zzIndex.l0.eq_2 ..) ?_
    rw [hw, B_size]
    exact Ev.neg (by omega) (Ev.now _)
  | c :: r, pre, h => by
    have hlen := congrArg List.length h
    rw [List.length_append, List.length_cons] at hlen
    have hw : wrap64 ((pre.length : Int) + ((B [d]).size : Int)) = ((pre.length + 1 : Nat) : Int) := wrap_nat (by omega)
    have hw2 : wrap64 ((pre.length : Int) + 1) = ((pre.length + 1 : Nat) : Int) := wrap_nat (by omega)
    refine Ev.step (fun k => yaml_zzIndex.l0.eq_2 ..) ?_
    rw [hw, hw2, B_size]
    refine Ev.pos (by omega) (Ev.pos (by omega) (Ev.pos (by omega) ?_))
    have ec : ((B l).extract ((pre.length : Int)).toNat (((pre.length + 1 : Nat) : Int)).toNat).toList = [c] := by
      rw [Int.toNat_natCast, Int.toNat_natCast, B_extract, B_toList, ← h]
      simp
    rw [ec, B_toList, idx]
    by_cases hc : c = d
    · rw [if_pos hc]
      exact Ev.pos (by rw [hc]) (Ev.now _)
    · rw [if_neg hc]
      refine Ev.neg (by simpa using hc) ?_
      have := index_evY d l hl r (pre ++ [c]) (by rw [← h]; simp)
      rw [List.length_append] at this
      exact this


/-- The text without the spaces at its end. -/
def tr (l : List UInt8) : List UInt8 := (l.reverse.dropWhile (· == 32)).reverse
def trB (s : ByteArray) : ByteArray := B (tr s.data.toList)
theorem tr_nil : tr [] = [] := rfl
theorem tr_sp (l : List UInt8) : tr (l ++ [32]) = tr l := by simp [tr]
theorem tr_ne (l : List UInt8) (c : UInt8) (h : ¬ c = 32) : tr (l ++ [c]) = l ++ [c] := by
  unfold tr
  rw [List.reverse_append, List.reverse_singleton, List.singleton_append, List.dropWhile_cons_of_neg (by simpa using h)]
  simp
theorem bt_sp : bt sp 0 = 32 := rfl
theorem n32 {c : UInt8} : ((c.toNat : Int) = 32) ↔ c = 32 := by
  constructor
  · intro h
    exact UInt8.toNat_inj.1 (by show c.toNat = 32; omega)
  · rintro rfl; rfl

open PzzTrimRight in
theorem right_ev : ∀ (n : Nat) (m r : List UInt8), m.length = n → n ≤ 1000000 → Ev (fun k => yaml_zzTrimRight.l0 k (B (m ++ r)) sp (n : Int)) (B (tr m)) := by
  intro n
  induction n with
  | zero =>
    intro m r h _
    obtain rfl : m = [] := List.eq_nil_of_length_eq_zero h
    refine Ev.step (fun k => yaml_zzTrimRight.l0.eq_2 ..) (Ev.neg (by omega) (Ev.pos (by omega) (Ev.pos (by omega) ?_)))
    exact evEq (Ev.now _) (by rw [B_extract]; rfl)
  | succ n ih =>
    intro m r h hn
    obtain ⟨m', c, rfl⟩ : ∃ m' c, m = m' ++ [c] := by
      rcases List.eq_nil_or_concat m with rfl | ⟨m', c, rfl⟩
      · cases h
      · exact ⟨m', c, List.concat_eq_append⟩
    have hm : m'.length = n := by simpa using h
    have hw : wrap64 (((n + 1 : Nat) : Int) - 1) = (n : Int) := by rw [wrap_id (by omega) (by omega)]; omega
    have hbt : bt (B (m' ++ [c] ++ r)) (n : Int) = (c.toNat : Int) := by
      have := bt_B m' r c
      rw [hm] at this
      simpa using this
    have hsz : (B (m' ++ [c] ++ r)).size = n + 1 + r.length := by rw [B_size]; simp [hm]; omega
    have hs1 : sp.size = 1 := rfl
    refine Ev.step (fun k => yaml_zzTrimRight.l0.eq_2 ..) (Ev.pos (by omega) ?_)
    refine Ev.step (fun k => yaml_zzTrimRight.l1.eq_2 ..) ?_
    rw [hw, hbt, bt_sp]
    refine Ev.pos (by omega) (Ev.pos (by omega) (Ev.pos (by omega) (Ev.pos (by omega) ?_)))
    have hw1 : wrap64 ((0 : Int) + 1) = 1 := wrap_id (by omega) (by omega)
    by_cases hc : c = 32
    · refine Ev.pos (by rw [hc]; rfl) (Ev.step (fun k => yaml_zzTrimRight.l1.eq_2 ..) ?_)
      rw [hw1]
      refine Ev.neg (by omega) (Ev.pos rfl ?_)
      rw [hw, hc, tr_sp]
      have := ih m' ([32] ++ r) hm (by omega)
      rwa [← List.append_assoc] at this
    · refine Ev.neg (fun e => hc (n32.1 e.symm)) (Ev.step (fun k => yaml_zzTrimRight.l1.eq_2 ..) ?_)
      rw [hw1]
      refine Ev.neg (by omega) (Ev.neg (by simp) (Ev.pos (by omega) (Ev.pos (by omega) ?_)))
      refine evEq (Ev.now _) ?_
      have e : ((m' ++ [c]) ++ r).take (n + 1) = m' ++ [c] := List.take_left' (by simp [hm])
      rw [tr_ne _ _ hc, B_extract, Int.toNat_natCast, List.drop_zero, Nat.sub_zero, e]

open PkyTrim in
theorem kyr_ev : ∀ (n : Nat) (m : List UInt8), m.length = n → n ≤ 1000000 → Ev (fun k => spec_kyTrim.l1 k (B m)) (B (tr m)) := by
  intro n
  induction n with
  | zero =>
    intro m h _
    obtain rfl : m = [] := List.eq_nil_of_length_eq_zero h
    exact Ev.step (fun k => spec_kyTrim.l1.eq_2 ..) (Ev.pos (B_toList _) (Ev.now _))
  | succ n ih =>
    intro m h hn
    obtain ⟨m', c, rfl⟩ : ∃ m' c, m = m' ++ [c] := by
      rcases List.eq_nil_or_concat m with rfl | ⟨m', c, rfl⟩
      · cases h
      · exact ⟨m', c, List.concat_eq_append⟩
    have hm : m'.length = n := by simpa using h
    have hsz : (B (m' ++ [c])).size = n + 1 := by rw [B_size]; simp [hm]
    have hw : wrap64 (((B (m' ++ [c])).size : Int) - 1) = (n : Int) := by rw [hsz, wrap_id (by omega) (by omega)]; omega
    have hbt : bt (B (m' ++ [c])) (n : Int) = (c.toNat : Int) := by
      have := bt_B m' [] c
      rwa [hm] at this
    refine Ev.step (fun k => spec_kyTrim.l1.eq_2 ..) (Ev.neg (by rw [B_toList]; simp) ?_)
    rw [hw, hbt]
    refine Ev.pos (by omega) (Ev.pos (by omega) ?_)
    by_cases hc : c = 32
    · refine Ev.pos (n32.2 hc) (Ev.pos (by omega) ?_)
      rw [hc, tr_sp, B_extract, Int.toNat_natCast]
      have e : (List.drop 0 (m' ++ [32])).take (n - 0) = m' := by simp [hm]
      rw [e]
      exact ih m' hm (by omega)
    · refine Ev.neg (fun e => hc (n32.1 e)) ?_
      exact evEq (Ev.now _) (by rw [tr_ne _ _ hc])

open PkyTrim in
theorem ky_ev : ∀ (m : List UInt8), m.length ≤ 1000000 → Ev (fun k => spec_kyTrim.l0 k (B m)) (B (tr (tl m)))
  | [], _ => by
    refine Ev.step (fun k => spec_kyTrim.l0.eq_2 ..) (Ev.pos (B_toList _) ?_)
    exact Ev.step (fun k => spec_kyTrim.j1.eq_2 ..) (kyr_ev 0 [] rfl (by omega))
  | c :: m, h => by
    have hbt : bt (B (c :: m)) 0 = (c.toNat : Int) := bt_B [] m c
    refine Ev.step (fun k => spec_kyTrim.l0.eq_2 ..) (Ev.neg (by rw [B_toList]; simp) (Ev.pos (by rw [B_size]; simp) ?_))
    rw [hbt]
    by_cases hc : c = 32
    · refine Ev.pos (n32.2 hc) (Ev.pos (by rw [B_size]; simp; omega) ?_)
      have e : tl (c :: m) = tl m := by rw [hc]; rfl
      rw [e, B_extract, B_size]
      have e2 : (List.drop 1 (c :: m)).take ((c :: m).length - 1) = m := by simp
      rw [e2]
      exact ky_ev m (by simp at h; omega)
    · refine Ev.neg (fun e => hc (n32.1 e)) ?_
      have e : tl (c :: m) = c :: m := by unfold tl; rw [List.dropWhile_cons_of_neg (by simpa using hc)]
      rw [e]
      exact Ev.step (fun k => spec_kyTrim.j1.eq_2 ..) (kyr_ev _ _ rfl h)

/-! ### the head of a text, cut at a sign -/
def cutH (l : List UInt8) : List UInt8 := l.takeWhile (· != 35)
def cutB (s : ByteArray) : ByteArray := B (cutH s.data.toList)
theorem idx_cut : ∀ (l : List UInt8) (j : Nat), (idx 35 j l = none ∧ cutH l = l) ∨ (∃ n, idx 35 j l = some (j + n) ∧ n < l.length ∧ cutH l = l.take n)
  | [], j => .inl ⟨rfl, rfl⟩
  | c :: r, j => by
    by_cases hc : c = 35
    · refine .inr ⟨0, by rw [idx, if_pos hc]; rfl, by simp, ?_⟩
      unfold cutH
      rw [List.takeWhile_cons_of_neg (by simp [hc])]; rfl
    · have e : cutH (c :: r) = c :: cutH r := by unfold cutH; rw [List.takeWhile_cons_of_pos (by simpa using hc)]
      rcases idx_cut r (j + 1) with ⟨h1, h2⟩ | ⟨n, h1, h2, h3⟩
      · exact .inl ⟨by rw [idx, if_neg hc, h1], by rw [e, h2]⟩
      · exact .inr ⟨n + 1, by rw [idx, if_neg hc, h1]; congr 1; omega, by simpa using h2, by rw [e, h3]; rfl⟩
theorem spA_head : ∀ (l cur : List UInt8), ∃ xs, spA 35 cur l = (cur ++ cutH l) :: xs
  | [], cur => ⟨[], by simp [spA, cutH]⟩
  | c :: r, cur => by
    by_cases hc : c = 35
    · refine ⟨_, by rw [spA, if_pos hc]; unfold cutH; rw [List.takeWhile_cons_of_neg (by simp [hc])]; simp; rfl⟩
    · obtain ⟨xs, h⟩ := spA_head r (cur ++ [c])
      have e : cutH (c :: r) = c :: cutH r := by unfold cutH; rw [List.takeWhile_cons_of_pos (by simpa using hc)]
      exact ⟨xs, by rw [spA, if_neg hc, h, e]; simp⟩

/-- A text's first sign that is no space is #. -/
def cm (s : ByteArray) : Bool := (trB (tlB s)).data.toList.head? == some 35
/-- The line of a key ahead of the place i. -/
def keyAt (l : List ByteArray) : Nat → ByteArray
  | 0 => ByteArray.empty
  | i + 1 => if cm (l.getD i ByteArray.empty) then keyAt l i else cutB (l.getD i ByteArray.empty)

end Go.Proofs.Ytgdffbjkafbkcaa.HKeyPure
