/- Parts that are joined with one sign between them, those in a part behind backslashes, and split at the sign and put together again, are these parts, but for an empty one ahead; over lists of bytes. -/
import Derived.Test.YtgdffbjkafbkcaaHSplit
namespace Go.Proofs.Ytgdffbjkafbkcaa.HSplitPure
open Go.RowKit Go.Proofs.YtgdffbjkafbkcaaW.PrintWords Go.Proofs.Ytgdffbjkafbkcaa.Plain Go.Proofs.Ytgdffbjkafbkcaa.HSplit

/-- Bytes as a text. -/
def B (l : List UInt8) : ByteArray := ⟨l.toArray⟩
theorem B_size (l : List UInt8) : (B l).size = l.length := rfl
theorem B_toList (l : List UInt8) : (B l).toList = l := by rw [ByteArray.toList_eq]; rfl
theorem B_inj {l m : List UInt8} : B l = B m ↔ l = m := by rw [← toList_inj, B_toList, B_toList]
theorem B_data (s : ByteArray) : B s.data.toList = s := rfl
theorem B_append (l m : List UInt8) : B l ++ B m = B (l ++ m) := by
  apply toList_inj.1
  rw [B_toList, ByteArray.toList_eq, ByteArray.data_append]
  simp [B]
theorem B_extract (l : List UInt8) (i j : Nat) : (B l).extract i j = B ((l.drop i).take (j - i)) := by
  apply toList_inj.1
  rw [B_toList, ByteArray.toList_eq, ByteArray.data_extract]
  simp [B]

def esc (d : UInt8) : List UInt8 → List UInt8
  | [] => []
  | c :: p => if c = d then 92 :: c :: esc d p else c :: esc d p
def jn (d : UInt8) : List (List UInt8) → List UInt8
  | [] => []
  | p :: ps => d :: (esc d p ++ jn d ps)
def spA (d : UInt8) (cur : List UInt8) : List UInt8 → List (List UInt8)
  | [] => [cur]
  | c :: r => if c = d then cur :: spA d [] r else spA d (cur ++ [c]) r
def endsL (l : List UInt8) : Bool := decide (1 ≤ l.length) && decide (l.drop (l.length - 1) = [92])
def mgL (d : UInt8) (res : List (List UInt8)) (last : List UInt8) : List (List UInt8) → List (List UInt8)
  | [] => res ++ [last]
  | p :: r => if endsL last then mgL d res (last.dropLast ++ [d] ++ p) r else mgL d (res ++ [last]) p r
def mgQ (d : UInt8) (res : List (List UInt8)) (q : List UInt8) : List (List UInt8) → List (List UInt8)
  | [] => res
  | x :: xs => mgL d res (q ++ x) xs

theorem ends_snoc (l : List UInt8) (c : UInt8) : endsL (l ++ [c]) = decide (c = 92) := by simp [endsL]
theorem ends_not {l : List UInt8} (h : (92 : UInt8) ∉ l) : endsL l = false := by
  rcases List.eq_nil_or_concat l with rfl | ⟨m, c, rfl⟩
  · rfl
  · rw [List.concat_eq_append, ends_snoc, decide_eq_false_iff_not]
    rintro rfl
    exact h (by simp)
theorem spA_cons (d : UInt8) : ∀ (t cur : List UInt8), ∃ x xs, spA d cur t = (cur ++ x) :: xs
  | [], cur => ⟨[], [], by simp [spA]⟩
  | c :: r, cur => by
    rw [spA]
    split
    · exact ⟨[], _, by simp; rfl⟩
    · obtain ⟨x, xs, h⟩ := spA_cons d r (cur ++ [c])
      exact ⟨c :: x, xs, by rw [h]; simp⟩

theorem over_part (d : UInt8) (hd : (92 : UInt8) ≠ d) (t : List UInt8) (res : List (List UInt8)) : ∀ (p q cur : List UInt8), ∃ q' cur', q' ++ cur' = q ++ cur ++ p ∧ mgQ d res q (spA d cur (esc d p ++ t)) = mgQ d res q' (spA d cur' t)
  | [], q, cur => ⟨q, cur, by simp, by simp [esc]⟩
  | c :: p, q, cur => by
    by_cases hc : c = d
    · obtain ⟨q', cur', h1, h2⟩ := over_part d hd t res p (q ++ cur ++ [d]) []
      refine ⟨q', cur', by rw [h1, hc]; simp, ?_⟩
      rw [← h2, esc, if_pos hc]
      obtain ⟨x, xs, hx⟩ := spA_cons d (esc d p ++ t) []
      simp only [List.cons_append, spA, if_neg hd, if_pos hc]
      rw [hx]
      simp only [mgQ]
      rw [mgL, ← List.append_assoc, ends_snoc]
      simp
    · obtain ⟨q', cur', h1, h2⟩ := over_part d hd t res p q (cur ++ [c])
      refine ⟨q', cur', by rw [h1]; simp, ?_⟩
      rw [← h2, esc, if_neg hc, List.cons_append, spA, if_neg hc]

theorem over_all (d : UInt8) (hd : (92 : UInt8) ≠ d) : ∀ (ps : List (List UInt8)) (p : List UInt8) (res : List (List UInt8)), (92 : UInt8) ∉ p → (∀ x ∈ ps, (92 : UInt8) ∉ x) → mgQ d res [] (spA d [] (esc d p ++ jn d ps)) = res ++ p :: ps
  | [], p, res, hp, _ => by
    obtain ⟨q, cur, h1, h2⟩ := over_part d hd [] res p [] []
    rw [show esc d p ++ jn d [] = esc d p ++ [] from rfl, h2]
    simp only [spA, mgQ, mgL]
    rw [h1]; simp
  | p2 :: ps, p, res, hp, hps => by
    obtain ⟨q, cur, h1, h2⟩ := over_part d hd (jn d (p2 :: ps)) res p [] []
    have hq : q ++ cur = p := by rw [h1]; simp
    rw [h2, jn, spA, if_pos rfl]
    obtain ⟨x, xs, hx⟩ := spA_cons d (esc d p2 ++ jn d ps) []
    have ih := over_all d hd ps p2 (res ++ [p]) (hps p2 (by simp)) (fun y hy => hps y (by simp [hy]))
    rw [hx] at ih ⊢
    simp only [mgQ] at ih ⊢
    rw [hq, mgL, ends_not hp, if_neg (by simp)]
    simp only [List.nil_append] at ih ⊢
    rw [ih]
    simp

/-! ### the same of texts -/
theorem bs_B : bs = B [92] := rfl
theorem ends_B (l : List UInt8) : endsB (B l) = endsL l := by
  unfold endsB endsL
  rw [B_size, B_extract, bs_B]
  congr 1
  rw [Bool.eq_iff_iff, decide_eq_true_iff, decide_eq_true_iff, B_inj]
  rw [List.take_of_length_le (by rw [List.length_drop]; exact Nat.le_refl _)]
theorem trim_B (l : List UInt8) (h : endsL l = true) : trimB (B l) = B l.dropLast := by
  unfold trimB
  rw [ends_B, if_pos h, B_size, B_extract, List.drop_zero, Nat.sub_zero, List.dropLast_eq_take]
theorem mg_B (d : UInt8) : ∀ (ps res : List (List UInt8)) (last : List UInt8), mg (B [d]) (res.map B) (B last) (ps.map B) = (mgL d res last ps).map B
  | [], res, last => by simp [mg, mgL]
  | p :: ps, res, last => by
    rw [List.map_cons, mg, mgL, ends_B]
    by_cases h : endsL last = true
    · rw [if_pos h, if_pos h, trim_B _ h, B_append, B_append, mg_B]
    · rw [if_neg h, if_neg h]
      have := mg_B d ps (res ++ [last]) p
      rw [List.map_append] at this
      exact this
theorem dropFirst_map (l : List (List UInt8)) : dropFirst (l.map B) = (if 1 < l.length ∧ l.getD 0 [] = [] then l.drop 1 else l).map B := by
  unfold dropFirst
  have e : (l.map B).getD 0 ByteArray.empty = ByteArray.empty ↔ l.getD 0 [] = [] := by
    cases l with
    | nil => exact ⟨fun _ => rfl, fun _ => rfl⟩
    | cons a r =>
      show (B a = ByteArray.empty) ↔ (a = [])
      rw [show ByteArray.empty = B [] from rfl, B_inj]
  by_cases h : 1 < l.length ∧ l.getD 0 [] = []
  · rw [if_pos h, if_pos ⟨by rw [List.length_map]; exact h.1, e.2 h.2⟩, List.map_drop]
  · rw [if_neg h, if_neg (fun h' => h ⟨by have := h'.1; rwa [List.length_map] at this, e.1 h'.2⟩)]
theorem path_B (d : UInt8) (hd : (92 : UInt8) ≠ d) (p : List UInt8) (ps : List (List UInt8)) (hp : (92 : UInt8) ∉ p) (hps : ∀ x ∈ ps, (92 : UInt8) ∉ x) :
    pathB (B [d]) ((spA d [] (esc d p ++ jn d ps)).map B) = dropFirst ((p :: ps).map B) := by
  have main : ∀ (p : List UInt8) (ps : List (List UInt8)), (92 : UInt8) ∉ p → (∀ x ∈ ps, (92 : UInt8) ∉ x) → mg (B [d]) [] (((spA d [] (esc d p ++ jn d ps)).map B).getD 0 ByteArray.empty) (((spA d [] (esc d p ++ jn d ps)).map B).drop 1) = (p :: ps).map B := by
    intro p ps hp hps
    have h := over_all d hd ps p [] hp hps
    obtain ⟨x, xs, hx⟩ := spA_cons d (esc d p ++ jn d ps) []
    rw [hx] at h ⊢
    simp only [mgQ, List.nil_append] at h
    simp only [List.nil_append]
    show mg (B [d]) ([].map B) (B x) (xs.map B) = _
    rw [mg_B, h]
  unfold pathB
  rw [dropFirst_map, dropFirst_map]
  by_cases h0 : p = []
  · subst h0
    cases ps with
    | nil => exact main [] [] hp hps
    | cons p2 ps =>
      have hP : spA d [] (esc d [] ++ jn d (p2 :: ps)) = [] :: spA d [] (esc d p2 ++ jn d ps) := by
        simp [esc, jn, spA]
      rw [hP, if_pos (by
        obtain ⟨x, xs, hx⟩ := spA_cons d (esc d p2 ++ jn d ps) []
        rw [hx]; simp), if_pos (by simp)]
      exact main p2 ps (hps p2 (by simp)) (fun y hy => hps y (by simp [hy]))
  · have hA : ¬ (1 < (spA d [] (esc d p ++ jn d ps)).length ∧ (spA d [] (esc d p ++ jn d ps)).getD 0 [] = []) := by
      rintro ⟨_, h⟩
      cases p with
      | nil => exact h0 rfl
      | cons c p =>
        by_cases hc : c = d
        · rw [esc, if_pos hc, List.cons_append, spA, if_neg hd, List.cons_append, List.nil_append, spA, if_pos hc] at h
          simp at h
        · obtain ⟨x, xs, hx⟩ := spA_cons d (esc d p ++ jn d ps) ([] ++ [c])
          rw [esc, if_neg hc, List.cons_append, spA, if_neg hc, hx] at h
          simp at h
    rw [if_neg hA, if_neg (by simp [h0])]
    exact main p ps hp hps

/-! ### what the printed functions come to -/
def idx (d : UInt8) (j : Nat) : List UInt8 → Option Nat
  | [] => none
  | c :: r => if c = d then some j else idx d (j + 1) r
theorem idx_none {d : UInt8} : ∀ {l : List UInt8} {j : Nat} (cur : List UInt8), idx d j l = none → spA d cur l = [cur ++ l]
  | [], _, cur, _ => by simp [spA]
  | c :: r, j, cur, h => by
    rw [idx] at h
    split at h
    · cases h
    · rename_i hc
      rw [spA, if_neg hc, idx_none (cur ++ [c]) h]; simp
theorem idx_some {d : UInt8} : ∀ {l : List UInt8} {j n : Nat} (cur : List UInt8), idx d j l = some n → j ≤ n ∧ n - j < l.length ∧ spA d cur l = (cur ++ l.take (n - j)) :: spA d [] (l.drop (n - j + 1))
  | [], _, _, cur, h => by simp [idx] at h
  | c :: r, j, n, cur, h => by
    rw [idx] at h
    split at h
    · rename_i hc
      injection h with h
      subst h
      refine ⟨Nat.le_refl _, by simp, ?_⟩
      rw [spA, if_pos hc]; simp
    · rename_i hc
      obtain ⟨h1, h2, h3⟩ := idx_some (cur ++ [c]) h
      have e : n - j = (n - (j + 1)) + 1 := by omega
      refine ⟨by omega, by simp; omega, ?_⟩
      rw [spA, if_neg hc, h3, e]; simp

def idxI : Option Nat → Int
  | none => -1
  | some n => n

open Go.Proofs.Ytgdffbjkafbkcaa.PzzSplit in
theorem index_ev (d : UInt8) (l : List UInt8) (hl : l.length ≤ 1000000) : ∀ (r pre : List UInt8), pre ++ r = l → Ev (fun k => utils_zzIndex.l0 k (B l) (B [d]) (pre.length : Int)) (idxI (idx d pre.length r))
  | [], pre, h => by
    have hlen := congrArg List.length h
    rw [List.append_nil] at hlen
    have hw : wrap64 ((pre.length : Int) + ((B [d]).size : Int)) = ((pre.length + 1 : Nat) : Int) := wrap_nat (by omega)
    refine Ev.step (fun k => utils_zzIndex.l0.eq_2 ..) ?_
    rw [hw, B_size]
    exact Ev.neg (by omega) (Ev.now _)
  | c :: r, pre, h => by
    have hlen := congrArg List.length h
    rw [List.length_append, List.length_cons] at hlen
    have hw : wrap64 ((pre.length : Int) + ((B [d]).size : Int)) = ((pre.length + 1 : Nat) : Int) := wrap_nat (by omega)
    have hw2 : wrap64 ((pre.length : Int) + 1) = ((pre.length + 1 : Nat) : Int) := wrap_nat (by omega)
    refine Ev.step (fun k => utils_zzIndex.l0.eq_2 ..) ?_
    rw [hw, hw2, B_size]
    refine Ev.pos (by omega) (Ev.pos (by omega) (Ev.pos (by omega) ?_))
    have ec : ((B l).extract ((pre.length : Int)).toNat (((pre.length + 1 : Nat) : Int)).toNat).toList = [c] := by
      rw [Int.toNat_natCast, Int.toNat_natCast, B_extract, B_toList, ← h]
      simp
    rw [ec, B_toList, idx]
    by_cases hc : c = d
    · rw [if_pos hc]
      exact Ev.pos (by rw [hc]) (Ev.now _)
    · rw [if_neg hc]
      refine Ev.neg (by simpa using hc) ?_
      have := index_ev d l hl r (pre ++ [c]) (by rw [← h]; simp)
      rw [List.length_append] at this
      exact this

open Go.Proofs.Ytgdffbjkafbkcaa.PzzSplit in
theorem split_ev (d : UInt8) : ∀ (n : Nat) (l : List UInt8) (out : List ByteArray), l.length ≤ n → n ≤ 1000000 → out.length + l.length ≤ 1000000 → Ev (fun k => utils_zzSplit.l0 k (B l) (B [d]) out) (out ++ (spA d [] l).map B) := by
  intro n
  induction n with
  | zero =>
    intro l out h0 _ h2
    obtain rfl : l = [] := List.eq_nil_of_length_eq_zero (by omega)
    refine Ev.step (fun k => utils_zzSplit.l0.eq_2 ..) ?_
    exact Ev.bind (f := fun k t101 => if t101 < 0 then _ else _) (index_ev d [] (by simp) [] [] rfl) (Ev.pos (by simp [idx, idxI]) (Ev.pos (by omega) (Ev.now _)))
  | succ n ih =>
    intro l out h0 h1 h2
    refine Ev.step (fun k => utils_zzSplit.l0.eq_2 ..) ?_
    have hi := index_ev d l (by omega) l [] rfl
    cases he : idx d 0 l with
    | none =>
      rw [List.length_nil, he] at hi
      rw [idx_none [] he]
      exact Ev.bind (f := fun k t101 => if t101 < 0 then _ else _) hi (Ev.pos (by simp [idxI]) (Ev.pos (by omega) (Ev.now _)))
    | some m =>
      rw [List.length_nil, he] at hi
      obtain ⟨_, h3, h4⟩ := idx_some [] he
      rw [Nat.sub_zero] at h3 h4
      have hw : wrap64 (idxI (some m) + ((B [d]).size : Int)) = ((m + 1 : Nat) : Int) := wrap_nat (by omega)
      refine Ev.bind (f := fun k t101 => if t101 < 0 then _ else _) hi ?_
      rw [hw]
      refine Ev.neg (by simp [idxI]) (Ev.pos (by simp [idxI]) (Ev.pos (by simp [idxI, B_size]; omega) (Ev.pos (by omega) (Ev.pos (by omega) (Ev.pos (by rw [B_size]; omega) ?_)))))
      rw [show (idxI (some m)).toNat = m from Int.toNat_natCast m, Int.toNat_natCast, B_extract, B_extract, B_size]
      have := ih (l.drop (m + 1)) (out ++ [B (l.take m)]) (by rw [List.length_drop]; omega) (by omega) (by rw [List.length_append, List.length_drop]; simp; omega)
      rw [h4]
      simp only [List.drop_zero, Nat.sub_zero, List.nil_append, List.map_cons]
      rw [List.append_assoc] at this
      rw [List.take_of_length_le (l := l.drop (m + 1)) (by rw [List.length_drop]; exact Nat.le_refl _)]
      exact this

end Go.Proofs.Ytgdffbjkafbkcaa.HSplitPure
