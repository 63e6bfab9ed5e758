/- utils.SmarterPathSplitter over the parts of a path whose elements are words, or words in brackets. -/
import Derived.Test.YtgdffbjkafbkcaaHSmart
namespace Go.Proofs.Ytgdffbjkafbkcaa.HSmart
open Go.RowKit Go.Proofs.YtgdffbjkafbkcaaW.PrintWords Go.Proofs.Ytgdffbjkafbkcaa.Plain Go.Proofs.Ytgdffbjkafbkcaa.HSplit Go.Proofs.Ytgdffbjkafbkcaa.HSplitPure Go.Proofs.Ytgdffbjkafbkcaa.HJoin Go.Proofs.Ytgdffbjkafbkcaa.GSmart

/-- An element: its kind and its word. -/
abbrev I := Int × List UInt8
/-- Its parts. -/
def pc (x : I) : List (List UInt8) := if x.1 = 0 then [x.2] else if x.1 = 1 then [91 :: x.2, [97], [98, 93]] else [[91, 110, 97, 109, 101, 61] ++ x.2, [99, 93]]
/-- What is told of it. -/
def wt (x : I) : List UInt8 := if x.1 = 0 then x.2 else if x.1 = 1 then x.2 ++ [46, 97, 46, 98] else [91, 110, 97, 109, 101, 61] ++ x.2 ++ [46, 99, 93]
def pcs (l : List I) : List (List UInt8) := l.flatMap pc
theorem pcs_cons (x : I) (l : List I) : pcs (x :: l) = pc x ++ pcs l := rfl
theorem pc_0 (k : Int) (s : List UInt8) (h : k = 0) : pc (k, s) = [s] := if_pos h
theorem pc_1 (k : Int) (s : List UInt8) (h0 : ¬ k = 0) (h : k = 1) : pc (k, s) = [91 :: s, [97], [98, 93]] := (if_neg h0).trans (if_pos h)
theorem pc_2 (k : Int) (s : List UInt8) (h0 : ¬ k = 0) (h : ¬ k = 1) : pc (k, s) = [[91, 110, 97, 109, 101, 61] ++ s, [99, 93]] := (if_neg h0).trans (if_neg h)
theorem wt_0 (k : Int) (s : List UInt8) (h : k = 0) : wt (k, s) = s := if_pos h
theorem wt_1 (k : Int) (s : List UInt8) (h0 : ¬ k = 0) (h : k = 1) : wt (k, s) = s ++ [46, 97, 46, 98] := (if_neg h0).trans (if_pos h)
theorem wt_2 (k : Int) (s : List UInt8) (h0 : ¬ k = 0) (h : ¬ k = 1) : wt (k, s) = [91, 110, 97, 109, 101, 61] ++ s ++ [46, 99, 93] := (if_neg h0).trans (if_neg h)

theorem Word.no {p : List UInt8} (h : Word p) {c : UInt8} (hc : (c.toNat : Int) < 97) : c ∉ p := fun hm => by have := (h.low c hm).1; omega
theorem Word.snoc {p : List UInt8} (h : Word p) : ∃ m c, p = m ++ [c] ∧ ¬ c = 93 ∧ m.length ≤ 6 := by
  rcases List.eq_nil_or_concat p with e | ⟨m, c, e⟩
  · exact absurd e h.one
  · rw [List.concat_eq_append] at e
    have h6 := h.six
    refine ⟨m, c, e, ?_, by rw [e, List.length_append] at h6; omega⟩
    rintro rfl
    exact h.no (c := 93) (by decide) (by rw [e]; simp)
theorem Word.cons {p : List UInt8} (h : Word p) : ∃ c m, p = c :: m ∧ 97 ≤ (c.toNat : Int) ∧ ¬ c = 91 ∧ m.length ≤ 6 := by
  cases p with
  | nil => exact absurd rfl h.one
  | cons c m =>
    have h6 := h.six
    rw [List.length_cons] at h6
    refine ⟨c, m, rfl, (h.low c (by simp)).1, ?_, by omega⟩
    rintro rfl
    exact h.no (c := 91) (by decide) (by simp)

theorem rd_pre (pre r : List (List UInt8)) (p : List UInt8) : rdOf ByteArray.empty ((pre ++ p :: r).map B) (pre.length : Int) = B p := by
  rw [rdOf_nat _ _ _ (by simp), List.getElem_map]
  simp

theorem l1_step (pre r : List (List UInt8)) (p q q' : List UInt8) (c : UInt8) (x5 x9 : List ByteArray) (R : List ByteArray) (hq : q = q' ++ [c]) (hq' : q'.length ≤ 1000000) (hP : (pre ++ p :: q :: r).length ≤ 1000) (h9 : x9.length ≤ 1000)
    (h : Ev (fun k => if c = 93 then utils_SmarterPathSplitter.j3 k (B [46]) x5 ((pre ++ p :: q :: r).map B) (((pre ++ [p]).length : Nat) : Int) (x9 ++ [B q]) else utils_SmarterPathSplitter.l1 k (B [46]) x5 ((pre ++ p :: q :: r).map B) (((pre ++ [p]).length : Nat) : Int) (x9 ++ [B q])) R) :
    Ev (fun k => utils_SmarterPathSplitter.l1 k (B [46]) x5 ((pre ++ p :: q :: r).map B) (pre.length : Int) x9) R := by
  have hlen : (pre ++ p :: q :: r).length = pre.length + 2 + r.length := by simp; omega
  have hw : wrap64 ((pre.length : Int) + 1) = (((pre ++ [p]).length : Nat) : Int) := by rw [wrap_nat (by omega), List.length_append]; rfl
  have hw2 : wrap64 (((((pre ++ p :: q :: r).map B).length : Nat) : Int) - 1) = ((pre.length + 1 + r.length : Nat) : Int) := by
    rw [List.length_map, hlen]
    have e : ((pre.length + 2 + r.length : Nat) : Int) - 1 = ((pre.length + 1 + r.length : Nat) : Int) := by omega
    rw [e]
    exact wrap_id (by omega) (by omega)
  have hr : rdOf ByteArray.empty ((pre ++ p :: q :: r).map B) (((pre ++ [p]).length : Nat) : Int) = B q := by
    have := rd_pre (pre ++ [p]) r q
    simpa using this
  have hs : strings_HasSuffix.f (B q) (⟨#[93]⟩ : ByteArray) = some (decide (c = 93)) := by rw [hq]; exact suf_f c 93 q' hq'
  have hl1 : (pre ++ [p]).length = pre.length + 1 := by simp
  refine Ev.step (fun k => utils_SmarterPathSplitter.l1.eq_2 ..) ?_
  rw [hw, hw2, hr]
  refine Ev.pos (by omega) (Ev.pos (by omega) (Ev.pos (by rw [List.length_map, hlen, hl1]; omega) (Ev.pos (by omega) ?_)))
  simp only [hs, Option.bind_some, decide_eq_true_eq]
  exact h

theorem j3_step (pre r : List (List UInt8)) (p : List UInt8) (acc xs : List (List UInt8)) (R : List ByteArray) (hP : (pre ++ p :: r).length ≤ 1000) (hx : xs.length ≤ 1000) (hz : (Lib.join xs [46]).length ≤ 1000) (ha : acc.length ≤ 1000) (w : List UInt8)
    (ht : (61 ∈ Lib.join xs [46] ∧ w = Lib.join xs [46]) ∨ (61 ∉ Lib.join xs [46] ∧ Ev (fun k => utils_zzTrimBrackets.f k (B (Lib.join xs [46]))) (B w)))
    (h : Ev (fun k => utils_SmarterPathSplitter.l0 k (B [46]) ((acc ++ [w]).map B) ((pre ++ p :: r).map B) (((pre ++ [p]).length : Nat) : Int)) R) :
    Ev (fun k => utils_SmarterPathSplitter.j3 k (B [46]) (acc.map B) ((pre ++ p :: r).map B) (pre.length : Int) (xs.map B)) R := by
  have hlen : (pre ++ p :: r).length = pre.length + 1 + r.length := by simp; omega
  have hw : wrap64 ((pre.length : Int) + 1) = (((pre ++ [p]).length : Nat) : Int) := by rw [wrap_nat (by omega), List.length_append]; rfl
  have hj : strings_Join.f (xs.map B) (B [46]) = some (B (Lib.join xs [46])) := join_f xs 46 (by omega) (by omega)
  have ea : acc.map B ++ [B w] = (acc ++ [w]).map B := by simp
  have hi : Ev (fun k => utils_zzIndex.f k (B (Lib.join xs [46])) (⟨#[61]⟩ : ByteArray)) (idxI (idx 61 0 (Lib.join xs [46]))) := index_ev 61 (Lib.join xs [46]) (by omega) (Lib.join xs [46]) [] rfl
  refine Ev.step (fun k => utils_SmarterPathSplitter.j3.eq_2 ..) ?_
  rw [hw]
  simp only [hj, Option.bind_some]
  refine Ev.bind hi ?_
  rcases ht with ⟨h61, rfl⟩ | ⟨h61, ht⟩
  · refine Ev.pos (idx_in 0 h61) (Ev.pos (by rw [List.length_map]; omega) ?_)
    rw [ea]
    exact h
  · refine Ev.neg (by rw [idx_not 0 h61]; simp [idxI]) (Ev.bind ht (Ev.pos (by rw [List.length_map]; omega) ?_))
    rw [ea]
    exact h

theorem smart_ev : ∀ (its : List I) (pre acc : List (List UInt8)), (∀ x ∈ its, Word x.2) → (pre ++ pcs its).length ≤ 900 → acc.length + its.length ≤ 900 →
    Ev (fun k => utils_SmarterPathSplitter.l0 k (B [46]) (acc.map B) ((pre ++ pcs its).map B) (pre.length : Int)) ((acc ++ its.map wt).map B)
  | [], pre, acc, _, _, _ => by
    refine Ev.step (fun k => utils_SmarterPathSplitter.l0.eq_2 ..) (Ev.neg (by simp [pcs]) ?_)
    rw [List.map_nil, List.append_nil]
    exact Ev.now _
  | (k, s) :: its, pre, acc, hw, hP, ha => by
    have hs : Word s := hw (k, s) (by simp)
    have hw' : ∀ x ∈ its, Word x.2 := fun x hx => hw x (by simp [hx])
    rw [List.length_cons] at ha
    rw [pcs_cons] at hP ⊢
    have hsix := hs.six
    by_cases h0 : k = 0
    · rw [pc_0 k s h0, List.singleton_append] at hP ⊢
      have hlen : (pre ++ s :: pcs its).length = pre.length + 1 + (pcs its).length := by simp; omega
      obtain ⟨c, m, e, _, h91, _⟩ := hs.cons
      have hp : strings_HasPrefix.f (B s) (⟨#[91]⟩ : ByteArray) = some false := by rw [e]; exact (pre_f c 91 m).trans (by simp [h91])
      have hwr : wrap64 ((pre.length : Int) + 1) = (((pre ++ [s]).length : Nat) : Int) := by rw [wrap_nat (by omega), List.length_append]; rfl
      refine Ev.step (fun k => utils_SmarterPathSplitter.l0.eq_2 ..) (Ev.pos (by rw [List.length_map, hlen]; omega) (Ev.pos (by omega) ?_))
      rw [rd_pre]
      simp only [hp, Option.bind_some]
      refine Ev.neg (by simp) (Ev.step (fun k => utils_SmarterPathSplitter.j1.eq_2 ..) (Ev.neg (by simp) (Ev.pos (by rw [List.length_map]; omega) ?_)))
      have ih := smart_ev its (pre ++ [s]) (acc ++ [s]) hw' (by simpa using hP) (by simp; omega)
      rw [hwr]
      simpa [wt_0 k s h0] using ih
    · obtain ⟨m, c, e, h93, hm⟩ := hs.snoc
      by_cases h1 : k = 1
      · rw [pc_1 k s h0 h1] at hP ⊢
        have hlen : (pre ++ ([91 :: s, [97], [98, 93]] ++ pcs its)).length = pre.length + 3 + (pcs its).length := by simp; omega
        have hp : strings_HasPrefix.f (B (91 :: s)) (⟨#[91]⟩ : ByteArray) = some true := (pre_f 91 91 s).trans (by simp)
        have hf : strings_HasSuffix.f (B (91 :: s)) (⟨#[93]⟩ : ByteArray) = some false := by rw [e]; exact (suf_f c 93 (91 :: m) (by rw [List.length_cons]; omega)).trans (by simp [h93])
        refine Ev.step (fun k => utils_SmarterPathSplitter.l0.eq_2 ..) (Ev.pos (by rw [List.length_map, hlen]; omega) (Ev.pos (by omega) ?_))
        rw [show pre ++ ([91 :: s, [97], [98, 93]] ++ pcs its) = pre ++ (91 :: s) :: ([97] :: [98, 93] :: pcs its) from rfl, rd_pre]
        simp only [hp, hf, Option.bind_some]
        refine Ev.pos trivial (Ev.step (fun k => utils_SmarterPathSplitter.j1.eq_2 ..) (Ev.pos rfl ?_))
        refine l1_step pre ([98, 93] :: pcs its) (91 :: s) [97] [] 97 _ _ _ rfl (by simp) (by simpa using Nat.le_trans hP (by omega)) (by simp) (Ev.neg (by decide) ?_)
        have h2 := l1_step (pre ++ [91 :: s]) (pcs its) [97] [98, 93] [98] 93 (acc.map B) ([B (91 :: s)] ++ [B [97]]) ((acc ++ ((k, s) :: its).map wt).map B) rfl (by simp) (by simpa using Nat.le_trans hP (by omega)) (by simp) (Ev.pos rfl ?_)
        · simpa using h2
        · have hjn : Lib.join [91 :: s, [97], [98, 93]] [46] = [91] ++ (s ++ [46, 97, 46, 98]) ++ [93] := by simp [Lib.join, List.intercalate]
          have ih := smart_ev its (pre ++ [91 :: s, [97], [98, 93]]) (acc ++ [s ++ [46, 97, 46, 98]]) hw' (by simpa using hP) (by simp; omega)
          have h3 := j3_step (pre ++ [91 :: s] ++ [[97]]) (pcs its) [98, 93] acc [91 :: s, [97], [98, 93]] ((acc ++ ((k, s) :: its).map wt).map B) (by simpa using Nat.le_trans hP (by omega)) (by simp) (by rw [hjn]; simp; omega) (by omega) (s ++ [46, 97, 46, 98])
            (.inr ⟨by
              rw [hjn]
              have := hs.no (c := 61) (by decide)
              simp [this], by
              rw [hjn]
              obtain ⟨c, m, e, hc, _, hm⟩ := hs.cons
              have e2 : s ++ [46, 97, 46, 98] = c :: (m ++ [46, 97, 46]) ++ [98] := by rw [e]; simp
              rw [e2]
              exact trim_ev c 98 (m ++ [46, 97, 46]) (by simp; omega) (by omega) (by omega) (by decide) (by decide)⟩)
            (by simpa [wt_1 k s h0 h1] using ih)
          simpa using h3
      · rw [pc_2 k s h0 h1] at hP ⊢
        have hlen : (pre ++ ([[91, 110, 97, 109, 101, 61] ++ s, [99, 93]] ++ pcs its)).length = pre.length + 2 + (pcs its).length := by simp; omega
        have hp : strings_HasPrefix.f (B ([91, 110, 97, 109, 101, 61] ++ s)) (⟨#[91]⟩ : ByteArray) = some true := by
          have h := pre_f 91 91 ([110, 97, 109, 101, 61] ++ s)
          rw [decide_eq_true rfl] at h
          exact h
        have hf : strings_HasSuffix.f (B ([91, 110, 97, 109, 101, 61] ++ s)) (⟨#[93]⟩ : ByteArray) = some false := by rw [e, ← List.append_assoc]; exact (suf_f c 93 ([91, 110, 97, 109, 101, 61] ++ m) (by simp; omega)).trans (by simp [h93])
        refine Ev.step (fun k => utils_SmarterPathSplitter.l0.eq_2 ..) (Ev.pos (by rw [List.length_map, hlen]; omega) (Ev.pos (by omega) ?_))
        rw [show pre ++ ([[91, 110, 97, 109, 101, 61] ++ s, [99, 93]] ++ pcs its) = pre ++ ([91, 110, 97, 109, 101, 61] ++ s) :: ([99, 93] :: pcs its) from rfl, rd_pre]
        simp only [hp, hf, Option.bind_some]
        refine Ev.pos trivial (Ev.step (fun k => utils_SmarterPathSplitter.j1.eq_2 ..) (Ev.pos rfl ?_))
        refine l1_step pre (pcs its) ([91, 110, 97, 109, 101, 61] ++ s) [99, 93] [99] 93 _ _ _ rfl (by simp) (by simpa using Nat.le_trans hP (by omega)) (by simp) (Ev.pos rfl ?_)
        have hjn : Lib.join [[91, 110, 97, 109, 101, 61] ++ s, [99, 93]] [46] = [91, 110, 97, 109, 101, 61] ++ s ++ [46, 99, 93] := by simp [Lib.join, List.intercalate]
        have ih := smart_ev its (pre ++ [[91, 110, 97, 109, 101, 61] ++ s, [99, 93]]) (acc ++ [[91, 110, 97, 109, 101, 61] ++ s ++ [46, 99, 93]]) hw' (by simpa using hP) (by simp; omega)
        have h3 := j3_step (pre ++ [[91, 110, 97, 109, 101, 61] ++ s]) (pcs its) [99, 93] acc [[91, 110, 97, 109, 101, 61] ++ s, [99, 93]] ((acc ++ ((k, s) :: its).map wt).map B) (by simpa using Nat.le_trans hP (by omega)) (by simp) (by rw [hjn]; simp; omega) (by omega) ([91, 110, 97, 109, 101, 61] ++ s ++ [46, 99, 93])
          (.inl ⟨by rw [hjn]; simp, hjn.symm⟩)
          (by simpa [wt_2 k s h0 h1] using ih)
        simpa using h3
end Go.Proofs.Ytgdffbjkafbkcaa.HSmart
