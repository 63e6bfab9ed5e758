/- Lists of as many texts as another one has: what kyLists comes to; whether lists of lists are within bounds is told. -/
import Derived.Test.YtefejcggkkmhaaaQvFits4
import Derived.Test.YtefejcggkkmhaaaQvKyCut
namespace Go.Proofs.Ytefejcggkkmhaaa.QvLists
open Go.RowKit Go.Proofs.YtefejcggkkmhaaaW.PrintWords Go.Proofs.Ytefejcggkkmhaaa.PFnValidKeys Go.Proofs.Ytefejcggkkmhaaa.Plain Go.Proofs.Ytefejcggkkmhaaa.QvKyCut

theorem rd_at {ll : List (List ByteArray)} {j : Nat} (h : j < ll.length) : rd_L1 ll (j : Int) = ll[j] := by
  unfold rd_L1
  rw [Int.toNat_natCast, List.getD_eq_getElem?_getD, List.getElem?_eq_getElem h]
  rfl
theorem fits13 (ll : List (List ByteArray)) (h : ll.length ≤ 9223372036854775806) (hl : ∀ l ∈ ll, l.length ≤ 9223372036854775806) : ∃ b, Ev (fun k => laws_zzFits13.f k ll) b := by
  unfold laws_zzFits13.f
  by_cases hb : (ll.length : Int) > 2147483647
  · exact ⟨false, Ev.pos hb (Ev.now _)⟩
  · have main : ∀ d j, ll.length - j = d → j ≤ ll.length → ∃ b, Ev (fun k => laws_zzFits13.l0 k ll (ll.length : Int) (j : Int)) b := by
      intro d
      induction d with
      | zero =>
        intro j hd hj
        refine ⟨true, Ev.step (fun k => laws_zzFits13.l0.eq_2 ..) (Ev.neg (by omega) (Ev.now _))⟩
      | succ d ih =>
        intro j hd hj
        have hlt : j < ll.length := by omega
        obtain ⟨b, hb⟩ := ih (j + 1) (by omega) (by omega)
        obtain ⟨t, ht⟩ := QvFits4.fits4 ll[j] (hl _ (List.getElem_mem hlt))
        have hw := wrap_nat (j := j) (by omega)
        cases t with
        | false =>
          refine ⟨false, Ev.step (fun k => laws_zzFits13.l0.eq_2 ..) (Ev.pos (by omega) (Ev.pos (by omega) (Ev.pos (by omega) ?_)))⟩
          rw [rd_at hlt]
          exact Ev.bind (f := fun k t => if t = true then _ else _) ht (Ev.neg (by simp) (Ev.now _))
        | true =>
          refine ⟨b, Ev.step (fun k => laws_zzFits13.l0.eq_2 ..) (Ev.pos (by omega) (Ev.pos (by omega) (Ev.pos (by omega) ?_)))⟩
          rw [rd_at hlt]
          refine Ev.bind (f := fun k t => if t = true then _ else _) ht (Ev.pos rfl ?_)
          rw [hw]
          exact hb
    obtain ⟨b, hb2⟩ := main ll.length 0 (by omega) (by omega)
    exact ⟨b, Ev.neg hb hb2⟩

theorem lists (ll : List (List ByteArray)) (n : Nat) (hn : n ≤ 5) (hll : ll.length ≤ 9223372036854775806) (hl : ∀ l ∈ ll, l.length ≤ 9223372036854775806) : ∃ r, Ev (fun k => laws_kyLists.f k ll (n : Int)) r ∧ r.length = min ll.length 6 ∧ ∀ x ∈ r, x.length = n := by
  unfold laws_kyLists.f
  have fill : ∀ (e : Nat) (x : List ByteArray) (acc : List (List ByteArray)) (j : Nat) (r : List (List ByteArray)), n - x.length = e → x.length ≤ n → acc.length ≤ 6 → (∀ y : List ByteArray, y.length = n → ∃ r, Ev (fun k => laws_kyLists.l0 k ll (n : Int) (acc ++ [y]) (wrap64 ((j : Int) + 1))) r ∧ r.length = min ll.length 6 ∧ ∀ x ∈ r, x.length = n) →
      ∃ r, Ev (fun k => laws_kyLists.l1 k ll (n : Int) acc (j : Int) x) r ∧ r.length = min ll.length 6 ∧ ∀ x ∈ r, x.length = n := by
    intro e
    induction e with
    | zero =>
      intro x acc j r he hx ha hk
      obtain ⟨r, h1, h2⟩ := hk x (by omega)
      exact ⟨r, Ev.step (fun k => laws_kyLists.l1.eq_2 ..) (Ev.neg (by omega) (Ev.pos (by omega) h1)), h2⟩
    | succ e ih =>
      intro x acc j r he hx ha hk
      obtain ⟨r, h1, h2⟩ := ih (x ++ [⟨#[]⟩]) acc j r (by simp; omega) (by simp; omega) ha hk
      exact ⟨r, Ev.step (fun k => laws_kyLists.l1.eq_2 ..) (Ev.pos (by omega) (Ev.pos (by omega) h1)), h2⟩
  have main : ∀ d j acc, min ll.length 6 - j = d → j ≤ min ll.length 6 → acc.length = j → (∀ x ∈ acc, x.length = n) → ∃ r, Ev (fun k => laws_kyLists.l0 k ll (n : Int) acc (j : Int)) r ∧ r.length = min ll.length 6 ∧ ∀ x ∈ r, x.length = n := by
    intro d
    induction d with
    | zero =>
      intro j acc hd hj ha hx
      refine ⟨acc, Ev.step (fun k => laws_kyLists.l0.eq_2 ..) ?_, by omega, hx⟩
      by_cases h : (j : Int) < (ll.length : Int)
      · refine Ev.pos h (Ev.step (fun k => laws_kyLists.j1.eq_2 ..) (Ev.neg ?_ (Ev.now _)))
        have : ¬ ((j : Int) < 6) := by omega
        simp [this]
      · exact Ev.neg h (Ev.step (fun k => laws_kyLists.j1.eq_2 ..) (Ev.neg (by simp) (Ev.now _)))
    | succ d ih =>
      intro j acc hd hj ha hx
      have hlt : j < ll.length := by omega
      have hj6 : j < 6 := by omega
      have hc := kyCut ll[j] n (by omega) (hl _ (List.getElem_mem hlt))
      have hcl : ((ll[j].take n).map cut40).length ≤ n := by simp; omega
      obtain ⟨r, h1, h2⟩ := fill _ ((ll[j].take n).map cut40) acc j [] rfl hcl (by omega) fun y hy => by
        rw [wrap_nat (by omega)]
        exact ih (j + 1) (acc ++ [y]) (by omega) (by omega) (by simp [ha]) (fun x hx2 => by
          rcases List.mem_append.1 hx2 with h | h
          · exact hx x h
          · rw [List.mem_singleton.1 h]; exact hy)
      refine ⟨r, Ev.step (fun k => laws_kyLists.l0.eq_2 ..) (Ev.pos (by omega) (Ev.step (fun k => laws_kyLists.j1.eq_2 ..) (Ev.pos (by simp; omega) (Ev.pos (by omega) (Ev.pos (by omega) ?_))))), h2⟩
      rw [rd_at hlt]
      exact Ev.bind (f := fun k t => laws_kyLists.l1 k ll (n : Int) acc (j : Int) t) hc h1
  exact main _ 0 [] rfl (by omega) rfl (fun x hx => by cases hx)

end Go.Proofs.Ytefejcggkkmhaaa.QvLists
