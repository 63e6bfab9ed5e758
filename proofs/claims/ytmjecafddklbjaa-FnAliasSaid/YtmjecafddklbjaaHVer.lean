/- A text that is a version by the reference is a plain one by the thin package: three numbers with points between. -/
import Derived.Test.YtmjecafddklbjaaGWantsx
import Derived.Test.YtmjecafddklbjaaPlain
namespace Go.Proofs.Ytmjecafddklbjaa.HVer
open Go.RowKit Go.Proofs.YtmjecafddklbjaaW.PrintWords Go.Proofs.Ytmjecafddklbjaa.Plain Go.Proofs.Ytmjecafddklbjaa.GWants

/-- Bytes as a text. -/
def B (l : List UInt8) : ByteArray := ⟨l.toArray⟩
theorem B_size (l : List UInt8) : (B l).size = l.length := rfl
theorem B_toList (l : List UInt8) : (B l).toList = l := by rw [ByteArray.toList_eq]; rfl
theorem B_extract (l : List UInt8) (i j : Nat) : (B l).extract i j = B ((l.drop i).take (j - i)) := by
  apply toList_inj.1
  rw [B_toList, ByteArray.toList_eq, ByteArray.data_extract]
  simp [B]
theorem B_get (l : List UInt8) (i : Nat) (h : i < (B l).size) : (B l)[i]'h = l[i]'h := rfl
theorem bt_B (pre r : List UInt8) (c : UInt8) : bt (B (pre ++ c :: r)) (pre.length : Int) = (c.toNat : Int) := by
  have h : (pre.length : Int).toNat < (B (pre ++ c :: r)).size := by rw [B_size, Int.toNat_natCast]; simp
  rw [← bt_at _ _ h, B_get]
  simp
theorem nat_inj {c d : UInt8} : ((c.toNat : Int) = (d.toNat : Int)) ↔ c = d := by
  constructor
  · intro h
    exact UInt8.toNat_inj.1 (by omega)
  · rintro rfl; rfl

def sp (cur : List UInt8) : List UInt8 → List (List UInt8)
  | [] => [cur]
  | c :: r => if c = 46 then cur :: sp [] r else sp (cur ++ [c]) r
theorem names_ev (l : List UInt8) (hl : l.length ≤ 3000000000) : ∀ (r pre0 cur : List UInt8) (out : List ByteArray), pre0 ++ cur ++ r = l → out.length + r.length ≤ 3000000001 →
    Ev (fun k => spec_Names.l0 k (B l) out (pre0.length : Int) ((pre0 ++ cur).length : Int)) (out ++ (sp cur r).map B)
  | [], pre0, cur, out, h, ho => by
    have hlen := congrArg List.length h
    rw [List.append_nil] at hlen
    have hp : pre0.length ≤ (pre0 ++ cur).length := by rw [List.length_append]; omega
    refine Ev.step (fun k => spec_Names.l0.eq_2 ..) (Ev.pos (by rw [B_size]; omega) (Ev.pos (by rw [B_size]; omega) (Ev.pos (by omega) (Ev.pos (by omega) (Ev.pos (by simp at ho; omega) ?_)))))
    rw [Int.toNat_natCast, Int.toNat_natCast, B_extract, wrap_nat (by omega)]
    refine Ev.step (fun k => spec_Names.l0.eq_2 ..) (Ev.neg (by rw [B_size]; omega) ?_)
    have e : (l.drop pre0.length).take ((pre0 ++ cur).length - pre0.length) = cur := by
      rw [← h]; simp
    rw [e]
    exact Ev.now _
  | c :: r, pre0, cur, out, h, ho => by
    have hlen := congrArg List.length h
    rw [List.length_append, List.length_cons] at hlen
    have hp : pre0.length ≤ (pre0 ++ cur).length := by rw [List.length_append]; omega
    have hb : bt (B l) ((pre0 ++ cur).length : Int) = (c.toNat : Int) := by rw [← h]; exact bt_B (pre0 ++ cur) r c
    refine Ev.step (fun k => spec_Names.l0.eq_2 ..) (Ev.pos (by rw [B_size]; omega) (Ev.neg (by rw [B_size]; omega) (Ev.pos (by omega) (Ev.pos (by rw [B_size]; omega) ?_))))
    rw [hb, wrap_nat (by omega)]
    rw [List.length_cons] at ho
    by_cases hc : c = 46
    · refine Ev.pos (by rw [hc]; rfl) (Ev.pos (by omega) (Ev.pos (by omega) (Ev.pos (by omega) ?_)))
      rw [Int.toNat_natCast, Int.toNat_natCast, B_extract]
      have e : (l.drop pre0.length).take ((pre0 ++ cur).length - pre0.length) = cur := by rw [← h]; simp
      rw [e, sp, if_pos hc]
      have := names_ev l hl r (pre0 ++ cur ++ [c]) [] (out ++ [B cur]) (by rw [← h]; simp) (by simp; omega)
      simp only [List.append_nil, List.length_append, List.length_singleton] at this ⊢
      simpa [List.append_assoc] using this
    · refine Ev.neg (fun e => hc (nat_inj.1 (e.trans rfl))) ?_
      rw [sp, if_neg hc]
      have := names_ev l hl r pre0 (cur ++ [c]) out (by rw [← h]; simp) (by omega)
      simpa [List.length_append, Nat.add_assoc] using this

/-- A number: one to nine digits, without a zero ahead. -/
structure Num (p : List UInt8) : Prop where
  ne : p ≠ []
  nine : p.length ≤ 9
  dig : ∀ c ∈ p, 48 ≤ (c.toNat : Int) ∧ (c.toNat : Int) ≤ 57
  zero : 1 < p.length → ¬ bt (B p) 0 = 48

theorem part_ev (x3 x9 : List ByteArray) (x10 x11 : Int) (p : List UInt8) (hp : p.length ≤ 3000000000) (P : Bool → Prop) (hf : P false)
    (hn : Num p → ∃ b, Ev (fun k => spec_Version.l0 k x3 x9 x10 (wrap64 (x11 + 1))) b ∧ P b) :
    ∀ (r pre : List UInt8), pre ++ r = p → (∀ c ∈ pre, 48 ≤ (c.toNat : Int) ∧ (c.toNat : Int) ≤ 57) → ∃ b, Ev (fun k => spec_Version.l1 k x3 (B p) x9 x10 x11 (p.length : Int) (pre.length : Int)) b ∧ P b
  | [], pre, h, hd => by
    have hlen := congrArg List.length h
    rw [List.append_nil] at h hlen
    subst h
    by_cases h1 : pre = []
    · exact ⟨false, Ev.step (fun k => spec_Version.l1.eq_2 ..) (Ev.neg (by omega) (Ev.pos (by rw [B_toList]; exact h1) (Ev.now _))), hf⟩
    by_cases h2 : pre.length > 9
    · exact ⟨false, Ev.step (fun k => spec_Version.l1.eq_2 ..) (Ev.neg (by omega) (Ev.neg (by rw [B_toList]; exact h1) (Ev.pos (by rw [B_size]; omega) (Ev.now _)))), hf⟩
    by_cases h3 : 1 < pre.length
    · by_cases h4 : bt (B pre) 0 = 48
      · exact ⟨false, Ev.step (fun k => spec_Version.l1.eq_2 ..) (Ev.neg (by omega) (Ev.neg (by rw [B_toList]; exact h1) (Ev.neg (by rw [B_size]; omega) (Ev.pos (by rw [B_size]; omega) (Ev.pos (by rw [B_size]; omega) (Ev.pos h4 (Ev.now _))))))), hf⟩
      · obtain ⟨b, hb, hP⟩ := hn ⟨h1, by omega, hd, fun _ => h4⟩
        exact ⟨b, Ev.step (fun k => spec_Version.l1.eq_2 ..) (Ev.neg (by omega) (Ev.neg (by rw [B_toList]; exact h1) (Ev.neg (by rw [B_size]; omega) (Ev.pos (by rw [B_size]; omega) (Ev.pos (by rw [B_size]; omega) (Ev.neg h4 hb)))))), hP⟩
    · obtain ⟨b, hb, hP⟩ := hn ⟨h1, by omega, hd, fun h => absurd h h3⟩
      exact ⟨b, Ev.step (fun k => spec_Version.l1.eq_2 ..) (Ev.neg (by omega) (Ev.neg (by rw [B_toList]; exact h1) (Ev.neg (by rw [B_size]; omega) (Ev.neg (by rw [B_size]; omega) hb)))), hP⟩
  | c :: r, pre, h, hd => by
    have hlen := congrArg List.length h
    rw [List.length_append, List.length_cons] at hlen
    have hb : bt (B p) (pre.length : Int) = (c.toNat : Int) := by rw [← h, bt_B]
    by_cases h1 : (c.toNat : Int) < 48
    · refine ⟨false, Ev.step (fun k => spec_Version.l1.eq_2 ..) (Ev.pos (by omega) (Ev.pos (by omega) (Ev.pos (by rw [B_size]; omega) ?_))), hf⟩
      rw [hb]
      exact Ev.pos h1 (Ev.now _)
    by_cases h2 : (c.toNat : Int) > 57
    · refine ⟨false, Ev.step (fun k => spec_Version.l1.eq_2 ..) (Ev.pos (by omega) (Ev.pos (by omega) (Ev.pos (by rw [B_size]; omega) ?_))), hf⟩
      rw [hb]
      exact Ev.neg h1 (Ev.pos h2 (Ev.now _))
    obtain ⟨b, hev, hP⟩ := part_ev x3 x9 x10 x11 p hp P hf hn r (pre ++ [c]) (by rw [← h]; simp) (by
      intro x hx
      rcases List.mem_append.1 hx with hx | hx
      · exact hd x hx
      · rw [List.mem_singleton] at hx; subst hx; omega)
    refine ⟨b, Ev.step (fun k => spec_Version.l1.eq_2 ..) (Ev.pos (by omega) (Ev.pos (by omega) (Ev.pos (by rw [B_size]; omega) ?_))), hP⟩
    rw [hb, wrap_nat (by omega)]
    have e : (((pre ++ [c]).length : Nat) : Int) = ((pre.length + 1 : Nat) : Int) := by rw [List.length_append]; rfl
    rw [e] at hev
    exact Ev.neg h1 (Ev.neg h2 hev)

theorem ver_ev (x3 : List ByteArray) (all : List (List UInt8)) (hall : all.length ≤ 3000000001) (hs : ∀ p ∈ all, p.length ≤ 3000000000) : ∀ (ps pre : List (List UInt8)), pre ++ ps = all →
    ∃ b, Ev (fun k => spec_Version.l0 k x3 (all.map B) ((all.map B).length : Int) (pre.length : Int)) b ∧ (b = true → (∀ p ∈ ps, Num p) ∧ x3.length = 3)
  | [], pre, h => by
    have hlen := congrArg List.length h
    rw [List.append_nil] at hlen
    refine ⟨_, Ev.step (fun k => spec_Version.l0.eq_2 ..) (Ev.neg (by rw [List.length_map]; omega) (Ev.now _)), fun hb => ⟨fun p hp => absurd hp (by simp), ?_⟩⟩
    have := eq_of_beq hb
    omega
  | p :: ps, pre, h => by
    have hlen := congrArg List.length h
    rw [List.length_append, List.length_cons] at hlen
    have e1 : rdOf ByteArray.empty (all.map B) (pre.length : Int) = B p := by
      rw [rdOf_nat _ _ _ (by rw [List.length_map]; omega), List.getElem_map]
      congr 1
      subst h
      simp
    obtain ⟨b0, hb0, hP0⟩ := ver_ev x3 all hall hs ps (pre ++ [p]) (by rw [← h]; simp)
    obtain ⟨b, hb, hP⟩ := part_ev x3 (all.map B) ((all.map B).length : Int) (pre.length : Int) p (hs p (by rw [← h]; simp)) (fun b => b = true → (∀ q ∈ p :: ps, Num q) ∧ x3.length = 3) (fun h => by cases h)
      (fun hn => ⟨b0, by rw [wrap_nat (by omega)]; rw [List.length_append] at hb0; exact hb0, fun h => ⟨fun q hq => by
        rcases List.mem_cons.1 hq with rfl | hq
        · exact hn
        · exact (hP0 h).1 q hq, (hP0 h).2⟩⟩) p [] rfl (by simp)
    refine ⟨b, Ev.step (fun k => spec_Version.l0.eq_2 ..) (Ev.pos (by rw [List.length_map]; omega) (Ev.pos (by omega) (Ev.pos (by rw [List.length_map]; omega) ?_))), hP⟩
    rw [e1]
    exact hb

def tl : List (List UInt8) → List UInt8
  | [] => []
  | p :: ps => 46 :: (p ++ tl ps)
theorem sp_join : ∀ (l cur : List UInt8), ∃ q qs, sp cur l = q :: qs ∧ cur ++ l = q ++ tl qs
  | [], cur => ⟨cur, [], rfl, rfl⟩
  | c :: r, cur => by
    rw [sp]
    by_cases hc : c = 46
    · rw [if_pos hc]
      obtain ⟨q, qs, e, h⟩ := sp_join r []
      refine ⟨cur, sp [] r, rfl, ?_⟩
      rw [e, tl, hc]
      rw [List.nil_append] at h
      rw [h]
    · rw [if_neg hc]
      obtain ⟨q, qs, e, h⟩ := sp_join r (cur ++ [c])
      exact ⟨q, qs, e, by rw [← h]; simp⟩
theorem sp_count : ∀ (l cur : List UInt8), (sp cur l).length ≤ l.length + 1
  | [], cur => by simp [sp]
  | c :: r, cur => by
    rw [sp]
    split
    · have := sp_count r []; simp; omega
    · have := sp_count r (cur ++ [c]); simp; omega
theorem sp_le : ∀ (l cur : List UInt8), ∀ p ∈ sp cur l, p.length ≤ cur.length + l.length
  | [], cur, p, h => by simp [sp] at h; subst h; simp
  | c :: r, cur, p, h => by
    rw [sp] at h
    split at h
    · rcases List.mem_cons.1 h with rfl | h
      · omega
      · have := sp_le r [] p h; simp at this ⊢; omega
    · have := sp_le r (cur ++ [c]) p h; simp at this ⊢; omega

theorem dec3 (j n : Nat) : decide (j + (n + 1) = 2) = decide (j + 1 + n = 2) := by
  congr 1
  apply propext
  omega
theorem plain_ev (all : List UInt8) (hall : all.length ≤ 3000000000) : ∀ (n : Nat) (r cur pre : List UInt8) (ps : List (List UInt8)) (j : Nat), r.length + (tl ps).length ≤ n → pre ++ cur ++ r ++ tl ps = all → Num (cur ++ r) → (∀ p ∈ ps, Num p) → j + ps.length ≤ 3000000000 →
    Ev (fun k => impl_plain.l0 k (B all) (j : Int) (cur.length : Int) ((pre ++ cur).length : Int)) (decide (j + ps.length = 2)) := by
  intro n
  induction n with
  | zero =>
    intro r cur pre ps j hn h hp hps hj
    have hr : r = [] := List.eq_nil_of_length_eq_zero (by omega)
    have ht : tl ps = [] := List.eq_nil_of_length_eq_zero (by omega)
    have hps0 : ps = [] := by
      cases ps with
      | nil => rfl
      | cons a b => simp [tl] at ht
    subst hr hps0
    have hlen := congrArg List.length h
    simp only [List.append_nil, tl] at hlen hp
    have hne : 0 < cur.length := List.length_pos_iff.2 hp.ne
    refine Ev.step (fun k => impl_plain.l0.eq_2 ..) (Ev.neg (by rw [B_size]; omega) ?_)
    by_cases h2 : j = 2
    · refine Ev.pos (by omega) ?_
      rw [decide_eq_true (show (cur.length : Int) > 0 by omega), decide_eq_true (by simp; omega)]
      exact Ev.now _
    · refine Ev.neg (by omega) ?_
      rw [decide_eq_false (by simp; omega)]
      exact Ev.now _
  | succ n ih =>
    intro r cur pre ps j hn h hp hps hj
    cases r with
    | cons c r =>
      have hlen := congrArg List.length h
      simp only [List.length_append, List.length_cons] at hlen
      have hb : bt (B all) ((pre ++ cur).length : Int) = (c.toNat : Int) := by
        rw [← h]
        have := bt_B (pre ++ cur) (r ++ tl ps) c
        simpa [List.append_assoc] using this
      have hd := hp.dig c (by simp)
      have h9 := hp.nine
      rw [List.length_append, List.length_cons] at h9
      have hnext := ih r (cur ++ [c]) pre ps j (by simp at hn ⊢; omega) (by rw [← h]; simp) (by simpa using hp) hps hj
      have e1 : wrap64 ((cur.length : Int) + 1) = (((cur ++ [c]).length : Nat) : Int) := by rw [wrap_nat (by omega), List.length_append]; rfl
      have e2 : wrap64 (((pre ++ cur).length : Int) + 1) = (((pre ++ (cur ++ [c])).length : Nat) : Int) := by rw [wrap_nat (by simp; omega)]; simp; omega
      refine Ev.step (fun k => impl_plain.l0.eq_2 ..) (Ev.pos (by rw [B_size]; simp; omega) (Ev.pos (by omega) ?_))
      rw [hb]
      refine Ev.pos hd.1 (Ev.step (fun k => impl_plain.j1.eq_2 ..) (Ev.pos (decide_eq_true hd.2) ?_))
      rw [e1, e2]
      by_cases h0 : cur = []
      · subst h0
        exact Ev.neg (by simp) (Ev.neg (by simp) hnext)
      · have hc0 : 0 < cur.length := List.length_pos_iff.2 h0
        have ew : wrap64 (((pre ++ cur).length : Int) - (cur.length : Int)) = (pre.length : Int) := by
          have : ((pre ++ cur).length : Int) - (cur.length : Int) = (pre.length : Int) := by rw [List.length_append]; omega
          rw [this]
          exact wrap_id (by omega) (by omega)
        have hz : ¬ bt (B all) (pre.length : Int) = 48 := by
          have hz := hp.zero (by simp; omega)
          obtain ⟨a, cur', rfl⟩ : ∃ a cur', cur = a :: cur' := by
            cases cur with
            | nil => exact absurd rfl h0
            | cons a b => exact ⟨a, b, rfl⟩
          have x1 : bt (B (a :: cur' ++ c :: r)) 0 = (a.toNat : Int) := bt_B [] (cur' ++ c :: r) a
          have x2 : bt (B all) (pre.length : Int) = (a.toNat : Int) := by
            rw [← h]
            have := bt_B pre (cur' ++ c :: r ++ tl ps) a
            simpa [List.append_assoc] using this
          rw [x2, ← x1]
          exact hz
        rw [ew]
        exact Ev.pos (by omega) (Ev.pos (by omega) (Ev.pos (by rw [B_size]; omega) (Ev.neg hz (Ev.neg (by omega) hnext))))
    | nil =>
      rw [List.append_nil] at hp h
      cases ps with
      | nil =>
        exact Ev.step (fun k => impl_plain.l0.eq_2 ..) (by
          have hlen := congrArg List.length h
          simp only [List.append_nil, tl] at hlen
          have hne : 0 < cur.length := List.length_pos_iff.2 hp.ne
          refine Ev.neg (by rw [B_size]; omega) ?_
          by_cases h2 : j = 2
          · refine Ev.pos (by omega) ?_
            rw [decide_eq_true (show (cur.length : Int) > 0 by omega), decide_eq_true (by simp; omega)]
            exact Ev.now _
          · refine Ev.neg (by omega) ?_
            rw [decide_eq_false (by simp; omega)]
            exact Ev.now _)
      | cons p ps =>
        have hlen := congrArg List.length h
        simp only [List.length_append, tl, List.length_cons] at hlen
        have hne : 0 < cur.length := List.length_pos_iff.2 hp.ne
        have hb : bt (B all) ((pre ++ cur).length : Int) = ((46 : UInt8).toNat : Int) := by
          rw [← h]
          exact bt_B (pre ++ cur) (p ++ tl ps) 46
        have hnext := ih p [] (pre ++ cur ++ [46]) ps (j + 1) (by simp [tl] at hn; omega) (by rw [← h]; simp [tl]) (by simpa using hps p (by simp)) (fun q hq => hps q (by simp [hq])) (by simp at hj; omega)
        refine Ev.step (fun k => impl_plain.l0.eq_2 ..) (Ev.pos (by rw [B_size]; simp; omega) (Ev.pos (by omega) ?_))
        rw [hb]
        refine Ev.neg (by decide) (Ev.step (fun k => impl_plain.j1.eq_2 ..) (Ev.neg (by simp) (Ev.pos rfl (Ev.pos (by omega) ?_))))
        have e1 : wrap64 ((j : Int) + 1) = ((j + 1 : Nat) : Int) := wrap_nat (by omega)
        have e2 : wrap64 (((pre ++ cur).length : Int) + 1) = (((pre ++ cur ++ [46] ++ []).length : Nat) : Int) := by rw [wrap_nat (by simp; omega)]; simp; omega
        rw [e1, e2]
        have e3 : decide (j + (p :: ps).length = 2) = decide (j + 1 + ps.length = 2) := dec3 j ps.length
        rw [e3]
        exact hnext

/-- What the reference lets in as a version, the thin package takes as a plain one. -/
theorem version_plain (s : ByteArray) (hs : s.size ≤ 2147483647) : ∃ b, Ev (fun k => spec_Version.f k s) b ∧ (b = true → Ev (fun k => impl_plain.f k s) true) := by
  obtain ⟨l, rfl⟩ : ∃ l, s = B l := ⟨s.data.toList, rfl⟩
  rw [B_size] at hs
  have hn := names_ev l (by omega) l [] [] [] rfl (by simp; omega)
  rw [List.nil_append] at hn
  have hc := sp_count l []
  obtain ⟨b, hb, hP⟩ := ver_ev ((sp [] l).map B) (sp [] l) (by omega) (fun p hp => by have := sp_le l [] p hp; simp at this; omega) (sp [] l) [] rfl
  refine ⟨b, Ev.bind hn hb, fun h => ?_⟩
  obtain ⟨h1, h2⟩ := hP h
  obtain ⟨q, qs, e, hj⟩ := sp_join l []
  rw [e] at h1 h2
  rw [List.length_map, List.length_cons] at h2
  rw [List.nil_append] at hj
  have hp := plain_ev l (by omega) (q.length + (tl qs).length) q [] [] qs 0 (Nat.le_refl _) (by rw [hj]; simp) (h1 q (by simp)) (fun p hp => h1 p (by simp [hp])) (by omega)
  rw [decide_eq_true (by omega)] at hp
  exact hp
end Go.Proofs.Ytmjecafddklbjaa.HVer
