/- The law FnPathSmart: the path that it makes is split into what it told of its elements. -/
import Derived.Test.YtgdffbjkafbkcaaHSmart2
namespace Go.Proofs.Ytgdffbjkafbkcaa.HSmart
open Go.RowKit Go.Proofs.YtgdffbjkafbkcaaW.PrintWords Go.Proofs.Ytgdffbjkafbkcaa.Plain Go.Proofs.Ytgdffbjkafbkcaa.HSplit Go.Proofs.Ytgdffbjkafbkcaa.HSplitPure Go.Proofs.Ytgdffbjkafbkcaa.HJoin Go.Proofs.Ytgdffbjkafbkcaa.GSmart

theorem spA_sum (d : UInt8) : ∀ (t cur : List UInt8), ((spA d cur t).map fun x => x.length + 1).sum = cur.length + t.length + 1
  | [], cur => by simp [spA]
  | c :: r, cur => by
    rw [spA]
    split
    · rw [List.map_cons, List.sum_cons, spA_sum d r []]; simp; omega
    · rw [spA_sum d r (cur ++ [c])]; simp; omega
theorem spA_count (d : UInt8) : ∀ (t cur : List UInt8), (spA d cur t).length ≤ t.length + 1
  | [], cur => by simp [spA]
  | c :: r, cur => by
    rw [spA]
    split
    · have := spA_count d r []; simp; omega
    · have := spA_count d r (cur ++ [c]); simp; omega
theorem sumB_map (d : UInt8) (l : List (List UInt8)) : sumB (B [d]) (l.map B) = (l.map fun x => x.length + 1).sum := by
  unfold sumB
  rw [List.map_map]
  rfl

/-- The path of parts. -/
def pth : List (List UInt8) → List UInt8
  | [] => []
  | p :: ps => esc 46 p ++ jn 46 ps
theorem jn_app (d : UInt8) : ∀ (P Q : List (List UInt8)), jn d (P ++ Q) = jn d P ++ jn d Q
  | [], Q => rfl
  | p :: P, Q => by rw [List.cons_append, jn, jn, jn_app d P Q]; simp
theorem pth_app {P Q : List (List UInt8)} (hP : P ≠ []) (hQ : Q ≠ []) : pth (P ++ Q) = pth P ++ [46] ++ pth Q := by
  cases P with
  | nil => exact absurd rfl hP
  | cons p P =>
    cases Q with
    | nil => exact absurd rfl hQ
    | cons q Q => rw [List.cons_append, pth, pth, pth, jn_app, jn]; simp
theorem esc_no : ∀ {l : List UInt8}, (46 : UInt8) ∉ l → esc 46 l = l
  | [], _ => rfl
  | c :: r, h => by rw [esc, if_neg (fun e => h (by simp [e])), esc_no (fun e => h (by simp [e]))]
theorem pc_ne (x : I) : pc x ≠ [] := by
  unfold pc
  split
  · simp
  · split <;> simp
theorem pth_0 (k : Int) (s : List UInt8) (h : k = 0) (hs : Word s) : pth (pc (k, s)) = s := by
  rw [pc_0 k s h, pth, jn, esc_no (hs.no (by decide)), List.append_nil]
theorem pth_1 (k : Int) (s : List UInt8) (h0 : ¬ k = 0) (h : k = 1) (hs : Word s) : pth (pc (k, s)) = [91] ++ s ++ [46, 97, 46, 98, 93] := by
  have := hs.no (c := 46) (by decide)
  rw [pc_1 k s h0 h, pth, esc_no (by simp [this])]
  simp [jn, esc]
theorem pth_2 (k : Int) (s : List UInt8) (h0 : ¬ k = 0) (h : ¬ k = 1) (hs : Word s) : pth (pc (k, s)) = [91, 110, 97, 109, 101, 61] ++ s ++ [46, 99, 93] := by
  have := hs.no (c := 46) (by decide)
  rw [pc_2 k s h0 h, pth, esc_no (by simp [this])]
  simp [jn, esc]
theorem pth_le (x : I) (hs : Word x.2) : (pth (pc x)).length ≤ 15 := by
  obtain ⟨k, s⟩ := x
  have h6 : s.length ≤ 6 := hs.six
  by_cases h0 : k = 0
  · rw [pth_0 k s h0 hs]; omega
  · by_cases h1 : k = 1
    · rw [pth_1 k s h0 h1 hs]; simp; omega
    · rw [pth_2 k s h0 h1 hs]; simp; omega
/-- What stands ahead of the next element. -/
def ahead (its : List I) : List UInt8 := if its = [] then [] else pth (pcs its) ++ [46]
theorem pcs_snoc (its : List I) (x : I) : pcs (its ++ [x]) = pcs its ++ pc x := by simp [pcs]
theorem pcs_ne {its : List I} (h : its ≠ []) : pcs its ≠ [] := by
  cases its with
  | nil => exact absurd rfl h
  | cons x r =>
    rw [pcs_cons]
    have := pc_ne x
    simp [this]
theorem pth_snoc (its : List I) (x : I) : pth (pcs (its ++ [x])) = ahead its ++ pth (pc x) := by
  rw [pcs_snoc, ahead]
  split
  · rename_i h
    rw [h]; rfl
  · rename_i h
    rw [pth_app (pcs_ne h) (pc_ne x)]
theorem no92 (its : List I) (h : ∀ x ∈ its, Word x.2) : ∀ p ∈ pcs its, (92 : UInt8) ∉ p := by
  intro p hp
  obtain ⟨x, hx, hp⟩ := List.mem_flatMap.1 hp
  obtain ⟨k, s⟩ := x
  have hs : Word s := h _ hx
  have := hs.no (c := 92) (by decide)
  by_cases h0 : k = 0
  · rw [pc_0 k s h0] at hp
    simp at hp
    subst hp
    exact this
  · by_cases h1 : k = 1
    · rw [pc_1 k s h0 h1] at hp
      simp at hp
      rcases hp with rfl | rfl | rfl <;> simp [this]
    · rw [pc_2 k s h0 h1] at hp
      simp at hp
      rcases hp with rfl | rfl <;> simp [this]
theorem pcs_len (its : List I) : (pcs its).length ≤ 3 * its.length := by
  induction its with
  | nil => exact Nat.le_refl _
  | cons x r ih =>
    rw [pcs_cons, List.length_append, List.length_cons]
    have : (pc x).length ≤ 3 := by
      unfold pc
      split
      · simp
      · split <;> simp
    omega
theorem pcs_head (its : List I) (h0 : its ≠ []) (h : ∀ x ∈ its, Word x.2) : ∃ p ps, pcs its = p :: ps ∧ p ≠ [] := by
  cases its with
  | nil => exact absurd rfl h0
  | cons x r =>
    obtain ⟨k, s⟩ := x
    have hs : Word s := h (k, s) (by simp)
    rw [pcs_cons]
    by_cases h0 : k = 0
    · rw [pc_0 k s h0]; exact ⟨_, _, rfl, hs.one⟩
    · by_cases h1 : k = 1
      · rw [pc_1 k s h0 h1]; exact ⟨_, _, rfl, by simp⟩
      · rw [pc_2 k s h0 h1]; exact ⟨_, _, rfl, by simp⟩

/-- What the package makes of the path. -/
theorem path_ev (its : List I) (h0 : its ≠ []) (h : ∀ x ∈ its, Word x.2) (h8 : its.length ≤ 8) (hl : (pth (pcs its)).length ≤ 16 * its.length) : Ev (fun k => impl_SplitPathSmart.f k (B (pth (pcs its))) (⟨#[46]⟩ : ByteArray)) ((its.map wt).map B) := by
  obtain ⟨p, ps, e, hp⟩ := pcs_head its h0 h
  have h92 := no92 its h
  have hn := pcs_len its
  have e1 : pth (pcs its) = esc 46 p ++ jn 46 ps := by rw [e]; rfl
  have hs := split_ev 46 (pth (pcs its)).length (pth (pcs its)) [] (Nat.le_refl _) (by omega) (by simp; omega)
  have hpf : Ev (fun k => pathF k (B (pth (pcs its))) (B [46])) ((pcs its).map B) := by
    refine Ev.bind (a := (spA 46 [] (pth (pcs its))).map B) hs ?_
    refine Ev.pos ⟨?_, ?_, ?_⟩ ?_
    · obtain ⟨x, xs, hx⟩ := spA_cons 46 (pth (pcs its)) []
      rw [hx]; simp
    · rw [sumB_map, spA_sum]; simp; omega
    · rw [List.length_map]
      have := spA_count 46 (pth (pcs its)) []
      omega
    · rw [e1, path_B 46 (by decide) p ps (h92 p (by rw [e]; simp)) (fun x hx => h92 x (by rw [e]; simp [hx])), dropFirst_map, if_neg (by simp [hp]), ← e]
      exact Ev.now _
  have hsm : Ev (fun k => utils_SmarterPathSplitter.f k (B (pth (pcs its))) (B [46])) ((its.map wt).map B) := by
    refine Ev.bind hpf ?_
    exact smart_ev its [] [] h (by simp; omega) (by simp; omega)
  refine Ev.neg (c := (B [46]).toList = ([] : List UInt8)) (by rw [B_toList]; simp) ?_
  exact Ev.ret hsm

theorem j4_ev (kinds : List Int) (l0 : List ByteArray) (its : List I) (kd : Int) (s : List UInt8) (j : Nat) (hs : Word s) (h8 : its.length ≤ 8) (hl : (ahead its).length ≤ 16 * its.length + 1) (hj : j ≤ 8)
    (ih : Ev (fun k => laws_FnPathSmart.l0 k kinds (B (pth (pcs (its ++ [(kd, s)])))) (((its ++ [(kd, s)]).map wt).map B) l0 (l0.length : Int) ((j + 1 : Nat) : Int)) true) :
    Ev (fun k => laws_FnPathSmart.j4 k kinds (B (ahead its)) ((its.map wt).map B) (B s) kd l0 (l0.length : Int) (j : Int)) true := by
  have h6 := hs.six
  rw [pth_snoc] at ih
  refine Ev.step (fun k => laws_FnPathSmart.j4.eq_2 ..) ?_
  rw [wrap_nat (by omega)]
  have hlen : ((its.map wt).map B).length < 8796093022208 := by rw [List.length_map, List.length_map]; omega
  have ew : ((its ++ [(kd, s)]).map wt).map B = (its.map wt).map B ++ [B (wt (kd, s))] := by simp
  rw [ew] at ih
  by_cases h0 : kd = 0
  · refine Ev.pos h0 (Ev.pos (by rw [B_size, B_size]; omega) (Ev.pos hlen ?_))
    rw [pth_0 kd s h0 hs, wt_0 kd s h0] at ih
    rw [B_append]
    exact ih
  · by_cases h1 : kd = 1
    · rw [pth_1 kd s h0 h1 hs, wt_1 kd s h0 h1] at ih
      have e1 : B (ahead its) ++ (⟨#[91]⟩ : ByteArray) = B (ahead its ++ [91]) := B_append _ [91]
      have e3 : ((B (ahead its) ++ (⟨#[91]⟩ : ByteArray)) ++ B s) ++ (⟨#[46, 97, 46, 98, 93]⟩ : ByteArray) = B (ahead its ++ ([91] ++ s ++ [46, 97, 46, 98, 93])) := by
        rw [e1, B_append]
        exact (B_append _ [46, 97, 46, 98, 93]).trans (by simp)
      have e4 : B s ++ (⟨#[46, 97, 46, 98]⟩ : ByteArray) = B (s ++ [46, 97, 46, 98]) := B_append _ [46, 97, 46, 98]
      rw [e3, e4]
      refine Ev.neg h0 (Ev.pos h1 (Ev.pos (by rw [B_size]; omega) (Ev.pos (by rw [e1, B_size, B_size]; simp; omega) (Ev.pos (by rw [e1, B_append, B_size]; simp; omega) (Ev.pos (by rw [B_size]; omega) (Ev.pos hlen ih))))))
    · rw [pth_2 kd s h0 h1 hs, wt_2 kd s h0 h1] at ih
      have e1 : B (ahead its) ++ (⟨#[91, 110, 97, 109, 101, 61]⟩ : ByteArray) = B (ahead its ++ [91, 110, 97, 109, 101, 61]) := B_append _ [91, 110, 97, 109, 101, 61]
      have e3 : ((B (ahead its) ++ (⟨#[91, 110, 97, 109, 101, 61]⟩ : ByteArray)) ++ B s) ++ (⟨#[46, 99, 93]⟩ : ByteArray) = B (ahead its ++ ([91, 110, 97, 109, 101, 61] ++ s ++ [46, 99, 93])) := by
        rw [e1, B_append]
        exact (B_append _ [46, 99, 93]).trans (by simp)
      have e5 : (⟨#[91, 110, 97, 109, 101, 61]⟩ : ByteArray) ++ B s = B ([91, 110, 97, 109, 101, 61] ++ s) := B_append [91, 110, 97, 109, 101, 61] _
      have e4 : ((⟨#[91, 110, 97, 109, 101, 61]⟩ : ByteArray) ++ B s) ++ (⟨#[46, 99, 93]⟩ : ByteArray) = B ([91, 110, 97, 109, 101, 61] ++ s ++ [46, 99, 93]) := by
        rw [e5]
        exact B_append _ [46, 99, 93]
      rw [e3, e4]
      refine Ev.neg h0 (Ev.neg h1 (Ev.pos (by rw [B_size]; omega) (Ev.pos (by rw [e1, B_size, B_size]; simp; omega) (Ev.pos (by rw [e1, B_append, B_size]; simp; omega) (Ev.pos (by rw [B_size]; omega) (Ev.pos (by rw [e5, B_size]; simp; omega) (Ev.pos hlen ih)))))))

theorem loop_ev (kinds : List Int) (l0 : List ByteArray) (hl0 : ∀ s ∈ l0, s.size ≤ 140737488351232) (h1 : 1 ≤ l0.length) (h8 : l0.length ≤ 8) : ∀ (n j : Nat) (its : List I), l0.length - j = n → j ≤ l0.length → its.length = j → (∀ x ∈ its, Word x.2) → (pth (pcs its)).length ≤ 16 * its.length →
    Ev (fun k => laws_FnPathSmart.l0 k kinds (B (pth (pcs its))) ((its.map wt).map B) l0 (l0.length : Int) (j : Int)) true := by
  intro n
  induction n with
  | zero =>
    intro j its hn hj hi hw hl
    refine Ev.step (fun k => laws_FnPathSmart.l0.eq_2 ..) (Ev.neg (by omega) ?_)
    exact Ev.bind (path_ev its (by rintro rfl; simp at hi; omega) hw (by omega) hl) (Ev.ret (same_ev _ (by rw [List.length_map, List.length_map]; omega)))
  | succ n ih =>
    intro j its hn hj hi hw hl
    have hlt : j < l0.length := by omega
    obtain ⟨s, hs, hev⟩ := letters l0[j] (hl0 _ (List.getElem_mem hlt))
    have next : ∀ kd : Int, Ev (fun k => laws_FnPathSmart.j3 k kinds (B (pth (pcs its))) ((its.map wt).map B) (j : Int) (B s) kd l0 (l0.length : Int) (j : Int)) true := by
      intro kd
      have ha : (ahead its).length ≤ 16 * its.length + 1 := by
        unfold ahead
        split
        · simp
        · rw [List.length_append]; simp; omega
      have hih := ih (j + 1) (its ++ [(kd, s)]) (by omega) (by omega) (by simp [hi]) (by
        intro x hx
        rcases List.mem_append.1 hx with hx | hx
        · exact hw x hx
        · rw [List.mem_singleton] at hx; subst hx; exact hs) (by
        rw [pth_snoc, List.length_append, List.length_append]
        have := pth_le (kd, s) hs
        have : (ahead its).length ≤ 16 * its.length + 1 := ha
        simp; omega)
      have h4 := j4_ev kinds l0 its kd s j hs (by omega) ha (by omega) hih
      refine Ev.step (fun k => laws_FnPathSmart.j3.eq_2 ..) ?_
      by_cases hz : its = []
      · have e : ahead its = pth (pcs its) := by rw [ahead, if_pos hz, hz]; rfl
        rw [e] at h4
        have : j = 0 := by rw [← hi, hz]; rfl
        exact Ev.neg (by omega) h4
      · have e : B (pth (pcs its)) ++ (⟨#[46]⟩ : ByteArray) = B (ahead its) := by rw [ahead, if_neg hz]; exact B_append _ [46]
        have hp : 0 < its.length := List.length_pos_iff.2 hz
        rw [e]
        exact Ev.pos (by omega) (Ev.pos (by rw [B_size]; omega) h4)
    refine Ev.step (fun k => laws_FnPathSmart.l0.eq_2 ..) (Ev.pos (by omega) (Ev.pos (by omega) (Ev.pos (by omega) ?_)))
    rw [rdOf_nat _ _ _ hlt]
    refine Ev.bind hev ?_
    by_cases hk : (j : Int) < (kinds.length : Int)
    · exact Ev.pos hk (next _)
    · exact Ev.neg hk (next _)

theorem law_ev (l0 : List ByteArray) (kinds : List Int) (hl0 : ∀ s ∈ l0, s.size ≤ 140737488351232) (hn : l0.length ≤ 9223372036854775806) : Ev (fun k => laws_FnPathSmart.f k l0 kinds) true := by
  obtain ⟨b, hb⟩ := fits4 l0 hn
  refine Ev.bind hb ?_
  have j0 : ∀ c : Bool, Ev (fun k => laws_FnPathSmart.j0 k l0 kinds c) true := by
    intro c
    refine Ev.step (fun k => laws_FnPathSmart.j0.eq_2 ..) ?_
    cases c with
    | true => exact Ev.pos rfl (Ev.now _)
    | false =>
      refine Ev.neg (by simp) ?_
      by_cases h0 : (l0.length : Int) = 0
      · exact Ev.pos h0 (Ev.step (fun k => laws_FnPathSmart.j1.eq_2 ..) (Ev.pos rfl (Ev.now _)))
      · refine Ev.neg h0 (Ev.step (fun k => laws_FnPathSmart.j1.eq_2 ..) ?_)
        by_cases h8 : (l0.length : Int) > 8
        · exact Ev.pos (decide_eq_true h8) (Ev.now _)
        · refine Ev.neg (by simpa using h8) ?_
          exact loop_ev kinds l0 hl0 (by omega) (by omega) l0.length 0 [] (by omega) (by omega) rfl (by simp) (by simp [pcs, pth])
  cases b with
  | true => exact Ev.pos rfl (j0 _)
  | false => exact Ev.neg (by simp) (j0 _)

theorem smart_row (A0 : Option Addr) (c0 : Nat) (l0 : List ByteArray) (A1 : Option Addr) (c1 : Nat) (l1 : List Int) (w : World) (hr0 : Kd.C Kd.string w A0 l0.length l0) (hc0 : l0.length ≤ c0) (h0 : l0.length ≤ maxLen ∧ l0.length * 16 ≤ 140737488351232 ∧ ∀ a ∈ l0, (fun s : ByteArray => s.size ≤ 140737488351232) a)
    (hr1 : Kd.C (Kd.int .u8) w A1 l1.length l1) (hc1 : l1.length ≤ c1) (_h1 : l1.length ≤ maxLen ∧ l1.length * 1 ≤ 140737488351232 ∧ ∀ a ∈ l1, (fun n : Int => (Lit.int .u8 n).wf = true) a) :
    Calls Try.prog 5 #[.slice A0 l0.length c0, .slice A1 l1.length c1] w fun e w' => e = .returned (.bool true) ∧ Below w.heap.size w w' := by
  have hb := h0.2.1
  obtain ⟨k, h⟩ := (law_ev l0 l1 h0.2.2 (by omega)).rounds
  exact laws_FnPathSmart.calls k A0 c0 l0 A1 c1 l1 true w hr0 hc0 hr1 hc1 h
end Go.Proofs.Ytgdffbjkafbkcaa.HSmart
