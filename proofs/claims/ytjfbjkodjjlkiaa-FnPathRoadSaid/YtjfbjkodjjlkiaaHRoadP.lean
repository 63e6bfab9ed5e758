/- Canonical values, and tables at a road of names: plain facts. -/
import Derived.Test.YtjfbjkodjjlkiaaHTab1
import Derived.Test.YtjfbjkodjjlkiaaBE
namespace Go.Proofs.Ytjfbjkodjjlkiaa.HVal
open Go.RowKit Go.WideMaps Go.Maps Go.Proofs.YtjfbjkodjjlkiaaW.PrintWords Go.Proofs.YtjfbjkodjjlkiaaW.PrintLast Go.Proofs.YtjfbjkodjjlkiaaW.PrintMore Go.Proofs.Ytjfbjkodjjlkiaa.Plain Go.Proofs.Ytjfbjkodjjlkiaa.GTab

section
variable {n : Nat} {x : S26}
theorem rt_low (h : x.f0 = 0 ∨ x.f0 = 1 ∨ x.f0 = 2 ∨ x.f0 = 5) (h5 : x.f5 = []) (h6 : x.f6 = []) : Rt (n + 1) x := by
  unfold Rt
  exact .inl ⟨h, h5, h6⟩
theorem rt_flt (h : x.f0 = 4) (hf : fin x.f3 = true) (h5 : x.f5 = []) (h6 : x.f6 = []) : Rt (n + 1) x := by
  unfold Rt
  exact .inr (.inl ⟨h, hf, h5, h6⟩)
theorem rt_list (h : x.f0 = 6) (h5 : x.f5 = []) (h6 : ∀ y ∈ x.f6, Rt n y) : Rt (n + 1) x := by
  unfold Rt
  exact .inr (.inr (.inl ⟨h, h5, h6⟩))
theorem rt_table (h : x.f0 = 7) (hr : Rising x.f5) (hl : x.f5.length = x.f6.length) (h6 : ∀ y ∈ x.f6, Rt n y) : Rt (n + 1) x := by
  unfold Rt
  exact .inr (.inr (.inr ⟨h, hr, hl, h6⟩))
theorem rt_rise (h : Rt (n + 1) x) (h7 : x.f0 = 7) : Rising x.f5 ∧ x.f5.length = x.f6.length := by
  unfold Rt at h
  rcases h with ⟨h | h | h | h, _⟩ | ⟨h, _⟩ | ⟨h, _⟩ | ⟨_, h, h2, _⟩
  · omega
  · omega
  · omega
  · omega
  · omega
  · omega
  · exact ⟨h, h2⟩
theorem rt_leaf (h : Rt (n + 1) x) (h6 : x.f0 ≠ 6) (h7 : x.f0 ≠ 7) : x.f5 = [] ∧ x.f6 = [] := by
  unfold Rt at h
  rcases h with ⟨_, h⟩ | ⟨_, _, h⟩ | ⟨h, _⟩ | ⟨h, _⟩
  · exact h
  · exact h
  · exact absurd h h6
  · exact absurd h h7
end
theorem rt_canon : ∀ {n : Nat} {x : S26}, Rt n x → Rt n (canon n x)
  | 0, _, h => h.elim
  | n + 1, x, h => by
    have hk := rt_kids h
    have hm : ∀ z ∈ x.f6.map (canon n), Rt n z := fun z hz => by
      obtain ⟨y, hy, rfl⟩ := List.mem_map.1 hz
      exact rt_canon (hk y hy)
    rcases rt_cases h with h0 | h0 | h0 | h0 | ⟨h0, hf⟩ | h0 | h0
    · rw [canon_0 h0]; exact rt_low (.inl rfl) rfl rfl
    · rw [canon_1 h0]; exact rt_low (.inr (.inl rfl)) rfl rfl
    · rw [canon_2 h0]; exact rt_low (.inr (.inr (.inl rfl))) rfl rfl
    · rw [canon_5 h0]; exact rt_low (.inr (.inr (.inr rfl))) rfl rfl
    · rw [canon_4 h0]; exact rt_flt rfl hf rfl rfl
    · rw [canon_6 h0]; exact rt_list rfl rfl hm
    · obtain ⟨h1, h2⟩ := rt_rise h h0
      rw [canon_7 h0]; exact rt_table rfl h1 (by simpa using h2) hm
theorem sum_map {f g : S26 → Nat} {k : S26 → S26} : ∀ (l : List S26), (∀ y ∈ l, f (k y) = g y) → ((l.map k).map f).sum = (l.map g).sum
  | [], _ => rfl
  | y :: r, h => by
    simp only [List.map_cons, List.sum_cons]
    rw [h y List.mem_cons_self, sum_map r fun z hz => h z (List.mem_cons_of_mem _ hz)]
theorem cnt_canon : ∀ {n : Nat} {x : S26}, Rt n x → cnt n (canon n x) = cnt n x
  | 0, _, h => h.elim
  | n + 1, x, h => by
    have hk := rt_kids h
    have hm : ((x.f6.map (canon n)).map (cnt n)).sum = (x.f6.map (cnt n)).sum := sum_map _ fun y hy => cnt_canon (hk y hy)
    unfold cnt
    rcases rt_cases h with h0 | h0 | h0 | h0 | ⟨h0, hf⟩ | h0 | h0
    · rw [canon_0 h0, (rt_leaf h (by omega) (by omega)).2]; rfl
    · rw [canon_1 h0, (rt_leaf h (by omega) (by omega)).2]; rfl
    · rw [canon_2 h0, (rt_leaf h (by omega) (by omega)).2]; rfl
    · rw [canon_5 h0, (rt_leaf h (by omega) (by omega)).2]; rfl
    · rw [canon_4 h0, (rt_leaf h (by omega) (by omega)).2]; rfl
    · rw [canon_6 h0, ← hm]
    · rw [canon_7 h0, ← hm]
theorem sm_canon : ∀ {n : Nat} {x : S26}, Rt n x → Sm n x → Sm n (canon n x)
  | 0, _, h, _ => h.elim
  | n + 1, x, h, hs => by
    have hk := rt_kids h
    unfold Sm at hs
    have hm : ∀ z ∈ x.f6.map (canon n), Sm n z := fun z hz => by
      obtain ⟨y, hy, rfl⟩ := List.mem_map.1 hz
      exact sm_canon (hk y hy) (hs.2 y hy)
    unfold Sm
    rcases rt_cases h with h0 | h0 | h0 | h0 | ⟨h0, hf⟩ | h0 | h0
    · rw [canon_0 h0]; exact ⟨fun _ h => (nomatch h), fun _ h => (nomatch h)⟩
    · rw [canon_1 h0]; exact ⟨fun _ h => (nomatch h), fun _ h => (nomatch h)⟩
    · rw [canon_2 h0]; exact ⟨fun _ h => (nomatch h), fun _ h => (nomatch h)⟩
    · rw [canon_5 h0]; exact ⟨fun _ h => (nomatch h), fun _ h => (nomatch h)⟩
    · rw [canon_4 h0]; exact ⟨fun _ h => (nomatch h), fun _ h => (nomatch h)⟩
    · rw [canon_6 h0]; exact ⟨fun _ h => (nomatch h), hm⟩
    · rw [canon_7 h0]; exact ⟨hs.1, hm⟩
/-- What is canonical stays as it is, whatever the depth, if that is enough. -/
theorem canon_again : ∀ {m n : Nat} {x : S26}, Rt n x → Rt m (canon n x) → canon m (canon n x) = canon n x
  | 0, _, _, _, h => h.elim
  | _ + 1, 0, _, h, _ => h.elim
  | m + 1, n + 1, x, h, h' => by
    have hk := rt_kids h
    have hk' := rt_kids h'
    rcases rt_cases h with h0 | h0 | h0 | h0 | ⟨h0, hf⟩ | h0 | h0
    · rw [canon_0 h0]; rfl
    · rw [canon_1 h0]; rfl
    · rw [canon_2 h0]; rfl
    · rw [canon_5 h0]; rfl
    · rw [canon_4 h0]; rfl
    · rw [canon_6 h0] at hk' ⊢
      have hm : (x.f6.map (canon n)).map (canon m) = x.f6.map (canon n) := by
        rw [List.map_map]
        exact List.map_congr_left fun y hy => canon_again (hk y hy) (hk' _ (List.mem_map_of_mem hy))
      rw [canon_6 rfl]
      show ({ z26 with f0 := 6, f6 := (x.f6.map (canon n)).map (canon m) } : S26) = _
      rw [hm]
    · rw [canon_7 h0] at hk' ⊢
      have hm : (x.f6.map (canon n)).map (canon m) = x.f6.map (canon n) := by
        rw [List.map_map]
        exact List.map_congr_left fun y hy => canon_again (hk y hy) (hk' _ (List.mem_map_of_mem hy))
      rw [canon_7 rfl]
      show ({ z26 with f0 := 7, f5 := x.f5, f6 := (x.f6.map (canon n)).map (canon m) } : S26) = _
      rw [hm]
/-- The same at another depth. -/
theorem same_canon' : ∀ {m n : Nat} {x : S26}, Rt n x → Rt m (canon n x) → sameB m (canon n x) x = true
  | 0, _, _, _, h => h.elim
  | _ + 1, 0, _, h, _ => h.elim
  | m + 1, n + 1, x, h, h' => by
    have hk := rt_kids h
    have hk' := rt_kids h'
    rcases rt_cases h with h0 | h0 | h0 | h0 | ⟨h0, hf⟩ | h0 | h0
    · rw [canon_0 h0]
      exact sb_one (Eq.trans (b := 0) rfl h0.symm) (by decide) ⟨by decide, by decide, by decide, by decide⟩
    · rw [canon_1 h0, sb_bool (Eq.trans (b := 1) rfl h0.symm) rfl]
      exact beq_self_eq_true _
    · rw [canon_2 h0, sb_int (Eq.trans (b := 2) rfl h0.symm) rfl]
      exact beq_self_eq_true _
    · rw [canon_5 h0, sb_str (Eq.trans (b := 5) rfl h0.symm) rfl]
      exact beq_self_eq_true _
    · rw [canon_4 h0, sb_flt (Eq.trans (b := 4) rfl h0.symm) rfl]
      exact hf
    · obtain ⟨u, hu⟩ : ∃ u, canon (n + 1) x = u := ⟨_, rfl⟩
      have e0 : u.f0 = 6 := by rw [← hu, canon_6 h0]
      have e6 : u.f6 = x.f6.map (canon n) := by rw [← hu, canon_6 h0]
      rw [hu] at hk'
      rw [e6] at hk'
      rw [hu, sb_all (by rw [e0, h0]) (by omega) (by rw [e6]; simp) (fun e => by omega), e6]
      exact all2_map _ fun y hy => same_canon' (hk y hy) (hk' _ (List.mem_map_of_mem hy))
    · obtain ⟨u, hu⟩ : ∃ u, canon (n + 1) x = u := ⟨_, rfl⟩
      have e0 : u.f0 = 7 := by rw [← hu, canon_7 h0]
      have e5 : u.f5 = x.f5 := by rw [← hu, canon_7 h0]
      have e6 : u.f6 = x.f6.map (canon n) := by rw [← hu, canon_7 h0]
      rw [hu] at hk'
      rw [e6] at hk'
      rw [hu, sb_all (by rw [e0, h0]) (by omega) (by rw [e6]; simp) (fun _ => e5), e6]
      exact all2_map _ fun y hy => same_canon' (hk y hy) (hk' _ (List.mem_map_of_mem hy))
/-! ### tables at a road -/
theorem rt_tab1 {n : Nat} {x : S26} (s : ByteArray) (h : Rt n x) : Rt (n + 1) (tab1 s x) :=
  rt_table rfl (List.pairwise_singleton _ _) rfl fun y hy => by
    cases List.mem_singleton.1 hy
    exact h
theorem rt_pmap {n : Nat} {x : S26} (h : Rt n x) : ∀ l : List ByteArray, Rt (n + l.length) (pmap l x)
  | [] => h
  | s :: r => rt_tab1 s (rt_pmap h r)
theorem sm_pmap {n : Nat} {x : S26} (h : Sm n x) : ∀ l : List ByteArray, (∀ t ∈ l, t.size ≤ maxLen) → Sm (n + l.length) (pmap l x)
  | [], _ => h
  | s :: r, hl => by
    show Sm (n + r.length + 1) (tab1 s (pmap r x))
    unfold Sm
    refine ⟨fun t ht => ?_, fun y hy => ?_⟩
    · cases List.mem_singleton.1 ht
      exact hl _ List.mem_cons_self
    · cases List.mem_singleton.1 hy
      exact sm_pmap h r fun t ht => hl t (List.mem_cons_of_mem _ ht)
theorem cnt_pmap {n : Nat} {x : S26} : ∀ l : List ByteArray, cnt (n + l.length) (pmap l x) = cnt n x + l.length
  | [] => rfl
  | s :: r => by
    show cnt (n + r.length + 1) (tab1 s (pmap r x)) = _
    have e : cnt (n + r.length + 1) (tab1 s (pmap r x)) = 1 + (cnt (n + r.length) (pmap r x) + 0) := rfl
    rw [e, cnt_pmap r, List.length_cons]
    omega
theorem canon_pmap {n : Nat} {x : S26} : ∀ l : List ByteArray, canon (n + l.length) (pmap l x) = pmap l (canon n x)
  | [] => rfl
  | s :: r => by
    show canon (n + r.length + 1) (tab1 s (pmap r x)) = tab1 s (pmap r (canon n x))
    rw [canon_7 rfl, ← canon_pmap r]
    rfl
theorem pmap_7 {x : S26} (h : x.f0 = 7) : ∀ l : List ByteArray, (pmap l x).f0 = 7
  | [] => h
  | _ :: _ => rfl
theorem road_pmap {x : S26} (h : x.f0 = 7) : ∀ l : List ByteArray, road (pmap l x) l = some x
  | [] => rfl
  | s :: r => by
    show road (tab1 s (pmap r x)) (s :: r) = some x
    have hh : hop (tab1 s (pmap r x)) s = some (pmap r x) := by
      unfold hop
      show (match find [s] [pmap r x] s with | some y => if y.f0 = 7 then some y else none | none => none) = _
      simp only [find, if_true, pmap_7 h r]
    rw [road, hh]
    exact road_pmap h r
end Go.Proofs.Ytjfbjkodjjlkiaa.HVal
