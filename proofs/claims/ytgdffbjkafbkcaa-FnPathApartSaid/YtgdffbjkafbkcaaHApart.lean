/- What the law FnPathApart needs of the parts that it lets in: joined, split and put together again they are these parts, but for an empty one ahead; all numbers are small. -/
import Derived.Test.YtgdffbjkafbkcaaHJoinPure
namespace Go.Proofs.Ytgdffbjkafbkcaa.HApart
open Go.RowKit Go.Proofs.YtgdffbjkafbkcaaW.PrintWords Go.Proofs.Ytgdffbjkafbkcaa.Plain Go.Proofs.Ytgdffbjkafbkcaa.HSplit Go.Proofs.Ytgdffbjkafbkcaa.HSplitPure Go.Proofs.Ytgdffbjkafbkcaa.HJoinPure Go.Proofs.Ytgdffbjkafbkcaa.PJoined Go.Proofs.Ytgdffbjkafbkcaa.PzzSplit

def good (s : ByteArray) : Prop := s.size ≤ 50 ∧ (92 : UInt8) ∉ s.data.toList
theorem spA_sum (d : UInt8) : ∀ (t cur : List UInt8), ((spA d cur t).map fun x => x.length + 1).sum = cur.length + t.length + 1
  | [], cur => by simp [spA]
  | c :: r, cur => by
    rw [spA]
    split
    · rw [List.map_cons, List.sum_cons, spA_sum d r []]; simp; omega
    · rw [spA_sum d r (cur ++ [c])]; simp; omega
theorem spA_count (d : UInt8) : ∀ (t cur : List UInt8), (spA d cur t).length ≤ t.length + 1
  | [], cur => by simp [spA]
  | c :: r, cur => by
    rw [spA]
    split
    · have := spA_count d r []; simp; omega
    · have := spA_count d r (cur ++ [c]); simp; omega
theorem jn_len (d : UInt8) : ∀ ps : List (List UInt8), (jn d ps).length ≤ tot ps
  | [] => Nat.le_refl _
  | p :: ps => by
    have := jn_len d ps
    have := esc_len d p
    rw [tot_cons, jn]; simp; omega
theorem tot_le : ∀ ps : List (List UInt8), (∀ p ∈ ps, p.length ≤ 50) → tot ps ≤ 101 * ps.length
  | [], _ => Nat.le_refl _
  | p :: ps, h => by
    have := tot_le ps (fun q hq => h q (by simp [hq]))
    have := h p (by simp)
    rw [tot_cons, List.length_cons]; omega
theorem sumB_map (d : UInt8) (l : List (List UInt8)) : sumB (B [d]) (l.map B) = (l.map fun x => x.length + 1).sum := by
  unfold sumB
  rw [List.map_map]
  rfl
theorem map_toL (l : List ByteArray) : (l.map fun s => s.data.toList).map B = l := by
  rw [List.map_map]
  conv => rhs; rw [← List.map_id l]
  apply List.map_congr_left
  intro s _
  rfl

theorem parts_path (l : List ByteArray) (d : UInt8) (hd : (92 : UInt8) ≠ d) (hl : l ≠ []) (h20 : l.length ≤ 20) (hg : ∀ s ∈ l, good s) :
    ∃ (s : ByteArray) (k1 k2 : Nat) (ps : List ByteArray), spec_Joined.f k1 l (d.toNat : Int) = some s ∧ utils_zzSplit.f k2 s (B [d]) = some ps ∧ ps ≠ [] ∧ sumB (B [d]) ps ≤ 10000000 ∧ ps.length ≤ 1000000 ∧ pathB (B [d]) ps = dropFirst l := by
  obtain ⟨p, ps, e⟩ : ∃ p ps, (l.map fun s => s.data.toList) = p :: ps := by
    cases l with
    | nil => exact absurd rfl hl
    | cons a r => exact ⟨_, _, rfl⟩
  have hm : ∀ q ∈ p :: ps, q.length ≤ 50 ∧ (92 : UInt8) ∉ q := by
    intro q hq
    rw [← e, List.mem_map] at hq
    obtain ⟨s, hs, rfl⟩ := hq
    have := hg s hs
    exact ⟨by have := this.1; rw [Array.length_toList]; exact this, this.2⟩
  have hlen : (p :: ps).length ≤ 20 := by rw [← e, List.length_map]; exact h20
  have ht := tot_le (p :: ps) (fun q hq => (hm q hq).1)
  have hj := jn_len d ps
  have he := esc_len d p
  have hll : l = (p :: ps).map B := by rw [← e, map_toL]
  have htc := tot_cons p ps
  rw [List.length_cons] at hlen ht
  obtain ⟨k1, h1⟩ := (joined_ev d p ps (by omega) (by omega)).rounds
  have hJ : (esc d p ++ jn d ps).length ≤ 2020 := by rw [List.length_append]; omega
  obtain ⟨k2, h2⟩ := (split_ev d (esc d p ++ jn d ps).length (esc d p ++ jn d ps) [] (Nat.le_refl _) (by omega) (by simp; rw [List.length_append] at hJ; omega)).rounds
  refine ⟨_, k1, k2, _, by rw [hll]; exact h1, h2, ?_, ?_, ?_, ?_⟩
  · obtain ⟨x, xs, hx⟩ := spA_cons d (esc d p ++ jn d ps) []
    rw [hx]; simp
  · rw [List.nil_append, sumB_map, spA_sum]; simp; rw [List.length_append] at hJ; omega
  · rw [List.nil_append, List.length_map]
    have := spA_count d (esc d p ++ jn d ps) []
    omega
  · rw [List.nil_append, path_B d hd p ps (hm p (by simp)).2 (fun x hx => (hm x (by simp [hx])).2), hll]

theorem parts_ab : ∃ (k2 : Nat), utils_zzSplit.f k2 ⟨#[97, 47, 98]⟩ ⟨#[47]⟩ = some [B [97], B [98]] ∧ pathB ⟨#[47]⟩ [B [97], B [98]] = [B [97], B [98]] := by
  obtain ⟨k2, h2⟩ := (split_ev 47 3 [97, 47, 98] [] (Nat.le_refl _) (by omega) (by decide)).rounds
  exact ⟨k2, h2, path_B 47 (by decide) [97] [[98]] (by decide) (by decide)⟩

end Go.Proofs.Ytgdffbjkafbkcaa.HApart
