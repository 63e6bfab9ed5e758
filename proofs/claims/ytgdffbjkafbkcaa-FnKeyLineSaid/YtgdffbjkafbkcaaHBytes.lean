/- Bytes as texts; where a sign stands in them, and what stands between the signs: plain words for the law FnKeyLine. -/
import Derived.Test.YtgdffbjkafbkcaaPlain
import Derived.Test.YtgdffbjkafbkcaaWMore
namespace Go.Proofs.Ytgdffbjkafbkcaa.HBytes
open Go.RowKit Go.Proofs.YtgdffbjkafbkcaaW.PrintWords Go.Proofs.Ytgdffbjkafbkcaa.Plain

/-- Bytes as a text. -/
def B (l : List UInt8) : ByteArray := ⟨l.toArray⟩
theorem B_size (l : List UInt8) : (B l).size = l.length := rfl
theorem B_toList (l : List UInt8) : (B l).toList = l := by rw [ByteArray.toList_eq]; rfl
theorem B_inj {l m : List UInt8} : B l = B m ↔ l = m := by rw [← toList_inj, B_toList, B_toList]
theorem B_data (s : ByteArray) : B s.data.toList = s := rfl
theorem B_append (l m : List UInt8) : B l ++ B m = B (l ++ m) := by
  apply toList_inj.1
  rw [B_toList, ByteArray.toList_eq, ByteArray.data_append]
  simp [B]
theorem B_extract (l : List UInt8) (i j : Nat) : (B l).extract i j = B ((l.drop i).take (j - i)) := by
  apply toList_inj.1
  rw [B_toList, ByteArray.toList_eq, ByteArray.data_extract]
  simp [B]

def spA (d : UInt8) (cur : List UInt8) : List UInt8 → List (List UInt8)
  | [] => [cur]
  | c :: r => if c = d then cur :: spA d [] r else spA d (cur ++ [c]) r
theorem spA_cons (d : UInt8) : ∀ (t cur : List UInt8), ∃ x xs, spA d cur t = (cur ++ x) :: xs
  | [], cur => ⟨[], [], by simp [spA]⟩
  | c :: r, cur => by
    rw [spA]
    split
    · exact ⟨[], _, by simp; rfl⟩
    · obtain ⟨x, xs, h⟩ := spA_cons d r (cur ++ [c])
      exact ⟨c :: x, xs, by rw [h]; simp⟩

def idx (d : UInt8) (j : Nat) : List UInt8 → Option Nat
  | [] => none
  | c :: r => if c = d then some j else idx d (j + 1) r
theorem idx_none {d : UInt8} : ∀ {l : List UInt8} {j : Nat} (cur : List UInt8), idx d j l = none → spA d cur l = [cur ++ l]
  | [], _, cur, _ => by simp [spA]
  | c :: r, j, cur, h => by
    rw [idx] at h
    split at h
    · cases h
    · rename_i hc
      rw [spA, if_neg hc, idx_none (cur ++ [c]) h]; simp
theorem idx_some {d : UInt8} : ∀ {l : List UInt8} {j n : Nat} (cur : List UInt8), idx d j l = some n → j ≤ n ∧ n - j < l.length ∧ spA d cur l = (cur ++ l.take (n - j)) :: spA d [] (l.drop (n - j + 1))
  | [], _, _, cur, h => by simp [idx] at h
  | c :: r, j, n, cur, h => by
    rw [idx] at h
    split at h
    · rename_i hc
      injection h with h
      subst h
      refine ⟨Nat.le_refl _, by simp, ?_⟩
      rw [spA, if_pos hc]; simp
    · rename_i hc
      obtain ⟨h1, h2, h3⟩ := idx_some (cur ++ [c]) h
      have e : n - j = (n - (j + 1)) + 1 := by omega
      refine ⟨by omega, by simp; omega, ?_⟩
      rw [spA, if_neg hc, h3, e]; simp

def idxI : Option Nat → Int
  | none => -1
  | some n => n

theorem add_zero' (a : Addr) : a.add 0 = a := by simp [Addr.add]
theorem isEmpty_toList (s : ByteArray) : s.toList.isEmpty = decide (s = ByteArray.empty) := by
  rw [Bool.eq_iff_iff, List.isEmpty_iff, decide_eq_true_iff]
  constructor
  · intro h
    apply toList_inj.1
    rw [h, ByteArray.toList_eq]; rfl
  · rintro rfl
    rw [ByteArray.toList_eq]; rfl

theorem B_get (l : List UInt8) (i : Nat) (h : i < (B l).size) : (B l)[i]'h = l[i]'h := rfl
theorem bt_B (pre r : List UInt8) (c : UInt8) : bt (B (pre ++ c :: r)) (pre.length : Int) = (c.toNat : Int) := by
  have h : (pre.length : Int).toNat < (B (pre ++ c :: r)).size := by rw [B_size, Int.toNat_natCast]; simp
  rw [← bt_at _ _ h, B_get]
  simp

end Go.Proofs.Ytgdffbjkafbkcaa.HBytes
