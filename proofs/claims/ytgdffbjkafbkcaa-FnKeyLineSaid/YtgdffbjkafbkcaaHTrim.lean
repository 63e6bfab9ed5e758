/- What yaml's zzTrimLeft comes to with a space as its set: the text without the spaces at its beginning; for texts of at most a million bytes. -/
import Derived.Test.YtgdffbjkafbkcaaProg
import Derived.Test.YtgdffbjkafbkcaaPlain
import Derived.Test.YtgdffbjkafbkcaaWMore
import Derived.Test.YtgdffbjkafbkcaaHBytes
import Derived.Lib.OthersKept
import Derived.Laws.RangeAny
import Derived.Laws.RangeString
import Derived.Deep.LoopGhost
import Derived.LoopTactic
import Derived.WalkKit
import Derived.WalkSpells
namespace Go.Proofs.Ytgdffbjkafbkcaa.HTrim
open Go.RowKit Go.Proofs.YtgdffbjkafbkcaaW.PrintWords Go.Proofs.YtgdffbjkafbkcaaW.PrintLast Go.Proofs.YtgdffbjkafbkcaaW.PrintMore Go.Proofs.Ytgdffbjkafbkcaa.Plain Go.Proofs.Ytgdffbjkafbkcaa.HBytes Go.Lib

def sp : ByteArray := ⟨#[32]⟩
set_option maxHeartbeats 1000000 in
theorem inset_calls (c : Int) (w : World) : Calls Try.prog 42 #[.int .i32 c, .string sp] w fun e w' => e = .returned (.bool (decide (c = 32))) ∧ Below w.heap.size w w' := by
  have hsz : sp.size = 1 := rfl
  go_enter Try.func42, Try.ntmps42
  go_wp2
  go_loopw [6] (fun d wr => (wr = w.iter sp 0 ∨ (wr = w.iter sp 1 ∧ c ≠ 32))) (fun d wr => 1 - wr.iterPos w.heap.size)
  case atStart => exact .inl rfl
  case round =>
    rcases hrel with rfl | ⟨rfl, hc⟩
    · have hnx := fun ty => run_next_ascii (P := Try.prog) w sp 0 ty (by decide) (by decide)
      have hv : (sp[0].toNat : Int) = 32 := rfl
      rw [hv] at hnx
      by_cases hc : c = 32
      · have HD := Aside0.mk (show decide (c = 32) = true from decide_eq_true hc)
        have hc1 : (c == 32) = true := by simp [hc]
        clear hc hv
        go_wp2
        go_ret
        exact ⟨by rw [HD.out]; rfl, below_alloc (Below.refl _ _) _⟩
      · have HC := Aside0.mk hc
        have hc1 : (c == 32) = false := by simp [hc]
        clear hc hv
        go_wp2
        go_roundw
        case rel => exact .inr ⟨trivial, HC.out⟩
        case measure => rw [World.iterPos_iter, World.iterPos_iter]; omega
    · have hnx := fun ty => run_next_end (P := Try.prog) w sp 1 ty (by decide)
      have HD := Aside0.mk (show decide (c = 32) = false from decide_eq_false hc)
      clear hc
      go_wp2
      go_ret
      exact ⟨by rw [HD.out]; rfl, below_alloc (Below.refl _ _) _⟩

/-- The text without the spaces at its beginning, from a place on. -/
def tl (l : List UInt8) : List UInt8 := l.dropWhile (· == 32)
def tlB (s : ByteArray) : ByteArray := B (tl s.data.toList)

theorem decode_space {s : ByteArray} {pos : Nat} (h : pos < s.size) (hs : s[pos] = 32) : Utf8.decode s pos = (32, 1) := by
  rw [decode_ascii s pos h (by rw [hs]; decide), hs]; rfl
theorem decode_other {s : ByteArray} {pos : Nat} (h : pos < s.size) (hs : ¬ s[pos] = 32) : (Utf8.decode s pos).1 ≠ 32 := by
  rcases Nat.lt_or_ge (s[pos]'h).toNat 128 with ha | ha
  · rw [decode_ascii s pos h ha]
    intro e
    exact hs (UInt8.toNat_inj.1 e)
  · have := (decode_high s pos h ha).1
    omega
theorem drop_all : ∀ l : List UInt8, (∀ x ∈ l, x = 32) → l.dropWhile (· == 32) = []
  | [], _ => rfl
  | a :: r, h => by
    rw [List.dropWhile_cons_of_pos (by simp [h a (by simp)])]
    exact drop_all r (fun x hx => h x (by simp [hx]))
theorem tl_all {s : ByteArray} {pos : Nat} (h : ¬ pos < s.size) (hp : ∀ x ∈ s.data.toList.take pos, x = 32) : tlB s = ByteArray.empty := by
  rw [List.take_of_length_le (by rw [Array.length_toList]; exact Nat.not_lt.1 h)] at hp
  unfold tlB tl
  rw [drop_all _ hp]; rfl
theorem tl_at {s : ByteArray} {pos : Nat} (h : pos < s.size) (hs : ¬ s[pos] = 32) (hp : ∀ x ∈ s.data.toList.take pos, x = 32) : s.extract pos s.size = tlB s := by
  have e : s.extract pos s.size = B (s.data.toList.drop pos) := by
    show (B s.data.toList).extract pos s.size = _
    rw [B_extract, List.take_of_length_le (by rw [List.length_drop, Array.length_toList]; exact Nat.le_refl _)]
  rw [e]
  unfold tlB tl
  have hl : pos < s.data.toList.length := by rw [Array.length_toList]; exact h
  congr 1
  conv => rhs; rw [← List.take_append_drop pos s.data.toList]
  rw [List.dropWhile_append_of_pos (by intro x hx; simp [hp x hx]), List.drop_eq_getElem_cons hl, List.dropWhile_cons_of_neg]
  have : s.data.toList[pos] = s[pos] := rfl
  rw [this]; simpa using hs
theorem tl_next {s : ByteArray} {pos : Nat} (h : pos < s.size) (hs : s[pos] = 32) (hp : ∀ x ∈ s.data.toList.take pos, x = 32) : ∀ x ∈ s.data.toList.take (pos + 1), x = 32 := by
  have hl : pos < s.data.toList.length := by rw [Array.length_toList]; exact h
  rw [take_next hl]
  intro x hx
  rcases List.mem_append.1 hx with hx | hx
  · exact hp x hx
  · rw [List.mem_singleton] at hx
    rw [hx]; exact hs

theorem lt_iter {wr : World} {k pos : Nat} {s : ByteArray} (h : wr.heap[k]? = some (.stringIter s pos)) {p : Nat} : k < (wr.iterAt k s p).heap.size := by
  rw [iterAt_size]
  exact (Array.getElem?_eq_some_iff.1 h).1
theorem iterPos_of {wr : World} {k pos : Nat} {s : ByteArray} (h : wr.heap[k]? = some (.stringIter s pos)) : wr.iterPos k = pos := by unfold World.iterPos; rw [h]

set_option maxHeartbeats 1000000 in
theorem left_calls (s : ByteArray) (w : World) (hs : s.size ≤ 1000000) : Calls Try.prog 38 #[.string s, .string sp] w fun e w' => e = .returned (.string (tlB s)) ∧ Below w.heap.size w w' := by
  have HS := Aside0.mk hs
  clear hs
  go_enter Try.func38, Try.ntmps38
  go_wp2
  go_loopw [5, 6] (fun _ _ wr => ∃ pos : Nat, Aside0 (pos ≤ s.size) ∧ Aside0 (wr.heap[w.heap.size]? = some (.stringIter s pos)) ∧ Aside0 (Below w.heap.size w wr) ∧ Aside0 (∀ x ∈ s.data.toList.take pos, x = 32)) (fun _ _ wr => s.size - wr.iterPos w.heap.size)
  case atStart => exact ⟨0, ⟨Nat.zero_le _⟩, ⟨World.iter_heap _ _ _⟩, ⟨below_alloc (Below.refl _ _) _⟩, ⟨by simp⟩⟩
  case round =>
    obtain ⟨pos, HP, HK, HB, HA⟩ := hrel
    by_cases hlt : pos < s.size
    · have HLT := Aside0.mk hlt
      have q0 : 0 ≤ (pos : Int) := Int.natCast_nonneg _
      have q1 : (pos : Int) ≤ (s.size : Int) := by omega
      by_cases h32 : s[pos] = 32
      · have hnx := fun ty => run_next_any_at (P := Try.prog) wr w.heap.size s pos ty HK.out hlt
        rw [decode_space hlt h32] at hnx
        have HA2 := Aside0.mk (tl_next hlt h32 HA.out)
        have HK2 := Aside0.mk (iterAt_heap wr w.heap.size s pos (pos + 1) HK.out)
        have HB2 := Aside0.mk (below_iterAt HB.out (Nat.le_refl _) s (pos + 1))
        clear h32
        go_wp2_with (go_at_call 42; refine (inset_calls _ _).mono ?_; rintro e w2 ⟨rfl, hb⟩; have HB3 := Aside0.mk hb; clear hb)
        go_roundw
        case rel => exact ⟨pos + 1, ⟨HLT.out⟩, ⟨(HB3.out.block _ (lt_iter HK.out)).trans HK2.out⟩, ⟨below_step HB2.out HB3.out⟩, HA2⟩
        case measure =>
          rw [iterPos_of HK.out, iterPos_of ((HB3.out.block _ (lt_iter HK.out)).trans HK2.out)]
          have := HLT.out
          omega
      · have hnx := fun ty => run_next_any_at (P := Try.prog) wr w.heap.size s pos ty HK.out hlt
        obtain ⟨cd, hcd⟩ : ∃ cd, ((Utf8.decode s pos).1 : Int) = cd := ⟨_, rfl⟩
        have HC := Aside0.mk (show decide (cd = 32) = false by rw [decide_eq_false_iff_not, ← hcd]; have := decode_other hlt h32; omega)
        rw [hcd] at hnx
        obtain ⟨wd, hwd⟩ : ∃ wd, (Utf8.decode s pos).2 = wd := ⟨_, rfl⟩
        rw [hwd] at hnx
        have HE := Aside0.mk (tl_at hlt h32 HA.out)
        have HB2 := Aside0.mk (below_iterAt HB.out (Nat.le_refl _) s (pos + wd))
        clear h32 hcd hwd
        go_wp2_with (go_at_call 42; refine (inset_calls _ _).mono ?_; rw [HC.out]; rintro e w2 ⟨rfl, hb⟩; have HB3 := Aside0.mk hb; clear hb)
        go_ret
        exact ⟨by rw [← HE.out]; rfl, below_step HB2.out HB3.out⟩
    · have hnx := fun ty => run_next_end_at (P := Try.prog) wr w.heap.size s pos ty HK.out hlt
      have HE := Aside0.mk (tl_all hlt HA.out)
      go_wp2
      go_ret
      exact ⟨by rw [HE.out]; rfl, HB.out⟩

end Go.Proofs.Ytgdffbjkafbkcaa.HTrim
