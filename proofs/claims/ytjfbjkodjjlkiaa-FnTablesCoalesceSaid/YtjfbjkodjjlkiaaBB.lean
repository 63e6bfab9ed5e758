/- What spec.Right tells of a value, as a function, and what is known where it is true. What spec.tbRight comes to, for any value: it tells what rightF tells, and counts. -/
import Derived.Test.YtjfbjkodjjlkiaaBA
import Derived.Sort.Walk0
import Derived.Deep.DeepMust
/-! What spec.Right tells of a value, as a function, and what is known where it is true. -/
namespace Go.Proofs.Ytjfbjkodjjlkiaa.HVal
open Go.RowKit Go.WideMaps Go.Maps Go.Proofs.YtjfbjkodjjlkiaaW.PrintWords Go.Proofs.YtjfbjkodjjlkiaaW.PrintLast Go.Proofs.YtjfbjkodjjlkiaaW.PrintMore Go.Proofs.Ytjfbjkodjjlkiaa.Plain Go.Proofs.Ytjfbjkodjjlkiaa.GTab

/-- Is a number finite, as it is tested: a number less itself is nought? -/
def finB (x : Nat) : Bool := match FloatKind.f64.format.sub x x with
  | none => false
  | some r => FloatKind.f64.format.order r 0 == some .eq
theorem fin_of {x : Nat} (h : finB x = true) : fin x = true := by
  unfold fin
  cases hr : FloatKind.f64.format.read x with
  | nan s t => simp [finB, Ieee.Format.sub, hr, Ieee.Datum.sum] at h
  | infinity s => simp [finB, Ieee.Format.sub, hr, Ieee.Datum.sum, Ieee.Datum.opposite] at h
  | number s m i => simp [Ieee.Format.order, hr, Ieee.Datum.order]

theorem less_trans {a b c : List UInt8} (h : Op.bytesLess a b = true) (k : Op.bytesLess b c = true) : Op.bytesLess a c = true := by
  rw [bytesLess_eq, decide_eq_true_iff] at h k ⊢
  exact List.lt_trans h k
/-- The keys up to the one at i rise. -/
def RiseTo (l : List ByteArray) (i : Nat) : Prop := ∀ (k : Nat) (_ : 0 < k) (h : k < l.length), k < i → Op.bytesLess (l[k - 1]'(by omega)).toList l[k].toList = true
theorem rising_of {l : List ByteArray} (h : RiseTo l l.length) : Rising l := by
  unfold Rising
  rw [List.pairwise_iff_getElem]
  have step : ∀ d i (hi : i + d + 1 < l.length), Op.bytesLess (l[i]'(by omega)).toList (l[i + d + 1]'hi).toList = true := by
    intro d
    induction d with
    | zero => intro i hi; exact h (i + 1) (by omega) hi hi
    | succ d ih =>
      intro i hi
      exact less_trans (ih i (by omega)) (h (i + d + 1 + 1) (by omega) hi hi)
  intro i j hi hj hij
  have := step (j - i - 1) i (by omega)
  have e : i + (j - i - 1) + 1 = j := by omega
  simpa only [e] using this

/-- A list's values, one by one, while there is no fault. -/
def rights (f : S26 → Int → Bool × Int) : List S26 → Int → Bool × Int
  | [], l => (true, l)
  | y :: r, l => if (f y l).1 = true then rights f r (f y l).2 else (false, (f y l).2)
open Classical in
noncomputable def rightF : Nat → S26 → Int → Bool × Int
  | 0, _, l => (false, l - 1)
  | n + 1, x, l =>
    if l - 1 < 0 ∨ (x.f0 < 6 ∧ x.f6 ≠ []) ∨ (x.f0 ≠ 7 ∧ x.f5 ≠ []) then (false, l - 1)
    else if x.f0 = 0 ∨ x.f0 = 1 ∨ x.f0 = 2 ∨ x.f0 = 5 then (true, l - 1)
    else if x.f0 = 4 then (finB x.f3, l - 1)
    else if x.f0 = 7 then if RiseTo x.f5 x.f5.length ∧ x.f5.length = x.f6.length then rights (rightF n) x.f6 (l - 1) else (false, l - 1)
    else if x.f0 = 6 then rights (rightF n) x.f6 (l - 1)
    else (false, l - 1)

theorem rights_true {f : S26 → Int → Bool × Int} {g : S26 → Nat} {R : S26 → Prop} (hf : ∀ y l, 0 ≤ l → (f y l).1 = true → R y ∧ 0 ≤ (f y l).2 ∧ (f y l).2 + g y = l) : ∀ (xs : List S26) (l : Int), 0 ≤ l → (rights f xs l).1 = true → (∀ y ∈ xs, R y) ∧ 0 ≤ (rights f xs l).2 ∧ (rights f xs l).2 + ((xs.map g).sum : Nat) = l
  | [], l, hl, _ => ⟨(fun y h => by cases h), hl, by simp [rights]⟩
  | y :: r, l, hl, h => by
    unfold rights at h ⊢
    by_cases h1 : (f y l).1 = true
    · rw [if_pos h1] at h ⊢
      obtain ⟨a1, a2, a3⟩ := hf y l hl h1
      obtain ⟨b1, b2, b3⟩ := rights_true hf r _ a2 h
      refine ⟨fun z hz => ?_, b2, ?_⟩
      · rcases List.mem_cons.1 hz with rfl | hz
        · exact a1
        · exact b1 z hz
      · rw [List.map_cons, List.sum_cons]
        push_cast
        omega
    · rw [if_neg h1] at h
      cases h
theorem right_true : ∀ (n : Nat) (x : S26) (l : Int), 0 ≤ l → (rightF n x l).1 = true → Rt n x ∧ 0 ≤ (rightF n x l).2 ∧ (rightF n x l).2 + cnt n x = l
  | 0, x, l, _, h => by simp [rightF] at h
  | n + 1, x, l, hl, h => by
    unfold rightF at h ⊢
    by_cases c1 : l - 1 < 0 ∨ (x.f0 < 6 ∧ x.f6 ≠ []) ∨ (x.f0 ≠ 7 ∧ x.f5 ≠ [])
    · rw [if_pos c1] at h
      cases h
    rw [if_neg c1] at h ⊢
    have c2 : 0 ≤ l - 1 ∧ (x.f0 < 6 → x.f6 = []) ∧ (x.f0 ≠ 7 → x.f5 = []) := by
      refine ⟨by omega, fun hx => ?_, fun hx => ?_⟩
      · exact Classical.byContradiction fun hn => c1 (.inr (.inl ⟨hx, hn⟩))
      · exact Classical.byContradiction fun hn => c1 (.inr (.inr ⟨hx, hn⟩))
    by_cases c3 : x.f0 = 0 ∨ x.f0 = 1 ∨ x.f0 = 2 ∨ x.f0 = 5
    · rw [if_pos c3] at h ⊢
      have e6 := c2.2.1 (by omega)
      have e5 := c2.2.2 (by omega)
      refine ⟨?_, c2.1, ?_⟩
      · unfold Rt
        exact .inl ⟨c3, e5, e6⟩
      · unfold cnt
        rw [e6]
        simp
    rw [if_neg c3] at h ⊢
    by_cases c4 : x.f0 = 4
    · rw [if_pos c4] at h ⊢
      have e6 := c2.2.1 (by omega)
      have e5 := c2.2.2 (by omega)
      refine ⟨?_, c2.1, ?_⟩
      · unfold Rt
        exact .inr (.inl ⟨c4, fin_of h, e5, e6⟩)
      · unfold cnt
        rw [e6]
        simp
    rw [if_neg c4] at h ⊢
    by_cases c5 : x.f0 = 7
    · rw [if_pos c5] at h ⊢
      by_cases c6 : RiseTo x.f5 x.f5.length ∧ x.f5.length = x.f6.length
      · rw [if_pos c6] at h ⊢
        obtain ⟨a1, a2, a3⟩ := rights_true (g := cnt n) (R := Rt n) (right_true n) x.f6 (l - 1) c2.1 h
        refine ⟨?_, a2, ?_⟩
        · unfold Rt
          exact .inr (.inr (.inr ⟨c5, rising_of c6.1, c6.2, a1⟩))
        · unfold cnt
          push_cast
          omega
      · rw [if_neg c6] at h
        cases h
    rw [if_neg c5] at h ⊢
    by_cases c7 : x.f0 = 6
    · rw [if_pos c7] at h ⊢
      obtain ⟨a1, a2, a3⟩ := rights_true (g := cnt n) (R := Rt n) (right_true n) x.f6 (l - 1) c2.1 h
      refine ⟨?_, a2, ?_⟩
      · unfold Rt
        exact .inr (.inr (.inl ⟨c7, c2.2.2 c5, a1⟩))
      · unfold cnt
        push_cast
        omega
    · rw [if_neg c7] at h
      cases h

/-! ### what it tells, case by case -/
section
variable {n : Nat} {x : S26} {l : Int}
theorem rf_zero : rightF 0 x l = (false, l - 1) := rfl
theorem rf_left (h : l - 1 < 0) : rightF (n + 1) x l = (false, l - 1) := by unfold rightF; rw [if_pos (.inl h)]
theorem rf_l6 (h : x.f0 < 6) (h6 : 0 < x.f6.length) : rightF (n + 1) x l = (false, l - 1) := by unfold rightF; rw [if_pos (.inr (.inl ⟨h, fun e => by rw [e] at h6; simp at h6⟩))]
theorem rf_k5 (h : x.f0 ≠ 7) (h5 : 0 < x.f5.length) : rightF (n + 1) x l = (false, l - 1) := by unfold rightF; rw [if_pos (.inr (.inr ⟨h, fun e => by rw [e] at h5; simp at h5⟩))]
theorem rf_ok (h : 0 ≤ l - 1) (h6 : x.f0 < 6 → x.f6.length = 0) (h5 : x.f0 ≠ 7 → x.f5.length = 0) : ¬ (l - 1 < 0 ∨ (x.f0 < 6 ∧ x.f6 ≠ []) ∨ (x.f0 ≠ 7 ∧ x.f5 ≠ [])) := by
  rintro (h1 | ⟨h1, h2⟩ | ⟨h1, h2⟩)
  · omega
  · exact h2 (List.length_eq_zero_iff.1 (h6 h1))
  · exact h2 (List.length_eq_zero_iff.1 (h5 h1))
theorem rf_scalar (h : 0 ≤ l - 1) (hx : x.f0 = 0 ∨ x.f0 = 1 ∨ x.f0 = 2 ∨ x.f0 = 5) (h6 : x.f6.length = 0) (h5 : x.f5.length = 0) : rightF (n + 1) x l = (true, l - 1) := by unfold rightF; rw [if_neg (rf_ok h (fun _ => h6) (fun _ => h5)), if_pos hx]
theorem rf_float (h : 0 ≤ l - 1) (hx : x.f0 = 4) (h6 : x.f6.length = 0) (h5 : x.f5.length = 0) : rightF (n + 1) x l = (finB x.f3, l - 1) := by unfold rightF; rw [if_neg (rf_ok h (fun _ => h6) (fun _ => h5)), if_neg (by omega), if_pos hx]
theorem rf_table (h : 0 ≤ l - 1) (hx : x.f0 = 7) (hr : RiseTo x.f5 x.f5.length) (hl : x.f5.length = x.f6.length) : rightF (n + 1) x l = rights (rightF n) x.f6 (l - 1) := by unfold rightF; rw [if_neg (rf_ok h (fun _ => by omega) (fun e => absurd hx e)), if_neg (by omega), if_neg (by omega), if_pos hx, if_pos ⟨hr, hl⟩]
theorem rf_table_no (h : 0 ≤ l - 1) (hx : x.f0 = 7) (hr : ¬ (RiseTo x.f5 x.f5.length ∧ x.f5.length = x.f6.length)) : rightF (n + 1) x l = (false, l - 1) := by unfold rightF; rw [if_neg (rf_ok h (fun _ => by omega) (fun e => absurd hx e)), if_neg (by omega), if_neg (by omega), if_pos hx, if_neg hr]
theorem rf_list (h : 0 ≤ l - 1) (hx : x.f0 = 6) (h5 : x.f5.length = 0) : rightF (n + 1) x l = rights (rightF n) x.f6 (l - 1) := by unfold rightF; rw [if_neg (rf_ok h (fun _ => by omega) (fun _ => h5)), if_neg (by omega), if_neg (by omega), if_neg (by omega), if_pos hx]
theorem rf_other (h : 0 ≤ l - 1) (hx : x.f0 ≠ 0 ∧ x.f0 ≠ 1 ∧ x.f0 ≠ 2 ∧ x.f0 ≠ 5 ∧ x.f0 ≠ 4 ∧ x.f0 ≠ 7 ∧ x.f0 ≠ 6) (h6 : x.f0 < 6 → x.f6.length = 0) (h5 : x.f5.length = 0) : rightF (n + 1) x l = (false, l - 1) := by unfold rightF; rw [if_neg (rf_ok h h6 (fun _ => h5)), if_neg (by omega), if_neg (by omega), if_neg (by omega), if_neg (by omega)]
end
theorem rise_next {l : List ByteArray} {i : Nat} (h : RiseTo l i) (hi : i < l.length) (h0 : 0 < i) (hl : Op.bytesLess (l[i - 1]'(by omega)).toList l[i].toList = true) : RiseTo l (i + 1) := by
  intro k hk hkl hki
  by_cases e : k = i
  · subst e
    exact hl
  · exact h k hk hkl (by omega)
theorem rights_hit {f : S26 → Int → Bool × Int} {xs : List S26} {j : Nat} {l : Int} (hj : j < xs.length) (h : (f xs[j] l).1 = true) : rights f (xs.drop j) l = rights f (xs.drop (j + 1)) (f xs[j] l).2 := by
  rw [drop_next hj]
  show (if _ then _ else _) = _
  rw [if_pos h]
theorem rights_fall {f : S26 → Int → Bool × Int} {xs : List S26} {j : Nat} {l : Int} (hj : j < xs.length) (h : (f xs[j] l).1 = false) : rights f (xs.drop j) l = (false, (f xs[j] l).2) := by
  rw [drop_next hj]
  show (if _ then _ else _) = _
  rw [if_neg (by rw [h]; decide)]
theorem rights_end {f : S26 → Int → Bool × Int} {xs : List S26} {l : Int} : rights f (xs.drop xs.length) l = (true, l) := by
  rw [List.drop_length]
  rfl
end Go.Proofs.Ytjfbjkodjjlkiaa.HVal
/-! What spec.tbRight comes to, for any value: it tells what rightF tells, and counts. -/
namespace Go.Proofs.Ytjfbjkodjjlkiaa.HVal
open Go.RowKit Go.WideMaps Go.Maps Go.Proofs.YtjfbjkodjjlkiaaW.PrintWords Go.Proofs.YtjfbjkodjjlkiaaW.PrintLast Go.Proofs.YtjfbjkodjjlkiaaW.PrintMore Go.Proofs.Ytjfbjkodjjlkiaa.Plain Go.Proofs.Ytjfbjkodjjlkiaa.GTab
attribute [local go_sem] run_store_flt

def RightPost (w : World) (g : Nat) (r : Bool × Int) (e : Ending) (w' : World) : Prop := e = .returned (.bool r.1) ∧ w'.heap[g]? = some (.cells #[.int .i64 r.2] 3 (0, 0)) ∧ w.grownBy w' (some g)
def RightC (n : Nat) : Prop := ∀ (x : S26) (A5 : Option Addr) (c5 : Nat) (A6 : Option Addr) (c6 : Nat) (P : Nat → Prop) (l : Int) (g : Nat) (w : World), KV w P x A5 c5 A6 c6 → (∀ k, P k → k ≠ g ∧ k < w.heap.size) → 0 ≤ l → l ≤ 100000 → w.heap[g]? = some (.cells #[.int .i64 l] 3 (0, 0)) →
  Calls Try.prog 72 #[agg26 x A5 c5 A6 c6, .int .i64 n, .pointer (some ⟨g, 0, none⟩)] w (RightPost w g (rightF n x l))
/-- The world in which it counts. -/
theorem right_end {w : World} {g : Nat} {l : Int} {o : Obj} {r : Bool × Int} {b : Bool} (hg : w.heap[g]? = some (.cells #[.int .i64 l] 3 (0, 0))) (hr : r = (b, l - 1)) : RightPost w g r (.returned (.bool b)) ((w.setCell ⟨g, 0, none⟩ (.int .i64 (l - 1))).alloc o) := by
  subst hr
  exact ⟨rfl, blk_alloc (blk_put hg 0 (.int .i64 (l - 1)) rfl) o, grown_alloc (grown_put (grown_refl w _) _) o⟩
set_option maxRecDepth 100000 in
set_option maxHeartbeats 4000000 in
theorem right_zero (n : Nat) (x : S26) (A5 : Option Addr) (c5 : Nat) (A6 : Option Addr) (c6 : Nat) (l : Int) (g : Nat) (w : World) (h0 : 0 ≤ l) (h1 : l ≤ 100000) (hg : w.heap[g]? = some (.cells #[.int .i64 l] 3 (0, 0)))
    (hz : l - 1 < 0 ∨ n = 0) : Calls Try.prog 72 #[agg26 x A5 c5 A6 c6, .int .i64 n, .pointer (some ⟨g, 0, none⟩)] w (RightPost w g (rightF n x l)) := by
  have HG := Aside0.mk hg
  have g0 : w.cell? ⟨g, 0, none⟩ = some (.int .i64 l) := (blk_cell hg 0).trans rfl
  have f0 := blk_frozen hg 0
  have n0 : w.heap.size ≠ g := World.new_ne w _ g0
  have lg : g < w.heap.size := blk_lt hg
  have HR := Aside0.mk (show rightF n x l = (false, l - 1) by
    rcases hz with h | rfl
    · cases n with
      | zero => rfl
      | succ n => exact rf_left h
    · rfl)
  clear hg
  by_cases hl : l - 1 < 0
  · clear hz
    go_enter Try.func72, Try.ntmps72
    go_wp2
    go_ret
    exact right_end HG.out HR.out
  · have hn : n = 0 := hz.resolve_left hl
    subst hn
    clear hz
    go_enter Try.func72, Try.ntmps72
    go_wp2
    go_ret
    exact right_end HG.out HR.out
theorem sub_some {x r : Nat} (P : Program) (w : World) (h : FloatKind.f64.format.sub x x = some r) : (Op.floatArith .sub .f64 x x).run P w = .ok (.float .f64 r) w := by
  simp [Op.floatArith, h]
set_option maxRecDepth 100000 in
set_option maxHeartbeats 8000000 in
/-- Values of one node, and those that cannot be given. -/
theorem right_one (n : Nat) (x : S26) (A5 : Option Addr) (c5 : Nat) (A6 : Option Addr) (c6 : Nat) (l : Int) (g : Nat) (w : World) (h0 : 0 ≤ l - 1) (h1 : l ≤ 100000) (hg : w.heap[g]? = some (.cells #[.int .i64 l] 3 (0, 0)))
    (hc : (x.f0 < 6 ∧ 0 < x.f6.length) ∨ (x.f0 ≠ 7 ∧ (x.f0 < 6 → x.f6.length = 0) ∧ 0 < x.f5.length) ∨ ((x.f0 = 0 ∨ x.f0 = 1 ∨ x.f0 = 2 ∨ x.f0 = 5) ∧ x.f6.length = 0 ∧ x.f5.length = 0) ∨ ((x.f0 ≠ 0 ∧ x.f0 ≠ 1 ∧ x.f0 ≠ 2 ∧ x.f0 ≠ 5 ∧ x.f0 ≠ 4 ∧ x.f0 ≠ 7 ∧ x.f0 ≠ 6) ∧ (x.f0 < 6 → x.f6.length = 0) ∧ x.f5.length = 0)) :
    Calls Try.prog 72 #[agg26 x A5 c5 A6 c6, .int .i64 ((n + 1 : Nat) : Int), .pointer (some ⟨g, 0, none⟩)] w (RightPost w g (rightF (n + 1) x l)) := by
  have HG := Aside0.mk hg
  have g0 : w.cell? ⟨g, 0, none⟩ = some (.int .i64 l) := (blk_cell hg 0).trans rfl
  have f0 := blk_frozen hg 0
  have n0 : w.heap.size ≠ g := World.new_ne w _ g0
  have lg : g < w.heap.size := blk_lt hg
  have hn : ¬ ((n + 1 : Nat) : Int) < 1 := by omega
  have hl : ¬ l - 1 < 0 := by omega
  obtain ⟨m, hm⟩ : ∃ m : Int, ((n + 1 : Nat) : Int) = m := ⟨_, rfl⟩
  rw [hm] at hn ⊢
  clear hg hm
  rcases hc with ⟨a, b⟩ | ⟨a, b, c⟩ | ⟨a, b, c⟩ | ⟨a, b, c⟩
  · have HR := Aside0.mk (rf_l6 (n := n) (l := l) a b)
    have b2 : x.f6 ≠ [] := List.length_pos_iff.1 b
    go_enter Try.func72, Try.ntmps72
    go_wp2
    go_ret
    exact right_end HG.out HR.out
  · have HR := Aside0.mk (rf_k5 (n := n) (l := l) a c)
    have c2 : x.f5 ≠ [] := List.length_pos_iff.1 c
    have a2 : (x.f0 != 7) = true := bne_iff_ne.2 a
    by_cases k : x.f0 < 6
    · have b2 : x.f6 = [] := List.length_eq_zero_iff.1 (b k)
      clear b
      go_enter Try.func72, Try.ntmps72
      go_wp2
      go_ret
      exact right_end HG.out HR.out
    · clear b
      go_enter Try.func72, Try.ntmps72
      go_wp2
      go_ret
      exact right_end HG.out HR.out
  · have HR := Aside0.mk (rf_scalar (n := n) (l := l) h0 a b c)
    have b2 : x.f6 = [] := List.length_eq_zero_iff.1 b
    have c2 : x.f5 = [] := List.length_eq_zero_iff.1 c
    clear b c
    rcases a with a | a | a | a
    all_goals
      go_enter Try.func72, Try.ntmps72
      go_wp2
      go_ret
      exact right_end HG.out HR.out
  · have HR := Aside0.mk (rf_other (n := n) (l := l) h0 a b c)
    have c2 : x.f5 = [] := List.length_eq_zero_iff.1 c
    obtain ⟨a0, a1, a2, a3, a4, a5, a6⟩ := a
    have b0 : (x.f0 == 0) = false := beq_eq_false_iff_ne.2 a0
    have b1 : (x.f0 == 1) = false := beq_eq_false_iff_ne.2 a1
    have b2 : (x.f0 == 2) = false := beq_eq_false_iff_ne.2 a2
    have b3 : (x.f0 == 5) = false := beq_eq_false_iff_ne.2 a3
    have b4 : (x.f0 == 4) = false := beq_eq_false_iff_ne.2 a4
    have b5 : (x.f0 == 7) = false := beq_eq_false_iff_ne.2 a5
    have b6 : (x.f0 == 6) = false := beq_eq_false_iff_ne.2 a6
    have b7 : (x.f0 != 7) = true := bne_iff_ne.2 a5
    by_cases k : x.f0 < 6
    · have e6 : x.f6 = [] := List.length_eq_zero_iff.1 (b k)
      clear b c
      go_enter Try.func72, Try.ntmps72
      go_wp2
      go_ret
      exact right_end HG.out HR.out
    · clear b c
      go_enter Try.func72, Try.ntmps72
      go_wp2
      go_ret
      exact right_end HG.out HR.out
end Go.Proofs.Ytjfbjkodjjlkiaa.HVal
