/- What the texts of a group, version and kind come to: the reference's and the package's own. -/
import Derived.Test.YtfdgbgjbncakfaaHId
import Derived.Test.YtfdgbgjbncakfaaHShelfstringsJoin
import Derived.Deep.QuietTactic
import Derived.BigQuiet
import Derived.Deep.DeepCutAuto
import Derived.WalkKit
import Derived.WalkSpells
namespace Go.Proofs.Ytfdgbgjbncakfaa.HGvk
open Go.RowKit Go.Proofs.YtfdgbgjbncakfaaW.PrintWords Go.Proofs.YtfdgbgjbncakfaaW.PrintLast Go.Proofs.YtfdgbgjbncakfaaW.PrintMore Go.Proofs.Ytfdgbgjbncakfaa.Plain

def orB (a b : ByteArray) : ByteArray := if a = ByteArray.empty then b else a
theorem isEmpty_toList (s : ByteArray) : s.toList.isEmpty = decide (s = ByteArray.empty) := by
  rw [Bool.eq_iff_iff, List.isEmpty_iff, decide_eq_true_iff]
  constructor
  · intro h
    apply toList_inj.1
    rw [h, ByteArray.toList_eq]; rfl
  · rintro rfl
    rw [ByteArray.toList_eq]; rfl

set_option maxHeartbeats 400000 in
theorem or_calls (a b : ByteArray) (w : World) : Calls Try.prog 24 #[.string a, .string b] w fun e w' => e = .returned (.string (orB a b)) ∧ w' = w := by
  by_cases h : a = ByteArray.empty
  · have HE := Aside0.mk (show orB a b = b from if_pos h)
    have h1 : a.toList = [] := by rw [h, ByteArray.toList_eq]; rfl
    clear h
    go_enter Try.func24, Try.ntmps24
    go_wp2
    go_ret
    exact ⟨by rw [HE.out]; rfl, rfl⟩
  · have HE := Aside0.mk (show orB a b = a from if_neg h)
    have h1 : a.toList.isEmpty = false := by rw [isEmpty_toList, decide_eq_false h]
    clear h
    go_enter Try.func24, Try.ntmps24
    go_wp2
    go_ret
    exact ⟨by rw [HE.out]; rfl, rfl⟩

abbrev noK : ByteArray := ⟨#[91, 110, 111, 75, 105, 110, 100, 93]⟩
abbrev noV : ByteArray := ⟨#[91, 110, 111, 86, 101, 114, 93]⟩
abbrev noG : ByteArray := ⟨#[91, 110, 111, 71, 114, 112, 93]⟩
abbrev pt : ByteArray := ⟨#[46]⟩
def textB (g v k : ByteArray) : ByteArray := orB k noK ++ pt ++ orB v noV ++ pt ++ orB g noG
theorem or_size {a b : ByteArray} {n : Nat} (h : a.size ≤ n) (hb : b.size ≤ n) : (orB a b).size ≤ n := by unfold orB; split <;> assumption

set_option maxHeartbeats 1000000 in
theorem spec_calls (g v k n s : ByteArray) (w : World) (hg : g.size ≤ 1000) (hv : v.size ≤ 1000) (hk : k.size ≤ 1000) :
    Calls Try.prog 12 #[.agg #[.string g, .string v, .string k, .string n, .string s]] w fun e w' => e = .returned (.string (textB g v k)) ∧ Below w.heap.size w w' := by
  have s1 : (orB k noK).size ≤ 1000 := or_size hk (by decide)
  have s2 : (orB v noV).size ≤ 1000 := or_size hv (by decide)
  have s3 : (orB g noG).size ≤ 1000 := or_size hg (by decide)
  have r1 : ¬ 9223372036854775807 < (orB k noK).size + 1 := by omega
  have r2 : ¬ 9223372036854775807 < (orB k noK).size + 1 + (orB v noV).size := by omega
  have r3 : ¬ 9223372036854775807 < (orB k noK).size + 1 + (orB v noV).size + 1 := by omega
  have r4 : ¬ 9223372036854775807 < (orB k noK).size + 1 + (orB v noV).size + 1 + (orB g noG).size := by omega
  clear s1 s2 s3 hg hv hk
  go_enter Try.func12, Try.ntmps12
  go_wp2
  go_quiet ((go_at_call 24; exact Calls.quiet_of_same (or_calls _ _ _)))
  go_wp2
  go_ret
  exact ⟨rfl, pw_below_drewN (below_alloc (Below.refl _ _) _) _⟩

/-- strings.Join over texts that lie in a block of their own. -/
theorem join_calls (xs : List ByteArray) (sep : ByteArray) (W : World) (e : TypeId) (b n : Nat) (hb : W.heap.size = b) (hn : xs.length = n) (hN : xs.length ≤ 140737488355328) (hlen : (Lib.join (xs.map (·.data.toList)) sep.data.toList).length ≤ 140737488355328) :
    Calls Try.prog 31 #[.slice (some ⟨b, 0, none⟩) n n, .string sep] (W.alloc (.cells (xs.map Value.string).toArray e)) fun e w' => e = .returned (.string ⟨(Lib.join (xs.map (·.data.toList)) sep.data.toList).toArray⟩) ∧ Below W.heap.size W w' := by
  subst hb hn
  refine (Try.strings_Join W.heap.size 0 xs.length xs sep (W.alloc (.cells (xs.map Value.string).toArray e)) (fun j x hx => ?_) (by simp) hN (Nat.le_refl _) hlen).mono fun e w' ⟨he, hw⟩ => ⟨he, below_step (below_alloc (Below.refl _ _) _) hw⟩
  rw [Nat.zero_add, blk_cell (blk_new W _)]
  simp [hx]

theorem or_cases (x d : ByteArray) : (x.toList = [] ∧ orB x d = d) ∨ (x.toList.isEmpty = false ∧ orB x d = x) := by
  by_cases h : x = ByteArray.empty
  · exact .inl ⟨by rw [h, ByteArray.toList_eq]; rfl, if_pos h⟩
  · exact .inr ⟨by rw [isEmpty_toList, decide_eq_false h], if_neg h⟩

theorem text_join (x y z : ByteArray) : (⟨(Lib.join ([x, y, z].map (·.data.toList)) pt.data.toList).toArray⟩ : ByteArray) = x ++ pt ++ y ++ pt ++ z := by
  apply toList_inj.1
  rw [ByteArray.toList_eq, ByteArray.toList_eq]
  simp [Lib.join, ByteArray.data_append]

theorem join_small (x y z : ByteArray) (hx : x.size ≤ 1000) (hy : y.size ≤ 1000) (hz : z.size ≤ 1000) : (Lib.join ([x, y, z].map (·.data.toList)) pt.data.toList).length ≤ 140737488355328 := by
  have a : x.data.size ≤ 1000 := hx
  have b : y.data.size ≤ 1000 := hy
  have c : z.data.size ≤ 1000 := hz
  simp [Lib.join]
  omega

theorem join3_calls (x y z : ByteArray) (W : World) (b : Nat) (hb : W.heap.size = b) (hx : x.size ≤ 1000) (hy : y.size ≤ 1000) (hz : z.size ≤ 1000) :
    Calls Try.prog 31 #[.slice (some ⟨b, 0, none⟩) 3 3, .string pt] (W.alloc (.cells #[.string x, .string y, .string z] 9)) fun e w' => e = .returned (.string (x ++ pt ++ y ++ pt ++ z)) ∧ Below W.heap.size W w' := by
  refine (join_calls [x, y, z] pt W 9 b 3 hb rfl (by simp) (join_small x y z hx hy hz)).mono ?_
  rintro e w' ⟨rfl, h⟩
  exact ⟨by rw [text_join], h⟩

set_option maxHeartbeats 1000000 in
theorem string_calls (g v k : ByteArray) (f : Bool) (w : World) (hg : g.size ≤ 1000) (hv : v.size ≤ 1000) (hk : k.size ≤ 1000) :
    Calls Try.prog 21 #[.agg #[.string g, .string v, .string k, .bool f]] w fun e w' => e = .returned (.string (textB g v k)) ∧ Below w.heap.size w w' := by
  have S1 := Aside0.mk (show (orB k noK).size ≤ 1000 from or_size hk (by decide))
  have S2 := Aside0.mk (show (orB v noV).size ≤ 1000 from or_size hv (by decide))
  have S3 := Aside0.mk (show (orB g noG).size ≤ 1000 from or_size hg (by decide))
  clear hg hv hk
  rcases or_cases g noG with ⟨g1, g2⟩ | ⟨g1, g2⟩ <;> rcases or_cases v noV with ⟨v1, v2⟩ | ⟨v1, v2⟩ <;> rcases or_cases k noK with ⟨k1, k2⟩ | ⟨k1, k2⟩
  all_goals
    have HT := Aside0.mk (show textB g v k = _ from by unfold textB; rw [g2, v2, k2])
    rw [k2] at S1
    rw [v2] at S2
    rw [g2] at S3
    clear g2 v2 k2
    go_enter Try.func21, Try.ntmps21
    go_wp2_with (go_at_call 31; refine (join3_calls _ _ _ _ _ (by simp) S1.out S2.out S3.out).mono ?_; rintro e w2 ⟨rfl, hb⟩; have HB := Aside0.mk (below_step (below_alloc (Below.refl _ _) _) hb); clear hb)
    go_ret
    exact ⟨by rw [HT.out]; rfl, HB.out⟩

end Go.Proofs.Ytfdgbgjbncakfaa.HGvk
