/- The law FnSchemaKeys returns true for every input: a schema tells the strategy and the key of its patches that it has. -/
import Derived.Test.YtmjecafddklbjaaHSchemaKeys
namespace Go.Proofs.Ytmjecafddklbjaa.HSchema
open Go.RowKit Go.Proofs.YtmjecafddklbjaaW.PrintWords

theorem keys_as (A : Option Addr) (n c : Nat) (h k : Bool) (s t s1 k1 : ByteArray) (hs : sOf h s = s1) (hk : sOf (h && k) t = k1) (w : World) :
    Calls Try.prog 5 #[inS (.slice A n c) h k s t] w (Keys w s1 k1) := by
  subst hs hk
  exact keys_calls A n c h k s t w

def merge : ByteArray := ⟨#[109, 101, 114, 103, 101]⟩
set_option maxHeartbeats 4000000 in
theorem law_calls (s t : ByteArray) (h k : Bool) (w : World) (_hs : s.size ≤ 140737488351232) (_ht : t.size ≤ 140737488351232) :
    Calls Try.prog 3 #[.string s, .string t, .bool h, .bool k] w fun e w' => e = .returned (.bool true) ∧ Below w.heap.size w w' := by
  have HB := Aside0.mk (Below.refl w.heap.size w)
  by_cases s0 : 2147483647 < (s.size : Int)
  · go_enter Try.func3, Try.ntmps3
    go_wp2
    go_ret
    exact ⟨rfl, HB.out⟩
  by_cases s1 : 2147483647 < (t.size : Int)
  · go_enter Try.func3, Try.ntmps3
    go_wp2
    go_ret
    exact ⟨rfl, HB.out⟩
  by_cases s2 : 20 < (s.size : Int)
  · go_enter Try.func3, Try.ntmps3
    go_wp2
    go_ret
    exact ⟨rfl, HB.out⟩
  by_cases s3 : 20 < (t.size : Int)
  · go_enter Try.func3, Try.ntmps3
    go_wp2
    go_ret
    exact ⟨rfl, HB.out⟩
  cases s4 : s.toList.isEmpty with
  | true =>
    have s4' : s.toList = [] := by simpa using s4
    clear s4
    go_enter Try.func3, Try.ntmps3
    go_wp2
    go_ret
    exact ⟨rfl, HB.out⟩
  | false =>
  cases s5 : t.toList.isEmpty with
  | true =>
    have s5' : t.toList = [] := by simpa using s5
    clear s5
    go_enter Try.func3, Try.ntmps3
    go_wp2
    go_ret
    exact ⟨rfl, HB.out⟩
  | false =>
    have q0 : (s.toList == s.toList) = true := by simp
    have q1 : (t.toList == t.toList) = true := by simp
    cases h <;> cases k
    all_goals
      go_enter Try.func3, Try.ntmps3
      go_wp2_with (go_at_call 5; refine (keys_as _ _ _ _ _ _ _ _ _ rfl rfl _).mono ?_; rintro e w1 hK; simp only [sOf, Bool.and_true, Bool.and_false, Bool.false_eq_true, if_true, if_false] at hK; obtain ⟨v, rfl, hb⟩ := hK; have n1 := Aside0.mk (below_step (by repeat (first | exact HB.out | apply below_alloc)) hb); clear HB hb; have HB := n1; clear n1)
    all_goals go_ret
    all_goals exact ⟨rfl, HB.out⟩

end Go.Proofs.Ytmjecafddklbjaa.HSchema
