/- The law FnKindOrder returns true for every input: of two kinds the one that is installed, or uninstalled, earlier stands ahead; where the two orders lie in the variables as their initialisers lay them. -/
import Derived.Test.YtefejcggkkmhaaaDoorHKindPure
namespace Go.Proofs.YtefejcggkkmhaaaDoor.HKind
open Go.RowKit Go.Proofs.YtefejcggkkmhaaaDoorW.PrintWords Go.Proofs.YtefejcggkkmhaaaDoorW.PrintLast Go.Proofs.YtefejcggkkmhaaaDoorW.PrintMore Go.Proofs.YtefejcggkkmhaaaDoor.Plain Go.Proofs.YtefejcggkkmhaaaDoor.PFnKindOrder

/-- The two orders lie in the variables. -/
def Laid (w : World) : Prop := ∀ un : Bool, ∃ A c, w.cell? ⟨if un then 1 else 2, 0, none⟩ = some (.slice A 36 c) ∧ Kd.C Kd.string w A 36 (orderOf un)
theorem Laid.below {w w' : World} (h : Laid w) (hb : Below w.heap.size w w') : Laid w' := fun un => by
  obtain ⟨A, c, h1, h2⟩ := h un
  exact ⟨A, c, pw_cell_below hb h1, Kd.C_below h2 hb⟩
theorem order_sizes (un : Bool) : ∀ s ∈ orderOf un, s.size ≤ maxLen := by
  have h : ((orderOf un).all fun s => decide (s.size ≤ 100)) = true := by cases un <;> decide
  intro s hs
  have := List.all_eq_true.1 h s hs
  unfold maxLen
  simp at this
  omega

set_option maxHeartbeats 1000000 in
theorem zz_calls (a b : ByteArray) (un : Bool) (w : World) (hL : Laid w) (ha : a.size ≤ maxLen) (hb : b.size ≤ maxLen) :
    Calls Tryd.prog 13 #[.string a, .string b, .bool un] w fun e w' => e = .returned (.bool (lessB a b (orderOf un))) ∧ Below w.heap.size w w' := by
  obtain ⟨A, c, hc, hr⟩ := hL un
  cases un with
  | true =>
    have hc' : w.cell? ⟨1, 0, none⟩ = some (.slice A 36 c) := hc
    clear hc
    go_enter Tryd.func13, Tryd.ntmps13
    go_wp2_with (go_at_call 16; refine (less_calls a b _ A c _ (order_length true) hr (order_sizes true) ha hb).mono ?_; rintro e w1 ⟨rfl, hb⟩)
    go_ret
    exact ⟨rfl, hb⟩
  | false =>
    have hc' : w.cell? ⟨2, 0, none⟩ = some (.slice A 36 c) := hc
    clear hc
    go_enter Tryd.func13, Tryd.ntmps13
    go_wp2_with (go_at_call 16; refine (less_calls a b _ A c _ (order_length false) hr (order_sizes false) ha hb).mono ?_; rintro e w1 ⟨rfl, hb⟩)
    go_ret
    exact ⟨rfl, hb⟩

set_option maxHeartbeats 1000000 in
theorem kind_calls (a b : ByteArray) (un : Bool) (w : World) (hL : Laid w) (ha : a.size ≤ maxLen) (hb : b.size ≤ maxLen) :
    Calls Tryd.prog 9 #[.string a, .string b, .bool un] w fun e w' => e = .returned (.bool (lessB a b (orderOf un))) ∧ Below w.heap.size w w' := by
  go_enter Tryd.func9, Tryd.ntmps9
  go_wp2_with (go_at_call 13; refine (zz_calls a b un _ hL ha hb).mono ?_; rintro e w1 ⟨rfl, hb⟩)
  go_ret
  exact ⟨rfl, hb⟩

theorem small : (⟨#[78, 97, 109, 101, 115, 112, 97, 99, 101]⟩ : ByteArray).size ≤ maxLen := by decide
theorem small2 : (⟨#[80, 111, 100]⟩ : ByteArray).size ≤ maxLen := by decide
theorem known : lessB ⟨#[78, 97, 109, 101, 115, 112, 97, 99, 101]⟩ ⟨#[80, 111, 100]⟩ (orderOf false) = true := by decide +kernel

set_option maxHeartbeats 2000000 in
theorem order_calls (a b : ByteArray) (un : Bool) (w : World) (ha : a.size ≤ 140737488351232) (hb : b.size ≤ 140737488351232) (hL : Laid w) :
    Calls Tryd.prog 5 #[.string a, .string b, .bool un] w fun e w' => e = .returned (.bool true) ∧ Below w.heap.size w w' := by
  have HA := Aside0.mk (show a.size ≤ maxLen by unfold maxLen; omega)
  have HB := Aside0.mk (show b.size ≤ maxLen by unfold maxLen; omega)
  have HL := Aside0.mk hL
  have HT1 := Aside0.mk trivial
  have HT2 := Aside0.mk trivial
  clear hL ha hb
  obtain ⟨k1, hk1⟩ := (place_tells a un).rounds
  obtain ⟨k2, hk2⟩ := (place_tells b un).rounds
  have H1 := Aside0.mk hk1
  have H2 := Aside0.mk hk2
  have HP := Aside0.mk (less_places a b (orderOf un))
  clear hk1 hk2
  by_cases a1 : 2147483647 < (a.size : Int)
  · go_enter Tryd.func5, Tryd.ntmps5
    go_wp2
    go_ret
    exact ⟨rfl, Below.refl _ _⟩
  by_cases b1 : 2147483647 < (b.size : Int)
  · go_enter Tryd.func5, Tryd.ntmps5
    go_wp2
    go_ret
    exact ⟨rfl, Below.refl _ _⟩
  by_cases a2 : 100 < (a.size : Int)
  · go_enter Tryd.func5, Tryd.ntmps5
    go_wp2
    go_ret
    exact ⟨rfl, Below.refl _ _⟩
  by_cases b2 : 100 < (b.size : Int)
  · go_enter Tryd.func5, Tryd.ntmps5
    go_wp2
    go_ret
    exact ⟨rfl, Below.refl _ _⟩
  obtain ⟨p, hp⟩ : ∃ p, place a (orderOf un) = p := ⟨_, rfl⟩
  obtain ⟨q, hq⟩ : ∃ q, place b (orderOf un) = q := ⟨_, rfl⟩
  rw [hp, hq] at HP
  rw [hp] at H1
  rw [hq] at H2
  clear hp hq
  by_cases e1 : p = q
  · subst e1
    by_cases e2 : p = 36
    · subst e2
      have HV := Aside0.mk (show lessB a b (orderOf un) = Op.bytesLess a.toList b.toList by rw [HP.out, if_pos ⟨rfl, rfl⟩])
      go_enter Tryd.func5, Tryd.ntmps5
      go_wp2_with (first
    | (go_at_call 10; have tok := HT1; refine (spec_KindPlace.calls k1 a un 36 _ H1.out).mono ?_; rintro e w1 ⟨rfl, hb⟩; have n1 := Aside0.mk hb; clear hb tok HT1)
    | (go_at_call 10; refine (spec_KindPlace.calls k2 b un 36 _ H2.out).mono ?_; rintro e w2 ⟨rfl, hb⟩; have n2 := Aside0.mk (below_step n1.out hb); clear hb)
    | (go_at_call 9; have tok := HT2; refine (kind_calls a b un _ (HL.out.below n2.out) HA.out HB.out).mono ?_; rintro e w3 ⟨rfl, hb⟩; have n3 := Aside0.mk (below_step n2.out hb); rw [HV.out]; clear hb tok HT2)
    | (go_at_call 9; refine (kind_calls ⟨#[78, 97, 109, 101, 115, 112, 97, 99, 101]⟩ ⟨#[80, 111, 100]⟩ false _ (HL.out.below n3.out) small small2).mono ?_; rintro e w4 ⟨rfl, hb⟩; have n4 := Aside0.mk (below_step n3.out hb); rw [known]; clear hb))
      go_ret
      exact ⟨rfl, n4.out⟩
    · have HV := Aside0.mk (show lessB a b (orderOf un) = false by rw [HP.out, if_neg (by simp [e2])]; simp)
      have h1 : ((p : Int) == 36) = false := by rw [beq_eq_false_iff_ne]; omega
      clear e2
      go_enter Tryd.func5, Tryd.ntmps5
      go_wp2_with (first
    | (go_at_call 10; have tok := HT1; refine (spec_KindPlace.calls k1 a un (p : Int) _ H1.out).mono ?_; rintro e w1 ⟨rfl, hb⟩; have n1 := Aside0.mk hb; clear hb tok HT1)
    | (go_at_call 10; refine (spec_KindPlace.calls k2 b un (p : Int) _ H2.out).mono ?_; rintro e w2 ⟨rfl, hb⟩; have n2 := Aside0.mk (below_step n1.out hb); clear hb)
    | (go_at_call 9; have tok := HT2; refine (kind_calls a b un _ (HL.out.below n2.out) HA.out HB.out).mono ?_; rintro e w3 ⟨rfl, hb⟩; have n3 := Aside0.mk (below_step n2.out hb); rw [HV.out]; clear hb tok HT2)
    | (go_at_call 9; refine (kind_calls ⟨#[78, 97, 109, 101, 115, 112, 97, 99, 101]⟩ ⟨#[80, 111, 100]⟩ false _ (HL.out.below n3.out) small small2).mono ?_; rintro e w4 ⟨rfl, hb⟩; have n4 := Aside0.mk (below_step n3.out hb); rw [known]; clear hb))
      go_ret
      exact ⟨rfl, n4.out⟩
  · have h2 : ((p : Int) == (q : Int)) = false := by rw [beq_eq_false_iff_ne]; omega
    by_cases e2 : p < q
    · have HV := Aside0.mk (show lessB a b (orderOf un) = true by rw [HP.out, if_neg (fun h => e1 h.1)]; simp [e2])
      have h1 : (p : Int) < (q : Int) := by omega
      clear e1 e2
      go_enter Tryd.func5, Tryd.ntmps5
      go_wp2_with (first
    | (go_at_call 10; have tok := HT1; refine (spec_KindPlace.calls k1 a un (p : Int) _ H1.out).mono ?_; rintro e w1 ⟨rfl, hb⟩; have n1 := Aside0.mk hb; clear hb tok HT1)
    | (go_at_call 10; refine (spec_KindPlace.calls k2 b un (q : Int) _ H2.out).mono ?_; rintro e w2 ⟨rfl, hb⟩; have n2 := Aside0.mk (below_step n1.out hb); clear hb)
    | (go_at_call 9; have tok := HT2; refine (kind_calls a b un _ (HL.out.below n2.out) HA.out HB.out).mono ?_; rintro e w3 ⟨rfl, hb⟩; have n3 := Aside0.mk (below_step n2.out hb); rw [HV.out]; clear hb tok HT2)
    | (go_at_call 9; refine (kind_calls ⟨#[78, 97, 109, 101, 115, 112, 97, 99, 101]⟩ ⟨#[80, 111, 100]⟩ false _ (HL.out.below n3.out) small small2).mono ?_; rintro e w4 ⟨rfl, hb⟩; have n4 := Aside0.mk (below_step n3.out hb); rw [known]; clear hb))
      go_ret
      exact ⟨rfl, n4.out⟩
    · have HV := Aside0.mk (show lessB a b (orderOf un) = false by rw [HP.out, if_neg (fun h => e1 h.1)]; simp; omega)
      have h1 : decide (p < q) = false := decide_eq_false e2
      clear e1 e2
      go_enter Tryd.func5, Tryd.ntmps5
      go_wp2_with (first
    | (go_at_call 10; have tok := HT1; refine (spec_KindPlace.calls k1 a un (p : Int) _ H1.out).mono ?_; rintro e w1 ⟨rfl, hb⟩; have n1 := Aside0.mk hb; clear hb tok HT1)
    | (go_at_call 10; refine (spec_KindPlace.calls k2 b un (q : Int) _ H2.out).mono ?_; rintro e w2 ⟨rfl, hb⟩; have n2 := Aside0.mk (below_step n1.out hb); clear hb)
    | (go_at_call 9; have tok := HT2; refine (kind_calls a b un _ (HL.out.below n2.out) HA.out HB.out).mono ?_; rintro e w3 ⟨rfl, hb⟩; have n3 := Aside0.mk (below_step n2.out hb); rw [HV.out]; clear hb tok HT2)
    | (go_at_call 9; refine (kind_calls ⟨#[78, 97, 109, 101, 115, 112, 97, 99, 101]⟩ ⟨#[80, 111, 100]⟩ false _ (HL.out.below n3.out) small small2).mono ?_; rintro e w4 ⟨rfl, hb⟩; have n4 := Aside0.mk (below_step n3.out hb); rw [known]; clear hb))
      go_ret
      exact ⟨rfl, n4.out⟩

end Go.Proofs.YtefejcggkkmhaaaDoor.HKind
