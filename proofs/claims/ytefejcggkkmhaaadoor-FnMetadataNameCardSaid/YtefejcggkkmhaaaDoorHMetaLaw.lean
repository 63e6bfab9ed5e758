/- The law FnMetadataName returns true for every name; where the variable errInvalidKubernetesName holds a pointer. -/
import Derived.Test.YtefejcggkkmhaaaDoorHMeta
import Derived.LaidEql
namespace Go.Proofs.YtefejcggkkmhaaaDoor.HMeta
open Go.RowKit Go.Proofs.YtefejcggkkmhaaaDoorW.PrintWords Go.Proofs.YtefejcggkkmhaaaDoorW.PrintLast Go.Proofs.YtefejcggkkmhaaaDoorW.PrintMore Go.Proofs.YtefejcggkkmhaaaDoor.Plain Go.Proofs.YtefejcggkkmhaaaDoor.QvalidName

/-- The variable holds an error of a type, at a place. -/
def Held (w : World) : Prop := ∃ T a, w.cell? ⟨0, 0, none⟩ = some (.iface T (.pointer (some a)))
theorem Held.below {w w' : World} (h : Held w) (hb : Below w.heap.size w w') : Held w' := by
  obtain ⟨T, a, hc⟩ := h
  exact ⟨T, a, pw_cell_below hb hc⟩
def okName (s : ByteArray) : Bool := decide (s.size ≠ 0) && decide (s.size ≤ 253) && metaB s

theorem valid_eq (s : ByteArray) : good true 0 s.data.toList = metaB s := by
  rw [metaB, mets_eq]
  rfl

def IsErr (b : Bool) (v : Value) : Prop := if b then v = .nilIface else ∃ T a, v = .iface T (.pointer (some a))

set_option maxHeartbeats 1000000 in
theorem validate_calls (s : ByteArray) (w : World) (hs : s.size ≤ 140737488351232) (hg : Held w) :
    Calls Tryd.prog 11 #[.string s] w fun e w' => ∃ v : Value, e = .returned v ∧ IsErr (okName s) v ∧ Below w.heap.size w w' := by
  obtain ⟨T, a, hc⟩ := hg
  by_cases h0 : s.size = 0
  · have h1 : s.toList.isEmpty = true := by
      have := size_ne s
      simp [h0] at this
      exact List.isEmpty_iff.2 this
    have HF := Aside0.mk (show okName s = false by simp [okName, h0])
    clear h0 hs
    go_enter Tryd.func11, Tryd.ntmps11
    go_wp2
    go_ret
    exact ⟨_, rfl, by rw [HF.out]; exact ⟨T, a, rfl⟩, Below.refl _ _⟩
  · have h1 : s.toList.isEmpty = false := by
      have := size_ne s
      simpa [h0] using this
    by_cases h2 : s.size ≤ 253
    · have h3 : ¬ 253 < (s.size : Int) := by omega
      obtain ⟨k, hk⟩ := (valid_tells s (by omega) h0).rounds
      rw [valid_eq] at hk
      have HK := Aside0.mk hk
      have HO := Aside0.mk (show okName s = metaB s by simp [okName, h0, h2])
      clear h0 h2 hk hs
      cases hb : metaB s with
      | true =>
        have HB := Aside0.mk hb
        rw [hb] at HK HO
        clear hb
        go_enter Tryd.func11, Tryd.ntmps11
        go_wp2_with (go_at_call 15; refine (PvalidName.chartutil_validName.calls k s true _ HK.out).mono ?_; rintro e w1 ⟨rfl, hd⟩; obtain ⟨nd, rfl⟩ := hd.out; clear hd)
        go_ret
        exact ⟨_, rfl, by rw [HO.out]; exact rfl, pw_below_drewN (Below.refl _ _) _⟩
      | false =>
        have HB := Aside0.mk hb
        rw [hb] at HK HO
        clear hb
        go_enter Tryd.func11, Tryd.ntmps11
        go_wp2_with (go_at_call 15; refine (PvalidName.chartutil_validName.calls k s false _ HK.out).mono ?_; rintro e w1 ⟨rfl, hd⟩; obtain ⟨nd, rfl⟩ := hd.out; clear hd)
        go_ret
        exact ⟨_, rfl, by rw [HO.out]; exact ⟨T, a, rfl⟩, pw_below_drewN (Below.refl _ _) _⟩
    · have h3 : 253 < (s.size : Int) := by omega
      have HF := Aside0.mk (show okName s = false by simp [okName, h2])
      clear h0 h2 hs
      go_enter Tryd.func11, Tryd.ntmps11
      go_wp2
      go_ret
      exact ⟨_, rfl, by rw [HF.out]; exact ⟨T, a, rfl⟩, Below.refl _ _⟩

set_option maxHeartbeats 1000000 in
theorem name_calls (s : ByteArray) (w : World) (hs : s.size ≤ 140737488351232) (hg : Held w) :
    Calls Tryd.prog 6 #[.string s] w fun e w' => e = .returned (.bool (okName s)) ∧ Below w.heap.size w w' := by
  cases hb : okName s with
  | true =>
    go_enter Tryd.func6, Tryd.ntmps6
    go_wp2_with (go_at_call 11; refine (validate_calls s _ hs hg).mono ?_; rintro e w1 ⟨v, rfl, hv, hbe⟩; rw [hb] at hv; obtain rfl : v = .nilIface := hv)
    go_ret
    exact ⟨rfl, hbe⟩
  | false =>
    go_enter Tryd.func6, Tryd.ntmps6
    go_wp2_with (go_at_call 11; refine (validate_calls s _ hs hg).mono ?_; rintro e w1 ⟨v, rfl, hv, hbe⟩; rw [hb] at hv; obtain ⟨T, a, rfl⟩ : ∃ T a, v = .iface T (.pointer (some a)) := hv)
    go_ret
    exact ⟨rfl, hbe⟩

theorem okName_eq (s : ByteArray) : okName s = (metaB s && decide (s.size ≤ 253)) := by
  by_cases h0 : s.size = 0
  · have : metaB s = false := by
      have e : s.data.toList = [] := List.eq_nil_of_length_eq_zero (by rw [data_length]; exact h0)
      rw [metaB, e]; rfl
    simp [okName, this]
  · simp [okName, h0, Bool.and_comm]
theorem okA : okName ⟨#[97]⟩ = true := by decide +kernel

set_option maxHeartbeats 1000000 in
theorem law_calls (s : ByteArray) (w : World) (hs : s.size ≤ 140737488351232) (hg : Held w) :
    Calls Tryd.prog 3 #[.string s] w fun e w' => e = .returned (.bool true) ∧ Below w.heap.size w w' := by
  have HS := Aside0.mk hs
  have HG := Aside0.mk hg
  have HT := Aside0.mk trivial
  clear hs hg
  by_cases h1 : (s.size : Int) > 2147483647
  · have h2 : 2147483647 < (s.size : Int) := h1
    clear h1
    go_enter Tryd.func3, Tryd.ntmps3
    go_wp2
    go_ret
    exact ⟨rfl, Below.refl _ _⟩
  · have h2 : ¬ 2147483647 < (s.size : Int) := h1
    clear h1
    by_cases hm : metaB s = true
    · have HM := Aside0.mk hm
      by_cases h3 : s.size ≤ 253
      · have HO := Aside0.mk (show okName s = true by rw [okName_eq, hm]; simp [h3])
        have h4 : (s.size : Int) ≤ 253 := by omega
        clear hm h3
        go_enter Tryd.func3, Tryd.ntmps3
        go_wp2_with (first
      | (go_at_call 6; have tok := HT; refine (name_calls s _ HS.out HG.out).mono ?_; rintro e w1 ⟨rfl, hbe⟩; have n1 := Aside0.mk hbe; rw [HO.out]; clear hbe tok HT)
      | (go_at_call 7; refine (metadata_calls s _ HS.out).mono ?_; rintro e w2 ⟨rfl, rfl⟩; rw [HM.out])
      | (go_at_call 6; refine (name_calls ⟨#[97]⟩ _ (by decide) (HG.out.below n1.out)).mono ?_; rintro e w3 ⟨rfl, hbe⟩; have n3 := Aside0.mk (below_step n1.out hbe); rw [okA]; clear hbe))
        go_ret
        exact ⟨rfl, n3.out⟩
      · have HO := Aside0.mk (show okName s = false by rw [okName_eq, hm]; simp [h3])
        have h4 : decide ((s.size : Int) ≤ 253) = false := decide_eq_false (by omega)
        clear hm h3
        go_enter Tryd.func3, Tryd.ntmps3
        go_wp2_with (first
      | (go_at_call 6; have tok := HT; refine (name_calls s _ HS.out HG.out).mono ?_; rintro e w1 ⟨rfl, hbe⟩; have n1 := Aside0.mk hbe; rw [HO.out]; clear hbe tok HT)
      | (go_at_call 7; refine (metadata_calls s _ HS.out).mono ?_; rintro e w2 ⟨rfl, rfl⟩; rw [HM.out])
      | (go_at_call 6; refine (name_calls ⟨#[97]⟩ _ (by decide) (HG.out.below n1.out)).mono ?_; rintro e w3 ⟨rfl, hbe⟩; have n3 := Aside0.mk (below_step n1.out hbe); rw [okA]; clear hbe))
        go_ret
        exact ⟨rfl, n3.out⟩
    · have hm' : metaB s = false := by simpa using hm
      have HM := Aside0.mk hm'
      have HO := Aside0.mk (show okName s = false by rw [okName_eq, hm']; rfl)
      clear hm hm'
      go_enter Tryd.func3, Tryd.ntmps3
      go_wp2_with (first
      | (go_at_call 6; have tok := HT; refine (name_calls s _ HS.out HG.out).mono ?_; rintro e w1 ⟨rfl, hbe⟩; have n1 := Aside0.mk hbe; rw [HO.out]; clear hbe tok HT)
      | (go_at_call 7; refine (metadata_calls s _ HS.out).mono ?_; rintro e w2 ⟨rfl, rfl⟩; rw [HM.out])
      | (go_at_call 6; refine (name_calls ⟨#[97]⟩ _ (by decide) (HG.out.below n1.out)).mono ?_; rintro e w3 ⟨rfl, hbe⟩; have n3 := Aside0.mk (below_step n1.out hbe); rw [okA]; clear hbe))
      go_ret
      exact ⟨rfl, n3.out⟩

end Go.Proofs.YtefejcggkkmhaaaDoor.HMeta
