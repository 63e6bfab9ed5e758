/- Nodes made of a text: how they are made. -/
import Derived.Test.YtgdmianocepafaaDoorHTree2
namespace Go.Proofs.YtgdmianocepafaaDoor.HTree
open Go.RowKit Go.Proofs.YtgdmianocepafaaDoorW.PrintWords Go.Proofs.YtgdmianocepafaaDoorW.PrintLast Go.Proofs.YtgdmianocepafaaDoorW.PrintMore Go.Proofs.YtgdmianocepafaaDoor.Plain Go.Proofs.YtgdmianocepafaaDoor.PFnTreeOfText

abbrev strT : ByteArray := ⟨#[33, 33, 115, 116, 114]⟩
/-- Small letters alone. -/
def Low (s : ByteArray) : Prop := ∀ i, (h : i < s.size) → 97 ≤ s[i].toNat ∧ s[i].toNat ≤ 122
theorem low_valid {s : ByteArray} (h : Low s) : Lib.validD s.data.toList = true := by
  have hs : s.data.toList.length = s.size := data_length s
  rw [Lib.validD_ascii s.size s.data.toList (fun b hb => ?_), ← hs, List.drop_length]
  · rfl
  · rw [← hs, List.take_length] at hb
    obtain ⟨i, hi, rfl⟩ := List.getElem_of_mem hb
    have := h i (by omega)
    show s[i].toNat < 128
    omega
theorem low_index {s : ByteArray} (h : Low s) (hs : s.size ≤ 1000) : Ev (fun k => yaml_zzContains.f k s (⟨#[10]⟩ : ByteArray)) false := by
  unfold yaml_zzContains.f
  have e1 : (⟨#[10]⟩ : ByteArray).toList = [10] := by decide +kernel
  have main : ∀ d j, s.size - j = d → j ≤ s.size → Ev (fun k => yaml_zzIndex.l0 k s (⟨#[10]⟩ : ByteArray) (j : Int)) (-1) := by
    intro d
    induction d with
    | zero =>
      intro j hd hj
      refine Ev.step (fun k => yaml_zzIndex.l0.eq_2 ..) (Ev.neg ?_ (Ev.now _))
      rw [show ((⟨#[10]⟩ : ByteArray).size : Int) = 1 from rfl, wrap_nat (by omega)]
      omega
    | succ d ih =>
      intro j hd hj
      have hlt : j < s.size := by omega
      refine Ev.step (fun k => yaml_zzIndex.l0.eq_2 ..) ?_
      rw [show ((⟨#[10]⟩ : ByteArray).size : Int) = 1 from rfl, wrap_nat (by omega)]
      refine Ev.pos (by omega) (Ev.pos (by omega) (Ev.pos (by omega) (Ev.neg ?_ (ih (j + 1) (by omega) (by omega)))))
      rw [e1, Int.toNat_natCast, Int.toNat_natCast]
      intro e
      have h1 : (s.extract j (j + 1)).data.toList = [10] := by
        have := e
        rw [ByteArray.toList_eq] at this
        exact this
      rw [ByteArray.data_extract] at h1
      have h2 := congrArg (·[0]?) h1
      simp [hlt] at h2
      have h3 := h j hlt
      have h4 : s[j] = 10 := h2
      rw [h4] at h3
      exact absurd h3.1 (by decide)
  exact Ev.bind (f := fun _ t => some (decide (t ≥ 0))) (main s.size 0 (by omega) (by omega)) (Ev.now _)
def mw (s : ByteArray) : Option Bool := if s.toList = ([121] : List UInt8) then some false else if s.toList = ([110] : List UInt8) then some false else if s.toList = ([121, 101, 115] : List UInt8) then some false else if s.toList = ([110, 111] : List UInt8) then some false else if s.toList = ([111, 110] : List UInt8) then some false else if s.toList = ([111, 102, 102] : List UInt8) then some false else if s.toList = ([116, 114, 117, 101] : List UInt8) then some false else if s.toList = ([102, 97, 108, 115, 101] : List UInt8) then some false else if s.toList = ([110, 117, 108, 108] : List UInt8) then some false else if s.toList = ([] : List UInt8) then some false else some (decide ((s.size : Int) ≤ 20))
theorem mw_tells (s : ByteArray) : ∃ b, mw s = some b ∧ (b = true → s.size ≤ 20) := by
  unfold mw
  repeat (split; (exact ⟨false, rfl, fun h => by cases h⟩))
  exact ⟨_, rfl, fun h => by have := of_decide_eq_true h; omega⟩
theorem word_tells (s : ByteArray) (hs : s.size ≤ 2147483647) : ∃ r, Ev (fun k => spec_Word.f k s) r ∧ (r = true → Low s ∧ s.size ≤ 20) := by
  unfold spec_Word.f spec_mgWord.f
  have main : ∀ d j, s.size - j = d → j ≤ s.size → (∀ i, (h : i < s.size) → i < j → 97 ≤ s[i].toNat ∧ s[i].toNat ≤ 122) → ∃ r, Ev (fun k => spec_mgWord.l0 k s (s.size : Int) (j : Int)) r ∧ (r = true → Low s ∧ s.size ≤ 20) := by
    intro d
    induction d with
    | zero =>
      intro j hd hj hp
      have hL : Low s := fun i h => hp i h (by omega)
      obtain ⟨b, h1, h2⟩ := mw_tells s
      refine ⟨b, Ev.step (fun k => spec_mgWord.l0.eq_2 ..) (Ev.neg (by omega) ?_), fun h => ⟨hL, h2 h⟩⟩
      show Ev (fun _ => mw s) b
      rw [h1]
      exact Ev.now _
    | succ d ih =>
      intro j hd hj hp
      have hlt : j < s.size := by omega
      have hb : bt s (j : Int) = (s[j].toNat : Int) := by rw [← bt_at s (j : Int) (by simpa using hlt)]; rfl
      by_cases h1 : (s[j].toNat : Int) < 97
      · exact ⟨false, Ev.step (fun k => spec_mgWord.l0.eq_2 ..) (Ev.pos (by omega) (Ev.pos (by omega) (Ev.pos (by omega) (Ev.pos (by rw [hb]; exact h1) (Ev.now _))))), fun h => by cases h⟩
      · by_cases h2 : (s[j].toNat : Int) > 122
        · exact ⟨false, Ev.step (fun k => spec_mgWord.l0.eq_2 ..) (Ev.pos (by omega) (Ev.pos (by omega) (Ev.pos (by omega) (Ev.neg (by rw [hb]; exact h1) (Ev.pos (by rw [hb]; exact h2) (Ev.now _)))))), fun h => by cases h⟩
        · obtain ⟨r, h3, h4⟩ := ih (j + 1) (by omega) (by omega) (fun i h hi => by
            by_cases e : i = j
            · subst e; omega
            · exact hp i h (by omega))
          refine ⟨r, Ev.step (fun k => spec_mgWord.l0.eq_2 ..) (Ev.pos (by omega) (Ev.pos (by omega) (Ev.pos (by omega) (Ev.neg (by rw [hb]; exact h1) (Ev.neg (by rw [hb]; exact h2) ?_))))), h4⟩
          rw [wrap_nat (by omega)]
          exact h3
  obtain ⟨r, h1, h2⟩ := main s.size 0 (by omega) (by omega) (fun i _ h => by omega)
  exact ⟨r, Ev.ret h1, h2⟩

end Go.Proofs.YtgdmianocepafaaDoor.HTree
