/- A plain value that can be read as data is of its kind, however deep; its keys are no longer than a text may be. -/
import Derived.Test.YtjfbjkodjjlkiaaOpens
import Derived.Test.YtjfbjkodjjlkiaaBD
import Derived.Test.YtjfbjkodjjlkiaaBC
namespace Go.Proofs.Ytjfbjkodjjlkiaa.Opens
open Go.ChangeShapes Go.WideShapes Go.RowKit Go.Proofs.YtjfbjkodjjlkiaaW.PrintWords Go.Proofs.Ytjfbjkodjjlkiaa.GTab Go.Proofs.Ytjfbjkodjjlkiaa.HVal

theorem trod_float {H : Type} {enc : TypeId × Value → H} {P : Program} {w : World} {base : Nat} {spare : Nat → Bool} {held : Bool} {fuel : Nat} {t : TypeId} {cs : List Value} {x : DataW H × List MemPlace} {k : FloatKind} (ht : P.underlying t = some (.float k)) (h : DataW.trod enc P w base spare held fuel t cs = some x) : ∃ b, cs = [.float k b] ∧ x = (.lit (.float k b), []) := by
  cases fuel with
  | zero => simp [DataW.trod] at h
  | succ n =>
    unfold DataW.trod at h
    rw [ht] at h
    split at h <;> simp_all
theorem opens_flt {P : Program} {t : TypeId} (m : Nat) (ht : P.underlying t = some (.float .f64)) : OpensAt P m t Kd.flt (fun _ => True) := by
  intro H enc w base spare held fuel cs x _ h
  obtain ⟨b, rfl, rfl⟩ := trod_float ht h
  exact ⟨b, rfl, fun _ => trivial⟩
/-- What is known of a value's sizes. -/
def Sz (x : S26) : Prop := ∀ n, Sm n x
theorem sz_mk {x : S26} (h5 : ∀ s ∈ x.f5, s.size ≤ 140737488351232) (h6 : ∀ y ∈ x.f6, Sz y) : Sz x := by
  intro n
  cases n with
  | zero => exact trivial
  | succ n => exact ⟨fun s hs => Nat.le_trans (h5 s hs) (by decide), fun y hy => h6 y hy n⟩
abbrev kk26 : Kd S26 := Kd.iso (Kd.pair (Kd.int .i64) (Kd.pair Kd.bool (Kd.pair (Kd.int .i64) (Kd.pair Kd.flt (Kd.pair Kd.string (Kd.pair (Kd.slice 9 Kd.string) (Kd.slice 26 k26))))))) (fun x : S26 => (x.f0, x.f1, x.f2, x.f3, x.f4, x.f5, x.f6))
theorem kk_k {w : World} {x : S26} {cs : List Value} (h : kk26.K w x cs) : k26.K w x cs := by
  obtain ⟨_, _, rfl, rfl, ⟨_, _, rfl, rfl, ⟨_, _, rfl, rfl, ⟨_, _, rfl, rfl, ⟨_, _, rfl, rfl, ⟨_, _, rfl, ⟨A5, c5, rfl, l5, g5⟩, ⟨A6, c6, rfl, l6, g6⟩⟩⟩⟩⟩⟩⟩ := h
  exact k26_mk w x l5 g5 l6 g6
theorem opens26 : ∀ m, OpensAt Try.prog m 26 k26 Sz
  | 0 => fun H enc w base spare held fuel cs x hf h => by
    have e : fuel = 0 := by omega
    subst e
    simp [DataW.trod] at h
  | m + 1 => by
    have ih := opens26 m
    have row : OpensRow Try.prog m [3, 4, 2, 22, 9, 23, 24] (Kd.pair (Kd.int .i64) (Kd.pair Kd.bool (Kd.pair (Kd.int .i64) (Kd.pair Kd.flt (Kd.pair Kd.string (Kd.pair (Kd.slice 9 Kd.string) (Kd.slice 26 k26)))))))
        (fun x => (Lit.int .i64 x.1).wf = true ∧ True ∧ (Lit.int .i64 x.2.2.1).wf = true ∧ True ∧ x.2.2.2.2.1.size ≤ 140737488351232 ∧ (x.2.2.2.2.2.1.length ≤ maxLen ∧ x.2.2.2.2.2.1.length * 16 ≤ 140737488351232 ∧ ∀ s ∈ x.2.2.2.2.2.1, s.size ≤ 140737488351232) ∧ (x.2.2.2.2.2.2.length ≤ maxLen ∧ x.2.2.2.2.2.2.length * 96 ≤ 140737488351232 ∧ ∀ y ∈ x.2.2.2.2.2.2, Sz y)) :=
      opensRow_cons (opens_int m Try.underlying3) (by kernel_rfl) (opensRow_cons (opens_bool m Try.underlying4) (by kernel_rfl) (opensRow_cons (opens_int m Try.underlying2) (by kernel_rfl) (opensRow_cons (opens_flt m Try.underlying22) (by kernel_rfl) (opensRow_cons (opens_string m Try.underlying9) (by kernel_rfl)
        (opensRow_cons ((opens_slice (e' := 9) Try.underlying23 (by kernel_rfl) (by kernel_rfl) (opens_string m Try.underlying9)).less (Nat.le_succ m)) (by kernel_rfl) (opensRow_one ((opens_slice (e' := 26) Try.underlying24 (by kernel_rfl) (by kernel_rfl) ih).less (Nat.le_succ m)) (by kernel_rfl)))))))
    have h1 := opens_struct (P := Try.prog) (t := 26) (ts := [3, 4, 2, 22, 9, 23, 24]) (fun x : S26 => (x.f0, x.f1, x.f2, x.f3, x.f4, x.f5, x.f6)) (fun x => (⟨x.1, x.2.1, x.2.2.1, x.2.2.2.1, x.2.2.2.2.1, x.2.2.2.2.2.1, x.2.2.2.2.2.2⟩ : S26)) (fun _ => rfl) Try.underlying26 rfl (off_of (by kernel_rfl)) (by kernel_rfl) row
    intro H enc w base spare held fuel cs x hf h
    obtain ⟨a, hk, hs⟩ := h1 H enc w base spare held fuel cs x hf h
    exact ⟨a, kk_k hk, fun hw => by
      obtain ⟨_, _, _, _, _, h5, h6⟩ := hs hw
      exact sz_mk h5.2.2 h6.2.2⟩
end Go.Proofs.Ytjfbjkodjjlkiaa.Opens
