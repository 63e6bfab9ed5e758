/- A plain value that can be read as data: its keys, on all levels, are no longer than data may be. -/
import Derived.Test.YtjfbjkodjjlkiaaHOpen
namespace Go.Proofs.Ytjfbjkodjjlkiaa.Opens
open Go.ChangeShapes Go.WideShapes Go.RowKit Go.Proofs.YtjfbjkodjjlkiaaW.PrintWords Go.Proofs.Ytjfbjkodjjlkiaa.GTab Go.Proofs.Ytjfbjkodjjlkiaa.HVal

/-- Keys that are short, n levels deep. -/
def Sq : Nat → S26 → Prop
  | 0, _ => True
  | n + 1, x => (∀ s ∈ x.f5, s.size ≤ 140737488351232) ∧ ∀ y ∈ x.f6, Sq n y
theorem sm_of_sq : ∀ {n : Nat} {x : S26}, Sq n x → Sm n x
  | 0, _, _ => trivial
  | n + 1, x, h => by
    unfold Sq at h
    unfold Sm
    exact ⟨fun s hs => Nat.le_trans (h.1 s hs) (by decide), fun y hy => sm_of_sq (h.2 y hy)⟩
def Szq (x : S26) : Prop := ∀ n, Sq n x
theorem szq_mk {x : S26} (h5 : ∀ s ∈ x.f5, s.size ≤ 140737488351232) (h6 : ∀ y ∈ x.f6, Szq y) : Szq x := by
  intro n
  cases n with
  | zero => exact trivial
  | succ n => exact ⟨h5, fun y hy => h6 y hy n⟩
theorem opens26q : ∀ m, OpensAt Try.prog m 26 k26 Szq
  | 0 => fun H enc w base spare held fuel cs x hf h => by
    have e : fuel = 0 := by omega
    subst e
    simp [DataW.trod] at h
  | m + 1 => by
    have ih := opens26q m
    have row : OpensRow Try.prog m [3, 4, 2, 22, 9, 23, 24] (Kd.pair (Kd.int .i64) (Kd.pair Kd.bool (Kd.pair (Kd.int .i64) (Kd.pair Kd.flt (Kd.pair Kd.string (Kd.pair (Kd.slice 9 Kd.string) (Kd.slice 26 k26)))))))
        (fun x => (Lit.int .i64 x.1).wf = true ∧ True ∧ (Lit.int .i64 x.2.2.1).wf = true ∧ True ∧ x.2.2.2.2.1.size ≤ 140737488351232 ∧ (x.2.2.2.2.2.1.length ≤ maxLen ∧ x.2.2.2.2.2.1.length * 16 ≤ 140737488351232 ∧ ∀ s ∈ x.2.2.2.2.2.1, s.size ≤ 140737488351232) ∧ (x.2.2.2.2.2.2.length ≤ maxLen ∧ x.2.2.2.2.2.2.length * 96 ≤ 140737488351232 ∧ ∀ y ∈ x.2.2.2.2.2.2, Szq y)) :=
      opensRow_cons (opens_int m Try.underlying3) (by kernel_rfl) (opensRow_cons (opens_bool m Try.underlying4) (by kernel_rfl) (opensRow_cons (opens_int m Try.underlying2) (by kernel_rfl) (opensRow_cons (opens_flt m Try.underlying22) (by kernel_rfl) (opensRow_cons (opens_string m Try.underlying9) (by kernel_rfl)
        (opensRow_cons ((opens_slice (e' := 9) Try.underlying23 (by kernel_rfl) (by kernel_rfl) (opens_string m Try.underlying9)).less (Nat.le_succ m)) (by kernel_rfl) (opensRow_one ((opens_slice (e' := 26) Try.underlying24 (by kernel_rfl) (by kernel_rfl) ih).less (Nat.le_succ m)) (by kernel_rfl)))))))
    have h1 := opens_struct (P := Try.prog) (t := 26) (ts := [3, 4, 2, 22, 9, 23, 24]) (fun x : S26 => (x.f0, x.f1, x.f2, x.f3, x.f4, x.f5, x.f6)) (fun x => (⟨x.1, x.2.1, x.2.2.1, x.2.2.2.1, x.2.2.2.2.1, x.2.2.2.2.2.1, x.2.2.2.2.2.2⟩ : S26)) (fun _ => rfl) Try.underlying26 rfl (off_of (by kernel_rfl)) (by kernel_rfl) row
    intro H enc w base spare held fuel cs x hf h
    obtain ⟨a, hk, hs⟩ := h1 H enc w base spare held fuel cs x hf h
    exact ⟨a, kk_k hk, fun hw => by
      obtain ⟨_, _, _, _, _, h5, h6⟩ := hs hw
      exact szq_mk h5.2.2 h6.2.2⟩
end Go.Proofs.Ytjfbjkodjjlkiaa.Opens
