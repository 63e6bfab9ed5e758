/- A map whose elements are interface values: a text in one, or none. How it reads, and what a look-up tells. -/
import Derived.Maps.OwnSet
import Derived.WalkKit
namespace Go.Proofs.Ytmjecafddklbjaa.HMapI
open Go.RowKit Go.WideMaps Go.Maps

/-- How such an element reads: a text in an interface (t: the text's type); none. -/
def ifR (t : TypeId) : Value → Option (DataW Unit × List MemPlace)
  | .iface u (.string s) => if u = t then some (.lit (.string s.data.toList), []) else none
  | .nilIface => some (.nil, [])
  | _ => none
theorem ifR_text (t : TypeId) (s : ByteArray) : ifR t (.iface t (.string s)) = some (.lit (.string s.data.toList), []) := by simp [ifR]
theorem ifR_nil (t : TypeId) : ifR t .nilIface = some (.nil, []) := rfl
theorem ifR_inv_text {t : TypeId} {v : Value} {s : ByteArray} {ps : List MemPlace} (h : ifR t v = some (.lit (.string s.data.toList), ps)) : v = .iface t (.string s) := by
  unfold ifR at h
  split at h
  · split at h
    · simp only [Option.some.injEq, Prod.mk.injEq, DataW.lit.injEq, Lit.string.injEq] at h
      next u s' hu =>
        subst hu
        have e : s'.data = s.data := Array.toList_inj.1 h.1
        have : s' = s := ByteArray.ext e
        rw [this]
    · cases h
  · simp at h
  · cases h
theorem ifR_inv_nil {t : TypeId} {v : Value} {ps : List MemPlace} (h : ifR t v = some (.nil, ps)) : v = .nilIface := by
  unfold ifR at h
  split at h
  · split at h <;> simp at h
  · rfl
  · cases h

end Go.Proofs.Ytmjecafddklbjaa.HMapI
