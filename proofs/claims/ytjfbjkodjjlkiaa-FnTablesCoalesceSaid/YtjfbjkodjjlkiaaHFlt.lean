/- A float as a kind of one cell: its bits, told as a natural number. -/
import Derived.Test.YtjfbjkodjjlkiaaWMore
namespace Go.Proofs.YtjfbjkodjjlkiaaW.PrintWords
open Go.RowKit
namespace Kd
def flt : Kd Nat := scalar (Value.float .f64) (fun _ => rfl)
section
variable {w W : World} {A : Option Addr} {n : Nat}
theorem at_flt {xs : List Nat} (h : Kd.flt.C w A n xs) (i : Int) (h0 : 0 ≤ i) (h1 : i < n) : ∃ ad, A = some ad ∧ w.cell? (ad.add i.toNat) = some (.float .f64 (rdOf (0 : Nat) xs i)) :=
  ReadsOf.at_ (reads_of_C (enc := Value.float .f64) (d := (0 : Nat)) (h1 := fun _ => rfl) h) i h0 h1
theorem heap_flt : Heap Kd.flt := ⟨fun _ h => h⟩
end
end Kd
end Go.Proofs.YtjfbjkodjjlkiaaW.PrintWords
