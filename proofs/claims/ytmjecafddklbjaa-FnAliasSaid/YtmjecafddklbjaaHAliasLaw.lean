/- The law FnAlias returns true for every input: a want takes the first chart of its name and version, under its alias if it has one. -/
import Derived.Test.YtmjecafddklbjaaHLaw2
namespace Go.Proofs.Ytmjecafddklbjaa.HAlias
open Go.RowKit Go.WideMaps Go.Maps Go.Proofs.YtmjecafddklbjaaW.PrintWords Go.Proofs.Ytmjecafddklbjaa.Plain Go.Proofs.Ytmjecafddklbjaa.GWants Go.Proofs.Ytmjecafddklbjaa.HFits

theorem alias_law (A0 : Option Addr) (c0 : Nat) (l0 : List ByteArray) (A1 : Option Addr) (c1 : Nat) (l1 : List ByteArray) (x : S31) (A4 : Option Addr) (c4 : Nat) (A6 : Option Addr) (c6 : Nat) (w : World)
    (hr0 : Kd.C Kd.string w A0 l0.length l0) (hc0 : l0.length ≤ c0) {P0 : Prop} (_w0 : P0) (hr1 : Kd.C Kd.string w A1 l1.length l1) (hc1 : l1.length ≤ c1) {P1 : Prop} (_w1 : P1)
    (hr4 : Kd.C Kd.string w A4 x.f4.length x.f4) (hc4 : x.f4.length ≤ c4) (hr6 : Kd.C k60 w A6 x.f6.length x.f6) (hc6 : x.f6.length ≤ c6) :
    Calls Try.prog 4 #[.slice A0 l0.length c0, .slice A1 l1.length c1, .agg #[.string x.f0, .string x.f1, .string x.f2, .string x.f3, .slice A4 x.f4.length c4, .bool x.f5, .slice A6 x.f6.length c6]] w fun e w' => e = .returned (.bool true) ∧ Below w.heap.size w w' := by
  obtain ⟨b0, e0, p0⟩ := fits4 l0
  obtain ⟨k0, h0⟩ := e0.rounds
  cases b0 with
  | false => exact out0 A0 A1 A4 A6 c0 c1 c4 c6 l0 l1 x.f4 x.f6 x.f0 x.f1 x.f2 x.f3 x.f5 w k0 hr0 hc0 h0
  | true =>
    obtain ⟨b1, e1, p1⟩ := fits4 l1
    obtain ⟨k1, h1⟩ := e1.rounds
    cases b1 with
    | false => exact out1 A0 A1 A4 A6 c0 c1 c4 c6 l0 l1 x.f4 x.f6 x.f0 x.f1 x.f2 x.f3 x.f5 w k0 k1 hr0 hc0 h0 hr1 hc1 h1
    | true =>
      obtain ⟨b3, e3, p3⟩ := fits3 x.f0 x.f1 x.f2 x.f3 x.f4 x.f5 x.f6
      obtain ⟨k3, h3⟩ := e3.rounds
      cases b3 with
      | false => exact out3 A0 A1 A4 A6 c0 c1 c4 c6 l0 l1 x.f4 x.f6 x.f0 x.f1 x.f2 x.f3 x.f5 w k0 k1 k3 hr0 hc0 h0 hr1 hc1 h1 hr4 hc4 hr6 hc6 h3
      | true =>
        obtain ⟨b, eb, hb⟩ := one_want x (p3 rfl).1 (p3 rfl).2
        obtain ⟨k, hk⟩ := eb.rounds
        exact law_main A0 A1 A4 A6 c0 c1 c4 c6 l0 l1 x.f4 x.f6 x.f0 x.f1 x.f2 x.f3 x.f5 w k0 k1 k3 hr0 hc0 h0 hr1 hc1 h1 (p1 rfl).2 (p0 rfl).1 (p1 rfl).1 hr4 hc4 hr6 hc6 h3 ⟨b, k, hk, fun e => ⟨(hb e).1.rounds, (hb e).2.1, (hb e).2.2⟩⟩
end Go.Proofs.Ytmjecafddklbjaa.HAlias
