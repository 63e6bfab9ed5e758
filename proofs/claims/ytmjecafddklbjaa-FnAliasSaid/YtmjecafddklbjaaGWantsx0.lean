-- Laid by a program of this session (stub.py)
import Derived.Test.YtmjecafddklbjaaProg
import Derived.Test.YtmjecafddklbjaaPlain
import Derived.Below
import Derived.Deep.Draws
import Derived.Deep.AppendLies
import Derived.Maps.AppendAt
import Derived.OwnWalk
import Derived.Laws.BytesArg
import Derived.Laws.MakeOwn
import Derived.Laws.OwnMore
import Derived.Deep.OwnRows
import Derived.Tactics
import Derived.Lib.ConvBytes
import Derived.Laws.Slices
import Derived.WalkKit
import Derived.KernelRfl
import Derived.RowKit3
import Derived.Deep.LoopGhost
import Derived.Deep.QuietTactic
import Derived.BigQuiet
import Derived.WideLaws
import Derived.Deep.DeepCutAuto
import Derived.Deep.CutBlock
import Derived.Deep.RegionHeld3
import Derived.Laws.Rows
import Derived.Lib.AppendStr
import Derived.ArgAppend
import Derived.Laws.IdiomCopy
import Derived.OrdersHeld
import Derived.Laws.BitsLemmas
import Derived.RowKit
import Derived.Test.YtmjecafddklbjaaWWords
import Derived.Test.YtmjecafddklbjaaWLast
import Derived.Test.YtmjecafddklbjaaWTab
import Derived.Test.YtmjecafddklbjaaWFour
import Derived.Test.YtmjecafddklbjaaWQPut
import Derived.Test.YtmjecafddklbjaaWApart
import Derived.Test.YtmjecafddklbjaaWArr
import Derived.Test.YtmjecafddklbjaaWZeros
import Derived.Test.YtmjecafddklbjaaWFoot
import Derived.Test.YtmjecafddklbjaaWKept
import Derived.Test.YtmjecafddklbjaaWShare
import Derived.Test.YtmjecafddklbjaaWN
import Derived.Test.YtmjecafddklbjaaWFootNe
import Derived.Test.YtmjecafddklbjaaWAt
import Derived.Test.YtmjecafddklbjaaWEqStruct
import Derived.Test.YtmjecafddklbjaaWRepsOne
import Derived.Test.YtmjecafddklbjaaWInv
import Derived.Test.YtmjecafddklbjaaWInvWords
import Derived.Test.YtmjecafddklbjaaWGuard
import Derived.Test.YtmjecafddklbjaaWNEv
import Derived.Test.YtmjecafddklbjaaWMore
namespace Go.Proofs.Ytmjecafddklbjaa.GWants
open Go.RowKit Go.Proofs.YtmjecafddklbjaaW.PrintWords Go.Proofs.YtmjecafddklbjaaW.PrintLast Go.Proofs.YtmjecafddklbjaaW.PrintMore
attribute [local go_sem] max2_int min2_int max_two min_two max_three min_three max_four min_four   -- for this text's walks alone
set_option linter.unusedVariables false
set_option linter.unusedSimpArgs false



def errW : Option Int → Value
  | none => .nilIface
  | some c => .iface 0 (.int .i64 c)
theorem errW_none : errW none = .nilIface := rfl
theorem errW_some (c : Int) : errW (some c) = .iface 0 (.int .i64 c) := rfl

theorem info9 : (Try.prog.info? 9).map (fun i => (i.zero, i.size, i.bytes)) = some (some (.string ⟨#[]⟩), 1, 16) := by kernel_rfl
-- the values' own types
def rd_L1 (xs : List (List ByteArray)) (i : Int) : (List ByteArray) := xs.getD i.toNat ([] : List ByteArray)
theorem at_L1 {w : World} {A : Option Addr} {n : Nat} {xs : List (List ByteArray)} (h : Kd.C (Kd.slice 9 Kd.string) w A n xs) (i : Int) (h0 : 0 ≤ i) (h1 : i < n) : ∃ ad A0 c0, A = some ad ∧ w.cell? (ad.add i.toNat) = some (.slice A0 (rd_L1 xs i).length c0) ∧ (rd_L1 xs i).length ≤ c0 ∧ Kd.string.C w A0 (rd_L1 xs i).length (rd_L1 xs i) := by
  obtain ⟨ad, c, e, _, hK, hc0⟩ := Kd.C_get h ([] : List ByteArray) i h0 h1
  have hc : ∀ j u, c[j]? = some u → w.cell? (ad.add (i.toNat * 1 + j)) = some u := hc0
  obtain ⟨A0, c0, rfl, l0, g0⟩ := hK
  exact ⟨ad, A0, c0, e, by have hq := hc 0 _ rfl; rwa [Nat.mul_one, Nat.add_zero] at hq, l0, g0⟩

/-! #### struct type 60 -/
structure S60 where
  f0 : ByteArray
  f1 : ByteArray
  f2 : ByteArray
  f3 : Bool
def z60 : S60 := ⟨(⟨#[]⟩ : ByteArray), (⟨#[]⟩ : ByteArray), (⟨#[]⟩ : ByteArray), false⟩
def k60 : Kd S60 := Kd.iso (Kd.pair Kd.string (Kd.pair Kd.string (Kd.pair Kd.string Kd.bool))) (fun x : S60 => (x.f0, x.f1, x.f2, x.f3))
theorem k60_open {w : World} {x : S60} {cs : List Value} (h : k60.K w x cs) : cs = [.string x.f0, .string x.f1, .string x.f2, .bool x.f3] := by
  obtain ⟨_, _, rfl, rfl, ⟨_, _, rfl, rfl, ⟨_, _, rfl, rfl, rfl⟩⟩⟩ := h
  exact rfl
theorem k60_openM {w : World} {base : Nat} {ok : Nat → Prop} {x : S60} {cs : List Value} (h : k60.M w base ok x cs) : cs = [.string x.f0, .string x.f1, .string x.f2, .bool x.f3] := by
  obtain ⟨_, _, rfl, rfl, ⟨_, _, rfl, rfl, ⟨_, _, rfl, rfl, rfl⟩⟩⟩ := h
  exact rfl
theorem k60_mk (w : World) (x : S60)  : k60.K w x [.string x.f0, .string x.f1, .string x.f2, .bool x.f3] := ⟨[.string x.f0], [.string x.f1, .string x.f2, .bool x.f3], rfl, rfl, ⟨[.string x.f1], [.string x.f2, .bool x.f3], rfl, rfl, ⟨[.string x.f2], [.bool x.f3], rfl, rfl, rfl⟩⟩⟩
theorem k60_mkM (w : World) (base : Nat) (ok : Nat → Prop) (x : S60)  : k60.M w base ok x [.string x.f0, .string x.f1, .string x.f2, .bool x.f3] := ⟨[.string x.f0], [.string x.f1, .string x.f2, .bool x.f3], rfl, rfl, ⟨[.string x.f1], [.string x.f2, .bool x.f3], rfl, rfl, ⟨[.string x.f2], [.bool x.f3], rfl, rfl, rfl⟩⟩⟩
def rd_T60 (xs : List S60) (i : Int) : S60 := xs.getD i.toNat z60
theorem at_T60 {w : World} {A : Option Addr} {n : Nat} {xs : List S60} (h : Kd.C k60 w A n xs) (i : Int) (h0 : 0 ≤ i) (h1 : i < n) : ∃ ad , A = some ad ∧ w.cell? (ad.add (i.toNat * 4)) = some (.string (rd_T60 xs i).f0) ∧ w.cell? ⟨(ad.add (i.toNat * 4)).block, (ad.add (i.toNat * 4)).off + 1, none⟩ = some (.string (rd_T60 xs i).f1) ∧ w.cell? ⟨(ad.add (i.toNat * 4)).block, (ad.add (i.toNat * 4)).off + 2, none⟩ = some (.string (rd_T60 xs i).f2) ∧ w.cell? ⟨(ad.add (i.toNat * 4)).block, (ad.add (i.toNat * 4)).off + 3, none⟩ = some (.bool (rd_T60 xs i).f3) := by
  obtain ⟨ad, c, e, _, hK, hc0⟩ := Kd.C_get h z60 i h0 h1
  have hc : ∀ j u, c[j]? = some u → w.cell? (ad.add (i.toNat * 4 + j)) = some u := hc0
  obtain rfl := k60_open hK
  exact ⟨ad, e, hc 0 _ rfl, by rw [← add_field _ _ 1 (by omega)]; exact hc 1 _ rfl, by rw [← add_field _ _ 2 (by omega)]; exact hc 2 _ rfl, by rw [← add_field _ _ 3 (by omega)]; exact hc 3 _ rfl⟩

def rd_L4 (xs : List (List S60)) (i : Int) : (List S60) := xs.getD i.toNat ([] : List S60)
theorem at_L4 {w : World} {A : Option Addr} {n : Nat} {xs : List (List S60)} (h : Kd.C (Kd.slice 60 k60) w A n xs) (i : Int) (h0 : 0 ≤ i) (h1 : i < n) : ∃ ad A0 c0, A = some ad ∧ w.cell? (ad.add i.toNat) = some (.slice A0 (rd_L4 xs i).length c0) ∧ (rd_L4 xs i).length ≤ c0 ∧ k60.C w A0 (rd_L4 xs i).length (rd_L4 xs i) := by
  obtain ⟨ad, c, e, _, hK, hc0⟩ := Kd.C_get h ([] : List S60) i h0 h1
  have hc : ∀ j u, c[j]? = some u → w.cell? (ad.add (i.toNat * 1 + j)) = some u := hc0
  obtain ⟨A0, c0, rfl, l0, g0⟩ := hK
  exact ⟨ad, A0, c0, e, by have hq := hc 0 _ rfl; rwa [Nat.mul_one, Nat.add_zero] at hq, l0, g0⟩

/-! #### struct type 31 -/
structure S31 where
  f0 : ByteArray
  f1 : ByteArray
  f2 : ByteArray
  f3 : ByteArray
  f4 : (List ByteArray)
  f5 : Bool
  f6 : (List S60)
def z31 : S31 := ⟨(⟨#[]⟩ : ByteArray), (⟨#[]⟩ : ByteArray), (⟨#[]⟩ : ByteArray), (⟨#[]⟩ : ByteArray), ([] : List ByteArray), false, ([] : List S60)⟩
def k31 : Kd S31 := Kd.iso (Kd.pair Kd.string (Kd.pair Kd.string (Kd.pair Kd.string (Kd.pair Kd.string (Kd.pair (Kd.slice 9 Kd.string) (Kd.pair Kd.bool (Kd.slice 60 k60))))))) (fun x : S31 => (x.f0, x.f1, x.f2, x.f3, x.f4, x.f5, x.f6))
theorem k31_open {w : World} {x : S31} {cs : List Value} (h : k31.K w x cs) : ∃ A4 c4 A6 c6, cs = [.string x.f0, .string x.f1, .string x.f2, .string x.f3, .slice A4 x.f4.length c4, .bool x.f5, .slice A6 x.f6.length c6] ∧ x.f4.length ≤ c4 ∧ Kd.string.C w A4 x.f4.length x.f4 ∧ x.f6.length ≤ c6 ∧ k60.C w A6 x.f6.length x.f6 := by
  obtain ⟨_, _, rfl, rfl, ⟨_, _, rfl, rfl, ⟨_, _, rfl, rfl, ⟨_, _, rfl, rfl, ⟨_, _, rfl, ⟨A4, c4, rfl, l4, g4⟩, ⟨_, _, rfl, rfl, ⟨A6, c6, rfl, l6, g6⟩⟩⟩⟩⟩⟩⟩ := h
  exact ⟨A4, c4, A6, c6, rfl, l4, g4, l6, g6⟩
theorem k31_openM {w : World} {base : Nat} {ok : Nat → Prop} {x : S31} {cs : List Value} (h : k31.M w base ok x cs) : ∃ v4 v6, cs = [.string x.f0, .string x.f1, .string x.f2, .string x.f3, v4, .bool x.f5, v6] ∧ Kd.string.R 9 w base ok v4 x.f4 ∧ k60.R 60 w base ok v6 x.f6 := by
  obtain ⟨_, _, rfl, rfl, ⟨_, _, rfl, rfl, ⟨_, _, rfl, rfl, ⟨_, _, rfl, rfl, ⟨_, _, rfl, ⟨v4, rfl, g4⟩, ⟨_, _, rfl, rfl, ⟨v6, rfl, g6⟩⟩⟩⟩⟩⟩⟩ := h
  exact ⟨v4, v6, rfl, g4, g6⟩
theorem k31_mk (w : World) (x : S31) {A4 : Option Addr} {c4 : Nat} (l4 : x.f4.length ≤ c4) (g4 : Kd.string.C w A4 x.f4.length x.f4) {A6 : Option Addr} {c6 : Nat} (l6 : x.f6.length ≤ c6) (g6 : k60.C w A6 x.f6.length x.f6) : k31.K w x [.string x.f0, .string x.f1, .string x.f2, .string x.f3, .slice A4 x.f4.length c4, .bool x.f5, .slice A6 x.f6.length c6] := ⟨[.string x.f0], [.string x.f1, .string x.f2, .string x.f3, .slice A4 x.f4.length c4, .bool x.f5, .slice A6 x.f6.length c6], rfl, rfl, ⟨[.string x.f1], [.string x.f2, .string x.f3, .slice A4 x.f4.length c4, .bool x.f5, .slice A6 x.f6.length c6], rfl, rfl, ⟨[.string x.f2], [.string x.f3, .slice A4 x.f4.length c4, .bool x.f5, .slice A6 x.f6.length c6], rfl, rfl, ⟨[.string x.f3], [.slice A4 x.f4.length c4, .bool x.f5, .slice A6 x.f6.length c6], rfl, rfl, ⟨[.slice A4 x.f4.length c4], [.bool x.f5, .slice A6 x.f6.length c6], rfl, ⟨A4, c4, rfl, l4, g4⟩, ⟨[.bool x.f5], [.slice A6 x.f6.length c6], rfl, rfl, ⟨A6, c6, rfl, l6, g6⟩⟩⟩⟩⟩⟩⟩
theorem k31_mkM (w : World) (base : Nat) (ok : Nat → Prop) (x : S31) {v4 : Value} (g4 : Kd.string.R 9 w base ok v4 x.f4) {v6 : Value} (g6 : k60.R 60 w base ok v6 x.f6) : k31.M w base ok x [.string x.f0, .string x.f1, .string x.f2, .string x.f3, v4, .bool x.f5, v6] := ⟨[.string x.f0], [.string x.f1, .string x.f2, .string x.f3, v4, .bool x.f5, v6], rfl, rfl, ⟨[.string x.f1], [.string x.f2, .string x.f3, v4, .bool x.f5, v6], rfl, rfl, ⟨[.string x.f2], [.string x.f3, v4, .bool x.f5, v6], rfl, rfl, ⟨[.string x.f3], [v4, .bool x.f5, v6], rfl, rfl, ⟨[v4], [.bool x.f5, v6], rfl, ⟨v4, rfl, g4⟩, ⟨[.bool x.f5], [v6], rfl, rfl, ⟨v6, rfl, g6⟩⟩⟩⟩⟩⟩⟩
def rd_T31 (xs : List S31) (i : Int) : S31 := xs.getD i.toNat z31
theorem at_T31 {w : World} {A : Option Addr} {n : Nat} {xs : List S31} (h : Kd.C k31 w A n xs) (i : Int) (h0 : 0 ≤ i) (h1 : i < n) : ∃ ad A4 c4 A6 c6, A = some ad ∧ w.cell? (ad.add (i.toNat * 7)) = some (.string (rd_T31 xs i).f0) ∧ w.cell? ⟨(ad.add (i.toNat * 7)).block, (ad.add (i.toNat * 7)).off + 1, none⟩ = some (.string (rd_T31 xs i).f1) ∧ w.cell? ⟨(ad.add (i.toNat * 7)).block, (ad.add (i.toNat * 7)).off + 2, none⟩ = some (.string (rd_T31 xs i).f2) ∧ w.cell? ⟨(ad.add (i.toNat * 7)).block, (ad.add (i.toNat * 7)).off + 3, none⟩ = some (.string (rd_T31 xs i).f3) ∧ w.cell? ⟨(ad.add (i.toNat * 7)).block, (ad.add (i.toNat * 7)).off + 4, none⟩ = some (.slice A4 (rd_T31 xs i).f4.length c4) ∧ w.cell? ⟨(ad.add (i.toNat * 7)).block, (ad.add (i.toNat * 7)).off + 5, none⟩ = some (.bool (rd_T31 xs i).f5) ∧ w.cell? ⟨(ad.add (i.toNat * 7)).block, (ad.add (i.toNat * 7)).off + 6, none⟩ = some (.slice A6 (rd_T31 xs i).f6.length c6) ∧ (rd_T31 xs i).f4.length ≤ c4 ∧ Kd.string.C w A4 (rd_T31 xs i).f4.length (rd_T31 xs i).f4 ∧ (rd_T31 xs i).f6.length ≤ c6 ∧ k60.C w A6 (rd_T31 xs i).f6.length (rd_T31 xs i).f6 := by
  obtain ⟨ad, c, e, _, hK, hc0⟩ := Kd.C_get h z31 i h0 h1
  have hc : ∀ j u, c[j]? = some u → w.cell? (ad.add (i.toNat * 7 + j)) = some u := hc0
  obtain ⟨A4, c4, A6, c6, rfl, l4, g4, l6, g6⟩ := k31_open hK
  exact ⟨ad, A4, c4, A6, c6, e, hc 0 _ rfl, by rw [← add_field _ _ 1 (by omega)]; exact hc 1 _ rfl, by rw [← add_field _ _ 2 (by omega)]; exact hc 2 _ rfl, by rw [← add_field _ _ 3 (by omega)]; exact hc 3 _ rfl, by rw [← add_field _ _ 4 (by omega)]; exact hc 4 _ rfl, by rw [← add_field _ _ 5 (by omega)]; exact hc 5 _ rfl, by rw [← add_field _ _ 6 (by omega)]; exact hc 6 _ rfl, l4, g4, l6, g6⟩

end Go.Proofs.Ytmjecafddklbjaa.GWants
