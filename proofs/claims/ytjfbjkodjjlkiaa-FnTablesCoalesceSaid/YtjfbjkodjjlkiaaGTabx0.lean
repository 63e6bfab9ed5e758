-- Laid by a program of this session (stub.py)
import Derived.Test.YtjfbjkodjjlkiaaProg
import Derived.Test.YtjfbjkodjjlkiaaHFlt
import Derived.Below
import Derived.Deep.Draws
import Derived.Deep.AppendLies
import Derived.Maps.AppendAt
import Derived.OwnWalk
import Derived.Laws.BytesArg
import Derived.Laws.MakeOwn
import Derived.Laws.OwnMore
import Derived.Deep.OwnRows
import Derived.Tactics
import Derived.Lib.ConvBytes
import Derived.Laws.Slices
import Derived.WalkKit
import Derived.KernelRfl
import Derived.RowKit3
import Derived.Deep.LoopGhost
import Derived.Deep.QuietTactic
import Derived.BigQuiet
import Derived.WideLaws
import Derived.Deep.DeepCutAuto
import Derived.Deep.CutBlock
import Derived.Deep.RegionHeld3
import Derived.Laws.Rows
import Derived.Lib.AppendStr
import Derived.ArgAppend
import Derived.Laws.IdiomCopy
import Derived.OrdersHeld
import Derived.Laws.BitsLemmas
import Derived.RowKit
import Derived.Test.YtjfbjkodjjlkiaaWWords
import Derived.Test.YtjfbjkodjjlkiaaWLast
import Derived.Test.YtjfbjkodjjlkiaaWTab
import Derived.Test.YtjfbjkodjjlkiaaWFour
import Derived.Test.YtjfbjkodjjlkiaaWQPut
import Derived.Test.YtjfbjkodjjlkiaaWApart
import Derived.Test.YtjfbjkodjjlkiaaWArr
import Derived.Test.YtjfbjkodjjlkiaaWZeros
import Derived.Test.YtjfbjkodjjlkiaaWFoot
import Derived.Test.YtjfbjkodjjlkiaaWKept
import Derived.Test.YtjfbjkodjjlkiaaWShare
import Derived.Test.YtjfbjkodjjlkiaaWN
import Derived.Test.YtjfbjkodjjlkiaaWFootNe
import Derived.Test.YtjfbjkodjjlkiaaWAt
import Derived.Test.YtjfbjkodjjlkiaaWEqStruct
import Derived.Test.YtjfbjkodjjlkiaaWRepsOne
import Derived.Test.YtjfbjkodjjlkiaaWInv
import Derived.Test.YtjfbjkodjjlkiaaWInvWords
import Derived.Test.YtjfbjkodjjlkiaaWGuard
import Derived.Test.YtjfbjkodjjlkiaaWNEv
import Derived.Test.YtjfbjkodjjlkiaaWMore
namespace Go.Proofs.Ytjfbjkodjjlkiaa.GTab
open Go.RowKit Go.Proofs.YtjfbjkodjjlkiaaW.PrintWords Go.Proofs.YtjfbjkodjjlkiaaW.PrintLast Go.Proofs.YtjfbjkodjjlkiaaW.PrintMore
attribute [local go_sem] max2_int min2_int max_two min_two max_three min_three max_four min_four   -- for this text's walks alone
set_option linter.unusedVariables false
set_option linter.unusedSimpArgs false



def errW : Option Int → Value
  | none => .nilIface
  | some c => .iface 0 (.int .i64 c)
theorem errW_none : errW none = .nilIface := rfl
theorem errW_some (c : Int) : errW (some c) = .iface 0 (.int .i64 c) := rfl

-- the values' own types
def rd_L4 (xs : List (List ByteArray)) (i : Int) : (List ByteArray) := xs.getD i.toNat ([] : List ByteArray)
theorem at_L4 {w : World} {A : Option Addr} {n : Nat} {xs : List (List ByteArray)} (h : Kd.C (Kd.slice 9 Kd.string) w A n xs) (i : Int) (h0 : 0 ≤ i) (h1 : i < n) : ∃ ad A0 c0, A = some ad ∧ w.cell? (ad.add i.toNat) = some (.slice A0 (rd_L4 xs i).length c0) ∧ (rd_L4 xs i).length ≤ c0 ∧ Kd.string.C w A0 (rd_L4 xs i).length (rd_L4 xs i) := by
  obtain ⟨ad, c, e, _, hK, hc0⟩ := Kd.C_get h ([] : List ByteArray) i h0 h1
  have hc : ∀ j u, c[j]? = some u → w.cell? (ad.add (i.toNat * 1 + j)) = some u := hc0
  obtain ⟨A0, c0, rfl, l0, g0⟩ := hK
  exact ⟨ad, A0, c0, e, by have hq := hc 0 _ rfl; rwa [Nat.mul_one, Nat.add_zero] at hq, l0, g0⟩

/-! #### struct type 26, nested in itself -/
structure S26 where
  f0 : Int
  f1 : Bool
  f2 : Int
  f3 : Nat
  f4 : ByteArray
  f5 : (List ByteArray)
  f6 : (List S26)
def z26 : S26 := ⟨(0 : Int), false, (0 : Int), (0 : Nat), (⟨#[]⟩ : ByteArray), ([] : List ByteArray), ([] : List S26)⟩
def F26 (d : Kd S26) : Kd S26 := Kd.iso (Kd.pair (Kd.int .i64) (Kd.pair Kd.bool (Kd.pair (Kd.int .i64) (Kd.pair Kd.flt (Kd.pair Kd.string (Kd.pair (Kd.slice 9 Kd.string) (Kd.slice 26 d))))))) (fun x : S26 => (x.f0, x.f1, x.f2, x.f3, x.f4, x.f5, x.f6))
theorem mono26 : Kd.Mono F26 := Kd.mono_iso _ (Kd.mono_pair (Kd.mono_const _) (Kd.mono_pair (Kd.mono_const _) (Kd.mono_pair (Kd.mono_const _) (Kd.mono_pair (Kd.mono_const _) (Kd.mono_pair (Kd.mono_const _) (Kd.mono_pair (Kd.mono_const _) (Kd.mono_slice 26 Kd.mono_id)))))))
theorem sub26 : Kd.Sub F26 [9, 26] := Kd.sub_iso _ (Kd.sub_pair (Kd.sub_const _ (by decide)) (Kd.sub_pair (Kd.sub_const _ (by decide)) (Kd.sub_pair (Kd.sub_const _ (by decide)) (Kd.sub_pair (Kd.sub_const _ (by decide)) (Kd.sub_pair (Kd.sub_const _ (by decide)) (Kd.sub_pair (Kd.sub_const _ (by decide)) (Kd.sub_slice 26 (by decide) Kd.sub_id)))))))
theorem sz26 : ∀ n, (Kd.upto F26 7 [9, 26] n).sz = 7 := Kd.upto_sz (fun _ => rfl)
def k26 : Kd S26 := Kd.fix F26 7 [9, 26] sz26 (Kd.upto_E sub26)
theorem k26_open {w : World} {x : S26} {cs : List Value} (h : k26.K w x cs) : ∃ A5 c5 A6 c6, cs = [.int .i64 x.f0, .bool x.f1, .int .i64 x.f2, .float .f64 x.f3, .string x.f4, .slice A5 x.f5.length c5, .slice A6 x.f6.length c6] ∧ x.f5.length ≤ c5 ∧ Kd.string.C w A5 x.f5.length x.f5 ∧ x.f6.length ≤ c6 ∧ k26.C w A6 x.f6.length x.f6 := by
  obtain ⟨n, h⟩ := h
  cases n with
  | zero => exact h.elim
  | succ n =>
    obtain ⟨_, _, rfl, rfl, ⟨_, _, rfl, rfl, ⟨_, _, rfl, rfl, ⟨_, _, rfl, rfl, ⟨_, _, rfl, rfl, ⟨_, _, rfl, ⟨A5, c5, rfl, l5, g5⟩, ⟨A6, c6, rfl, l6, g6⟩⟩⟩⟩⟩⟩⟩ := h
    exact ⟨A5, c5, A6, c6, rfl, l5, g5, l6, Kd.fix_C g6⟩
theorem k26_openM {w : World} {base : Nat} {ok : Nat → Prop} {x : S26} {cs : List Value} (h : k26.M w base ok x cs) : ∃ v5 v6, cs = [.int .i64 x.f0, .bool x.f1, .int .i64 x.f2, .float .f64 x.f3, .string x.f4, v5, v6] ∧ Kd.string.R 9 w base ok v5 x.f5 ∧ k26.R 26 w base ok v6 x.f6 := by
  obtain ⟨n, h⟩ := h
  cases n with
  | zero => exact h.elim
  | succ n =>
    obtain ⟨_, _, rfl, rfl, ⟨_, _, rfl, rfl, ⟨_, _, rfl, rfl, ⟨_, _, rfl, rfl, ⟨_, _, rfl, rfl, ⟨_, _, rfl, ⟨v5, rfl, g5⟩, ⟨v6, rfl, g6⟩⟩⟩⟩⟩⟩⟩ := h
    exact ⟨v5, v6, rfl, g5, Kd.fix_R g6⟩
theorem k26_mk (w : World) (x : S26) {A5 : Option Addr} {c5 : Nat} (l5 : x.f5.length ≤ c5) (g5 : Kd.string.C w A5 x.f5.length x.f5) {A6 : Option Addr} {c6 : Nat} (l6 : x.f6.length ≤ c6) (g6 : k26.C w A6 x.f6.length x.f6) : k26.K w x [.int .i64 x.f0, .bool x.f1, .int .i64 x.f2, .float .f64 x.f3, .string x.f4, .slice A5 x.f5.length c5, .slice A6 x.f6.length c6] := by
  obtain ⟨n6, q6⟩ := Kd.fix_C_back mono26 g6
  have r6 := Kd.upto_C_le mono26 sz26 (show n6 ≤ n6 by omega) q6
  exact ⟨n6 + 1, ⟨[.int .i64 x.f0], [.bool x.f1, .int .i64 x.f2, .float .f64 x.f3, .string x.f4, .slice A5 x.f5.length c5, .slice A6 x.f6.length c6], rfl, rfl, ⟨[.bool x.f1], [.int .i64 x.f2, .float .f64 x.f3, .string x.f4, .slice A5 x.f5.length c5, .slice A6 x.f6.length c6], rfl, rfl, ⟨[.int .i64 x.f2], [.float .f64 x.f3, .string x.f4, .slice A5 x.f5.length c5, .slice A6 x.f6.length c6], rfl, rfl, ⟨[.float .f64 x.f3], [.string x.f4, .slice A5 x.f5.length c5, .slice A6 x.f6.length c6], rfl, rfl, ⟨[.string x.f4], [.slice A5 x.f5.length c5, .slice A6 x.f6.length c6], rfl, rfl, ⟨[.slice A5 x.f5.length c5], [.slice A6 x.f6.length c6], rfl, ⟨A5, c5, rfl, l5, g5⟩, ⟨A6, c6, rfl, l6, r6⟩⟩⟩⟩⟩⟩⟩⟩
theorem k26_mkM (w : World) (base : Nat) (ok : Nat → Prop) (x : S26) {v5 : Value} (g5 : Kd.string.R 9 w base ok v5 x.f5) {v6 : Value} (g6 : k26.R 26 w base ok v6 x.f6) : k26.M w base ok x [.int .i64 x.f0, .bool x.f1, .int .i64 x.f2, .float .f64 x.f3, .string x.f4, v5, v6] := by
  obtain ⟨n6, q6⟩ := Kd.fix_R_back mono26 g6
  have r6 := Kd.upto_R_le mono26 sz26 (show n6 ≤ n6 by omega) q6
  exact ⟨n6 + 1, ⟨[.int .i64 x.f0], [.bool x.f1, .int .i64 x.f2, .float .f64 x.f3, .string x.f4, v5, v6], rfl, rfl, ⟨[.bool x.f1], [.int .i64 x.f2, .float .f64 x.f3, .string x.f4, v5, v6], rfl, rfl, ⟨[.int .i64 x.f2], [.float .f64 x.f3, .string x.f4, v5, v6], rfl, rfl, ⟨[.float .f64 x.f3], [.string x.f4, v5, v6], rfl, rfl, ⟨[.string x.f4], [v5, v6], rfl, rfl, ⟨[v5], [v6], rfl, ⟨v5, rfl, g5⟩, ⟨v6, rfl, r6⟩⟩⟩⟩⟩⟩⟩⟩
def rd_T26 (xs : List S26) (i : Int) : S26 := xs.getD i.toNat z26
theorem at_T26 {w : World} {A : Option Addr} {n : Nat} {xs : List S26} (h : Kd.C k26 w A n xs) (i : Int) (h0 : 0 ≤ i) (h1 : i < n) : ∃ ad A5 c5 A6 c6, A = some ad ∧ w.cell? (ad.add (i.toNat * 7)) = some (.int .i64 (rd_T26 xs i).f0) ∧ w.cell? ⟨(ad.add (i.toNat * 7)).block, (ad.add (i.toNat * 7)).off + 1, none⟩ = some (.bool (rd_T26 xs i).f1) ∧ w.cell? ⟨(ad.add (i.toNat * 7)).block, (ad.add (i.toNat * 7)).off + 2, none⟩ = some (.int .i64 (rd_T26 xs i).f2) ∧ w.cell? ⟨(ad.add (i.toNat * 7)).block, (ad.add (i.toNat * 7)).off + 3, none⟩ = some (.float .f64 (rd_T26 xs i).f3) ∧ w.cell? ⟨(ad.add (i.toNat * 7)).block, (ad.add (i.toNat * 7)).off + 4, none⟩ = some (.string (rd_T26 xs i).f4) ∧ w.cell? ⟨(ad.add (i.toNat * 7)).block, (ad.add (i.toNat * 7)).off + 5, none⟩ = some (.slice A5 (rd_T26 xs i).f5.length c5) ∧ w.cell? ⟨(ad.add (i.toNat * 7)).block, (ad.add (i.toNat * 7)).off + 6, none⟩ = some (.slice A6 (rd_T26 xs i).f6.length c6) ∧ (rd_T26 xs i).f5.length ≤ c5 ∧ Kd.string.C w A5 (rd_T26 xs i).f5.length (rd_T26 xs i).f5 ∧ (rd_T26 xs i).f6.length ≤ c6 ∧ k26.C w A6 (rd_T26 xs i).f6.length (rd_T26 xs i).f6 := by
  obtain ⟨ad, c, e, _, hK, hc0⟩ := Kd.C_get h z26 i h0 h1
  have hc : ∀ j u, c[j]? = some u → w.cell? (ad.add (i.toNat * 7 + j)) = some u := hc0
  obtain ⟨A5, c5, A6, c6, rfl, l5, g5, l6, g6⟩ := k26_open hK
  exact ⟨ad, A5, c5, A6, c6, e, hc 0 _ rfl, by rw [← add_field _ _ 1 (by omega)]; exact hc 1 _ rfl, by rw [← add_field _ _ 2 (by omega)]; exact hc 2 _ rfl, by rw [← add_field _ _ 3 (by omega)]; exact hc 3 _ rfl, by rw [← add_field _ _ 4 (by omega)]; exact hc 4 _ rfl, by rw [← add_field _ _ 5 (by omega)]; exact hc 5 _ rfl, by rw [← add_field _ _ 6 (by omega)]; exact hc 6 _ rfl, l5, g5, l6, g6⟩

end Go.Proofs.Ytjfbjkodjjlkiaa.GTab
