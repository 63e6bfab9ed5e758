-- PRINTED BY print.sh 35421559b90ae4d0a3588c463048766b98c2df88dd9212a6774a882060cdf62d: not written by this session
import Derived.Test.YtgdmianocepafaaDoorProg
import Derived.Below
import Derived.Deep.Draws
import Derived.Deep.AppendLies
import Derived.Maps.AppendAt
import Derived.OwnWalk
import Derived.Laws.BytesArg
import Derived.Laws.MakeOwn
import Derived.Laws.OwnMore
import Derived.Deep.OwnRows
import Derived.Tactics
import Derived.Lib.ConvBytes
import Derived.Laws.Slices
import Derived.WalkKit
import Derived.KernelRfl
import Derived.RowKit3
import Derived.Deep.LoopGhost
import Derived.Deep.QuietTactic
import Derived.BigQuiet
import Derived.WideLaws
import Derived.Deep.DeepCutAuto
import Derived.Deep.CutBlock
import Derived.Deep.RegionHeld3
import Derived.Laws.Rows
import Derived.Lib.AppendStr
import Derived.ArgAppend
import Derived.Laws.IdiomCopy
import Derived.OrdersHeld
import Derived.Laws.BitsLemmas
import Derived.RowKit
import Derived.Test.YtgdmianocepafaaDoorWWords
import Derived.Test.YtgdmianocepafaaDoorWLast
import Derived.Test.YtgdmianocepafaaDoorWTab
import Derived.Test.YtgdmianocepafaaDoorWFour
import Derived.Test.YtgdmianocepafaaDoorWQPut
import Derived.Test.YtgdmianocepafaaDoorWApart
import Derived.Test.YtgdmianocepafaaDoorWArr
import Derived.Test.YtgdmianocepafaaDoorWZeros
import Derived.Test.YtgdmianocepafaaDoorWFoot
import Derived.Test.YtgdmianocepafaaDoorWKept
import Derived.Test.YtgdmianocepafaaDoorWShare
import Derived.Test.YtgdmianocepafaaDoorWN
import Derived.Test.YtgdmianocepafaaDoorWFootNe
import Derived.Test.YtgdmianocepafaaDoorWAt
import Derived.Test.YtgdmianocepafaaDoorWEqStruct
import Derived.Test.YtgdmianocepafaaDoorWRepsOne
import Derived.Test.YtgdmianocepafaaDoorWInv
import Derived.Test.YtgdmianocepafaaDoorWInvWords
import Derived.Test.YtgdmianocepafaaDoorWGuard
import Derived.Test.YtgdmianocepafaaDoorWNEv
import Derived.Test.YtgdmianocepafaaDoorWMore
namespace Go.Proofs.YtgdmianocepafaaDoor.PFnTreeOfText
open Go.RowKit Go.Proofs.YtgdmianocepafaaDoorW.PrintWords Go.Proofs.YtgdmianocepafaaDoorW.PrintLast Go.Proofs.YtgdmianocepafaaDoorW.PrintMore
attribute [local go_sem] max2_int min2_int max_two min_two max_three min_three max_four min_four   -- for this text's walks alone
set_option linter.unusedVariables false
set_option linter.unusedSimpArgs false



def errW : Option Int → Value
  | none => .nilIface
  | some c => .iface 0 (.int .i64 c)
theorem errW_none : errW none = .nilIface := rfl
theorem errW_some (c : Int) : errW (some c) = .iface 0 (.int .i64 c) := rfl

-- the values' own types
/-! #### struct type 25, nested in itself -/
structure S25 where
  f0 : Int
  f1 : Int
  f2 : ByteArray
  f3 : ByteArray
  f4 : ByteArray
  f5 : ByteArray
  f6 : ByteArray
  f7 : ByteArray
  f8 : Int
  f9 : Int
  f10 : Int
  f11 : (List S25)
def z25 : S25 := ⟨(0 : Int), (0 : Int), (⟨#[]⟩ : ByteArray), (⟨#[]⟩ : ByteArray), (⟨#[]⟩ : ByteArray), (⟨#[]⟩ : ByteArray), (⟨#[]⟩ : ByteArray), (⟨#[]⟩ : ByteArray), (0 : Int), (0 : Int), (0 : Int), ([] : List S25)⟩
def F25 (d : Kd S25) : Kd S25 := Kd.iso (Kd.pair (Kd.int .i64) (Kd.pair (Kd.int .i64) (Kd.pair Kd.string (Kd.pair Kd.string (Kd.pair Kd.string (Kd.pair Kd.string (Kd.pair Kd.string (Kd.pair Kd.string (Kd.pair (Kd.int .i64) (Kd.pair (Kd.int .i64) (Kd.pair (Kd.int .i64) (Kd.slice 25 d)))))))))))) (fun x : S25 => (x.f0, x.f1, x.f2, x.f3, x.f4, x.f5, x.f6, x.f7, x.f8, x.f9, x.f10, x.f11))
theorem mono25 : Kd.Mono F25 := Kd.mono_iso _ (Kd.mono_pair (Kd.mono_const _) (Kd.mono_pair (Kd.mono_const _) (Kd.mono_pair (Kd.mono_const _) (Kd.mono_pair (Kd.mono_const _) (Kd.mono_pair (Kd.mono_const _) (Kd.mono_pair (Kd.mono_const _) (Kd.mono_pair (Kd.mono_const _) (Kd.mono_pair (Kd.mono_const _) (Kd.mono_pair (Kd.mono_const _) (Kd.mono_pair (Kd.mono_const _) (Kd.mono_pair (Kd.mono_const _) (Kd.mono_slice 25 Kd.mono_id))))))))))))
theorem sub25 : Kd.Sub F25 [25] := Kd.sub_iso _ (Kd.sub_pair (Kd.sub_const _ (by decide)) (Kd.sub_pair (Kd.sub_const _ (by decide)) (Kd.sub_pair (Kd.sub_const _ (by decide)) (Kd.sub_pair (Kd.sub_const _ (by decide)) (Kd.sub_pair (Kd.sub_const _ (by decide)) (Kd.sub_pair (Kd.sub_const _ (by decide)) (Kd.sub_pair (Kd.sub_const _ (by decide)) (Kd.sub_pair (Kd.sub_const _ (by decide)) (Kd.sub_pair (Kd.sub_const _ (by decide)) (Kd.sub_pair (Kd.sub_const _ (by decide)) (Kd.sub_pair (Kd.sub_const _ (by decide)) (Kd.sub_slice 25 (by decide) Kd.sub_id))))))))))))
theorem sz25 : ∀ n, (Kd.upto F25 12 [25] n).sz = 12 := Kd.upto_sz (fun _ => rfl)
def k25 : Kd S25 := Kd.fix F25 12 [25] sz25 (Kd.upto_E sub25)
theorem k25_open {w : World} {x : S25} {cs : List Value} (h : k25.K w x cs) : ∃ A11 c11, cs = [.int .i64 x.f0, .int .i64 x.f1, .string x.f2, .string x.f3, .string x.f4, .string x.f5, .string x.f6, .string x.f7, .int .i64 x.f8, .int .i64 x.f9, .int .i64 x.f10, .slice A11 x.f11.length c11] ∧ x.f11.length ≤ c11 ∧ k25.C w A11 x.f11.length x.f11 := by
  obtain ⟨n, h⟩ := h
  cases n with
  | zero => exact h.elim
  | succ n =>
    obtain ⟨_, _, rfl, rfl, ⟨_, _, rfl, rfl, ⟨_, _, rfl, rfl, ⟨_, _, rfl, rfl, ⟨_, _, rfl, rfl, ⟨_, _, rfl, rfl, ⟨_, _, rfl, rfl, ⟨_, _, rfl, rfl, ⟨_, _, rfl, rfl, ⟨_, _, rfl, rfl, ⟨_, _, rfl, rfl, ⟨A11, c11, rfl, l11, g11⟩⟩⟩⟩⟩⟩⟩⟩⟩⟩⟩⟩ := h
    exact ⟨A11, c11, rfl, l11, Kd.fix_C g11⟩
theorem k25_openM {w : World} {base : Nat} {ok : Nat → Prop} {x : S25} {cs : List Value} (h : k25.M w base ok x cs) : ∃ v11, cs = [.int .i64 x.f0, .int .i64 x.f1, .string x.f2, .string x.f3, .string x.f4, .string x.f5, .string x.f6, .string x.f7, .int .i64 x.f8, .int .i64 x.f9, .int .i64 x.f10, v11] ∧ k25.R 25 w base ok v11 x.f11 := by
  obtain ⟨n, h⟩ := h
  cases n with
  | zero => exact h.elim
  | succ n =>
    obtain ⟨_, _, rfl, rfl, ⟨_, _, rfl, rfl, ⟨_, _, rfl, rfl, ⟨_, _, rfl, rfl, ⟨_, _, rfl, rfl, ⟨_, _, rfl, rfl, ⟨_, _, rfl, rfl, ⟨_, _, rfl, rfl, ⟨_, _, rfl, rfl, ⟨_, _, rfl, rfl, ⟨_, _, rfl, rfl, ⟨v11, rfl, g11⟩⟩⟩⟩⟩⟩⟩⟩⟩⟩⟩⟩ := h
    exact ⟨v11, rfl, Kd.fix_R g11⟩
theorem k25_mk (w : World) (x : S25) {A11 : Option Addr} {c11 : Nat} (l11 : x.f11.length ≤ c11) (g11 : k25.C w A11 x.f11.length x.f11) : k25.K w x [.int .i64 x.f0, .int .i64 x.f1, .string x.f2, .string x.f3, .string x.f4, .string x.f5, .string x.f6, .string x.f7, .int .i64 x.f8, .int .i64 x.f9, .int .i64 x.f10, .slice A11 x.f11.length c11] := by
  obtain ⟨n11, q11⟩ := Kd.fix_C_back mono25 g11
  have r11 := Kd.upto_C_le mono25 sz25 (show n11 ≤ n11 by omega) q11
  exact ⟨n11 + 1, ⟨[.int .i64 x.f0], [.int .i64 x.f1, .string x.f2, .string x.f3, .string x.f4, .string x.f5, .string x.f6, .string x.f7, .int .i64 x.f8, .int .i64 x.f9, .int .i64 x.f10, .slice A11 x.f11.length c11], rfl, rfl, ⟨[.int .i64 x.f1], [.string x.f2, .string x.f3, .string x.f4, .string x.f5, .string x.f6, .string x.f7, .int .i64 x.f8, .int .i64 x.f9, .int .i64 x.f10, .slice A11 x.f11.length c11], rfl, rfl, ⟨[.string x.f2], [.string x.f3, .string x.f4, .string x.f5, .string x.f6, .string x.f7, .int .i64 x.f8, .int .i64 x.f9, .int .i64 x.f10, .slice A11 x.f11.length c11], rfl, rfl, ⟨[.string x.f3], [.string x.f4, .string x.f5, .string x.f6, .string x.f7, .int .i64 x.f8, .int .i64 x.f9, .int .i64 x.f10, .slice A11 x.f11.length c11], rfl, rfl, ⟨[.string x.f4], [.string x.f5, .string x.f6, .string x.f7, .int .i64 x.f8, .int .i64 x.f9, .int .i64 x.f10, .slice A11 x.f11.length c11], rfl, rfl, ⟨[.string x.f5], [.string x.f6, .string x.f7, .int .i64 x.f8, .int .i64 x.f9, .int .i64 x.f10, .slice A11 x.f11.length c11], rfl, rfl, ⟨[.string x.f6], [.string x.f7, .int .i64 x.f8, .int .i64 x.f9, .int .i64 x.f10, .slice A11 x.f11.length c11], rfl, rfl, ⟨[.string x.f7], [.int .i64 x.f8, .int .i64 x.f9, .int .i64 x.f10, .slice A11 x.f11.length c11], rfl, rfl, ⟨[.int .i64 x.f8], [.int .i64 x.f9, .int .i64 x.f10, .slice A11 x.f11.length c11], rfl, rfl, ⟨[.int .i64 x.f9], [.int .i64 x.f10, .slice A11 x.f11.length c11], rfl, rfl, ⟨[.int .i64 x.f10], [.slice A11 x.f11.length c11], rfl, rfl, ⟨A11, c11, rfl, l11, r11⟩⟩⟩⟩⟩⟩⟩⟩⟩⟩⟩⟩⟩
theorem k25_mkM (w : World) (base : Nat) (ok : Nat → Prop) (x : S25) {v11 : Value} (g11 : k25.R 25 w base ok v11 x.f11) : k25.M w base ok x [.int .i64 x.f0, .int .i64 x.f1, .string x.f2, .string x.f3, .string x.f4, .string x.f5, .string x.f6, .string x.f7, .int .i64 x.f8, .int .i64 x.f9, .int .i64 x.f10, v11] := by
  obtain ⟨n11, q11⟩ := Kd.fix_R_back mono25 g11
  have r11 := Kd.upto_R_le mono25 sz25 (show n11 ≤ n11 by omega) q11
  exact ⟨n11 + 1, ⟨[.int .i64 x.f0], [.int .i64 x.f1, .string x.f2, .string x.f3, .string x.f4, .string x.f5, .string x.f6, .string x.f7, .int .i64 x.f8, .int .i64 x.f9, .int .i64 x.f10, v11], rfl, rfl, ⟨[.int .i64 x.f1], [.string x.f2, .string x.f3, .string x.f4, .string x.f5, .string x.f6, .string x.f7, .int .i64 x.f8, .int .i64 x.f9, .int .i64 x.f10, v11], rfl, rfl, ⟨[.string x.f2], [.string x.f3, .string x.f4, .string x.f5, .string x.f6, .string x.f7, .int .i64 x.f8, .int .i64 x.f9, .int .i64 x.f10, v11], rfl, rfl, ⟨[.string x.f3], [.string x.f4, .string x.f5, .string x.f6, .string x.f7, .int .i64 x.f8, .int .i64 x.f9, .int .i64 x.f10, v11], rfl, rfl, ⟨[.string x.f4], [.string x.f5, .string x.f6, .string x.f7, .int .i64 x.f8, .int .i64 x.f9, .int .i64 x.f10, v11], rfl, rfl, ⟨[.string x.f5], [.string x.f6, .string x.f7, .int .i64 x.f8, .int .i64 x.f9, .int .i64 x.f10, v11], rfl, rfl, ⟨[.string x.f6], [.string x.f7, .int .i64 x.f8, .int .i64 x.f9, .int .i64 x.f10, v11], rfl, rfl, ⟨[.string x.f7], [.int .i64 x.f8, .int .i64 x.f9, .int .i64 x.f10, v11], rfl, rfl, ⟨[.int .i64 x.f8], [.int .i64 x.f9, .int .i64 x.f10, v11], rfl, rfl, ⟨[.int .i64 x.f9], [.int .i64 x.f10, v11], rfl, rfl, ⟨[.int .i64 x.f10], [v11], rfl, rfl, ⟨v11, rfl, r11⟩⟩⟩⟩⟩⟩⟩⟩⟩⟩⟩⟩⟩
def rd_T25 (xs : List S25) (i : Int) : S25 := xs.getD i.toNat z25
theorem at_T25 {w : World} {A : Option Addr} {n : Nat} {xs : List S25} (h : Kd.C k25 w A n xs) (i : Int) (h0 : 0 ≤ i) (h1 : i < n) : ∃ ad A11 c11, A = some ad ∧ w.cell? (ad.add (i.toNat * 12)) = some (.int .i64 (rd_T25 xs i).f0) ∧ w.cell? ⟨(ad.add (i.toNat * 12)).block, (ad.add (i.toNat * 12)).off + 1, none⟩ = some (.int .i64 (rd_T25 xs i).f1) ∧ w.cell? ⟨(ad.add (i.toNat * 12)).block, (ad.add (i.toNat * 12)).off + 2, none⟩ = some (.string (rd_T25 xs i).f2) ∧ w.cell? ⟨(ad.add (i.toNat * 12)).block, (ad.add (i.toNat * 12)).off + 3, none⟩ = some (.string (rd_T25 xs i).f3) ∧ w.cell? ⟨(ad.add (i.toNat * 12)).block, (ad.add (i.toNat * 12)).off + 4, none⟩ = some (.string (rd_T25 xs i).f4) ∧ w.cell? ⟨(ad.add (i.toNat * 12)).block, (ad.add (i.toNat * 12)).off + 5, none⟩ = some (.string (rd_T25 xs i).f5) ∧ w.cell? ⟨(ad.add (i.toNat * 12)).block, (ad.add (i.toNat * 12)).off + 6, none⟩ = some (.string (rd_T25 xs i).f6) ∧ w.cell? ⟨(ad.add (i.toNat * 12)).block, (ad.add (i.toNat * 12)).off + 7, none⟩ = some (.string (rd_T25 xs i).f7) ∧ w.cell? ⟨(ad.add (i.toNat * 12)).block, (ad.add (i.toNat * 12)).off + 8, none⟩ = some (.int .i64 (rd_T25 xs i).f8) ∧ w.cell? ⟨(ad.add (i.toNat * 12)).block, (ad.add (i.toNat * 12)).off + 9, none⟩ = some (.int .i64 (rd_T25 xs i).f9) ∧ w.cell? ⟨(ad.add (i.toNat * 12)).block, (ad.add (i.toNat * 12)).off + 10, none⟩ = some (.int .i64 (rd_T25 xs i).f10) ∧ w.cell? ⟨(ad.add (i.toNat * 12)).block, (ad.add (i.toNat * 12)).off + 11, none⟩ = some (.slice A11 (rd_T25 xs i).f11.length c11) ∧ (rd_T25 xs i).f11.length ≤ c11 ∧ k25.C w A11 (rd_T25 xs i).f11.length (rd_T25 xs i).f11 := by
  obtain ⟨ad, c, e, _, hK, hc0⟩ := Kd.C_get h z25 i h0 h1
  have hc : ∀ j u, c[j]? = some u → w.cell? (ad.add (i.toNat * 12 + j)) = some u := hc0
  obtain ⟨A11, c11, rfl, l11, g11⟩ := k25_open hK
  exact ⟨ad, A11, c11, e, hc 0 _ rfl, by rw [← add_field _ _ 1 (by omega)]; exact hc 1 _ rfl, by rw [← add_field _ _ 2 (by omega)]; exact hc 2 _ rfl, by rw [← add_field _ _ 3 (by omega)]; exact hc 3 _ rfl, by rw [← add_field _ _ 4 (by omega)]; exact hc 4 _ rfl, by rw [← add_field _ _ 5 (by omega)]; exact hc 5 _ rfl, by rw [← add_field _ _ 6 (by omega)]; exact hc 6 _ rfl, by rw [← add_field _ _ 7 (by omega)]; exact hc 7 _ rfl, by rw [← add_field _ _ 8 (by omega)]; exact hc 8 _ rfl, by rw [← add_field _ _ 9 (by omega)]; exact hc 9 _ rfl, by rw [← add_field _ _ 10 (by omega)]; exact hc 10 _ rfl, by rw [← add_field _ _ 11 (by omega)]; exact hc 11 _ rfl, l11, g11⟩

end Go.Proofs.YtgdmianocepafaaDoor.PFnTreeOfText
