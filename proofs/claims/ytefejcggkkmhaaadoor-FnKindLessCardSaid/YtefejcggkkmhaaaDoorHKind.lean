/- What lessByKind comes to over an order of 36 kinds: the place that an order has last tells; then the names. -/
import Derived.Test.YtefejcggkkmhaaaDoorProg
import Derived.Test.YtefejcggkkmhaaaDoorPlain
import Derived.Deep.LoopGhost
import Derived.Maps.OwnOps
import Derived.Maps.OwnSet
import Derived.Maps.Views
import Derived.WalkKit
import Derived.WalkSpells
namespace Go.Proofs.YtefejcggkkmhaaaDoor.HKind
open Go.RowKit Go.WideMaps Go.Maps Go.Proofs.YtefejcggkkmhaaaDoorW.PrintWords Go.Proofs.YtefejcggkkmhaaaDoorW.PrintLast Go.Proofs.YtefejcggkkmhaaaDoorW.PrintMore Go.Proofs.YtefejcggkkmhaaaDoor.Plain

/-- The last one of the first places at which a list has a text. -/
def lastUpTo (x : ByteArray) (l : List ByteArray) : Nat → Option Nat
  | 0 => none
  | j + 1 => if l.getD j ByteArray.empty = x then some j else lastUpTo x l j
def lessB (a b : ByteArray) (l : List ByteArray) : Bool :=
  match lastUpTo a l 36, lastUpTo b l 36 with
  | none, none => Op.bytesLess a.toList b.toList
  | none, some _ => false
  | some _, none => true
  | some i, some j => decide (i < j)

def keyS (s : ByteArray) : Lit := .string s.data.toList
theorem keyS_inj {a b : ByteArray} (h : keyS a = keyS b) : a = b := by
  have h1 : a.data.toList = b.data.toList := by simpa [keyS] using h
  cases a; cases b
  simp at h1
  rw [h1]
theorem keyS_ok {s : ByteArray} (h : s.size ≤ maxLen) : keyOf Tryd.prog 9 (.string s) = some (keyS s) := keyOf_string_mk Tryd.underlying9 h

/-- A map tells the last places of the first kinds of a list. -/
def Tells (D : DataW Unit) (l : List ByteArray) (j : Nat) : Prop :=
  IsMap D ∧ ∀ x : ByteArray, Maps.has D (keyS x) = (lastUpTo x l j).isSome ∧ ∀ i, lastUpTo x l j = some i → ∀ z, D.atKey (keyS x) z = .lit (.int .i64 (i : Int))
theorem Tells.start (l : List ByteArray) : Tells (.map []) l 0 := ⟨isMap_empty, fun x => ⟨rfl, fun i h => by cases h⟩⟩
theorem Tells.next {D : DataW Unit} {l : List ByteArray} {j : Nat} (h : Tells D l j) (s : ByteArray) (hs : l.getD j ByteArray.empty = s) : Tells (D.put (keyS s) (.lit (.int .i64 (j : Int)))) l (j + 1) := by
  refine ⟨h.1.put _ _, fun x => ?_⟩
  by_cases e : s = x
  · subst e
    have hk : WideAt.IsKeyLit (keyS s) := trivial
    rw [has_put_same h.1 hk, lastUpTo, if_pos hs]
    refine ⟨rfl, fun i hi z => ?_⟩
    cases hi
    exact atKey_put_same h.1 hk _ _
  · have hne : keyS x ≠ keyS s := fun h => e (keyS_inj h).symm
    rw [has_put_other hne, lastUpTo, if_neg (by rw [hs]; exact e)]
    refine ⟨(h.2 x).1, fun i hi z => ?_⟩
    rw [atKey_put_other hne]
    exact (h.2 x).2 i hi z

theorem Tells.val {D : DataW Unit} {l : List ByteArray} {j : Nat} (h : Tells D l j) {x : ByteArray} {c : Int} {v : Option Nat} (hv : lastUpTo x l j = v) (hat : D.atKey (keyS x) (.lit (.int .i64 0)) = .lit (.int .i64 c)) : c = (match v with | none => 0 | some i => (i : Int)) := by
  cases v with
  | none =>
    have h1 : Maps.has D (keyS x) = false := by rw [(h.2 x).1, hv]; rfl
    rw [atKey_of_not_has h1] at hat
    simpa using hat.symm
  | some i =>
    rw [(h.2 x).2 i hv] at hat
    simpa using hat.symm
theorem less_self : ∀ l : List UInt8, Op.bytesLess l l = false
  | [] => rfl
  | c :: r => by simp [Op.bytesLess, less_self r]
theorem law9 : Keyed Tryd.prog 9 := string_keyed Tryd.underlying9
theorem zero3 (w : World) : (zeroValue 3).run Tryd.prog w = .ok (.int .i64 0) w := by kernel_rfl
theorem make36 (w : World) : (Instr.makeMap 34 (some (.int .i64 36))).run Tryd.prog w = .ok (.map (some w.heap.size)) (w.alloc (.map #[] 0)) := by kernel_rfl
theorem meas {L j : Nat} (h : j < L) (hw : wrap64 ((j : Int) + 1) = ((j + 1 : Nat) : Int)) : L - (intOf (.int .i64 (wrap64 ((j : Int) + 1)))).toNat < L - (intOf (.int .i64 (j : Int))).toNat := by
  rw [hw]
  simp only [intOf]
  omega
theorem num_succ (j : Nat) : Value.int .i64 ((j : Int) + 1) = Value.int .i64 ((j + 1 : Nat) : Int) := rfl
theorem meas1 {L j : Nat} (h : j < L) : L - (intOf (.int .i64 ((j : Int) + 1))).toNat < L - (intOf (.int .i64 (j : Int))).toNat := by
  simp only [intOf]
  omega
theorem wr36 {j : Nat} (h : j < 36) : wrap64 ((j : Int) + 1) = ((j + 1 : Nat) : Int) := wrap_nat (by omega)
theorem wf36 {j : Nat} (h : j < 36) : (Lit.int .i64 (j : Int)).wf = true := by
  have h1 : IntKind.i64.min ≤ (j : Int) := by show (-9223372036854775808 : Int) ≤ (j : Int); omega
  have h2 : (j : Int) ≤ IntKind.i64.max := by show (j : Int) ≤ (9223372036854775807 : Int); omega
  simp [Lit.wf, h1]; omega
theorem kept36 {j : Nat} (h : j < 36) : j < maxLen := by unfold maxLen; omega

set_option maxHeartbeats 1000000 in
theorem less_calls (a b : ByteArray) (l : List ByteArray) (A : Option Addr) (c : Nat) (w : World) (hl : l.length = 36) (hr : Kd.C Kd.string w A 36 l) (hz : ∀ s ∈ l, s.size ≤ maxLen) (ha : a.size ≤ maxLen) (hb : b.size ≤ maxLen) :
    Calls Tryd.prog 16 #[.nilIface, .nilIface, .string a, .string b, .slice A 36 c] w fun e w' => e = .returned (.bool (lessB a b l)) ∧ Below w.heap.size w w' := by
  have HR := Aside0.mk hr
  have HL := Aside0.mk hl
  have HZ := Aside0.mk hz
  have HKA := Aside0.mk (keyS_ok ha)
  have HKB := Aside0.mk (keyS_ok hb)
  clear hr hl hz ha hb
  have hmk := make36
  go_enter Tryd.func16, Tryd.ntmps16
  go_wp2
  go_loopw [23] (fun i wr => ∃ (j : Nat) (D : DataW Unit), j ≤ 36 ∧ i = .int .i64 j ∧ Aside0 (Tells D l j) ∧ Aside0 (wr.ownsMap Tryd.prog 9 (plainElem Tryd.prog 3) w.heap.size j D) ∧ Aside0 (Below w.heap.size w wr)) (fun i _ => 36 - (intOf i).toNat)
  case atStart => exact ⟨0, _, Nat.zero_le _, rfl, ⟨Tells.start l⟩, ⟨World.ownsMap_made _ _ _ _⟩, ⟨below_alloc (Below.refl _ _) _⟩⟩
  case round =>
    obtain ⟨j, D, hj, rfl, HT, HO, HB⟩ := hrel
    by_cases hlt : j < 36
    · have HJ := Aside0.mk hlt
      obtain ⟨ad, e0, hx⟩ := Kd.at_string (Kd.C_below HR.out HB.out) (j : Int) (Int.natCast_nonneg j) (by omega)
      cases e0
      rw [Int.toNat_natCast] at hx
      obtain ⟨s, hs⟩ : ∃ s, rdOf ByteArray.empty l (j : Int) = s := ⟨_, rfl⟩
      rw [hs] at hx
      have hs2 : l.getD j ByteArray.empty = s := by rw [← hs]; simp [rdOf]
      have HK := Aside0.mk (keyS_ok (s := s) (by rw [← hs2]; exact HZ.out _ (by rw [List.getD_eq_getElem?_getD, List.getElem?_eq_getElem (by rw [HL.out]; exact hlt)]; exact List.getElem_mem _)))
      have HN := Aside0.mk (HT.out.next s hs2)
      have q0 : (j : Int) < 36 := by omega
      clear hs hs2
      go_wp2_with (at_mapUpdate; refine wpList_mapUpdate_own _ rfl _ _ _ 34 rfl 9 3 law9 Tryd.underlying34 _ w.heap.size j D rfl HO.out (kept36 HJ.out) _ _ _ rfl rfl HK.out _ [] (plainElem_int Tryd.underlying3 (wf36 HJ.out)) ?_; intro w1 hown1 hgrow1)
      go_roundw
      case rel => exact ⟨j + 1, _, HJ.out, num_succ j, HN, ⟨hown1⟩, ⟨HB.out.grown hgrow1 HB.out.size (fun k hk => by cases hk; exact Nat.le_refl _)⟩⟩
      case measure => exact meas1 HJ.out
    · obtain rfl : j = 36 := Nat.le_antisymm hj (Nat.not_lt.1 hlt)
      clear hlt hj
      have HT1 := Aside0.mk trivial
      cases hpa : lastUpTo a l 36 with
      | none =>
        cases hpb : lastUpTo b l 36 with
        | none =>
          have HR1 := Aside0.mk (show lessB a b l = Op.bytesLess a.toList b.toList by rw [lessB, hpa, hpb])
          have HPA := Aside0.mk hpa
          have HPB := Aside0.mk hpb
          clear hpa hpb
          by_cases hab : a = b
          · have h1 : (a.toList == b.toList) = true := by rw [beq_toList]; simp [hab]
            have HR2 := Aside0.mk (show lessB a b l = false by rw [HR1.out, hab]; exact less_self _)
            clear hab HR1
            go_wp2_with (first
            | (at_lookup; have tok := HT1; refine wpList_lookup_own_ok_int _ rfl _ _ 34 rfl 9 3 .i64 law9 Tryd.underlying34 Tryd.underlying3 (zero3 _) w.heap.size 36 D rfl HO.out _ _ rfl HKA.out ?_; intro ca hat _; rw [(HT.out.2 a).1, HPA.out]; obtain rfl : ca = 0 := HT.out.val HPA.out hat; clear hat tok HT1)
            | (at_lookup; refine wpList_lookup_own_ok_int _ rfl _ _ 34 rfl 9 3 .i64 law9 Tryd.underlying34 Tryd.underlying3 (zero3 _) w.heap.size 36 D rfl HO.out _ _ rfl HKB.out ?_; intro cb hat _; rw [(HT.out.2 b).1, HPB.out]; obtain rfl : cb = 0 := HT.out.val HPB.out hat; clear hat))
            go_ret
            exact ⟨by rw [HR2.out]; rfl, HB.out⟩
          · have h1 : (a.toList == b.toList) = false := by rw [beq_toList]; simp [hab]
            clear hab
            go_wp2_with (first
            | (at_lookup; have tok := HT1; refine wpList_lookup_own_ok_int _ rfl _ _ 34 rfl 9 3 .i64 law9 Tryd.underlying34 Tryd.underlying3 (zero3 _) w.heap.size 36 D rfl HO.out _ _ rfl HKA.out ?_; intro ca hat _; rw [(HT.out.2 a).1, HPA.out]; obtain rfl : ca = 0 := HT.out.val HPA.out hat; clear hat tok HT1)
            | (at_lookup; refine wpList_lookup_own_ok_int _ rfl _ _ 34 rfl 9 3 .i64 law9 Tryd.underlying34 Tryd.underlying3 (zero3 _) w.heap.size 36 D rfl HO.out _ _ rfl HKB.out ?_; intro cb hat _; rw [(HT.out.2 b).1, HPB.out]; obtain rfl : cb = 0 := HT.out.val HPB.out hat; clear hat))
            go_ret
            exact ⟨by rw [HR1.out]; rfl, HB.out⟩
        | some k =>
          have HR1 := Aside0.mk (show lessB a b l = false by rw [lessB, hpa, hpb])
          have HPA := Aside0.mk hpa
          have HPB := Aside0.mk hpb
          clear hpa hpb
          go_wp2_with (first
            | (at_lookup; have tok := HT1; refine wpList_lookup_own_ok_int _ rfl _ _ 34 rfl 9 3 .i64 law9 Tryd.underlying34 Tryd.underlying3 (zero3 _) w.heap.size 36 D rfl HO.out _ _ rfl HKA.out ?_; intro ca hat _; rw [(HT.out.2 a).1, HPA.out]; obtain rfl : ca = 0 := HT.out.val HPA.out hat; clear hat tok HT1)
            | (at_lookup; refine wpList_lookup_own_ok_int _ rfl _ _ 34 rfl 9 3 .i64 law9 Tryd.underlying34 Tryd.underlying3 (zero3 _) w.heap.size 36 D rfl HO.out _ _ rfl HKB.out ?_; intro cb hat _; rw [(HT.out.2 b).1, HPB.out]; obtain rfl : cb = (k : Int) := HT.out.val HPB.out hat; clear hat))
          go_ret
          exact ⟨by rw [HR1.out]; rfl, HB.out⟩
      | some i =>
        cases hpb : lastUpTo b l 36 with
        | none =>
          have HR1 := Aside0.mk (show lessB a b l = true by rw [lessB, hpa, hpb])
          have HPA := Aside0.mk hpa
          have HPB := Aside0.mk hpb
          clear hpa hpb
          go_wp2_with (first
            | (at_lookup; have tok := HT1; refine wpList_lookup_own_ok_int _ rfl _ _ 34 rfl 9 3 .i64 law9 Tryd.underlying34 Tryd.underlying3 (zero3 _) w.heap.size 36 D rfl HO.out _ _ rfl HKA.out ?_; intro ca hat _; rw [(HT.out.2 a).1, HPA.out]; obtain rfl : ca = (i : Int) := HT.out.val HPA.out hat; clear hat tok HT1)
            | (at_lookup; refine wpList_lookup_own_ok_int _ rfl _ _ 34 rfl 9 3 .i64 law9 Tryd.underlying34 Tryd.underlying3 (zero3 _) w.heap.size 36 D rfl HO.out _ _ rfl HKB.out ?_; intro cb hat _; rw [(HT.out.2 b).1, HPB.out]; obtain rfl : cb = 0 := HT.out.val HPB.out hat; clear hat))
          go_ret
          exact ⟨by rw [HR1.out]; rfl, HB.out⟩
        | some k =>
          have HR1 := Aside0.mk (show lessB a b l = decide (i < k) by rw [lessB, hpa, hpb])
          have HPA := Aside0.mk hpa
          have HPB := Aside0.mk hpb
          clear hpa hpb
          go_wp2_with (first
            | (at_lookup; have tok := HT1; refine wpList_lookup_own_ok_int _ rfl _ _ 34 rfl 9 3 .i64 law9 Tryd.underlying34 Tryd.underlying3 (zero3 _) w.heap.size 36 D rfl HO.out _ _ rfl HKA.out ?_; intro ca hat _; rw [(HT.out.2 a).1, HPA.out]; obtain rfl : ca = (i : Int) := HT.out.val HPA.out hat; clear hat tok HT1)
            | (at_lookup; refine wpList_lookup_own_ok_int _ rfl _ _ 34 rfl 9 3 .i64 law9 Tryd.underlying34 Tryd.underlying3 (zero3 _) w.heap.size 36 D rfl HO.out _ _ rfl HKB.out ?_; intro cb hat _; rw [(HT.out.2 b).1, HPB.out]; obtain rfl : cb = (k : Int) := HT.out.val HPB.out hat; clear hat))
          go_ret
          exact ⟨by rw [HR1.out]; rfl, HB.out⟩

end Go.Proofs.YtefejcggkkmhaaaDoor.HKind
