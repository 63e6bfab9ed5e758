/- What Gvk.IsLessThan, stableSortString and typeOrders come to, for kinds that stand in none of the two orders. -/
import Derived.Test.YtfdgbgjbncakfaaDoorHId
import Derived.Test.YtfdgbgjbncakfaaDoorHShelfstringsJoin
import Derived.Deep.QuietTactic
import Derived.BigQuiet
import Derived.Deep.DeepCutAuto
import Derived.Deep.RegionHeld3
import Derived.Deep.DrawnRows
import Derived.Deep.LoopGhost
import Derived.LoopTactic
import Derived.WalkKit
import Derived.WalkSpells
namespace Go.Proofs.YtfdgbgjbncakfaaDoor.HOrd
open Go.RowKit Go.Proofs.YtfdgbgjbncakfaaDoorW.PrintWords Go.Proofs.YtfdgbgjbncakfaaDoorW.PrintLast Go.Proofs.YtfdgbgjbncakfaaDoorW.PrintMore Go.Proofs.YtfdgbgjbncakfaaDoor.Plain

/-- The two orders lie in the variables: texts, none of which is the one. -/
def Lay (g : Nat) (l : List ByteArray) (w : World) : Prop := ∃ A c, w.cell? ⟨g, 0, none⟩ = some (.slice A l.length c) ∧ Kd.C Kd.string w A l.length l
def Not (k : ByteArray) (l : List ByteArray) : Prop := l.length ≤ 1000 ∧ ∀ s ∈ l, (s.toList == k.toList) = false

theorem lay_below {g : Nat} {l : List ByteArray} {w w' : World} (h : Lay g l w) (hb : Below w.heap.size w w') : Lay g l w' := by
  obtain ⟨A, c, h1, h2⟩ := h
  exact ⟨A, c, pw_cell_below hb h1, Kd.C_below h2 hb⟩
theorem meas1 {L j : Nat} (h : j < L) : L - (intOf (.int .i64 ((j : Int) + 1))).toNat < L - (intOf (.int .i64 (j : Int))).toNat := by
  simp only [intOf]
  omega

set_option maxHeartbeats 2000000 in
theorem orders_calls (k : ByteArray) (l0 l1 : List ByteArray) (w : World) (h0 : Lay 0 l0 w) (h1 : Lay 1 l1 w) (n0 : Not k l0) (n1 : Not k l1) :
    Calls Tryd.prog 12 #[.string k] w fun e w' => e = .returned (.int .i64 0) ∧ w = w' := by
  obtain ⟨A0, C0, c0, r0⟩ := h0
  obtain ⟨A1, C1, c1, r1⟩ := h1
  have R0 := Aside0.mk r0
  have R1 := Aside0.mk r1
  have N0 := Aside0.mk n0.2
  have N1 := Aside0.mk n1.2
  have L0 := n0.1
  have L1 := n1.1
  clear r0 r1 n0 n1
  go_enter Tryd.func12, Tryd.ntmps12
  go_wp2
  go_loop [7] (fun i => ∃ j : Nat, j ≤ l0.length ∧ i = .int .i64 j) (fun i => l0.length - (intOf i).toNat)
  case atStart => exact ⟨0, Nat.zero_le _, rfl⟩
  case round =>
    obtain ⟨j, hj, rfl⟩ := hrel
    by_cases hlt : j < l0.length
    · have HLT := Aside0.mk hlt
      obtain ⟨ad, e0, hx⟩ := Kd.at_string R0.out (j : Int) (Int.natCast_nonneg j) (by omega)
      cases e0
      rw [rdOf_nat _ _ _ hlt, Int.toNat_natCast] at hx
      have hne := N0.out _ (List.getElem_mem hlt)
      go_wp2
      go_round
      case rel => exact ⟨j + 1, HLT.out, rfl⟩
      case measure => exact meas1 HLT.out
    · go_wp2
      go_loop [21] (fun i => ∃ j : Nat, j ≤ l1.length ∧ i = .int .i64 j) (fun i => l1.length - (intOf i).toNat)
      case atStart => exact ⟨0, Nat.zero_le _, rfl⟩
      case round =>
        obtain ⟨m, hm, rfl⟩ := hrel
        by_cases hlt : m < l1.length
        · have HLT := Aside0.mk hlt
          obtain ⟨ad, e0, hx⟩ := Kd.at_string R1.out (m : Int) (Int.natCast_nonneg m) (by omega)
          cases e0
          rw [rdOf_nat _ _ _ hlt, Int.toNat_natCast] at hx
          have hne := N1.out _ (List.getElem_mem hlt)
          go_wp2
          go_round
          case rel => exact ⟨m + 1, HLT.out, rfl⟩
          case measure => exact meas1 HLT.out
        · go_wp2
          go_ret
          exact ⟨rfl, rfl⟩

/-! ### the stable text -/
def orB (a b : ByteArray) : ByteArray := if a = ByteArray.empty then b else a
abbrev us : ByteArray := ⟨#[95]⟩
abbrev tK : ByteArray := ⟨#[126, 75]⟩
abbrev tV : ByteArray := ⟨#[126, 86]⟩
abbrev tG : ByteArray := ⟨#[126, 71]⟩
def stabB (g v k : ByteArray) : ByteArray := orB g tG ++ us ++ orB v tV ++ us ++ orB k tK
theorem isEmpty_toList (s : ByteArray) : s.toList.isEmpty = decide (s = ByteArray.empty) := by
  rw [Bool.eq_iff_iff, List.isEmpty_iff, decide_eq_true_iff]
  constructor
  · intro h
    apply toList_inj.1
    rw [h, ByteArray.toList_eq]; rfl
  · rintro rfl
    rw [ByteArray.toList_eq]; rfl
theorem or_size {a b : ByteArray} {n : Nat} (h : a.size ≤ n) (hb : b.size ≤ n) : (orB a b).size ≤ n := by unfold orB; split <;> assumption
theorem or_cases (a b : ByteArray) : (a.toList = [] ∧ orB a b = b) ∨ (a.toList.isEmpty = false ∧ orB a b = a) := by
  by_cases h : a = ByteArray.empty
  · exact .inl ⟨by rw [h, ByteArray.toList_eq]; rfl, if_pos h⟩
  · exact .inr ⟨by rw [isEmpty_toList, decide_eq_false h], if_neg h⟩
theorem text_join (x y z : ByteArray) : (⟨(Lib.join ([x, y, z].map (·.data.toList)) us.data.toList).toArray⟩ : ByteArray) = x ++ us ++ y ++ us ++ z := by
  apply toList_inj.1
  rw [ByteArray.toList_eq, ByteArray.toList_eq]
  simp [Lib.join, ByteArray.data_append]
theorem join_small (x y z : ByteArray) (hx : x.size ≤ 1000) (hy : y.size ≤ 1000) (hz : z.size ≤ 1000) : (Lib.join ([x, y, z].map (·.data.toList)) us.data.toList).length ≤ 140737488355328 := by
  have a : x.data.size ≤ 1000 := hx
  have b : y.data.size ≤ 1000 := hy
  have c : z.data.size ≤ 1000 := hz
  simp [Lib.join]
  omega
theorem join_calls (xs : List ByteArray) (sep : ByteArray) (W : World) (e : TypeId) (b n : Nat) (hb : W.heap.size = b) (hn : xs.length = n) (hN : xs.length ≤ 140737488355328) (hlen : (Lib.join (xs.map (·.data.toList)) sep.data.toList).length ≤ 140737488355328) :
    Calls Tryd.prog 14 #[.slice (some ⟨b, 0, none⟩) n n, .string sep] (W.alloc (.cells (xs.map Value.string).toArray e)) fun e w' => e = .returned (.string ⟨(Lib.join (xs.map (·.data.toList)) sep.data.toList).toArray⟩) ∧ Below W.heap.size W w' := by
  subst hb hn
  refine (Tryd.strings_Join W.heap.size 0 xs.length xs sep (W.alloc (.cells (xs.map Value.string).toArray e)) (fun j x hx => ?_) (by simp) hN (Nat.le_refl _) hlen).mono fun e w' ⟨he, hw⟩ => ⟨he, below_step (below_alloc (Below.refl _ _) _) hw⟩
  rw [Nat.zero_add, blk_cell (blk_new W _)]
  simp [hx]

theorem join3_calls (x y z : ByteArray) (W : World) (b : Nat) (hb : W.heap.size = b) (hx : x.size ≤ 1000) (hy : y.size ≤ 1000) (hz : z.size ≤ 1000) :
    Calls Tryd.prog 14 #[.slice (some ⟨b, 0, none⟩) 3 3, .string us] (W.alloc (.cells #[.string x, .string y, .string z] 9)) fun e w' => e = .returned (.string (x ++ us ++ y ++ us ++ z)) ∧ Below W.heap.size W w' := by
  refine (join_calls [x, y, z] us W 9 b 3 hb rfl (by simp) (join_small x y z hx hy hz)).mono ?_
  rintro e w' ⟨rfl, h⟩
  exact ⟨by rw [text_join], h⟩

set_option maxHeartbeats 1000000 in
theorem stab_calls (g v k : ByteArray) (f : Bool) (w : World) (hg : g.size ≤ 1000) (hv : v.size ≤ 1000) (hk : k.size ≤ 1000) :
    Calls Tryd.prog 13 #[.agg #[.string g, .string v, .string k, .bool f]] w fun e w' => e = .returned (.string (stabB g v k)) ∧ Below w.heap.size w w' := by
  have S1 := Aside0.mk (show (orB k tK).size ≤ 1000 from or_size hk (by decide))
  have S2 := Aside0.mk (show (orB v tV).size ≤ 1000 from or_size hv (by decide))
  have S3 := Aside0.mk (show (orB g tG).size ≤ 1000 from or_size hg (by decide))
  clear hg hv hk
  rcases or_cases g tG with ⟨g1, g2⟩ | ⟨g1, g2⟩ <;> rcases or_cases v tV with ⟨v1, v2⟩ | ⟨v1, v2⟩ <;> rcases or_cases k tK with ⟨k1, k2⟩ | ⟨k1, k2⟩
  all_goals
    have HT := Aside0.mk (show stabB g v k = _ from by unfold stabB; rw [g2, v2, k2])
    rw [k2] at S1
    rw [v2] at S2
    rw [g2] at S3
    clear g2 v2 k2
    go_enter Tryd.func13, Tryd.ntmps13
    go_wp2_with (go_at_call 14; refine (join3_calls _ _ _ _ _ (by simp) S3.out S2.out S1.out).mono ?_; rintro e w2 ⟨rfl, hb⟩; have HB := Aside0.mk (below_step (below_alloc (Below.refl _ _) _) hb); clear hb)
    go_ret
    exact ⟨by rw [HT.out]; rfl, HB.out⟩

/-! ### IsLessThan -/
/-- Two boxes, and nothing else has turned. -/
def S2' (w : World) (p q : Nat) (t t' : TypeId) (x0 x1 x2 x3 y0 y1 y2 y3 : Value) (w' : World) : Prop := w'.heap[p]? = some (.cells #[x0, x1, x2, x3] t (0, 0)) ∧ w'.heap[q]? = some (.cells #[y0, y1, y2, y3] t' (0, 0)) ∧ Below w.heap.size w w'
def S2 (w : World) (p q : Nat) (t t' : TypeId) (x0 x1 x2 x3 y0 y1 y2 y3 : Value) (w' : World) : Prop :=
  w'.cell? ⟨p, 0, none⟩ = some x0 ∧ w'.cell? ⟨p, 1, none⟩ = some x1 ∧ w'.cell? ⟨p, 2, none⟩ = some x2 ∧ w'.cell? ⟨p, 3, none⟩ = some x3 ∧ w'.cell? ⟨q, 0, none⟩ = some y0 ∧ w'.cell? ⟨q, 1, none⟩ = some y1 ∧ w'.cell? ⟨q, 2, none⟩ = some y2 ∧ w'.cell? ⟨q, 3, none⟩ = some y3 ∧
    S2' w p q t t' x0 x1 x2 x3 y0 y1 y2 y3 w'
theorem S2.mk {w w' : World} {p q : Nat} {t t' : TypeId} {x0 x1 x2 x3 y0 y1 y2 y3 : Value} (hp : w'.heap[p]? = some (.cells #[x0, x1, x2, x3] t (0, 0))) (hq : w'.heap[q]? = some (.cells #[y0, y1, y2, y3] t' (0, 0))) (hb : Below w.heap.size w w') : S2 w p q t t' x0 x1 x2 x3 y0 y1 y2 y3 w' :=
  ⟨(blk_cell hp 0).trans rfl, (blk_cell hp 1).trans rfl, (blk_cell hp 2).trans rfl, (blk_cell hp 3).trans rfl, (blk_cell hq 0).trans rfl, (blk_cell hq 1).trans rfl, (blk_cell hq 2).trans rfl, (blk_cell hq 3).trans rfl, hp, hq, hb⟩
theorem S2.call {w w' w5 : World} {p q : Nat} {t t' : TypeId} {x0 x1 x2 x3 y0 y1 y2 y3 : Value} (h : S2 w p q t t' x0 x1 x2 x3 y0 y1 y2 y3 w') (k : Below w'.heap.size w' w5) : S2 w p q t t' x0 x1 x2 x3 y0 y1 y2 y3 w5 :=
  S2.mk (blk_below h.2.2.2.2.2.2.2.2.1 k) (blk_below h.2.2.2.2.2.2.2.2.2.1 k) (below_step h.2.2.2.2.2.2.2.2.2.2 k)
theorem S2.drew {w w' : World} {p q : Nat} {t t' : TypeId} {x0 x1 x2 x3 y0 y1 y2 y3 : Value} (h : S2 w p q t t' x0 x1 x2 x3 y0 y1 y2 y3 w') : S2 w p q t t' x0 x1 x2 x3 y0 y1 y2 y3 w'.drew :=
  S2.mk (blk_drew h.2.2.2.2.2.2.2.2.1) (blk_drew h.2.2.2.2.2.2.2.2.2.1) (below_drew h.2.2.2.2.2.2.2.2.2.2)
theorem S2.all {w w' : World} {p q : Nat} {t t' : TypeId} {x0 x1 x2 x3 y0 y1 y2 y3 : Value} (h : S2 w p q t t' x0 x1 x2 x3 y0 y1 y2 y3 w') : Below w.heap.size w w' := h.2.2.2.2.2.2.2.2.2.2
theorem blk_second (w : World) (A B : Obj) : ((w.alloc A).alloc B).heap[w.heap.size + 1]? = some B := by
  have h := blk_new (w.alloc A) B
  rwa [World.size_alloc] at h
def lessS (g v k g' v' k' : ByteArray) : Bool := Op.bytesLess (stabB g v k).toList (stabB g' v' k').toList

set_option maxHeartbeats 4000000 in
theorem less_calls (g v k g' v' k' : ByteArray) (l0 l1 : List ByteArray) (w : World) (h0 : Lay 0 l0 w) (h1 : Lay 1 l1 w) (n0 : Not k l0) (n1 : Not k l1) (m0 : Not k' l0) (m1 : Not k' l1)
    (hg : g.size ≤ 1000) (hv : v.size ≤ 1000) (hk : k.size ≤ 1000) (hg' : g'.size ≤ 1000) (hv' : v'.size ≤ 1000) (hk' : k'.size ≤ 1000) :
    Calls Tryd.prog 9 #[.agg #[.string g, .string v, .string k, .bool false], .agg #[.string g', .string v', .string k', .bool false]] w fun e w' => e = .returned (.bool (lessS g v k g' v' k')) ∧ Below w.heap.size w w' := by
  have HS := Aside0.mk (S2.mk (w := w) (blk_alloc (blk_new w (.cells #[.string g, .string v, .string k, .bool false] 33)) (.cells #[.string g', .string v', .string k', .bool false] 33)) (blk_second w _ (.cells #[.string g', .string v', .string k', .bool false] 33)) (below_alloc (below_alloc (Below.refl _ _) _) _))
  have L0 := Aside0.mk (lay_below h0 HS.out.all)
  have L1 := Aside0.mk (lay_below h1 HS.out.all)
  have C1 := Aside0.mk (fun w => stab_calls g v k false w hg hv hk)
  have C2 := Aside0.mk (fun w => stab_calls g' v' k' false w hg' hv' hk')
  have O1 := Aside0.mk (fun w a b => orders_calls k l0 l1 w a b n0 n1)
  have O2 := Aside0.mk (fun w a b => orders_calls k' l0 l1 w a b m0 m1)
  clear h0 h1 n0 n1 m0 m1 hg hv hk hg' hv' hk'
  have tok := Aside0.mk trivial
  go_enter Tryd.func9, Tryd.ntmps9
  go_upto_region 5 with (first
    | (go_at_call 12; have _t := tok; refine (O1.out _ L0.out L1.out).mono ?_; rintro e w2 ⟨rfl, rfl⟩; clear tok)
    | (go_at_call 12; refine (O2.out _ L0.out L1.out).mono ?_; rintro e w2 ⟨rfl, rfl⟩))
  go_region_held3 (fun w' => w'.cell? ⟨w.heap.size, 0, none⟩ = some (.string g) ∧ w'.cell? ⟨w.heap.size, 1, none⟩ = some (.string v) ∧ w'.cell? ⟨w.heap.size, 2, none⟩ = some (.string k) ∧ w'.cell? ⟨w.heap.size, 3, none⟩ = some (.bool false) ∧ w'.cell? ⟨w.heap.size + 1, 0, none⟩ = some (.string g') ∧ w'.cell? ⟨w.heap.size + 1, 1, none⟩ = some (.string v') ∧ w'.cell? ⟨w.heap.size + 1, 2, none⟩ = some (.string k') ∧ w'.cell? ⟨w.heap.size + 1, 3, none⟩ = some (.bool false) ∧ S2' w w.heap.size (w.heap.size + 1) 33 33 (.string g) (.string v) (.string k) (.bool false) (.string g') (.string v') (.string k') (.bool false) w')
    (first | exact hkeep.out | exact HS.out | exact HS.out.drew | (go_keep))
    (first
      | (go_at_call 13; (with_reducible refine (C1.out _).mono ?_); rintro e w5 ⟨rfl, hb5⟩; have hkeep := Aside0.mk (S2.call (show S2 w w.heap.size (w.heap.size + 1) 33 33 (.string g) (.string v) (.string k) (.bool false) (.string g') (.string v') (.string k') (.bool false) _ from ‹_ ∧ _›) hb5); clear hb5)
      | (go_at_call 13; (with_reducible refine (C2.out _).mono ?_); rintro e w5 ⟨rfl, hb5⟩; have hkeep := Aside0.mk (S2.call (show S2 w w.heap.size (w.heap.size + 1) 33 33 (.string g) (.string v) (.string k) (.bool false) (.string g') (.string v') (.string k') (.bool false) _ from ‹_ ∧ _›) hb5); clear hb5))
  all_goals go_wp2
  all_goals go_ret
  all_goals exact ⟨rfl, hkeep.out.all⟩

end Go.Proofs.YtfdgbgjbncakfaaDoor.HOrd
