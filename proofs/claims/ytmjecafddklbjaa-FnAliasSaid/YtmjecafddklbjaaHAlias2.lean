/- What getAliasDependency comes to: the first chart of the name and version, copied, under the alias if there is one. -/
import Derived.Test.YtmjecafddklbjaaHAlias
namespace Go.Proofs.Ytmjecafddklbjaa.HAlias
open Go.RowKit Go.WideMaps Go.Maps Go.Proofs.YtmjecafddklbjaaW.PrintWords Go.Proofs.Ytmjecafddklbjaa.HMapI Go.Proofs.Ytmjecafddklbjaa.HSchema Go.Proofs.Ytmjecafddklbjaa.Plain Go.Proofs.Ytmjecafddklbjaa.GWants

/-- Where a chart lies, and what it tells. -/
structure Ch where
  q : Nat
  m : Nat
  n : ByteArray
  v : ByteArray
  vals : Option Nat
def Ch.In (x : Ch) (W : World) : Prop := Chart W x.q x.m x.n x.v x.vals
theorem Ch.In.below {x : Ch} {W W' : World} (h : x.In W) (hb : Below W.heap.size W W') : x.In W' := ⟨blk_below h.at_q hb, blk_below h.at_m hb⟩
theorem Ch.In.drew {x : Ch} {W : World} (h : x.In W) : x.In W.drew := ⟨blk_drew h.at_q, blk_drew h.at_m⟩
theorem _root_.Go.Proofs.Ytmjecafddklbjaa.HAlias.Chart.drewN {W : World} {q m : Nat} {n v : ByteArray} {vals : Option Nat} (h : Chart W q m n v vals) (k : Nat) : Chart (W.drewN k) q m n v vals := ⟨blk_drewN h.at_q k, blk_drewN h.at_m k⟩
/-- A slice of charts. -/
def ChartsAt (W : World) (A : Option Addr) (cs : List Ch) : Prop := ∀ (j : Nat) (h : j < cs.length), cs[j].In W ∧ ∃ ad, A = some ad ∧ W.cell? (ad.add (j : Int).toNat) = some (.pointer (some ⟨cs[j].q, 0, none⟩))
theorem quiet_plus {P : Program} {f : FuncId} {args : Array Value} {w : World} {a n : Nat} {v : Value} (h : Calls P f args (w.drewN (a + n)) fun e w' => e = .returned v ∧ w' = w.drewN (a + n)) : Calls P f args (w.drewN (a + n)) fun e w'' => e = .returned v ∧ ∃ m, w'' = w.drewN (a + m) :=
  h.mono fun _ _ ⟨he, hm⟩ => ⟨he, n, hm⟩
theorem cell_drewN (W : World) (k : Nat) (a : Addr) : (W.drewN k).cell? a = W.cell? a := rfl
theorem ChartsAt.drewN {W : World} {A : Option Addr} {cs : List Ch} (h : ChartsAt W A cs) (k : Nat) : ChartsAt (W.drewN k) A cs := fun j hj => ⟨Chart.drewN (h j hj).1 k, (h j hj).2⟩
/-- What a want tells. -/
structure Dep (W : World) (d : Nat) (n v al : ByteArray) : Prop where
  lt : d < W.heap.size
  c0 : W.cell? ⟨d, 0, none⟩ = some (.string n)
  c1 : W.cell? ⟨d, 1, none⟩ = some (.string v)
  c7 : W.cell? ⟨d, 7, none⟩ = some (.string al)
theorem Dep.drewN {W : World} {d : Nat} {n v al : ByteArray} (h : Dep W d n v al) (k : Nat) : Dep (W.drewN k) d n v al := ⟨h.lt, h.c0, h.c1, h.c7⟩
def pick (n v : ByteArray) : List Ch → Option Ch
  | [] => none
  | x :: r => if x.n = n ∧ x.v = v then some x else pick n v r
def named (al n : ByteArray) : ByteArray := if al = E0 then n else al
def Alias (w : World) (al : ByteArray) (o : Option Ch) (e : Ending) (w' : World) : Prop := Below w.heap.size w w' ∧
  match o with
  | none => e = .returned (.pointer none)
  | some x => ∃ q m, e = .returned (.pointer (some ⟨q, 0, none⟩)) ∧ Chart w' q m (named al x.n) x.v x.vals
theorem meas {L j : Nat} (h : j < L) (hL : L ≤ 1000000) : L - (intOf (.int .i64 (wrap64 ((j : Int) + 1)))).toNat < L - (intOf (.int .i64 (j : Int))).toNat := by
  rw [wrap_nat (by omega)]
  simp only [intOf]
  omega
theorem wrn {L j : Nat} (h : j < L) (hL : L ≤ 1000000) : wrap64 ((j : Int) + 1) = ((j + 1 : Nat) : Int) := wrap_nat (by omega)

set_option maxHeartbeats 2000000 in
theorem alias_calls (A : Option Addr) (c : Nat) (cs : List Ch) (d : Nat) (n v al : ByteArray) (w : World) (hA : ChartsAt w A cs) (hD : Dep w d n v al) (hl : cs.length ≤ 1000000) :
    Calls Try.prog 26 #[.slice A cs.length c, .pointer (some ⟨d, 0, none⟩)] w (Alias w al (pick n v cs)) := by
  have HA := Aside0.mk hA
  have HL := Aside0.mk hl
  have HD := Aside0.mk hD
  clear hA hl hD
  go_enter Try.func26, Try.ntmps26
  go_wp2
  go_loopw [6, 11] (fun _x i wr => ∃ j k : Nat, j ≤ cs.length ∧ i = .int .i64 j ∧ Aside0 (pick n v (cs.drop j) = pick n v cs) ∧ Aside0 (wr = w.drewN k)) (fun _x i _w => cs.length - (intOf i).toNat)
  case atStart => exact ⟨0, 0, Nat.zero_le _, rfl, ⟨rfl⟩, ⟨rfl⟩⟩
  case round =>
    obtain ⟨j, k, hj, rfl, HP, HK⟩ := hrel
    have HA1 := Aside0.mk (by rw [HK.out]; exact HA.out.drewN k : ChartsAt wr A cs)
    have hD : Dep wr d n v al := by rw [HK.out]; exact HD.out.drewN k
    have d0 := hD.c0
    have d1 := hD.c1
    have d7 := hD.c7
    have dlt := hD.lt
    clear hD
    by_cases hlt : j < cs.length
    · have HJ := Aside0.mk hlt
      obtain ⟨hin, ad, rfl, hx⟩ := HA1.out j hlt
      obtain ⟨x, hx'⟩ : ∃ x, cs[j] = x := ⟨_, rfl⟩
      have HN := Aside0.mk (show pick n v (cs.drop j) = if x.n = n ∧ x.v = v then some x else pick n v (cs.drop (j + 1)) by rw [drop_next hlt, hx', pick])
      rw [hx'] at hin hx
      rw [Int.toNat_natCast] at hx
      clear hx'
      have p0 : 0 ≤ (j : Int) := Int.natCast_nonneg j
      have q0 : (j : Int) < (cs.length : Int) := Int.ofNat_lt.2 hlt
      obtain ⟨q, m, xn, xv, vals⟩ := x
      replace hin : Chart wr q m xn xv vals := hin
      dsimp only at hx HN
      have HI := Aside0.mk hin
      have e1 := (blk_cell hin.at_q 0).trans rfl
      have e2 := (blk_cell hin.at_m 0).trans rfl
      have e3 := (blk_cell hin.at_m 1).trans rfl
      have e4 := (blk_cell hin.at_q 1).trans rfl
      have e5 := (blk_cell hin.at_q 2).trans rfl
      have e6 := (blk_cell hin.at_q 3).trans rfl
      have e7 := (blk_cell hin.at_m 2).trans rfl
      clear hin hlt
      by_cases h1 : xn = n
      · have b1 : (xn.toList == n.toList) = true := by rw [h1]; simp
        by_cases h2 : v = xv
        · have HE := Aside0.mk (show pick n v cs = some ⟨q, m, xn, xv, vals⟩ by rw [← HP.out, HN.out, if_pos ⟨h1, h2.symm⟩])
          have b2 : decide (v = xv) = true := decide_eq_true h2
          clear h1 h2
          by_cases h3 : al = E0
          · have b3 : (al.toList == ([] : List UInt8)) = true := by rw [h3, ByteArray.toList_eq]; rfl
            have HAL := Aside0.mk (show named al xn = xn from if_pos h3)
            clear h3
            go_wp2
            go_quiet ((go_at_call 21; exact Calls.quiet_of_same (name0 _ _ _ _ _ _ (HI.out.drewN _))))
            go_wp2
            generalize nq = n1
            go_quiet ((go_at_call 28; exact quiet_plus (range0 _ _ _)))
            generalize hw2 : World.drewN _ _ = w2
            have hk2 : ∃ k2, w2 = w.drewN k2 := by rw [← hw2, HK.out]; exact ⟨k + n1 + nq, by simp only [World.drewN_drewN]⟩
            obtain ⟨k2, hk2⟩ := hk2
            have HK2 := Aside0.mk hk2
            have HI2 : Chart w2 q m xn xv vals := by rw [← hw2]; first | exact (HI.out.drewN _).drewN _ | exact HI.out.drewN _
            have hD : Dep w2 d n v al := by rw [hk2]; exact HD.out.drewN k2
            clear hk2 hw2 e1 e2 e3 e4 e5 e6 e7 d0 d1 d7 dlt
            have d7 := hD.c7
            have dlt := hD.lt
            have e1 := (blk_cell HI2.at_q 0).trans rfl
            have e2 := (blk_cell HI2.at_m 0).trans rfl
            have e3 := (blk_cell HI2.at_m 1).trans rfl
            have e4 := (blk_cell HI2.at_q 1).trans rfl
            have e5 := (blk_cell HI2.at_q 2).trans rfl
            have e6 := (blk_cell HI2.at_q 3).trans rfl
            have e7 := (blk_cell HI2.at_m 2).trans rfl
            have l1 := blk_lt HI2.at_q
            have l2 := blk_lt HI2.at_m
            have n1 : q ≠ w2.heap.size := Nat.ne_of_lt l1
            have n2 : m ≠ w2.heap.size := Nat.ne_of_lt l2
            have n3 : d ≠ w2.heap.size := Nat.ne_of_lt dlt
            have n4 : d ≠ w2.heap.size + 1 := Nat.ne_of_lt (Nat.lt_succ_of_lt dlt)
            clear HI2 hD
            go_wp2
            go_ret
            refine ⟨by rw [HK2.out]; exact below_alloc (below_alloc (pw_below_drewN (Below.refl _ _) _) _) _, ?_⟩
            rw [HE.out]
            show ∃ q m, _ ∧ Chart _ q m (named al xn) xv vals
            rw [HAL.out]
            exact ⟨w2.heap.size, w2.heap.size + 1, rfl, ⟨blk_alloc (HSchema.blk_at _ rfl) _, HSchema.blk_at _ (by simp)⟩⟩
          · have b3 : (al.toList == ([] : List UInt8)) = false := by
              rw [beq_eq_false_iff_ne]
              intro e
              exact h3 (toList_inj.1 (e.trans (by rw [ByteArray.toList_eq])))
            have HAL := Aside0.mk (show named al xn = al from if_neg h3)
            clear h3
            go_wp2
            go_quiet ((go_at_call 21; exact Calls.quiet_of_same (name0 _ _ _ _ _ _ (HI.out.drewN _))))
            go_wp2
            generalize nq = n1
            go_quiet ((go_at_call 28; exact quiet_plus (range0 _ _ _)))
            generalize hw2 : World.drewN _ _ = w2
            have hk2 : ∃ k2, w2 = w.drewN k2 := by rw [← hw2, HK.out]; exact ⟨k + n1 + nq, by simp only [World.drewN_drewN]⟩
            obtain ⟨k2, hk2⟩ := hk2
            have HK2 := Aside0.mk hk2
            have HI2 : Chart w2 q m xn xv vals := by rw [← hw2]; first | exact (HI.out.drewN _).drewN _ | exact HI.out.drewN _
            have hD : Dep w2 d n v al := by rw [hk2]; exact HD.out.drewN k2
            clear hk2 hw2 e1 e2 e3 e4 e5 e6 e7 d0 d1 d7 dlt
            have d7 := hD.c7
            have dlt := hD.lt
            have e1 := (blk_cell HI2.at_q 0).trans rfl
            have e2 := (blk_cell HI2.at_m 0).trans rfl
            have e3 := (blk_cell HI2.at_m 1).trans rfl
            have e4 := (blk_cell HI2.at_q 1).trans rfl
            have e5 := (blk_cell HI2.at_q 2).trans rfl
            have e6 := (blk_cell HI2.at_q 3).trans rfl
            have e7 := (blk_cell HI2.at_m 2).trans rfl
            have l1 := blk_lt HI2.at_q
            have l2 := blk_lt HI2.at_m
            have n1 : q ≠ w2.heap.size := Nat.ne_of_lt l1
            have n2 : m ≠ w2.heap.size := Nat.ne_of_lt l2
            have n3 : d ≠ w2.heap.size := Nat.ne_of_lt dlt
            have n4 : d ≠ w2.heap.size + 1 := Nat.ne_of_lt (Nat.lt_succ_of_lt dlt)
            clear HI2 hD
            go_wp2
            go_ret
            refine ⟨by rw [HK2.out]; exact below_alloc (below_alloc (pw_below_drewN (Below.refl _ _) _) _) _, ?_⟩
            rw [HE.out]
            show ∃ q m, _ ∧ Chart _ q m (named al xn) xv vals
            rw [HAL.out]
            exact ⟨w2.heap.size, w2.heap.size + 1, rfl, ⟨blk_alloc (HSchema.blk_at _ rfl) _, HSchema.blk_at _ (by simp)⟩⟩
        · have b2 : decide (v = xv) = false := decide_eq_false h2
          have HE := Aside0.mk (show pick n v (cs.drop (j + 1)) = pick n v cs by rw [← HP.out, HN.out, if_neg (fun e => h2 e.2.symm)])
          clear h1 h2
          go_wp2
          go_quiet ((go_at_call 21; exact Calls.quiet_of_same (name0 _ _ _ _ _ _ (HI.out.drewN _))))
          go_wp2
          go_quiet ((go_at_call 28; exact quiet_plus (range0 _ _ _)))
          go_wp2
          go_roundw
          case rel => exact ⟨j + 1, _, HJ.out, congrArg (Value.int .i64) (wrn HJ.out HL.out), HE, ⟨by rw [HK.out]; exact World.drewN_drewN _ _ _⟩⟩
          case measure => exact meas HJ.out HL.out
      · have b1 : (xn.toList == n.toList) = false := by rw [beq_toList]; exact decide_eq_false h1
        have HE := Aside0.mk (show pick n v (cs.drop (j + 1)) = pick n v cs by rw [← HP.out, HN.out, if_neg (fun e => h1 e.1)])
        clear h1
        go_wp2
        go_quiet ((go_at_call 21; exact Calls.quiet_of_same (name0 _ _ _ _ _ _ (HI.out.drewN _))))
        go_wp2
        go_roundw
        case rel => exact ⟨j + 1, _, HJ.out, congrArg (Value.int .i64) (wrn HJ.out HL.out), HE, ⟨by rw [HK.out]; exact World.drewN_drewN _ _ _⟩⟩
        case measure => exact meas HJ.out HL.out
    · have e : j = cs.length := Nat.le_antisymm hj (Nat.not_lt.1 hlt)
      have HE := Aside0.mk (show pick n v cs = none by rw [← HP.out, e, List.drop_length]; rfl)
      clear e
      go_wp2
      go_ret
      refine ⟨by rw [HK.out]; exact pw_below_drewN (Below.refl _ _) _, ?_⟩
      rw [HE.out]
      rfl
end Go.Proofs.Ytmjecafddklbjaa.HAlias
