/- What set, pathToMap and ZzPathToMap come to: tables that have another one at a road of names. -/
import Derived.Test.YtjfbjkodjjlkiaaBF
import Derived.Test.YtjfbjkodjjlkiaaHTab1
namespace Go.Proofs.Ytjfbjkodjjlkiaa.HVal
open Go.RowKit Go.WideMaps Go.Maps Go.Proofs.YtjfbjkodjjlkiaaW.PrintWords Go.Proofs.YtjfbjkodjjlkiaaW.PrintLast Go.Proofs.YtjfbjkodjjlkiaaW.PrintMore Go.Proofs.Ytjfbjkodjjlkiaa.Plain Go.Proofs.Ytjfbjkodjjlkiaa.GTab Go.Proofs.Ytjfbjkodjjlkiaa.HBytes
attribute [local go_sem] run_store_flt

theorem lookOf_has {w : World} {b : Nat} {kv : List (ByteArray × Value)} (h : MapAt w b kv) {k : ByteArray} (v : Value) (hk : look kv k = none) (hs : k.size ≤ maxLen) (hn : kv.length < maxLen) :
    ∃ w', (Instr.mapUpdate 58 (.map (some b)) (.string k) v).run Try.prog w = .ok () w' ∧ MapAt w' b (kv ++ [(k, v)]) ∧ w.grownBy w' (some b) := by
  obtain ⟨D, ho, hm, hl⟩ := h
  obtain ⟨w', hrun, ho', hg⟩ := ho.update law9 Try.underlying58 hn (keyS_ok hs) (show hR v = some (.held v, []) from rfl)
  exact ⟨w', hrun, MapAt.snoc hm hl hk ho', hg⟩
/-- A map of one entry, made anew. -/
theorem map_new (W : World) (s : ByteArray) (v : Value) (hs : s.size ≤ maxLen) :
    ∃ W1, (Instr.mapUpdate 58 (.map (some W.heap.size)) (.string s) v).run Try.prog (W.alloc (.map #[] 0)) = .ok () W1 ∧ MapAt W1 W.heap.size [(s, v)] ∧ Below W.heap.size W W1 := by
  obtain ⟨W1, hrun, hm, hg⟩ := lookOf_has (MapAt.made W) v rfl hs (by decide)
  exact ⟨W1, hrun, hm, below_grown (below_alloc (Below.refl _ _) _) hg (Nat.le_refl _)⟩
/-- A real value, all of whose blocks are there. -/
def Rp (n : Nat) (w : World) (v : Value) (x : S26) : Prop := ∃ fp, Rep n w v x fp ∧ ∀ k ∈ fp, k < w.heap.size
theorem Rp.later {n : Nat} {w w' : World} {v : Value} {x : S26} (h : Rp n w v x) (hb : Below w.heap.size w w') : Rp n w' v x := by
  obtain ⟨fp, h1, h2⟩ := h
  exact ⟨fp, h1.move n fun k hk => hb.block k (h2 k hk), fun k hk => Nat.lt_of_lt_of_le (h2 k hk) hb.size⟩
theorem Rp.tab {n : Nat} {w W : World} {v : Value} {x : S26} {s : ByteArray} (h : Rp n w v x) (hm : MapAt W w.heap.size [(s, v)]) (hb : Below w.heap.size w W) : Rp (n + 1) W (.iface 58 (.map (some w.heap.size))) (tab1 s x) := by
  obtain ⟨fp, h1, h2⟩ := h
  refine ⟨w.heap.size :: fp, Rep.mk (.inr (.inr (.inr (.inr (.inr (.inr ⟨rfl, w.heap.size, [v], [fp], rfl, rfl, hm, .cons (h1.move n fun k hk => hb.block k (h2 k hk)) .nil, by simp⟩)))))), fun k hk => ?_⟩
  rcases List.mem_cons.1 hk with rfl | hk
  · exact hm.lt
  · exact Nat.lt_of_lt_of_le (h2 k hk) hb.size
theorem set_meas {j : Nat} (h : j + 1 ≤ 1000000000) : (intOf (.int .i64 (wrap64 ((j : Int) - 1))) + 1).toNat < (intOf (.int .i64 (j : Int)) + 1).toNat := by
  have e : wrap64 ((j : Int) - 1) = (j : Int) - 1 := by unfold wrap64; omega
  rw [e]
  show ((j : Int) - 1 + 1).toNat < ((j : Int) + 1).toNat
  omega
theorem set_down {k : Nat} (h : k + 1 ≤ 1000000000) : wrap64 ((k : Int) - 1) = (k : Int) - 1 := by
  unfold wrap64
  omega
theorem set_self {k : Nat} (h : k + 1 ≤ 1000000000) : wrap64 (k : Int) = (k : Int) := by
  unfold wrap64
  omega
def SetPost (w : World) (n : Nat) (y : S26) (e : Ending) (w' : World) : Prop := Below w.heap.size w w' ∧ ∃ b, e = .returned (.map (some b)) ∧ Rp n w' (.iface 58 (.map (some b))) y
set_option maxRecDepth 100000 in
set_option maxHeartbeats 4000000 in
theorem set_calls (n b : Nat) (x : S26) (l : List ByteArray) (A : Option Addr) (c k : Nat) (w : World) (hk : l.length = k + 1) (hK : k + 1 ≤ 1000000) (hsz : ∀ t ∈ l, t.size ≤ maxLen) (hC : Kd.string.C w A l.length l) (hr : Rp n w (.iface 58 (.map (some b))) x) :
    Calls Try.prog 94 #[.slice A (k + 1) c, .map (some b)] w (SetPost w (n + (k + 1)) (pmap l x)) := by
  have HK := Aside0.mk hK
  have HKL := Aside0.mk hk
  have HS := Aside0.mk hsz
  have HC := Aside0.mk hC
  have HR := Aside0.mk hr
  have q1 := set_self (Nat.le_trans hK (by decide))
  have Q1 := Aside0.mk q1
  have q3 : ¬ ((k : Int) + 1 = 0) := by omega
  have hmm := @run_makeMap Try.prog
  clear hk hsz hC hr hK
  go_enter Try.func94, Try.ntmps94
  go_wp2
  clear q1 q3
  go_loopw [5, 6] (fun m i wr => ∃ (j b' : Nat) (y : S26), j ≤ k + 1 ∧ m = .map (some b') ∧ i = .int .i64 ((j : Int) - 1) ∧ Aside0 (y = pmap (l.drop j) x) ∧ Aside0 (Below w.heap.size w wr) ∧ Aside0 (Rp (n + (k + 1 - j)) wr (.iface 58 (.map (some b'))) y)) (fun _ i _ => (intOf i + 1).toNat)
  case atStart => exact ⟨k + 1, b, x, Nat.le_refl _, rfl, congrArg (Value.int IntKind.i64) (Q1.out.trans (by omega)), ⟨by rw [← HKL.out, List.drop_length]; rfl⟩, ⟨Below.refl _ _⟩, ⟨by rw [Nat.sub_self]; exact HR.out⟩⟩
  case round =>
    obtain ⟨j, b', y, hj, rfl, rfl, HO1, HB1, HR1⟩ := hrel
    cases j with
    | zero =>
      have HE := Aside0.mk (show y = pmap l x from HO1.out)
      go_wp2
      go_ret
      exact ⟨HB1.out, b', rfl, by rw [← HE.out]; exact HR1.out⟩
    | succ j =>
      have e : ((j + 1 : Nat) : Int) - 1 = (j : Int) := by omega
      rw [e]
      have HJ := Aside0.mk (show j + 1 ≤ k + 1 from hj)
      have hjl : j < l.length := by rw [HKL.out]; omega
      obtain ⟨ad, hA, z0⟩ := names_cell (Kd.C_below HC.out HB1.out) hjl
      subst hA
      have q0 : (j : Int) < (k : Int) + 1 := by omega
      have p2 : 0 ≤ (j : Int) := Int.natCast_nonneg j
      have HO2 := Aside0.mk (pmap_drop (x := x) hjl)
      rw [← HO1.out] at HO2
      have hts := HS.out _ (List.getElem_mem hjl)
      obtain ⟨t, ht⟩ : ∃ t, l[j] = t := ⟨_, rfl⟩
      rw [ht] at z0 HO2 hts
      obtain ⟨W1, hrun, hm, hb⟩ := map_new wr t (.iface 58 (.map (some b'))) hts
      have HR2 := Aside0.mk (HR1.out.tab hm hb)
      have HB2 := Aside0.mk (below_step HB1.out hb)
      have z1 := keep_cell z0 (below_alloc (Below.refl _ _) (.map #[] 0))
      clear ht hjl hj e hts hm hb z0
      go_wp2
      go_roundw
      case rel => exact ⟨j, wr.heap.size, tab1 t y, Nat.le_trans (Nat.le_succ _) HJ.out, rfl, congrArg (Value.int IntKind.i64) (set_down (Nat.le_trans HJ.out (Nat.le_trans HK.out (by decide)))), ⟨HO2.out.symm⟩, HB2, ⟨by have h := HR2.out; have e2 : n + (k + 1 - (j + 1)) + 1 = n + (k + 1 - j) := (by have := HJ.out; omega); rw [e2] at h; exact h⟩⟩
      case measure => exact set_meas (Nat.le_trans HJ.out (Nat.le_trans HK.out (by decide)))
/-! ### pathToMap -/
def PtmPost (w : World) (n : Nat) (s : ByteArray) (x : S26) (e : Ending) (w' : World) : Prop := SetPost w (n + (namesB s).length) (pmap (namesB s) x) e w'
set_option maxRecDepth 100000 in
set_option maxHeartbeats 4000000 in
theorem ptm_calls (n b : Nat) (x : S26) (s : ByteArray) (w : World) (hs : s.size ≤ 100000) (h0 : s ≠ ⟨#[46]⟩) (hr : Rp n w (.iface 58 (.map (some b))) x) :
    Calls Try.prog 78 #[.string s, .map (some b)] w (PtmPost w n s x) := by
  have hq : (s.toList == (ByteArray.mk #[46]).toList) = false := by rw [beq_toList]; exact decide_eq_false h0
  have hq2 : ¬ s.toList = [46] := fun e => by rw [show (ByteArray.mk #[46]).toList = [46] from by kernel_rfl, e] at hq; cases hq
  have hq3 : (s.toList == [46]) = false := by simpa using hq2
  have HP := Aside0.mk (parse_calls s w hs)
  have HR := Aside0.mk hr
  have HN := Aside0.mk (fun t (ht : t ∈ namesB s) => Nat.le_trans (names_size ht) (Nat.le_trans hs (by decide : 100000 ≤ maxLen)))
  obtain ⟨k, hk⟩ : ∃ k, (namesB s).length = k + 1 := ⟨(namesB s).length - 1, by have := List.length_pos_iff.2 (namesB_ne s); omega⟩
  have HK := Aside0.mk (show k + 1 ≤ 1000000 by have := (names_init (s := s)).2; omega)
  unfold PtmPost
  obtain ⟨l, hl⟩ : ∃ l, namesB s = l := ⟨_, rfl⟩
  rw [hl] at hk HN ⊢
  rw [hk]
  have HL := Aside0.mk hl
  have HKL := Aside0.mk hk
  clear hs h0 hr hl hk
  go_enter Try.func78, Try.ntmps78
  go_wp2_with (first
    | (go_at_call 79; go_must (refine HP.out.mono ?_; rintro e w1 ⟨v, rfl, hR, hb⟩; rw [HL.out] at hR; obtain ⟨A, c, rfl, hc, hC⟩ := Kd.R_reads hR; have HC := Aside0.mk (set_calls n b x l A c k w1 HKL.out HK.out HN.out hC (HR.out.later hb)); have HB := Aside0.mk hb; rw [HKL.out]; clear hR hb hC hc HP))
    | (go_at_call 94; go_must (refine HC.out.mono ?_; rintro e w2 ⟨hb, b', rfl, hr⟩; have HB2 := Aside0.mk (below_step HB.out hb); have HR2 := Aside0.mk hr; clear hb hr)))
  go_ret
  exact ⟨HB2.out, b', rfl, HR2.out⟩
set_option maxHeartbeats 4000000 in
theorem zptm_calls (n b : Nat) (x : S26) (s : ByteArray) (w : World) (hs : s.size ≤ 100000) (h0 : s ≠ ⟨#[46]⟩) (hr : Rp n w (.iface 58 (.map (some b))) x) :
    Calls Try.prog 56 #[.string s, .map (some b)] w (PtmPost w n s x) := by
  have HC := Aside0.mk (ptm_calls n b x s w hs h0 hr)
  clear hs h0 hr
  go_enter Try.func56, Try.ntmps56
  go_wp2_with (go_at_call 78; go_must (refine HC.out.mono ?_; rintro e w2 ⟨hb, b', rfl, hr⟩; have HB2 := Aside0.mk hb; have HR2 := Aside0.mk hr; clear hb hr))
  go_ret
  exact ⟨HB2.out, b', rfl, HR2.out⟩
end Go.Proofs.Ytjfbjkodjjlkiaa.HVal
