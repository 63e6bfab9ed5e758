/- What spec.PathValue comes to. -/
import Derived.Test.YtjfbjkodjjlkiaaHNames
import Derived.Test.YtjfbjkodjjlkiaaBC
import Derived.Deep.RegionWith
namespace Go.Proofs.Ytjfbjkodjjlkiaa.HVal
open Go.RowKit Go.WideMaps Go.Maps Go.Proofs.YtjfbjkodjjlkiaaW.PrintWords Go.Proofs.YtjfbjkodjjlkiaaW.PrintLast Go.Proofs.YtjfbjkodjjlkiaaW.PrintMore Go.Proofs.Ytjfbjkodjjlkiaa.Plain Go.Proofs.Ytjfbjkodjjlkiaa.GTab Go.Proofs.Ytjfbjkodjjlkiaa.HBytes
attribute [local go_sem] run_store_flt

theorem Rt.lens {n : Nat} {x : S26} (h : Rt n x) (h7 : x.f0 = 7) : x.f5.length = x.f6.length := by
  cases n with
  | zero => exact h.elim
  | succ n =>
    unfold Rt at h
    rcases h with ⟨h | h | h | h, _⟩ | ⟨h, _⟩ | ⟨h, _⟩ | ⟨_, _, h, _⟩
    · omega
    · omega
    · omega
    · omega
    · omega
    · omega
    · exact h
theorem find_mem {y : S26} {s : ByteArray} : ∀ {ks : List ByteArray} {xs : List S26}, find ks xs s = some y → y ∈ xs
  | [], _, h => by simp [find] at h
  | _ :: _, [], h => by simp [find] at h
  | k :: ks, x :: xs, h => by
    rw [find] at h
    by_cases e : k = s
    · rw [if_pos e] at h
      cases h
      exact List.mem_cons_self
    · rw [if_neg e] at h
      exact List.mem_cons_of_mem _ (find_mem h)
theorem Rt.find {n : Nat} {x y : S26} {s : ByteArray} (h : Rt n x) (hf : HVal.find x.f5 x.f6 s = some y) : ∃ m, Rt m y := by
  cases n with
  | zero => exact h.elim
  | succ n => exact ⟨n, rt_kids h _ (find_mem hf)⟩
/-- A table that is right. -/
structure Tb (x : S26) : Prop where
  t7 : x.f0 = 7
  rt : ∃ n, Rt n x
theorem Tb.lens {x : S26} (h : Tb x) : x.f5.length = x.f6.length := by
  obtain ⟨n, hr⟩ := h.rt
  exact hr.lens h.t7
theorem Tb.find {x y : S26} {s : ByteArray} (h : Tb x) (hf : HVal.find x.f5 x.f6 s = some y) : ∃ m, Rt m y := by
  obtain ⟨n, hr⟩ := h.rt
  exact hr.find hf
theorem last2_two (x : S26) (a b : ByteArray) (r : List ByteArray) : last2 x (a :: b :: r) = match hop x a with | some y => last2 y (b :: r) | none => none := by
  show (match road x (a :: (b :: r).dropLast) with | some y => leaf y ((b :: r).getLastD ⟨#[]⟩) | none => none) = _
  rw [road]
  cases hop x a <;> rfl
theorem last2_step {x : S26} {l : List ByteArray} {j : Nat} (h : j + 1 < l.length) : last2 x (l.drop j) = match hop x l[j] with | some y => last2 y (l.drop (j + 1)) | none => none := by
  rw [List.drop_eq_getElem_cons (by omega : j < l.length), List.drop_eq_getElem_cons h]
  exact last2_two _ _ _ _
theorem last2_end {x : S26} {l : List ByteArray} {j : Nat} (h : l.length = j + 1) : last2 x (l.drop j) = leaf x (l[j]'(by omega)) := by
  rw [List.drop_eq_getElem_cons (by omega : j < l.length), List.drop_of_length_le (by omega)]
  rfl
structure PS (w : World) (P : Nat → Prop) (l : List ByteArray) (A : Option Addr) (n : Nat) (y : S26) (A5 : Option Addr) (c5 : Nat) (A6 : Option Addr) (c6 : Nat) (W : World) : Prop where
  b0 : W.heap[w.heap.size]? = some (.cells #[.int .i64 y.f0, .bool y.f1, .int .i64 y.f2, .float .f64 y.f3, .string y.f4, .slice A5 y.f5.length c5, .slice A6 y.f6.length c6] 26 (0, 0))
  b1 : W.heap[w.heap.size + 1]? = some (.cells #[.int .i64 0, .bool false, .int .i64 0, .float .f64 0, .string ⟨#[]⟩, .slice none 0 0, .slice none 0 0] 26 (0, 0))
  nm : Kd.F Kd.string W (fun k => w.heap.size + 2 ≤ k) A n l
  kv : KV W P y A5 c5 A6 c6
  tb : Tb y
  below : Below w.heap.size w W
section
variable {w : World} {P : Nat → Prop} {l : List ByteArray} {A : Option Addr} {n : Nat} {y : S26} {A5 A6 : Option Addr} {c5 c6 : Nat} {W W2 : World}
theorem PS.later (h : PS w P l A n y A5 c5 A6 c6 W) (hb : Below W.heap.size W W2) : PS w P l A n y A5 c5 A6 c6 W2 :=
  ⟨blk_below h.b0 hb, blk_below h.b1 hb, Kd.F_below h.nm hb, h.kv.below hb, h.tb, below_step h.below hb⟩
theorem PS.put (h : PS w P l A n y A5 c5 A6 c6 W) (hP : ∀ k, P k → k < w.heap.size) {y' : S26} {B5 B6 : Option Addr} {d5 d6 : Nat} (hv : KV W P y' B5 d5 B6 d6) (ht : Tb y') : PS w P l A n y' B5 d5 B6 d6 (putV W w.heap.size y' B5 d5 B6 d6) :=
  ⟨putV_at h.b0 y' B5 d5 B6 d6, (putV_far (by omega) y' B5 d5 B6 d6).trans h.b1, Kd.F_step h.nm (fun k hk _ => putV_far (by omega) y' B5 d5 B6 d6), hv.step (fun k hk _ => putV_far (by have := hP k hk; omega) y' B5 d5 B6 d6), ht, putV_below h.below (Nat.le_refl _) y' B5 d5 B6 d6⟩
theorem PS.start {c : Nat} (hv : KV w P y A5 c5 A6 c6) (ht : Tb y) (hR : Kd.R Kd.string 9 W ((w.alloc (row26 y A5 c5 A6 c6)).alloc row0).heap.size (fun _ => True) (.slice A n c) l) (hb : Below ((w.alloc (row26 y A5 c5 A6 c6)).alloc row0).heap.size ((w.alloc (row26 y A5 c5 A6 c6)).alloc row0) W) : PS w P l A n y A5 c5 A6 c6 W :=
  ⟨blk_below (blk_alloc (blk_new w _) _) hb, blk_below (blk_at _ (by simp)) hb, Kd.F_mono (Kd.R_F (Kd.R_bound hR)) (fun k hk => by have := hk.2.1; simp only [World.size_alloc] at this; omega),
    (hv.below (below_alloc (below_alloc (Below.refl _ _) _) _)).below hb, ht, below_step (below_alloc (below_alloc (Below.refl _ _) _) _) hb⟩
theorem PS.cell (h : PS w P l A n y A5 c5 A6 c6 W) (hn : l.length = n) {j : Nat} (hj : j < l.length) : ∃ ad, A = some ad ∧ W.cell? (ad.add j) = some (.string l[j]) := by
  subst hn
  exact names_cell (Kd.F_now h.nm) hj
end
theorem wrap_self {k : Nat} (h : k + 1 ≤ 1000000000) : wrap64 (k : Int) = (k : Int) := by
  unfold wrap64
  omega
/-- What spec.PathValue gives. -/
def SpecP (w : World) (P : Nat → Prop) (o : Option S26) (e : Ending) (w' : World) : Prop :=
  Below w.heap.size w w' ∧ ∃ y A5 c5 A6 c6, e = .returned (.tuple #[agg26 y A5 c5 A6 c6, .bool o.isSome]) ∧ KV w' P y A5 c5 A6 c6 ∧ ∀ v, o = some v → y = v
/-- What is known behind the last call of At. -/
structure PE (w : World) (P : Nat → Prop) (o : Option S26) (b : Nat) (y : S26) (A5 : Option Addr) (c5 : Nat) (A6 : Option Addr) (c6 : Nat) (W : World) : Prop where
  b1 : W.heap[w.heap.size + 1]? = some (.cells #[.int .i64 0, .bool false, .int .i64 0, .float .f64 0, .string ⟨#[]⟩, .slice none 0 0, .slice none 0 0] 26 (0, 0))
  at_ : W.heap[b]? = some (.cells #[.int .i64 y.f0, .bool y.f1, .int .i64 y.f2, .float .f64 y.f3, .string y.f4, .slice A5 y.f5.length c5, .slice A6 y.f6.length c6] 26 (0, 0))
  kv : KV W P y A5 c5 A6 c6
  val : o.getD z26 = y
  below : Below w.heap.size w W
section
variable {w : World} {P : Nat → Prop} {l : List ByteArray} {A : Option Addr} {n : Nat} {x y : S26} {A5 A6 B5 B6 : Option Addr} {c5 c6 d5 d6 : Nat} {W W2 : World} {o : Option S26} {b : Nat}
theorem PE.after (h : PS w P l A n x B5 d5 B6 d6 W) (hv : KV W P y A5 c5 A6 c6) (ho : o.getD z26 = y) : PE w P o W.heap.size y A5 c5 A6 c6 (W.alloc (row26 y A5 c5 A6 c6)) :=
  ⟨blk_alloc h.b1 _, blk_new W _, hv.below (below_alloc (Below.refl _ _) _), ho, below_alloc h.below _⟩
theorem PE.ahead (h : PS w P l A n x B5 d5 B6 d6 W) (hP : ∀ k, P k → k < w.heap.size) (hv : KV W P y A5 c5 A6 c6) (ho : o.getD z26 = y) (hb : w.heap.size + 1 < b) (hz : W.heap[b]? = some (.cells #[.int .i64 0, .bool false, .int .i64 0, .float .f64 0, .string ⟨#[]⟩, .slice none 0 0, .slice none 0 0] 26 (0, 0))) :
    PE w P o b y A5 c5 A6 c6 (putV W b y A5 c5 A6 c6) :=
  ⟨(putV_far (by omega) y A5 c5 A6 c6).trans h.b1, putV_at hz y A5 c5 A6 c6, hv.step (fun k hk _ => putV_far (by have := hP k hk; omega) y A5 c5 A6 c6), ho, putV_below h.below (by omega) y A5 c5 A6 c6⟩
theorem PE.later (h : PE w P o b y A5 c5 A6 c6 W) (hb : Below W.heap.size W W2) : PE w P o b y A5 c5 A6 c6 W2 :=
  ⟨blk_below h.b1 hb, blk_below h.at_ hb, h.kv.below hb, h.val, below_step h.below hb⟩
end
/-- Behind the store of what is given back. -/
structure FE (w : World) (P : Nat → Prop) (y : S26) (A5 : Option Addr) (c5 : Nat) (A6 : Option Addr) (c6 : Nat) (W : World) : Prop where
  b1 : W.heap[w.heap.size + 1]? = some (.cells #[.int .i64 y.f0, .bool y.f1, .int .i64 y.f2, .float .f64 y.f3, .string y.f4, .slice A5 y.f5.length c5, .slice A6 y.f6.length c6] 26 (0, 0))
  kv : KV W P y A5 c5 A6 c6
  below : Below w.heap.size w W
section
variable {w : World} {P : Nat → Prop} {y : S26} {A5 A6 : Option Addr} {c5 c6 : Nat} {W W2 : World} {o : Option S26} {b : Nat}
theorem FE.put (h : PE w P o b y A5 c5 A6 c6 W) (hP : ∀ k, P k → k < w.heap.size) : FE w P y A5 c5 A6 c6 (putV W (w.heap.size + 1) y A5 c5 A6 c6) :=
  ⟨putV_at h.b1 y A5 c5 A6 c6, h.kv.step (fun k hk _ => putV_far (by have := hP k hk; omega) y A5 c5 A6 c6), putV_below h.below (Nat.le_succ _) y A5 c5 A6 c6⟩
theorem FE.later (h : FE w P y A5 c5 A6 c6 W) (hb : Below W.heap.size W W2) : FE w P y A5 c5 A6 c6 W2 := ⟨blk_below h.b1 hb, h.kv.below hb, below_step h.below hb⟩
theorem FE.drew (h : FE w P y A5 c5 A6 c6 W) : FE w P y A5 c5 A6 c6 W.drew := h.later (below_drew (Below.refl _ _))
end
/-- The end: what At tells, and whether it is a table. -/
theorem leaf_of {x y : S26} {t : ByteArray} (h : (find x.f5 x.f6 t).getD z26 = y) : (leaf x t).isSome = ((find x.f5 x.f6 t).isSome && !decide (y.f0 = 7)) ∧ ∀ v, leaf x t = some v → y = v := by
  unfold leaf
  cases hf : find x.f5 x.f6 t with
  | none => exact ⟨rfl, fun v hv => by cases hv⟩
  | some u =>
    rw [hf] at h
    have hy : u = y := h
    subst hy
    by_cases h7 : u.f0 = 7
    · simp [h7]
    · simp [h7]
set_option maxRecDepth 100000 in
set_option maxHeartbeats 4000000 in
theorem specp_calls (x : S26) (A5 : Option Addr) (c5 : Nat) (A6 : Option Addr) (c6 : Nat) (P : Nat → Prop) (s : ByteArray) (w : World) (ht : Tb x) (hv : KV w P x A5 c5 A6 c6) (hP : ∀ k, P k → k < w.heap.size) (hs : s.size ≤ 100000) (h0 : s ≠ ⟨#[]⟩) :
    Calls Try.prog 29 #[agg26 x A5 c5 A6 c6, .string s] w (SpecP w P (pathV x s)) := by
  have HV := Aside0.mk hv
  have HP := Aside0.mk hP
  have HT := Aside0.mk ht
  have HS := Aside0.mk hs
  have hq : (s.toList == (ByteArray.mk #[]).toList) = false := by rw [beq_toList]; exact decide_eq_false h0
  have hq2 : ¬ s.toList = [] := fun e => by rw [show (ByteArray.mk #[]).toList = [] from by kernel_rfl, e] at hq; cases hq
  have hq3 : (s.toList == []) = false := by simpa using hq2
  have hq4 : s.toList.isEmpty = false := by simpa using hq2
  obtain ⟨k, hk⟩ : ∃ k, (namesB s).length = k + 1 := ⟨(namesB s).length - 1, by have := List.length_pos_iff.2 (namesB_ne s); omega⟩
  have HK := Aside0.mk (show k + 1 ≤ 1000000000 by have := (names_init (s := s)).2; omega)
  have HO := Aside0.mk (show pathV x s = last2 x (namesB s) from rfl)
  obtain ⟨l, hl⟩ : ∃ l, namesB s = l := ⟨_, rfl⟩
  have HN := Aside0.mk (specNames_calls s ((w.alloc (row26 x A5 c5 A6 c6)).alloc row0) (Nat.le_trans hs (by decide)))
  rw [hl] at hk HO
  have HL := Aside0.mk hl
  have HKL := Aside0.mk hk
  have Q1 := Aside0.mk (wrap_self HK.out)
  clear ht hv hP hs h0 hk hl
  go_enter Try.func29, Try.ntmps29
  have q1 := Q1.out
  have p0 : 0 ≤ (k : Int) := Int.natCast_nonneg k
  go_wp2_with (go_at_call 24; go_must (refine HN.out.mono ?_; rintro e w1 ⟨v, rfl, hR, hb⟩; rw [HL.out] at hR; obtain ⟨A, c, rfl, hc, hC⟩ := Kd.R_reads hR; rw [HKL.out] at hR hc ⊢; have HC := Aside0.mk hc; have HI := Aside0.mk (PS.start HV.out HT.out hR hb); clear hR hb hC hc HN; have p1 : (k : Int) ≤ (c : Int) := Int.ofNat_le.2 (Nat.le_of_succ_le HC.out)))
  clear q1 hq hq2 hq3 hq4
  go_loopw [24] (fun i wr => ∃ (j : Nat) (y : S26) (B5 : Option Addr) (d5 : Nat) (B6 : Option Addr) (d6 : Nat), j ≤ k ∧ i = .int .i64 j ∧ Aside0 (pathV x s = last2 y (l.drop j)) ∧ Aside0 (PS w P l A (k + 1) y B5 d5 B6 d6 wr)) (fun i _ => k - (intOf i).toNat)
  case atStart => exact ⟨0, x, A5, c5, A6, c6, Nat.zero_le _, rfl, HO, HI⟩
  case round =>
    obtain ⟨j, y, B5, d5, B6, d6, hj, rfl, HO1, HI1⟩ := hrel
    clear HI HO
    have HP1 := Aside0.mk (fun b (hb : P b) => Nat.lt_of_lt_of_le (HP.out b hb) HI1.out.below.size)
    obtain ⟨⟨r0, r1, r2, r3, r4, r5, r6⟩, -⟩ := at7 HI1.out.b0
    by_cases hlt : j < k
    · have HJ := Aside0.mk hlt
      have hjl : j + 1 < l.length := by rw [HKL.out]; omega
      obtain ⟨ad, hA, z0⟩ := HI1.out.cell HKL.out (Nat.lt_of_succ_lt hjl)
      subst hA
      have q0 : (j : Int) < (k : Int) := Int.ofNat_lt.2 hlt
      have p2 : 0 ≤ (j : Int) := Int.natCast_nonneg j
      have HO2 := Aside0.mk (HO1.out.trans (last2_step hjl))
      obtain ⟨t, ht⟩ : ∃ t, l[j] = t := ⟨_, rfl⟩
      rw [ht] at z0 HO2
      have HAT := Aside0.mk (at_calls y B5 d5 B6 d6 P t wr HI1.out.tb.t7 HI1.out.tb.lens HI1.out.kv HP1.out)
      clear ht hjl hlt hj
      cases hf : find y.f5 y.f6 t with
      | none =>
        rw [hf] at HAT
        have HE := Aside0.mk (HO2.out.trans (by unfold hop; rw [hf]))
        clear hf
        go_wp2_with (go_at_call 39; go_must (refine HAT.out.mono ?_; rintro e w2 ⟨hb, y2, E5, e5, E6, e6, rfl, hv2, hy2⟩; have HI2 := Aside0.mk (HI1.out.later hb); obtain ⟨⟨s0, s1, s2, s3, s4, s5, s6⟩, f0, f1, f2, f3, f4, f5, f6⟩ := at7 (blk_alloc HI2.out.b1 (row26 y2 E5 e5 E6 e6)); clear hb hv2 hy2 HAT))
        have HI3 := Aside0.mk (HI2.out.later (below_alloc (Below.refl _ _) (row26 y2 E5 e5 E6 e6)))
        have HP2 := Aside0.mk (put26_at HI3.out.b1 (.int .i64 0) (.bool false) (.int .i64 0) (.float .f64 0) (.string ⟨#[]⟩) (.slice none 0 0) (.slice none 0 0))
        have HB2 := Aside0.mk (put26_below HI3.out.below (Nat.le_succ _) (.int .i64 0) (.bool false) (.int .i64 0) (.float .f64 0) (.string ⟨#[]⟩) (.slice none 0 0) (.slice none 0 0))
        obtain ⟨W5, hW5⟩ : ∃ W5, put26 (w2.alloc (row26 y2 E5 e5 E6 e6)) (w.heap.size + 1) (.int .i64 0) (.bool false) (.int .i64 0) (.float .f64 0) (.string ⟨#[]⟩) (.slice none 0 0) (.slice none 0 0) = W5 := ⟨_, rfl⟩
        rw [hW5] at HP2 HB2
        unfold put26 at hW5
        rw [hW5]
        clear hW5 s0 s1 s2 s3 s4 s5 s6 f0 f1 f2 f3 f4 f5 f6 r0 r1 r2 r3 r4 r5 r6
        obtain ⟨⟨g0, g1, g2, g3, g4, g5, g6⟩, -⟩ := at7 HP2.out
        refine bodyPost_ret (v := .tuple #[agg26 z26 none 0 none 0, .bool false]) (by simp [results, Try.results29, go_sem, g0, g1, g2, g3, g4, g5, g6, z26]) rfl ?_
        exact ⟨HB2.out, z26, none, 0, none, 0, by rw [HE.out]; rfl, (kv_z26 _).mono (fun _ h => h.elim), fun v hv => by rw [HE.out] at hv; cases hv⟩
      | some v =>
        rw [hf] at HAT
        have HF := Aside0.mk (HI1.out.tb.find hf)
        by_cases h7 : v.f0 = 7
        · have HE := Aside0.mk (show pathV x s = last2 v (l.drop (j + 1)) by rw [HO2.out]; unfold hop; rw [hf]; simp only [h7, if_true])
          have HTV := Aside0.mk (⟨h7, HF.out⟩ : Tb v)
          have H7 := Aside0.mk (decide_eq_true h7)
          clear hf h7
          go_wp2_with (first
            | (go_at_call 39; go_must (refine HAT.out.mono ?_; rintro e w2 ⟨hb, y2, E5, e5, E6, e6, rfl, hv2, hy2⟩; have hy3 : v = y2 := hy2; subst hy3; have HI2 := Aside0.mk (HI1.out.later (below_step hb (below_alloc (Below.refl _ _) (row26 v E5 e5 E6 e6)))); have HV2 := Aside0.mk (hv2.below (below_alloc (Below.refl _ _) (row26 v E5 e5 E6 e6))); clear hb hv2 hy2 HAT))
            | (go_at_call 20; go_must (refine (is7_calls HV2.out).mono ?_; rintro e w3 ⟨rfl, hb⟩; rw [H7.out]; have HI3 := Aside0.mk (HI2.out.later hb); have HV3 := Aside0.mk (HV2.out.below hb); obtain ⟨⟨s0, s1, s2, s3, s4, s5, s6⟩, f0, f1, f2, f3, f4, f5, f6⟩ := at7 HI3.out.b0; obtain ⟨⟨n0, n1, n2, n3, n4, n5, n6⟩, -⟩ := at7 (blk_below (blk_new w2 (row26 v E5 e5 E6 e6)) hb); clear hb r0 r1 r2 r3 r4 r5 r6)))
          go_roundw
          case rel => exact ⟨j + 1, v, E5, e5, E6, e6, HJ.out, congrArg (Value.int IntKind.i64) (next63 HJ.out (Nat.le_trans (Nat.le_of_succ_le HK.out) (by decide))), HE, ⟨HI3.out.put HP.out HV3.out HTV.out⟩⟩
          case measure => exact meas26 HJ.out (Nat.le_trans (Nat.le_of_succ_le HK.out) (by decide))
        · have HE := Aside0.mk (show pathV x s = none by rw [HO2.out]; unfold hop; rw [hf]; simp only [h7, if_false])
          have H7 := Aside0.mk (decide_eq_false h7)
          clear hf h7
          go_wp2_with (first
            | (go_at_call 39; go_must (refine HAT.out.mono ?_; rintro e w2 ⟨hb, y2, E5, e5, E6, e6, rfl, hv2, hy2⟩; have hy3 : v = y2 := hy2; subst hy3; have HI2 := Aside0.mk (HI1.out.later (below_step hb (below_alloc (Below.refl _ _) (row26 v E5 e5 E6 e6)))); have HV2 := Aside0.mk (hv2.below (below_alloc (Below.refl _ _) (row26 v E5 e5 E6 e6))); clear hb hv2 hy2 HAT))
            | (go_at_call 20; go_must (refine (is7_calls HV2.out).mono ?_; rintro e w3 ⟨rfl, hb⟩; rw [H7.out]; have HI3 := Aside0.mk (HI2.out.later hb); obtain ⟨⟨s0, s1, s2, s3, s4, s5, s6⟩, f0, f1, f2, f3, f4, f5, f6⟩ := at7 HI3.out.b1; clear hb)))
          have HP2 := Aside0.mk (put26_at HI3.out.b1 (.int .i64 0) (.bool false) (.int .i64 0) (.float .f64 0) (.string ⟨#[]⟩) (.slice none 0 0) (.slice none 0 0))
          have HB2 := Aside0.mk (put26_below HI3.out.below (Nat.le_succ _) (.int .i64 0) (.bool false) (.int .i64 0) (.float .f64 0) (.string ⟨#[]⟩) (.slice none 0 0) (.slice none 0 0))
          obtain ⟨W5, hW5⟩ : ∃ W5, put26 w3 (w.heap.size + 1) (.int .i64 0) (.bool false) (.int .i64 0) (.float .f64 0) (.string ⟨#[]⟩) (.slice none 0 0) (.slice none 0 0) = W5 := ⟨_, rfl⟩
          rw [hW5] at HP2 HB2
          unfold put26 at hW5
          rw [hW5]
          clear hW5 s0 s1 s2 s3 s4 s5 s6 f0 f1 f2 f3 f4 f5 f6 r0 r1 r2 r3 r4 r5 r6
          obtain ⟨⟨g0, g1, g2, g3, g4, g5, g6⟩, -⟩ := at7 HP2.out
          refine bodyPost_ret (v := .tuple #[agg26 z26 none 0 none 0, .bool false]) (by simp [results, Try.results29, go_sem, g0, g1, g2, g3, g4, g5, g6, z26]) rfl ?_
          exact ⟨HB2.out, z26, none, 0, none, 0, by rw [HE.out]; rfl, (kv_z26 _).mono (fun _ h => h.elim), fun v hv => by rw [HE.out] at hv; cases hv⟩
    · have e : j = k := Nat.le_antisymm hj (Nat.not_lt.1 hlt)
      subst e
      have q1 : ¬ (j : Int) < (j : Int) := Int.lt_irrefl _
      have hjl : j < l.length := by rw [HKL.out]; omega
      obtain ⟨ad, hA, z0⟩ := HI1.out.cell HKL.out hjl
      subst hA
      have HO2 := Aside0.mk (HO1.out.trans (last2_end HKL.out))
      obtain ⟨t, ht⟩ : ∃ t, l[j] = t := ⟨_, rfl⟩
      rw [ht] at z0 HO2
      have HAT := Aside0.mk (fun W (hb : Below wr.heap.size wr W) => at_calls y B5 d5 B6 d6 P t W HI1.out.tb.t7 HI1.out.tb.lens (HI1.out.kv.below hb) (fun b hb2 => Nat.lt_of_lt_of_le (HP1.out b hb2) hb.size))
      clear ht hjl hlt hj
      go_wp2
      have q2 : IntKind.i64.wrap (j : Int) = (j : Int) := (Go.IntWalk.i64_left _).trans Q1.out
      have p3 : 0 ≤ (j : Int) := Int.natCast_nonneg j
      have p4 : (j : Int) < (j : Int) + 1 := Int.lt_succ _
      have z1 := keep_cell z0 (below_alloc (Below.refl _ _) row0)
      obtain ⟨⟨i0, i1, i2, i3, i4, i5, i6⟩, -⟩ := at7 (blk_alloc HI1.out.b0 row0)
      have HW := Aside0.mk (show w.heap.size + 1 < wr.heap.size from blk_lt HI1.out.b1)
      go_cut [11, 12] (fun p q wx => ∃ (b : Nat) (y2 : S26) (E5 : Option Addr) (e5 : Nat) (E6 : Option Addr) (e6 : Nat), p = .pointer (some ⟨b, 0, none⟩) ∧ q = .bool (find y.f5 y.f6 t).isSome ∧ Aside0 (PE w P (find y.f5 y.f6 t) b y2 E5 e5 E6 e6 wx))
      case first =>
        go_region_with (go_at_call 39; go_must (refine (HAT.out _ ?_).mono ?_; (first
          | (exact below_drew (Below.refl _ _); rintro e w2 ⟨hb, y2, E5, e5, E6, e6, rfl, hv2, hy2⟩; have HZ := Aside0.mk (PE.after (HI1.out.later (Below.drew_then hb)) hv2 hy2); clear hb hv2 hy2)
          | (exact below_drew (below_alloc (Below.refl _ _) row0); rintro e w2 ⟨hb, y2, E5, e5, E6, e6, rfl, hv2, hy2⟩; have HZ2 := Aside0.mk (blk_below (blk_drew (blk_new wr row0)) hb); have HZ := Aside0.mk (PE.ahead (HI1.out.later (below_step (below_drew (below_alloc (Below.refl _ _) row0)) hb)) HP.out hv2 hy2 HW.out HZ2.out); obtain ⟨⟨n0, n1, n2, n3, n4, n5, n6⟩, m0, m1, m2, m3, m4, m5, m6⟩ := at7 HZ2.out; clear hb hv2 hy2))))
        all_goals (go_wp2_with fail; go_meet; exact ⟨_, _, _, _, _, _, rfl, rfl, HZ⟩)
      case rest =>
        obtain ⟨b, y2, E5, e5, E6, e6, rfl, rfl, HE⟩ := hcut
        have hl := leaf_of HE.out.val
        obtain ⟨⟨s0, s1, s2, s3, s4, s5, s6⟩, f0, f1, f2, f3, f4, f5, f6⟩ := at7 HE.out.b1
        obtain ⟨⟨n0, n1, n2, n3, n4, n5, n6⟩, -⟩ := at7 HE.out.at_
        go_wp2
        clear r0 r1 r2 r3 r4 r5 r6 z0 z1 i0 i1 i2 i3 i4 i5 i6 HAT
        have HL := Aside0.mk hl
        have HFP := Aside0.mk (FE.put HE.out HP.out)
        clear hl
        obtain ⟨o, ho⟩ : ∃ o, (find y.f5 y.f6 t).isSome = o := ⟨_, rfl⟩
        rw [ho] at HL ⊢
        cases o with
        | false =>
          have HQ := Aside0.mk (show (leaf y t).isSome = false from HL.out.1)
          go_region_with fail
          all_goals (go_wp2_with fail; obtain ⟨⟨g0, g1, g2, g3, g4, g5, g6⟩, -⟩ := at7 HFP.out.b1; unfold putV put26 at g0 g1 g2 g3 g4 g5 g6; refine bodyPost_ret (v := .tuple #[agg26 y2 E5 e5 E6 e6, .bool false]) (by simp [results, Try.results29, go_sem, g0, g1, g2, g3, g4, g5, g6]) rfl ?_)
          all_goals exact ⟨(FE.drew HFP.out).below, y2, E5, e5, E6, e6, by rw [HO2.out, HQ.out], (FE.drew HFP.out).kv, fun v hv => HL.out.2 v (HO2.out.symm.trans hv)⟩
        | true =>
          obtain ⟨q, hq⟩ : ∃ q, decide (y2.f0 = 7) = q := ⟨_, rfl⟩
          have H7 := Aside0.mk hq
          have HQ := Aside0.mk (show (leaf y t).isSome = !q from HL.out.1.trans (by rw [hq]; rfl))
          clear hq
          go_region_with (go_at_call 20; go_must (first
            | (refine (is7_calls (w := wc.drew) (HE.out.later (below_drew (Below.refl _ _))).kv).mono ?_; rintro e w3 ⟨rfl, hb⟩; rw [H7.out]; have HA := Aside0.mk (HE.out.later (Below.drew_then hb)); have HF := Aside0.mk (FE.put HA.out HP.out); obtain ⟨⟨a0, a1, a2, a3, a4, a5, a6⟩, b0, b1, b2, b3, b4, b5, b6⟩ := at7 HA.out.b1; obtain ⟨⟨d0, d1, d2, d3, d4, d5, d6⟩, -⟩ := at7 HA.out.at_; clear hb)
            | (refine (is7_calls (FE.drew HFP.out).kv).mono ?_; rintro e w3 ⟨rfl, hb⟩; rw [H7.out]; have HF := Aside0.mk (FE.later (FE.drew HFP.out) hb); clear hb)))
          all_goals (go_wp2_with fail; obtain ⟨⟨g0, g1, g2, g3, g4, g5, g6⟩, -⟩ := at7 HF.out.b1; try unfold putV put26 at g0 g1 g2 g3 g4 g5 g6)
          all_goals (refine bodyPost_ret (v := .tuple #[agg26 y2 E5 e5 E6 e6, .bool (!q)]) (by simp [results, Try.results29, go_sem, g0, g1, g2, g3, g4, g5, g6]) rfl ?_)
          all_goals exact ⟨HF.out.below, y2, E5, e5, E6, e6, by rw [HO2.out, HQ.out], HF.out.kv, fun v hv => HL.out.2 v (HO2.out.symm.trans hv)⟩
end Go.Proofs.Ytjfbjkodjjlkiaa.HVal
