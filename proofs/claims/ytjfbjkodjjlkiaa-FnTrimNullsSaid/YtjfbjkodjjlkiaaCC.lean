/- What set, pathToMap and ZzPathToMap come to: tables that have another one at a road of names. Canonical values, and tables at a road of names: plain facts. What impl.PathToMap and impl.TableAt come to. -/
import Derived.Test.YtjfbjkodjjlkiaaBF
import Derived.Test.YtjfbjkodjjlkiaaHTab1
import Derived.Test.YtjfbjkodjjlkiaaBE
/-! What set, pathToMap and ZzPathToMap come to: tables that have another one at a road of names. -/
namespace Go.Proofs.Ytjfbjkodjjlkiaa.HVal
open Go.RowKit Go.WideMaps Go.Maps Go.Proofs.YtjfbjkodjjlkiaaW.PrintWords Go.Proofs.YtjfbjkodjjlkiaaW.PrintLast Go.Proofs.YtjfbjkodjjlkiaaW.PrintMore Go.Proofs.Ytjfbjkodjjlkiaa.Plain Go.Proofs.Ytjfbjkodjjlkiaa.GTab Go.Proofs.Ytjfbjkodjjlkiaa.HBytes
attribute [local go_sem] run_store_flt

theorem lookOf_has {w : World} {b : Nat} {kv : List (ByteArray × Value)} (h : MapAt w b kv) {k : ByteArray} (v : Value) (hk : look kv k = none) (hs : k.size ≤ maxLen) (hn : kv.length < maxLen) :
    ∃ w', (Instr.mapUpdate 58 (.map (some b)) (.string k) v).run Try.prog w = .ok () w' ∧ MapAt w' b (kv ++ [(k, v)]) ∧ w.grownBy w' (some b) := by
  obtain ⟨D, ho, hm, hl⟩ := h
  obtain ⟨w', hrun, ho', hg⟩ := ho.update law9 Try.underlying58 hn (keyS_ok hs) (show hR v = some (.held v, []) from rfl)
  exact ⟨w', hrun, MapAt.snoc hm hl hk ho', hg⟩
/-- A map of one entry, made anew. -/
theorem map_new (W : World) (s : ByteArray) (v : Value) (hs : s.size ≤ maxLen) :
    ∃ W1, (Instr.mapUpdate 58 (.map (some W.heap.size)) (.string s) v).run Try.prog (W.alloc (.map #[] 0)) = .ok () W1 ∧ MapAt W1 W.heap.size [(s, v)] ∧ Below W.heap.size W W1 := by
  obtain ⟨W1, hrun, hm, hg⟩ := lookOf_has (MapAt.made W) v rfl hs (by decide)
  exact ⟨W1, hrun, hm, below_grown (below_alloc (Below.refl _ _) _) hg (Nat.le_refl _)⟩
/-- A real value, all of whose blocks are there. -/
def Rp (n : Nat) (w : World) (v : Value) (x : S26) : Prop := ∃ fp, Rep n w v x fp ∧ ∀ k ∈ fp, k < w.heap.size
theorem Rp.later {n : Nat} {w w' : World} {v : Value} {x : S26} (h : Rp n w v x) (hb : Below w.heap.size w w') : Rp n w' v x := by
  obtain ⟨fp, h1, h2⟩ := h
  exact ⟨fp, h1.move n fun k hk => hb.block k (h2 k hk), fun k hk => Nat.lt_of_lt_of_le (h2 k hk) hb.size⟩
theorem Rp.tab {n : Nat} {w W : World} {v : Value} {x : S26} {s : ByteArray} (h : Rp n w v x) (hm : MapAt W w.heap.size [(s, v)]) (hb : Below w.heap.size w W) : Rp (n + 1) W (.iface 58 (.map (some w.heap.size))) (tab1 s x) := by
  obtain ⟨fp, h1, h2⟩ := h
  refine ⟨w.heap.size :: fp, Rep.mk (.inr (.inr (.inr (.inr (.inr (.inr ⟨rfl, w.heap.size, [v], [fp], rfl, rfl, hm, .cons (h1.move n fun k hk => hb.block k (h2 k hk)) .nil, by simp⟩)))))), fun k hk => ?_⟩
  rcases List.mem_cons.1 hk with rfl | hk
  · exact hm.lt
  · exact Nat.lt_of_lt_of_le (h2 k hk) hb.size
theorem set_meas {j : Nat} (h : j + 1 ≤ 1000000000) : (intOf (.int .i64 (wrap64 ((j : Int) - 1))) + 1).toNat < (intOf (.int .i64 (j : Int)) + 1).toNat := by
  have e : wrap64 ((j : Int) - 1) = (j : Int) - 1 := by unfold wrap64; omega
  rw [e]
  show ((j : Int) - 1 + 1).toNat < ((j : Int) + 1).toNat
  omega
theorem set_down {k : Nat} (h : k + 1 ≤ 1000000000) : wrap64 ((k : Int) - 1) = (k : Int) - 1 := by
  unfold wrap64
  omega
theorem set_self {k : Nat} (h : k + 1 ≤ 1000000000) : wrap64 (k : Int) = (k : Int) := by
  unfold wrap64
  omega
def SetPost (w : World) (n : Nat) (y : S26) (e : Ending) (w' : World) : Prop := Below w.heap.size w w' ∧ ∃ b, e = .returned (.map (some b)) ∧ Rp n w' (.iface 58 (.map (some b))) y
set_option maxRecDepth 100000 in
set_option maxHeartbeats 4000000 in
theorem set_calls (n b : Nat) (x : S26) (l : List ByteArray) (A : Option Addr) (c k : Nat) (w : World) (hk : l.length = k + 1) (hK : k + 1 ≤ 1000000) (hsz : ∀ t ∈ l, t.size ≤ maxLen) (hC : Kd.string.C w A l.length l) (hr : Rp n w (.iface 58 (.map (some b))) x) :
    Calls Try.prog 94 #[.slice A (k + 1) c, .map (some b)] w (SetPost w (n + (k + 1)) (pmap l x)) := by
  have HK := Aside0.mk hK
  have HKL := Aside0.mk hk
  have HS := Aside0.mk hsz
  have HC := Aside0.mk hC
  have HR := Aside0.mk hr
  have q1 := set_self (Nat.le_trans hK (by decide))
  have Q1 := Aside0.mk q1
  have q3 : ¬ ((k : Int) + 1 = 0) := by omega
  have hmm := @run_makeMap Try.prog
  clear hk hsz hC hr hK
  go_enter Try.func94, Try.ntmps94
  go_wp2
  clear q1 q3
  go_loopw [5, 6] (fun m i wr => ∃ (j b' : Nat) (y : S26), j ≤ k + 1 ∧ m = .map (some b') ∧ i = .int .i64 ((j : Int) - 1) ∧ Aside0 (y = pmap (l.drop j) x) ∧ Aside0 (Below w.heap.size w wr) ∧ Aside0 (Rp (n + (k + 1 - j)) wr (.iface 58 (.map (some b'))) y)) (fun _ i _ => (intOf i + 1).toNat)
  case atStart => exact ⟨k + 1, b, x, Nat.le_refl _, rfl, congrArg (Value.int IntKind.i64) (Q1.out.trans (by omega)), ⟨by rw [← HKL.out, List.drop_length]; rfl⟩, ⟨Below.refl _ _⟩, ⟨by rw [Nat.sub_self]; exact HR.out⟩⟩
  case round =>
    obtain ⟨j, b', y, hj, rfl, rfl, HO1, HB1, HR1⟩ := hrel
    cases j with
    | zero =>
      have HE := Aside0.mk (show y = pmap l x from HO1.out)
      go_wp2
      go_ret
      exact ⟨HB1.out, b', rfl, by rw [← HE.out]; exact HR1.out⟩
    | succ j =>
      have e : ((j + 1 : Nat) : Int) - 1 = (j : Int) := by omega
      rw [e]
      have HJ := Aside0.mk (show j + 1 ≤ k + 1 from hj)
      have hjl : j < l.length := by rw [HKL.out]; omega
      obtain ⟨ad, hA, z0⟩ := names_cell (Kd.C_below HC.out HB1.out) hjl
      subst hA
      have q0 : (j : Int) < (k : Int) + 1 := by omega
      have p2 : 0 ≤ (j : Int) := Int.natCast_nonneg j
      have HO2 := Aside0.mk (pmap_drop (x := x) hjl)
      rw [← HO1.out] at HO2
      have hts := HS.out _ (List.getElem_mem hjl)
      obtain ⟨t, ht⟩ : ∃ t, l[j] = t := ⟨_, rfl⟩
      rw [ht] at z0 HO2 hts
      obtain ⟨W1, hrun, hm, hb⟩ := map_new wr t (.iface 58 (.map (some b'))) hts
      have HR2 := Aside0.mk (HR1.out.tab hm hb)
      have HB2 := Aside0.mk (below_step HB1.out hb)
      have z1 := keep_cell z0 (below_alloc (Below.refl _ _) (.map #[] 0))
      clear ht hjl hj e hts hm hb z0
      go_wp2
      go_roundw
      case rel => exact ⟨j, wr.heap.size, tab1 t y, Nat.le_trans (Nat.le_succ _) HJ.out, rfl, congrArg (Value.int IntKind.i64) (set_down (Nat.le_trans HJ.out (Nat.le_trans HK.out (by decide)))), ⟨HO2.out.symm⟩, HB2, ⟨by have h := HR2.out; have e2 : n + (k + 1 - (j + 1)) + 1 = n + (k + 1 - j) := (by have := HJ.out; omega); rw [e2] at h; exact h⟩⟩
      case measure => exact set_meas (Nat.le_trans HJ.out (Nat.le_trans HK.out (by decide)))
/-! ### pathToMap -/
def PtmPost (w : World) (n : Nat) (s : ByteArray) (x : S26) (e : Ending) (w' : World) : Prop := SetPost w (n + (namesB s).length) (pmap (namesB s) x) e w'
set_option maxRecDepth 100000 in
set_option maxHeartbeats 4000000 in
theorem ptm_calls (n b : Nat) (x : S26) (s : ByteArray) (w : World) (hs : s.size ≤ 100000) (h0 : s ≠ ⟨#[46]⟩) (hr : Rp n w (.iface 58 (.map (some b))) x) :
    Calls Try.prog 78 #[.string s, .map (some b)] w (PtmPost w n s x) := by
  have hq : (s.toList == (ByteArray.mk #[46]).toList) = false := by rw [beq_toList]; exact decide_eq_false h0
  have hq2 : ¬ s.toList = [46] := fun e => by rw [show (ByteArray.mk #[46]).toList = [46] from by kernel_rfl, e] at hq; cases hq
  have hq3 : (s.toList == [46]) = false := by simpa using hq2
  have HP := Aside0.mk (parse_calls s w hs)
  have HR := Aside0.mk hr
  have HN := Aside0.mk (fun t (ht : t ∈ namesB s) => Nat.le_trans (names_size ht) (Nat.le_trans hs (by decide : 100000 ≤ maxLen)))
  obtain ⟨k, hk⟩ : ∃ k, (namesB s).length = k + 1 := ⟨(namesB s).length - 1, by have := List.length_pos_iff.2 (namesB_ne s); omega⟩
  have HK := Aside0.mk (show k + 1 ≤ 1000000 by have := (names_init (s := s)).2; omega)
  unfold PtmPost
  obtain ⟨l, hl⟩ : ∃ l, namesB s = l := ⟨_, rfl⟩
  rw [hl] at hk HN ⊢
  rw [hk]
  have HL := Aside0.mk hl
  have HKL := Aside0.mk hk
  clear hs h0 hr hl hk
  go_enter Try.func78, Try.ntmps78
  go_wp2_with (first
    | (go_at_call 79; go_must (refine HP.out.mono ?_; rintro e w1 ⟨v, rfl, hR, hb⟩; rw [HL.out] at hR; obtain ⟨A, c, rfl, hc, hC⟩ := Kd.R_reads hR; have HC := Aside0.mk (set_calls n b x l A c k w1 HKL.out HK.out HN.out hC (HR.out.later hb)); have HB := Aside0.mk hb; rw [HKL.out]; clear hR hb hC hc HP))
    | (go_at_call 94; go_must (refine HC.out.mono ?_; rintro e w2 ⟨hb, b', rfl, hr⟩; have HB2 := Aside0.mk (below_step HB.out hb); have HR2 := Aside0.mk hr; clear hb hr)))
  go_ret
  exact ⟨HB2.out, b', rfl, HR2.out⟩
set_option maxHeartbeats 4000000 in
theorem zptm_calls (n b : Nat) (x : S26) (s : ByteArray) (w : World) (hs : s.size ≤ 100000) (h0 : s ≠ ⟨#[46]⟩) (hr : Rp n w (.iface 58 (.map (some b))) x) :
    Calls Try.prog 56 #[.string s, .map (some b)] w (PtmPost w n s x) := by
  have HC := Aside0.mk (ptm_calls n b x s w hs h0 hr)
  clear hs h0 hr
  go_enter Try.func56, Try.ntmps56
  go_wp2_with (go_at_call 78; go_must (refine HC.out.mono ?_; rintro e w2 ⟨hb, b', rfl, hr⟩; have HB2 := Aside0.mk hb; have HR2 := Aside0.mk hr; clear hb hr))
  go_ret
  exact ⟨HB2.out, b', rfl, HR2.out⟩
end Go.Proofs.Ytjfbjkodjjlkiaa.HVal
/-! Canonical values, and tables at a road of names: plain facts. -/
namespace Go.Proofs.Ytjfbjkodjjlkiaa.HVal
open Go.RowKit Go.WideMaps Go.Maps Go.Proofs.YtjfbjkodjjlkiaaW.PrintWords Go.Proofs.YtjfbjkodjjlkiaaW.PrintLast Go.Proofs.YtjfbjkodjjlkiaaW.PrintMore Go.Proofs.Ytjfbjkodjjlkiaa.Plain Go.Proofs.Ytjfbjkodjjlkiaa.GTab

section
variable {n : Nat} {x : S26}
theorem rt_low (h : x.f0 = 0 ∨ x.f0 = 1 ∨ x.f0 = 2 ∨ x.f0 = 5) (h5 : x.f5 = []) (h6 : x.f6 = []) : Rt (n + 1) x := by
  unfold Rt
  exact .inl ⟨h, h5, h6⟩
theorem rt_flt (h : x.f0 = 4) (hf : fin x.f3 = true) (h5 : x.f5 = []) (h6 : x.f6 = []) : Rt (n + 1) x := by
  unfold Rt
  exact .inr (.inl ⟨h, hf, h5, h6⟩)
theorem rt_list (h : x.f0 = 6) (h5 : x.f5 = []) (h6 : ∀ y ∈ x.f6, Rt n y) : Rt (n + 1) x := by
  unfold Rt
  exact .inr (.inr (.inl ⟨h, h5, h6⟩))
theorem rt_table (h : x.f0 = 7) (hr : Rising x.f5) (hl : x.f5.length = x.f6.length) (h6 : ∀ y ∈ x.f6, Rt n y) : Rt (n + 1) x := by
  unfold Rt
  exact .inr (.inr (.inr ⟨h, hr, hl, h6⟩))
theorem rt_rise (h : Rt (n + 1) x) (h7 : x.f0 = 7) : Rising x.f5 ∧ x.f5.length = x.f6.length := by
  unfold Rt at h
  rcases h with ⟨h | h | h | h, _⟩ | ⟨h, _⟩ | ⟨h, _⟩ | ⟨_, h, h2, _⟩
  · omega
  · omega
  · omega
  · omega
  · omega
  · omega
  · exact ⟨h, h2⟩
theorem rt_leaf (h : Rt (n + 1) x) (h6 : x.f0 ≠ 6) (h7 : x.f0 ≠ 7) : x.f5 = [] ∧ x.f6 = [] := by
  unfold Rt at h
  rcases h with ⟨_, h⟩ | ⟨_, _, h⟩ | ⟨h, _⟩ | ⟨h, _⟩
  · exact h
  · exact h
  · exact absurd h h6
  · exact absurd h h7
end
theorem rt_canon : ∀ {n : Nat} {x : S26}, Rt n x → Rt n (canon n x)
  | 0, _, h => h.elim
  | n + 1, x, h => by
    have hk := rt_kids h
    have hm : ∀ z ∈ x.f6.map (canon n), Rt n z := fun z hz => by
      obtain ⟨y, hy, rfl⟩ := List.mem_map.1 hz
      exact rt_canon (hk y hy)
    rcases rt_cases h with h0 | h0 | h0 | h0 | ⟨h0, hf⟩ | h0 | h0
    · rw [canon_0 h0]; exact rt_low (.inl rfl) rfl rfl
    · rw [canon_1 h0]; exact rt_low (.inr (.inl rfl)) rfl rfl
    · rw [canon_2 h0]; exact rt_low (.inr (.inr (.inl rfl))) rfl rfl
    · rw [canon_5 h0]; exact rt_low (.inr (.inr (.inr rfl))) rfl rfl
    · rw [canon_4 h0]; exact rt_flt rfl hf rfl rfl
    · rw [canon_6 h0]; exact rt_list rfl rfl hm
    · obtain ⟨h1, h2⟩ := rt_rise h h0
      rw [canon_7 h0]; exact rt_table rfl h1 (by simpa using h2) hm
theorem sum_map {f g : S26 → Nat} {k : S26 → S26} : ∀ (l : List S26), (∀ y ∈ l, f (k y) = g y) → ((l.map k).map f).sum = (l.map g).sum
  | [], _ => rfl
  | y :: r, h => by
    simp only [List.map_cons, List.sum_cons]
    rw [h y List.mem_cons_self, sum_map r fun z hz => h z (List.mem_cons_of_mem _ hz)]
theorem cnt_canon : ∀ {n : Nat} {x : S26}, Rt n x → cnt n (canon n x) = cnt n x
  | 0, _, h => h.elim
  | n + 1, x, h => by
    have hk := rt_kids h
    have hm : ((x.f6.map (canon n)).map (cnt n)).sum = (x.f6.map (cnt n)).sum := sum_map _ fun y hy => cnt_canon (hk y hy)
    unfold cnt
    rcases rt_cases h with h0 | h0 | h0 | h0 | ⟨h0, hf⟩ | h0 | h0
    · rw [canon_0 h0, (rt_leaf h (by omega) (by omega)).2]; rfl
    · rw [canon_1 h0, (rt_leaf h (by omega) (by omega)).2]; rfl
    · rw [canon_2 h0, (rt_leaf h (by omega) (by omega)).2]; rfl
    · rw [canon_5 h0, (rt_leaf h (by omega) (by omega)).2]; rfl
    · rw [canon_4 h0, (rt_leaf h (by omega) (by omega)).2]; rfl
    · rw [canon_6 h0, ← hm]
    · rw [canon_7 h0, ← hm]
theorem sm_canon : ∀ {n : Nat} {x : S26}, Rt n x → Sm n x → Sm n (canon n x)
  | 0, _, h, _ => h.elim
  | n + 1, x, h, hs => by
    have hk := rt_kids h
    unfold Sm at hs
    have hm : ∀ z ∈ x.f6.map (canon n), Sm n z := fun z hz => by
      obtain ⟨y, hy, rfl⟩ := List.mem_map.1 hz
      exact sm_canon (hk y hy) (hs.2 y hy)
    unfold Sm
    rcases rt_cases h with h0 | h0 | h0 | h0 | ⟨h0, hf⟩ | h0 | h0
    · rw [canon_0 h0]; exact ⟨fun _ h => (nomatch h), fun _ h => (nomatch h)⟩
    · rw [canon_1 h0]; exact ⟨fun _ h => (nomatch h), fun _ h => (nomatch h)⟩
    · rw [canon_2 h0]; exact ⟨fun _ h => (nomatch h), fun _ h => (nomatch h)⟩
    · rw [canon_5 h0]; exact ⟨fun _ h => (nomatch h), fun _ h => (nomatch h)⟩
    · rw [canon_4 h0]; exact ⟨fun _ h => (nomatch h), fun _ h => (nomatch h)⟩
    · rw [canon_6 h0]; exact ⟨fun _ h => (nomatch h), hm⟩
    · rw [canon_7 h0]; exact ⟨hs.1, hm⟩
/-- What is canonical stays as it is, whatever the depth, if that is enough. -/
theorem canon_again : ∀ {m n : Nat} {x : S26}, Rt n x → Rt m (canon n x) → canon m (canon n x) = canon n x
  | 0, _, _, _, h => h.elim
  | _ + 1, 0, _, h, _ => h.elim
  | m + 1, n + 1, x, h, h' => by
    have hk := rt_kids h
    have hk' := rt_kids h'
    rcases rt_cases h with h0 | h0 | h0 | h0 | ⟨h0, hf⟩ | h0 | h0
    · rw [canon_0 h0]; rfl
    · rw [canon_1 h0]; rfl
    · rw [canon_2 h0]; rfl
    · rw [canon_5 h0]; rfl
    · rw [canon_4 h0]; rfl
    · rw [canon_6 h0] at hk' ⊢
      have hm : (x.f6.map (canon n)).map (canon m) = x.f6.map (canon n) := by
        rw [List.map_map]
        exact List.map_congr_left fun y hy => canon_again (hk y hy) (hk' _ (List.mem_map_of_mem hy))
      rw [canon_6 rfl]
      show ({ z26 with f0 := 6, f6 := (x.f6.map (canon n)).map (canon m) } : S26) = _
      rw [hm]
    · rw [canon_7 h0] at hk' ⊢
      have hm : (x.f6.map (canon n)).map (canon m) = x.f6.map (canon n) := by
        rw [List.map_map]
        exact List.map_congr_left fun y hy => canon_again (hk y hy) (hk' _ (List.mem_map_of_mem hy))
      rw [canon_7 rfl]
      show ({ z26 with f0 := 7, f5 := x.f5, f6 := (x.f6.map (canon n)).map (canon m) } : S26) = _
      rw [hm]
/-- The same at another depth. -/
theorem same_canon' : ∀ {m n : Nat} {x : S26}, Rt n x → Rt m (canon n x) → sameB m (canon n x) x = true
  | 0, _, _, _, h => h.elim
  | _ + 1, 0, _, h, _ => h.elim
  | m + 1, n + 1, x, h, h' => by
    have hk := rt_kids h
    have hk' := rt_kids h'
    rcases rt_cases h with h0 | h0 | h0 | h0 | ⟨h0, hf⟩ | h0 | h0
    · rw [canon_0 h0]
      exact sb_one (Eq.trans (b := 0) rfl h0.symm) (by decide) ⟨by decide, by decide, by decide, by decide⟩
    · rw [canon_1 h0, sb_bool (Eq.trans (b := 1) rfl h0.symm) rfl]
      exact beq_self_eq_true _
    · rw [canon_2 h0, sb_int (Eq.trans (b := 2) rfl h0.symm) rfl]
      exact beq_self_eq_true _
    · rw [canon_5 h0, sb_str (Eq.trans (b := 5) rfl h0.symm) rfl]
      exact beq_self_eq_true _
    · rw [canon_4 h0, sb_flt (Eq.trans (b := 4) rfl h0.symm) rfl]
      exact hf
    · obtain ⟨u, hu⟩ : ∃ u, canon (n + 1) x = u := ⟨_, rfl⟩
      have e0 : u.f0 = 6 := by rw [← hu, canon_6 h0]
      have e6 : u.f6 = x.f6.map (canon n) := by rw [← hu, canon_6 h0]
      rw [hu] at hk'
      rw [e6] at hk'
      rw [hu, sb_all (by rw [e0, h0]) (by omega) (by rw [e6]; simp) (fun e => by omega), e6]
      exact all2_map _ fun y hy => same_canon' (hk y hy) (hk' _ (List.mem_map_of_mem hy))
    · obtain ⟨u, hu⟩ : ∃ u, canon (n + 1) x = u := ⟨_, rfl⟩
      have e0 : u.f0 = 7 := by rw [← hu, canon_7 h0]
      have e5 : u.f5 = x.f5 := by rw [← hu, canon_7 h0]
      have e6 : u.f6 = x.f6.map (canon n) := by rw [← hu, canon_7 h0]
      rw [hu] at hk'
      rw [e6] at hk'
      rw [hu, sb_all (by rw [e0, h0]) (by omega) (by rw [e6]; simp) (fun _ => e5), e6]
      exact all2_map _ fun y hy => same_canon' (hk y hy) (hk' _ (List.mem_map_of_mem hy))
/-! ### tables at a road -/
theorem rt_tab1 {n : Nat} {x : S26} (s : ByteArray) (h : Rt n x) : Rt (n + 1) (tab1 s x) :=
  rt_table rfl (List.pairwise_singleton _ _) rfl fun y hy => by
    cases List.mem_singleton.1 hy
    exact h
theorem rt_pmap {n : Nat} {x : S26} (h : Rt n x) : ∀ l : List ByteArray, Rt (n + l.length) (pmap l x)
  | [] => h
  | s :: r => rt_tab1 s (rt_pmap h r)
theorem sm_pmap {n : Nat} {x : S26} (h : Sm n x) : ∀ l : List ByteArray, (∀ t ∈ l, t.size ≤ maxLen) → Sm (n + l.length) (pmap l x)
  | [], _ => h
  | s :: r, hl => by
    show Sm (n + r.length + 1) (tab1 s (pmap r x))
    unfold Sm
    refine ⟨fun t ht => ?_, fun y hy => ?_⟩
    · cases List.mem_singleton.1 ht
      exact hl _ List.mem_cons_self
    · cases List.mem_singleton.1 hy
      exact sm_pmap h r fun t ht => hl t (List.mem_cons_of_mem _ ht)
theorem cnt_pmap {n : Nat} {x : S26} : ∀ l : List ByteArray, cnt (n + l.length) (pmap l x) = cnt n x + l.length
  | [] => rfl
  | s :: r => by
    show cnt (n + r.length + 1) (tab1 s (pmap r x)) = _
    have e : cnt (n + r.length + 1) (tab1 s (pmap r x)) = 1 + (cnt (n + r.length) (pmap r x) + 0) := rfl
    rw [e, cnt_pmap r, List.length_cons]
    omega
theorem canon_pmap {n : Nat} {x : S26} : ∀ l : List ByteArray, canon (n + l.length) (pmap l x) = pmap l (canon n x)
  | [] => rfl
  | s :: r => by
    show canon (n + r.length + 1) (tab1 s (pmap r x)) = tab1 s (pmap r (canon n x))
    rw [canon_7 rfl, ← canon_pmap r]
    rfl
theorem pmap_7 {x : S26} (h : x.f0 = 7) : ∀ l : List ByteArray, (pmap l x).f0 = 7
  | [] => h
  | _ :: _ => rfl
theorem road_pmap {x : S26} (h : x.f0 = 7) : ∀ l : List ByteArray, road (pmap l x) l = some x
  | [] => rfl
  | s :: r => by
    show road (tab1 s (pmap r x)) (s :: r) = some x
    have hh : hop (tab1 s (pmap r x)) s = some (pmap r x) := by
      unfold hop
      show (match find [s] [pmap r x] s with | some y => if y.f0 = 7 then some y else none | none => none) = _
      simp only [find, if_true, pmap_7 h r]
    rw [road, hh]
    exact road_pmap h r
end Go.Proofs.Ytjfbjkodjjlkiaa.HVal
/-! What impl.PathToMap and impl.TableAt come to. -/
namespace Go.Proofs.Ytjfbjkodjjlkiaa.HVal
open Go.RowKit Go.WideMaps Go.Maps Go.Proofs.YtjfbjkodjjlkiaaW.PrintWords Go.Proofs.YtjfbjkodjjlkiaaW.PrintLast Go.Proofs.YtjfbjkodjjlkiaaW.PrintMore Go.Proofs.Ytjfbjkodjjlkiaa.Plain Go.Proofs.Ytjfbjkodjjlkiaa.GTab Go.Proofs.Ytjfbjkodjjlkiaa.HBytes
attribute [local go_sem] run_store_flt

theorem catch55 (p1 p2 : Value) (w : World) : CallsD Try.prog 55 #[p1, p2] .returning w fun e u' w' => e = .returned (.tuple #[]) ∧ u' = .returning ∧ w' = w := by
  refine callsD_of_wpS Try.func55 rfl fun c₀ cs hu => ?_
  apply wpS_seq
  apply wpS_region
  simp [wpOpsS, go_sem, recoverD, hu, Try.ntmps55, Exit.thenS]
  refine wpS_cond (t := false) (by simp [Act.eval, Array.replicate]) ?_
  simp only [Bool.false_eq_true, if_false]
  refine wpS_of_wp (wp_skip ?_)
  cases c₀
  simp_all [bodyPostS, results, Try.results55]
theorem catch57 (p1 p2 : Value) (w : World) : CallsD Try.prog 57 #[p1, p2] .returning w fun e u' w' => e = .returned (.tuple #[]) ∧ u' = .returning ∧ w' = w := by
  refine callsD_of_wpS Try.func57 rfl fun c₀ cs hu => ?_
  apply wpS_seq
  apply wpS_region
  simp [wpOpsS, go_sem, recoverD, hu, Try.ntmps57, Exit.thenS]
  refine wpS_cond (t := false) (by simp [Act.eval, Array.replicate]) ?_
  simp only [Bool.false_eq_true, if_false]
  refine wpS_of_wp (wp_skip ?_)
  cases c₀
  simp_all [bodyPostS, results, Try.results57]
/-- What table gives of a table. -/
theorem table_tvn (n : Nat) (hn : n ≤ 61) (x : S26) (A5 : Option Addr) (c5 : Nat) (A6 : Option Addr) (c6 : Nat) (P : Nat → Prop) (w : World) (h7 : x.f0 = 7) (hr : Rt n x) (hsm : Sm n x) (hv : KV w P x A5 c5 A6 c6) (hP : ∀ k, P k → k < w.heap.size) (hc : cnt n x ≤ 2000) :
    Calls Try.prog 45 #[agg26 x A5 c5 A6 c6] w fun e w' => ∃ b, e = .returned (.tuple #[.map (some b), .bool true]) ∧ TV n w' w'.heap.size (.iface 58 (.map (some b))) x ∧ Below w.heap.size w w' := by
  refine (table_calls n x A5 c5 A6 c6 P w hr hsm hv hP hn hc).mono ?_
  rintro e w' ⟨m, rfl, hb, _, h⟩
  obtain ⟨fp, hrep, _, hlt⟩ := h h7
  have hk : ∃ b, m = some b := by
    rcases hrep.kind with ⟨_, e⟩ | ⟨_, e⟩ | ⟨_, e⟩ | ⟨_, e⟩ | ⟨_, e⟩ | ⟨_, _, e⟩ | ⟨_, b, e⟩
    all_goals try cases e
    exact ⟨b, rfl⟩
  obtain ⟨b, rfl⟩ := hk
  exact ⟨b, by rw [decide_eq_true h7, Bool.true_or], ⟨fp, hrep, hr, hsm, hc, fun k hk => (hlt k hk).2⟩, hb⟩
/-- A value given back without a fault. -/
def OkPost (w : World) (z : S26) (e : Ending) (w' : World) : Prop :=
  Below w.heap.size w w' ∧ ∃ (A5 : Option Addr) (c5 : Nat) (A6 : Option Addr) (c6 : Nat) (P : Nat → Prop), e = .returned (.tuple #[agg26 z A5 c5 A6 c6, .int .i64 0]) ∧ KV w' P z A5 c5 A6 c6 ∧ ∀ k, P k → k < w'.heap.size
theorem OkPost.of {w w' : World} {z : S26} {v : Value} (hb : Below w.heap.size w w') (h : Val26 w' v z) : OkPost w z (.returned (.tuple #[v, .int .i64 0])) w' := by
  obtain ⟨A5, c5, A6, c6, P, rfl, hk, hP⟩ := h
  exact ⟨hb, A5, c5, A6, c6, P, rfl, hk, hP⟩
set_option maxHeartbeats 4000000 in
theorem ptmi_calls (x : S26) (A5 : Option Addr) (c5 : Nat) (A6 : Option Addr) (c6 : Nat) (P : Nat → Prop) (s : ByteArray) (w : World) (h7 : x.f0 = 7) (hr : Rt 50 x) (hsm : Sm 50 x) (hv : KV w P x A5 c5 A6 c6) (hP : ∀ k, P k → k < w.heap.size) (hc : cnt 50 x ≤ 300) (hs : s.size ≤ 200) (h0 : s ≠ ⟨#[46]⟩) :
    Calls Try.prog 25 #[.string s, agg26 x A5 c5 A6 c6] w (OkPost w (pmap (namesB s) (canon 50 x))) := by
  have hmf : ∀ (fn : Fn) (first cap : Array Value) (w : World), (Instr.makeFunc fn first cap).run Try.prog w = .ok (.func fn first cap) w := fun _ _ _ _ => rfl
  have H7 := Aside0.mk h7
  have RT := Aside0.mk hr
  have SM := Aside0.mk hsm
  have HV := Aside0.mk hv
  have HP := Aside0.mk hP
  have HC := Aside0.mk hc
  have HS := Aside0.mk hs
  have H0 := Aside0.mk h0
  have q2 : ¬ (2000 : Int) < (s.size : Int) := by omega
  have RTN := Aside0.mk (rt_pmap hr (namesB s))
  have SMN := Aside0.mk (sm_pmap hsm (namesB s) fun t ht => Nat.le_trans (names_size ht) (Nat.le_trans hs (by decide)))
  have CN := Aside0.mk (show cnt (50 + (namesB s).length) (pmap (namesB s) x) ≤ 2000 by rw [cnt_pmap]; have := (names_init (s := s)).2; omega)
  have HCP := Aside0.mk (canon_pmap (n := 50) (x := x) (namesB s))
  clear h7 hr hsm hv hP hc hs h0
  rw [← HCP.out]
  go_enter_defers Try.func25, Try.ntmps25
  have HR0 := Aside0.mk (Res.start w #[.int .i64 x.f0, .bool x.f1, .int .i64 x.f2, .float .f64 x.f3, .string x.f4, .slice A5 x.f5.length c5, .slice A6 x.f6.length c6])
  go_wp2_with (first
    | (go_at_call 45; go_must (
        refine (table_tvn 50 (by decide) x A5 c5 A6 c6 P _ H7.out RT.out SM.out (HV.out.below HR0.out.below) (fun k hk => Nat.lt_of_lt_of_le (HP.out k hk) HR0.out.below.size) (Nat.le_trans HC.out (by decide))).mono ?_
        rintro e w2 ⟨b, rfl, ⟨fp, t1, _, _, _, t2⟩, hb⟩
        have HR2 := Aside0.mk (HR0.out.later hb)
        have HT := Aside0.mk (⟨fp, t1, t2⟩ : Rp 50 w2 (.iface 58 (.map (some b))) x)
        clear t1 t2 hb))
    | (go_at_call 56; go_must (
        refine (zptm_calls 50 b x s w2 (Nat.le_trans HS.out (by decide)) H0.out HT.out).mono ?_
        rintro e w3 ⟨hb, b', rfl, hrp⟩
        have HR3 := Aside0.mk (HR2.out.later hb)
        have HRP := Aside0.mk hrp
        clear hb hrp))
    | (go_at_call 46; go_must (
        obtain ⟨fp, r1, r2⟩ := HRP.out
        refine (val_of (50 + (namesB s).length) (pmap (namesB s) x) _ fp w3 r1 RTN.out SMN.out CN.out r2).mono ?_
        intro e w4 hvp
        obtain ⟨B5, d5, B6, d6, Q, rfl, hv4, hQ, hb4⟩ := Val26.of hvp
        have HR4 := Aside0.mk (HR3.out.later hb4)
        have HV4 := Aside0.mk hv4
        have HQ := Aside0.mk hQ
        obtain ⟨⟨c0, c1, c2, c3, c4, c5', c6', c7⟩, f0, f1, f2, f3, f4, f5, f6, f7⟩ := HR4.out.cells
        clear r1 r2 hvp hv4 hQ hb4)))
  obtain ⟨z, hz⟩ : ∃ z, canon (50 + (namesB s).length) (pmap (namesB s) x) = z := ⟨_, rfl⟩
  rw [hz] at HV4 ⊢
  have HF := Aside0.mk (finV_all HR4.out (Nat.le_succ _) HV4.out (fun k hk => by
    have h1 := HQ.out k hk
    have h2 := blk_lt HR3.out.b2
    omega) 0)
  obtain ⟨W5, hW5⟩ : ∃ W5, finV w4 (w.heap.size + 1) z B5 d5 B6 d6 0 = W5 := ⟨_, rfl⟩
  rw [hW5] at HF
  unfold finV fin26 at hW5
  rw [hW5]
  clear hW5
  refine leaves_cons (f := 55) (args := #[.pointer (some ⟨w.heap.size + 1, 0, none⟩), .pointer (some ⟨w.heap.size + 1 + 1, 0, none⟩)]) (by simp) (by simp [go_sem]) ?_
  refine (catch55 _ _ _).mono ?_
  rintro e u' w5 ⟨rfl, rfl, rfl⟩
  obtain ⟨g0, g1, g2, g3, g4, g5, g6, g7⟩ := HF.out.cells
  simp [Leaves, settle, results, Try.results25, go_sem, g0, g1, g2, g3, g4, g5, g6, g7]
  exact OkPost.of HF.out.below HF.out.val
set_option maxHeartbeats 4000000 in
theorem tati_calls (n : Nat) (hn : n ≤ 61) (x y : S26) (A5 : Option Addr) (c5 : Nat) (A6 : Option Addr) (c6 : Nat) (P : Nat → Prop) (s : ByteArray) (w : World) (h7 : x.f0 = 7) (hr : Rt n x) (hsm : Sm n x) (hv : KV w P x A5 c5 A6 c6) (hP : ∀ k, P k → k < w.heap.size) (hc : cnt n x ≤ 2000) (hs : s.size ≤ 90000) (ho : road x (namesB s) = some y) :
    Calls Try.prog 26 #[agg26 x A5 c5 A6 c6, .string s] w fun e w' => ∃ m, Rt m y ∧ OkPost w (canon m y) e w' := by
  have hmf : ∀ (fn : Fn) (first cap : Array Value) (w : World), (Instr.makeFunc fn first cap).run Try.prog w = .ok (.func fn first cap) w := fun _ _ _ _ => rfl
  have HN := Aside0.mk hn
  have H7 := Aside0.mk h7
  have RT := Aside0.mk hr
  have SM := Aside0.mk hsm
  have HV := Aside0.mk hv
  have HP := Aside0.mk hP
  have HC := Aside0.mk hc
  have HS := Aside0.mk hs
  have HO := Aside0.mk ho
  clear hn h7 hr hsm hv hP hc hs ho
  go_enter_defers Try.func26, Try.ntmps26
  have HR0 := Aside0.mk (Res.start w #[.int .i64 x.f0, .bool x.f1, .int .i64 x.f2, .float .f64 x.f3, .string x.f4, .slice A5 x.f5.length c5, .slice A6 x.f6.length c6])
  go_wp2_with (first
    | (go_at_call 45; go_must (
        refine (table_tvn n HN.out x A5 c5 A6 c6 P _ H7.out RT.out SM.out (HV.out.below HR0.out.below) (fun k hk => Nat.lt_of_lt_of_le (HP.out k hk) HR0.out.below.size) HC.out).mono ?_
        rintro e w2 ⟨b, rfl, ht, hb⟩
        have HR2 := Aside0.mk (HR0.out.later hb)
        have HT := Aside0.mk ht
        clear ht hb))
    | (go_at_call 58; go_must (
        refine (table_road n b x s w2 (Nat.le_trans HS.out (by decide)) HT.out).mono ?_
        rintro e w3 ⟨hb, he⟩
        have HR3 := Aside0.mk (HR2.out.later hb)
        have HE := Aside0.mk (he.resolve_right (fun h => by rw [HO.out] at h; cases h.1))
        clear he
        obtain ⟨b', y', m, e1, rfl, htv⟩ := HE.out
        rw [HO.out] at e1
        cases e1
        have HT3 := Aside0.mk (htv.mono hb.size)
        clear htv hb))
    | (go_at_call 46; go_must (
        obtain ⟨fp, r1, r2, r3, r4, r5⟩ := HT3.out
        have HRT := Aside0.mk r2
        refine (val_of m y _ fp w3 r1 r2 r3 r4 r5).mono ?_
        intro e w4 hvp
        obtain ⟨B5, d5, B6, d6, Q, rfl, hv4, hQ, hb4⟩ := Val26.of hvp
        have HR4 := Aside0.mk (HR3.out.later hb4)
        have HV4 := Aside0.mk hv4
        have HQ := Aside0.mk hQ
        obtain ⟨⟨c0, c1, c2, c3, c4, c5', c6', c7⟩, f0, f1, f2, f3, f4, f5, f6, f7⟩ := HR4.out.cells
        clear r1 r2 r3 r4 r5 hvp hv4 hQ hb4)))
  have HF := Aside0.mk (finV_all HR4.out (Nat.le_succ _) HV4.out (fun k hk => by
    have h1 := HQ.out k hk
    have h2 := blk_lt HR3.out.b2
    omega) 0)
  obtain ⟨W5, hW5⟩ : ∃ W5, finV w4 (w.heap.size + 1) (canon m y) B5 d5 B6 d6 0 = W5 := ⟨_, rfl⟩
  rw [hW5] at HF
  unfold finV fin26 at hW5
  rw [hW5]
  clear hW5
  refine leaves_cons (f := 57) (args := #[.pointer (some ⟨w.heap.size + 1, 0, none⟩), .pointer (some ⟨w.heap.size + 1 + 1, 0, none⟩)]) (by simp) (by simp [go_sem]) ?_
  refine (catch57 _ _ _).mono ?_
  rintro e u' w5 ⟨rfl, rfl, rfl⟩
  obtain ⟨g0, g1, g2, g3, g4, g5, g6, g7⟩ := HF.out.cells
  simp [Leaves, settle, results, Try.results26, go_sem, g0, g1, g2, g3, g4, g5, g6, g7]
  exact ⟨m, HRT.out, OkPost.of HF.out.below HF.out.val⟩
end Go.Proofs.Ytjfbjkodjjlkiaa.HVal
