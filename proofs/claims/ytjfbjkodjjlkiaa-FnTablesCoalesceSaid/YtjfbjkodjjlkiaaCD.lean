/- What set, pathToMap and ZzPathToMap come to: tables that have another one at a road of names. Canonical values, and tables at a road of names: plain facts. What impl.PathToMap and impl.TableAt come to. What zzCopy and zzCopyMap come to: a value as it lies, copied. What zzCopyMap comes to, and zzCopy whole. A map's own entry set anew while the map is ranged over. What trimNilValues comes to: the table without its nulls. What trimNilValues comes to: the walk. What impl.TrimNulls and impl.IsTable come to. What concatPrefix comes to: a text that is no longer than both with a point between. A map of keys that are in a set: what a look-up tells. Tables as lists of entries with rising keys: an entry put, an entry taken out; what is found decides the list. Of three tables it does not matter which two are coalesced first. What was coalesced does not change when the same is coalesced into it again. A table that is the same without its nulls has none. How many values a coalesced table has, and how long its keys are. A map's entries as a function of the keys: put, taken out, changed within; two maps whose entries' blocks are apart. What is known in the three loops of the coalescing. The rounds of the third loop, and its end. -/
import Derived.Test.YtjfbjkodjjlkiaaBF
import Derived.Test.YtjfbjkodjjlkiaaHTab1
import Derived.Test.YtjfbjkodjjlkiaaBE
import Derived.Test.YtjfbjkodjjlkiaaHTrim
import Derived.Test.YtjfbjkodjjlkiaaHOpenQ
/-! What set, pathToMap and ZzPathToMap come to: tables that have another one at a road of names. Canonical values, and tables at a road of names: plain facts. What impl.PathToMap and impl.TableAt come to. -/
/-! What set, pathToMap and ZzPathToMap come to: tables that have another one at a road of names. -/
namespace Go.Proofs.Ytjfbjkodjjlkiaa.HVal
open Go.RowKit Go.WideMaps Go.Maps Go.Proofs.YtjfbjkodjjlkiaaW.PrintWords Go.Proofs.YtjfbjkodjjlkiaaW.PrintLast Go.Proofs.YtjfbjkodjjlkiaaW.PrintMore Go.Proofs.Ytjfbjkodjjlkiaa.Plain Go.Proofs.Ytjfbjkodjjlkiaa.GTab Go.Proofs.Ytjfbjkodjjlkiaa.HBytes
attribute [local go_sem] run_store_flt

theorem lookOf_has {w : World} {b : Nat} {kv : List (ByteArray × Value)} (h : MapAt w b kv) {k : ByteArray} (v : Value) (hk : look kv k = none) (hs : k.size ≤ maxLen) (hn : kv.length < maxLen) :
    ∃ w', (Instr.mapUpdate 58 (.map (some b)) (.string k) v).run Try.prog w = .ok () w' ∧ MapAt w' b (kv ++ [(k, v)]) ∧ w.grownBy w' (some b) := by
  obtain ⟨D, ho, hm, hl⟩ := h
  obtain ⟨w', hrun, ho', hg⟩ := ho.update law9 Try.underlying58 hn (keyS_ok hs) (show hR v = some (.held v, []) from rfl)
  exact ⟨w', hrun, MapAt.snoc hm hl hk ho', hg⟩
/-- A map of one entry, made anew. -/
theorem map_new (W : World) (s : ByteArray) (v : Value) (hs : s.size ≤ maxLen) :
    ∃ W1, (Instr.mapUpdate 58 (.map (some W.heap.size)) (.string s) v).run Try.prog (W.alloc (.map #[] 0)) = .ok () W1 ∧ MapAt W1 W.heap.size [(s, v)] ∧ Below W.heap.size W W1 := by
  obtain ⟨W1, hrun, hm, hg⟩ := lookOf_has (MapAt.made W) v rfl hs (by decide)
  exact ⟨W1, hrun, hm, below_grown (below_alloc (Below.refl _ _) _) hg (Nat.le_refl _)⟩
/-- A real value, all of whose blocks are there. -/
def Rp (n : Nat) (w : World) (v : Value) (x : S26) : Prop := ∃ fp, Rep n w v x fp ∧ ∀ k ∈ fp, k < w.heap.size
theorem Rp.later {n : Nat} {w w' : World} {v : Value} {x : S26} (h : Rp n w v x) (hb : Below w.heap.size w w') : Rp n w' v x := by
  obtain ⟨fp, h1, h2⟩ := h
  exact ⟨fp, h1.move n fun k hk => hb.block k (h2 k hk), fun k hk => Nat.lt_of_lt_of_le (h2 k hk) hb.size⟩
theorem Rp.tab {n : Nat} {w W : World} {v : Value} {x : S26} {s : ByteArray} (h : Rp n w v x) (hm : MapAt W w.heap.size [(s, v)]) (hb : Below w.heap.size w W) : Rp (n + 1) W (.iface 58 (.map (some w.heap.size))) (tab1 s x) := by
  obtain ⟨fp, h1, h2⟩ := h
  refine ⟨w.heap.size :: fp, Rep.mk (.inr (.inr (.inr (.inr (.inr (.inr ⟨rfl, w.heap.size, [v], [fp], rfl, rfl, hm, .cons (h1.move n fun k hk => hb.block k (h2 k hk)) .nil, by simp⟩)))))), fun k hk => ?_⟩
  rcases List.mem_cons.1 hk with rfl | hk
  · exact hm.lt
  · exact Nat.lt_of_lt_of_le (h2 k hk) hb.size
theorem set_meas {j : Nat} (h : j + 1 ≤ 1000000000) : (intOf (.int .i64 (wrap64 ((j : Int) - 1))) + 1).toNat < (intOf (.int .i64 (j : Int)) + 1).toNat := by
  have e : wrap64 ((j : Int) - 1) = (j : Int) - 1 := by unfold wrap64; omega
  rw [e]
  show ((j : Int) - 1 + 1).toNat < ((j : Int) + 1).toNat
  omega
theorem set_down {k : Nat} (h : k + 1 ≤ 1000000000) : wrap64 ((k : Int) - 1) = (k : Int) - 1 := by
  unfold wrap64
  omega
theorem set_self {k : Nat} (h : k + 1 ≤ 1000000000) : wrap64 (k : Int) = (k : Int) := by
  unfold wrap64
  omega
def SetPost (w : World) (n : Nat) (y : S26) (e : Ending) (w' : World) : Prop := Below w.heap.size w w' ∧ ∃ b, e = .returned (.map (some b)) ∧ Rp n w' (.iface 58 (.map (some b))) y
set_option maxRecDepth 100000 in
set_option maxHeartbeats 4000000 in
theorem set_calls (n b : Nat) (x : S26) (l : List ByteArray) (A : Option Addr) (c k : Nat) (w : World) (hk : l.length = k + 1) (hK : k + 1 ≤ 1000000) (hsz : ∀ t ∈ l, t.size ≤ maxLen) (hC : Kd.string.C w A l.length l) (hr : Rp n w (.iface 58 (.map (some b))) x) :
    Calls Try.prog 94 #[.slice A (k + 1) c, .map (some b)] w (SetPost w (n + (k + 1)) (pmap l x)) := by
  have HK := Aside0.mk hK
  have HKL := Aside0.mk hk
  have HS := Aside0.mk hsz
  have HC := Aside0.mk hC
  have HR := Aside0.mk hr
  have q1 := set_self (Nat.le_trans hK (by decide))
  have Q1 := Aside0.mk q1
  have q3 : ¬ ((k : Int) + 1 = 0) := by omega
  have hmm := @run_makeMap Try.prog
  clear hk hsz hC hr hK
  go_enter Try.func94, Try.ntmps94
  go_wp2
  clear q1 q3
  go_loopw [5, 6] (fun m i wr => ∃ (j b' : Nat) (y : S26), j ≤ k + 1 ∧ m = .map (some b') ∧ i = .int .i64 ((j : Int) - 1) ∧ Aside0 (y = pmap (l.drop j) x) ∧ Aside0 (Below w.heap.size w wr) ∧ Aside0 (Rp (n + (k + 1 - j)) wr (.iface 58 (.map (some b'))) y)) (fun _ i _ => (intOf i + 1).toNat)
  case atStart => exact ⟨k + 1, b, x, Nat.le_refl _, rfl, congrArg (Value.int IntKind.i64) (Q1.out.trans (by omega)), ⟨by rw [← HKL.out, List.drop_length]; rfl⟩, ⟨Below.refl _ _⟩, ⟨by rw [Nat.sub_self]; exact HR.out⟩⟩
  case round =>
    obtain ⟨j, b', y, hj, rfl, rfl, HO1, HB1, HR1⟩ := hrel
    cases j with
    | zero =>
      have HE := Aside0.mk (show y = pmap l x from HO1.out)
      go_wp2
      go_ret
      exact ⟨HB1.out, b', rfl, by rw [← HE.out]; exact HR1.out⟩
    | succ j =>
      have e : ((j + 1 : Nat) : Int) - 1 = (j : Int) := by omega
      rw [e]
      have HJ := Aside0.mk (show j + 1 ≤ k + 1 from hj)
      have hjl : j < l.length := by rw [HKL.out]; omega
      obtain ⟨ad, hA, z0⟩ := names_cell (Kd.C_below HC.out HB1.out) hjl
      subst hA
      have q0 : (j : Int) < (k : Int) + 1 := by omega
      have p2 : 0 ≤ (j : Int) := Int.natCast_nonneg j
      have HO2 := Aside0.mk (pmap_drop (x := x) hjl)
      rw [← HO1.out] at HO2
      have hts := HS.out _ (List.getElem_mem hjl)
      obtain ⟨t, ht⟩ : ∃ t, l[j] = t := ⟨_, rfl⟩
      rw [ht] at z0 HO2 hts
      obtain ⟨W1, hrun, hm, hb⟩ := map_new wr t (.iface 58 (.map (some b'))) hts
      have HR2 := Aside0.mk (HR1.out.tab hm hb)
      have HB2 := Aside0.mk (below_step HB1.out hb)
      have z1 := keep_cell z0 (below_alloc (Below.refl _ _) (.map #[] 0))
      clear ht hjl hj e hts hm hb z0
      go_wp2
      go_roundw
      case rel => exact ⟨j, wr.heap.size, tab1 t y, Nat.le_trans (Nat.le_succ _) HJ.out, rfl, congrArg (Value.int IntKind.i64) (set_down (Nat.le_trans HJ.out (Nat.le_trans HK.out (by decide)))), ⟨HO2.out.symm⟩, HB2, ⟨by have h := HR2.out; have e2 : n + (k + 1 - (j + 1)) + 1 = n + (k + 1 - j) := (by have := HJ.out; omega); rw [e2] at h; exact h⟩⟩
      case measure => exact set_meas (Nat.le_trans HJ.out (Nat.le_trans HK.out (by decide)))
/-! ### pathToMap -/
def PtmPost (w : World) (n : Nat) (s : ByteArray) (x : S26) (e : Ending) (w' : World) : Prop := SetPost w (n + (namesB s).length) (pmap (namesB s) x) e w'
set_option maxRecDepth 100000 in
set_option maxHeartbeats 4000000 in
theorem ptm_calls (n b : Nat) (x : S26) (s : ByteArray) (w : World) (hs : s.size ≤ 100000) (h0 : s ≠ ⟨#[46]⟩) (hr : Rp n w (.iface 58 (.map (some b))) x) :
    Calls Try.prog 78 #[.string s, .map (some b)] w (PtmPost w n s x) := by
  have hq : (s.toList == (ByteArray.mk #[46]).toList) = false := by rw [beq_toList]; exact decide_eq_false h0
  have hq2 : ¬ s.toList = [46] := fun e => by rw [show (ByteArray.mk #[46]).toList = [46] from by kernel_rfl, e] at hq; cases hq
  have hq3 : (s.toList == [46]) = false := by simpa using hq2
  have HP := Aside0.mk (parse_calls s w hs)
  have HR := Aside0.mk hr
  have HN := Aside0.mk (fun t (ht : t ∈ namesB s) => Nat.le_trans (names_size ht) (Nat.le_trans hs (by decide : 100000 ≤ maxLen)))
  obtain ⟨k, hk⟩ : ∃ k, (namesB s).length = k + 1 := ⟨(namesB s).length - 1, by have := List.length_pos_iff.2 (namesB_ne s); omega⟩
  have HK := Aside0.mk (show k + 1 ≤ 1000000 by have := (names_init (s := s)).2; omega)
  unfold PtmPost
  obtain ⟨l, hl⟩ : ∃ l, namesB s = l := ⟨_, rfl⟩
  rw [hl] at hk HN ⊢
  rw [hk]
  have HL := Aside0.mk hl
  have HKL := Aside0.mk hk
  clear hs h0 hr hl hk
  go_enter Try.func78, Try.ntmps78
  go_wp2_with (first
    | (go_at_call 79; go_must (refine HP.out.mono ?_; rintro e w1 ⟨v, rfl, hR, hb⟩; rw [HL.out] at hR; obtain ⟨A, c, rfl, hc, hC⟩ := Kd.R_reads hR; have HC := Aside0.mk (set_calls n b x l A c k w1 HKL.out HK.out HN.out hC (HR.out.later hb)); have HB := Aside0.mk hb; rw [HKL.out]; clear hR hb hC hc HP))
    | (go_at_call 94; go_must (refine HC.out.mono ?_; rintro e w2 ⟨hb, b', rfl, hr⟩; have HB2 := Aside0.mk (below_step HB.out hb); have HR2 := Aside0.mk hr; clear hb hr)))
  go_ret
  exact ⟨HB2.out, b', rfl, HR2.out⟩
set_option maxHeartbeats 4000000 in
theorem zptm_calls (n b : Nat) (x : S26) (s : ByteArray) (w : World) (hs : s.size ≤ 100000) (h0 : s ≠ ⟨#[46]⟩) (hr : Rp n w (.iface 58 (.map (some b))) x) :
    Calls Try.prog 56 #[.string s, .map (some b)] w (PtmPost w n s x) := by
  have HC := Aside0.mk (ptm_calls n b x s w hs h0 hr)
  clear hs h0 hr
  go_enter Try.func56, Try.ntmps56
  go_wp2_with (go_at_call 78; go_must (refine HC.out.mono ?_; rintro e w2 ⟨hb, b', rfl, hr⟩; have HB2 := Aside0.mk hb; have HR2 := Aside0.mk hr; clear hb hr))
  go_ret
  exact ⟨HB2.out, b', rfl, HR2.out⟩
end Go.Proofs.Ytjfbjkodjjlkiaa.HVal
/-! Canonical values, and tables at a road of names: plain facts. -/
namespace Go.Proofs.Ytjfbjkodjjlkiaa.HVal
open Go.RowKit Go.WideMaps Go.Maps Go.Proofs.YtjfbjkodjjlkiaaW.PrintWords Go.Proofs.YtjfbjkodjjlkiaaW.PrintLast Go.Proofs.YtjfbjkodjjlkiaaW.PrintMore Go.Proofs.Ytjfbjkodjjlkiaa.Plain Go.Proofs.Ytjfbjkodjjlkiaa.GTab

section
variable {n : Nat} {x : S26}
theorem rt_low (h : x.f0 = 0 ∨ x.f0 = 1 ∨ x.f0 = 2 ∨ x.f0 = 5) (h5 : x.f5 = []) (h6 : x.f6 = []) : Rt (n + 1) x := by
  unfold Rt
  exact .inl ⟨h, h5, h6⟩
theorem rt_flt (h : x.f0 = 4) (hf : fin x.f3 = true) (h5 : x.f5 = []) (h6 : x.f6 = []) : Rt (n + 1) x := by
  unfold Rt
  exact .inr (.inl ⟨h, hf, h5, h6⟩)
theorem rt_list (h : x.f0 = 6) (h5 : x.f5 = []) (h6 : ∀ y ∈ x.f6, Rt n y) : Rt (n + 1) x := by
  unfold Rt
  exact .inr (.inr (.inl ⟨h, h5, h6⟩))
theorem rt_table (h : x.f0 = 7) (hr : Rising x.f5) (hl : x.f5.length = x.f6.length) (h6 : ∀ y ∈ x.f6, Rt n y) : Rt (n + 1) x := by
  unfold Rt
  exact .inr (.inr (.inr ⟨h, hr, hl, h6⟩))
theorem rt_rise (h : Rt (n + 1) x) (h7 : x.f0 = 7) : Rising x.f5 ∧ x.f5.length = x.f6.length := by
  unfold Rt at h
  rcases h with ⟨h | h | h | h, _⟩ | ⟨h, _⟩ | ⟨h, _⟩ | ⟨_, h, h2, _⟩
  · omega
  · omega
  · omega
  · omega
  · omega
  · omega
  · exact ⟨h, h2⟩
theorem rt_leaf (h : Rt (n + 1) x) (h6 : x.f0 ≠ 6) (h7 : x.f0 ≠ 7) : x.f5 = [] ∧ x.f6 = [] := by
  unfold Rt at h
  rcases h with ⟨_, h⟩ | ⟨_, _, h⟩ | ⟨h, _⟩ | ⟨h, _⟩
  · exact h
  · exact h
  · exact absurd h h6
  · exact absurd h h7
end
theorem rt_canon : ∀ {n : Nat} {x : S26}, Rt n x → Rt n (canon n x)
  | 0, _, h => h.elim
  | n + 1, x, h => by
    have hk := rt_kids h
    have hm : ∀ z ∈ x.f6.map (canon n), Rt n z := fun z hz => by
      obtain ⟨y, hy, rfl⟩ := List.mem_map.1 hz
      exact rt_canon (hk y hy)
    rcases rt_cases h with h0 | h0 | h0 | h0 | ⟨h0, hf⟩ | h0 | h0
    · rw [canon_0 h0]; exact rt_low (.inl rfl) rfl rfl
    · rw [canon_1 h0]; exact rt_low (.inr (.inl rfl)) rfl rfl
    · rw [canon_2 h0]; exact rt_low (.inr (.inr (.inl rfl))) rfl rfl
    · rw [canon_5 h0]; exact rt_low (.inr (.inr (.inr rfl))) rfl rfl
    · rw [canon_4 h0]; exact rt_flt rfl hf rfl rfl
    · rw [canon_6 h0]; exact rt_list rfl rfl hm
    · obtain ⟨h1, h2⟩ := rt_rise h h0
      rw [canon_7 h0]; exact rt_table rfl h1 (by simpa using h2) hm
theorem sum_map {f g : S26 → Nat} {k : S26 → S26} : ∀ (l : List S26), (∀ y ∈ l, f (k y) = g y) → ((l.map k).map f).sum = (l.map g).sum
  | [], _ => rfl
  | y :: r, h => by
    simp only [List.map_cons, List.sum_cons]
    rw [h y List.mem_cons_self, sum_map r fun z hz => h z (List.mem_cons_of_mem _ hz)]
theorem cnt_canon : ∀ {n : Nat} {x : S26}, Rt n x → cnt n (canon n x) = cnt n x
  | 0, _, h => h.elim
  | n + 1, x, h => by
    have hk := rt_kids h
    have hm : ((x.f6.map (canon n)).map (cnt n)).sum = (x.f6.map (cnt n)).sum := sum_map _ fun y hy => cnt_canon (hk y hy)
    unfold cnt
    rcases rt_cases h with h0 | h0 | h0 | h0 | ⟨h0, hf⟩ | h0 | h0
    · rw [canon_0 h0, (rt_leaf h (by omega) (by omega)).2]; rfl
    · rw [canon_1 h0, (rt_leaf h (by omega) (by omega)).2]; rfl
    · rw [canon_2 h0, (rt_leaf h (by omega) (by omega)).2]; rfl
    · rw [canon_5 h0, (rt_leaf h (by omega) (by omega)).2]; rfl
    · rw [canon_4 h0, (rt_leaf h (by omega) (by omega)).2]; rfl
    · rw [canon_6 h0, ← hm]
    · rw [canon_7 h0, ← hm]
theorem sm_canon : ∀ {n : Nat} {x : S26}, Rt n x → Sm n x → Sm n (canon n x)
  | 0, _, h, _ => h.elim
  | n + 1, x, h, hs => by
    have hk := rt_kids h
    unfold Sm at hs
    have hm : ∀ z ∈ x.f6.map (canon n), Sm n z := fun z hz => by
      obtain ⟨y, hy, rfl⟩ := List.mem_map.1 hz
      exact sm_canon (hk y hy) (hs.2 y hy)
    unfold Sm
    rcases rt_cases h with h0 | h0 | h0 | h0 | ⟨h0, hf⟩ | h0 | h0
    · rw [canon_0 h0]; exact ⟨fun _ h => (nomatch h), fun _ h => (nomatch h)⟩
    · rw [canon_1 h0]; exact ⟨fun _ h => (nomatch h), fun _ h => (nomatch h)⟩
    · rw [canon_2 h0]; exact ⟨fun _ h => (nomatch h), fun _ h => (nomatch h)⟩
    · rw [canon_5 h0]; exact ⟨fun _ h => (nomatch h), fun _ h => (nomatch h)⟩
    · rw [canon_4 h0]; exact ⟨fun _ h => (nomatch h), fun _ h => (nomatch h)⟩
    · rw [canon_6 h0]; exact ⟨fun _ h => (nomatch h), hm⟩
    · rw [canon_7 h0]; exact ⟨hs.1, hm⟩
/-- What is canonical stays as it is, whatever the depth, if that is enough. -/
theorem canon_again : ∀ {m n : Nat} {x : S26}, Rt n x → Rt m (canon n x) → canon m (canon n x) = canon n x
  | 0, _, _, _, h => h.elim
  | _ + 1, 0, _, h, _ => h.elim
  | m + 1, n + 1, x, h, h' => by
    have hk := rt_kids h
    have hk' := rt_kids h'
    rcases rt_cases h with h0 | h0 | h0 | h0 | ⟨h0, hf⟩ | h0 | h0
    · rw [canon_0 h0]; rfl
    · rw [canon_1 h0]; rfl
    · rw [canon_2 h0]; rfl
    · rw [canon_5 h0]; rfl
    · rw [canon_4 h0]; rfl
    · rw [canon_6 h0] at hk' ⊢
      have hm : (x.f6.map (canon n)).map (canon m) = x.f6.map (canon n) := by
        rw [List.map_map]
        exact List.map_congr_left fun y hy => canon_again (hk y hy) (hk' _ (List.mem_map_of_mem hy))
      rw [canon_6 rfl]
      show ({ z26 with f0 := 6, f6 := (x.f6.map (canon n)).map (canon m) } : S26) = _
      rw [hm]
    · rw [canon_7 h0] at hk' ⊢
      have hm : (x.f6.map (canon n)).map (canon m) = x.f6.map (canon n) := by
        rw [List.map_map]
        exact List.map_congr_left fun y hy => canon_again (hk y hy) (hk' _ (List.mem_map_of_mem hy))
      rw [canon_7 rfl]
      show ({ z26 with f0 := 7, f5 := x.f5, f6 := (x.f6.map (canon n)).map (canon m) } : S26) = _
      rw [hm]
/-- The same at another depth. -/
theorem same_canon' : ∀ {m n : Nat} {x : S26}, Rt n x → Rt m (canon n x) → sameB m (canon n x) x = true
  | 0, _, _, _, h => h.elim
  | _ + 1, 0, _, h, _ => h.elim
  | m + 1, n + 1, x, h, h' => by
    have hk := rt_kids h
    have hk' := rt_kids h'
    rcases rt_cases h with h0 | h0 | h0 | h0 | ⟨h0, hf⟩ | h0 | h0
    · rw [canon_0 h0]
      exact sb_one (Eq.trans (b := 0) rfl h0.symm) (by decide) ⟨by decide, by decide, by decide, by decide⟩
    · rw [canon_1 h0, sb_bool (Eq.trans (b := 1) rfl h0.symm) rfl]
      exact beq_self_eq_true _
    · rw [canon_2 h0, sb_int (Eq.trans (b := 2) rfl h0.symm) rfl]
      exact beq_self_eq_true _
    · rw [canon_5 h0, sb_str (Eq.trans (b := 5) rfl h0.symm) rfl]
      exact beq_self_eq_true _
    · rw [canon_4 h0, sb_flt (Eq.trans (b := 4) rfl h0.symm) rfl]
      exact hf
    · obtain ⟨u, hu⟩ : ∃ u, canon (n + 1) x = u := ⟨_, rfl⟩
      have e0 : u.f0 = 6 := by rw [← hu, canon_6 h0]
      have e6 : u.f6 = x.f6.map (canon n) := by rw [← hu, canon_6 h0]
      rw [hu] at hk'
      rw [e6] at hk'
      rw [hu, sb_all (by rw [e0, h0]) (by omega) (by rw [e6]; simp) (fun e => by omega), e6]
      exact all2_map _ fun y hy => same_canon' (hk y hy) (hk' _ (List.mem_map_of_mem hy))
    · obtain ⟨u, hu⟩ : ∃ u, canon (n + 1) x = u := ⟨_, rfl⟩
      have e0 : u.f0 = 7 := by rw [← hu, canon_7 h0]
      have e5 : u.f5 = x.f5 := by rw [← hu, canon_7 h0]
      have e6 : u.f6 = x.f6.map (canon n) := by rw [← hu, canon_7 h0]
      rw [hu] at hk'
      rw [e6] at hk'
      rw [hu, sb_all (by rw [e0, h0]) (by omega) (by rw [e6]; simp) (fun _ => e5), e6]
      exact all2_map _ fun y hy => same_canon' (hk y hy) (hk' _ (List.mem_map_of_mem hy))
/-! ### tables at a road -/
theorem rt_tab1 {n : Nat} {x : S26} (s : ByteArray) (h : Rt n x) : Rt (n + 1) (tab1 s x) :=
  rt_table rfl (List.pairwise_singleton _ _) rfl fun y hy => by
    cases List.mem_singleton.1 hy
    exact h
theorem rt_pmap {n : Nat} {x : S26} (h : Rt n x) : ∀ l : List ByteArray, Rt (n + l.length) (pmap l x)
  | [] => h
  | s :: r => rt_tab1 s (rt_pmap h r)
theorem sm_pmap {n : Nat} {x : S26} (h : Sm n x) : ∀ l : List ByteArray, (∀ t ∈ l, t.size ≤ maxLen) → Sm (n + l.length) (pmap l x)
  | [], _ => h
  | s :: r, hl => by
    show Sm (n + r.length + 1) (tab1 s (pmap r x))
    unfold Sm
    refine ⟨fun t ht => ?_, fun y hy => ?_⟩
    · cases List.mem_singleton.1 ht
      exact hl _ List.mem_cons_self
    · cases List.mem_singleton.1 hy
      exact sm_pmap h r fun t ht => hl t (List.mem_cons_of_mem _ ht)
theorem cnt_pmap {n : Nat} {x : S26} : ∀ l : List ByteArray, cnt (n + l.length) (pmap l x) = cnt n x + l.length
  | [] => rfl
  | s :: r => by
    show cnt (n + r.length + 1) (tab1 s (pmap r x)) = _
    have e : cnt (n + r.length + 1) (tab1 s (pmap r x)) = 1 + (cnt (n + r.length) (pmap r x) + 0) := rfl
    rw [e, cnt_pmap r, List.length_cons]
    omega
theorem canon_pmap {n : Nat} {x : S26} : ∀ l : List ByteArray, canon (n + l.length) (pmap l x) = pmap l (canon n x)
  | [] => rfl
  | s :: r => by
    show canon (n + r.length + 1) (tab1 s (pmap r x)) = tab1 s (pmap r (canon n x))
    rw [canon_7 rfl, ← canon_pmap r]
    rfl
theorem pmap_7 {x : S26} (h : x.f0 = 7) : ∀ l : List ByteArray, (pmap l x).f0 = 7
  | [] => h
  | _ :: _ => rfl
theorem road_pmap {x : S26} (h : x.f0 = 7) : ∀ l : List ByteArray, road (pmap l x) l = some x
  | [] => rfl
  | s :: r => by
    show road (tab1 s (pmap r x)) (s :: r) = some x
    have hh : hop (tab1 s (pmap r x)) s = some (pmap r x) := by
      unfold hop
      show (match find [s] [pmap r x] s with | some y => if y.f0 = 7 then some y else none | none => none) = _
      simp only [find, if_true, pmap_7 h r]
    rw [road, hh]
    exact road_pmap h r
end Go.Proofs.Ytjfbjkodjjlkiaa.HVal
/-! What impl.PathToMap and impl.TableAt come to. -/
namespace Go.Proofs.Ytjfbjkodjjlkiaa.HVal
open Go.RowKit Go.WideMaps Go.Maps Go.Proofs.YtjfbjkodjjlkiaaW.PrintWords Go.Proofs.YtjfbjkodjjlkiaaW.PrintLast Go.Proofs.YtjfbjkodjjlkiaaW.PrintMore Go.Proofs.Ytjfbjkodjjlkiaa.Plain Go.Proofs.Ytjfbjkodjjlkiaa.GTab Go.Proofs.Ytjfbjkodjjlkiaa.HBytes
attribute [local go_sem] run_store_flt

theorem catch55 (p1 p2 : Value) (w : World) : CallsD Try.prog 55 #[p1, p2] .returning w fun e u' w' => e = .returned (.tuple #[]) ∧ u' = .returning ∧ w' = w := by
  refine callsD_of_wpS Try.func55 rfl fun c₀ cs hu => ?_
  apply wpS_seq
  apply wpS_region
  simp [wpOpsS, go_sem, recoverD, hu, Try.ntmps55, Exit.thenS]
  refine wpS_cond (t := false) (by simp [Act.eval, Array.replicate]) ?_
  simp only [Bool.false_eq_true, if_false]
  refine wpS_of_wp (wp_skip ?_)
  cases c₀
  simp_all [bodyPostS, results, Try.results55]
theorem catch57 (p1 p2 : Value) (w : World) : CallsD Try.prog 57 #[p1, p2] .returning w fun e u' w' => e = .returned (.tuple #[]) ∧ u' = .returning ∧ w' = w := by
  refine callsD_of_wpS Try.func57 rfl fun c₀ cs hu => ?_
  apply wpS_seq
  apply wpS_region
  simp [wpOpsS, go_sem, recoverD, hu, Try.ntmps57, Exit.thenS]
  refine wpS_cond (t := false) (by simp [Act.eval, Array.replicate]) ?_
  simp only [Bool.false_eq_true, if_false]
  refine wpS_of_wp (wp_skip ?_)
  cases c₀
  simp_all [bodyPostS, results, Try.results57]
/-- What table gives of a table. -/
theorem table_tvn (n : Nat) (hn : n ≤ 61) (x : S26) (A5 : Option Addr) (c5 : Nat) (A6 : Option Addr) (c6 : Nat) (P : Nat → Prop) (w : World) (h7 : x.f0 = 7) (hr : Rt n x) (hsm : Sm n x) (hv : KV w P x A5 c5 A6 c6) (hP : ∀ k, P k → k < w.heap.size) (hc : cnt n x ≤ 2000) :
    Calls Try.prog 45 #[agg26 x A5 c5 A6 c6] w fun e w' => ∃ b, e = .returned (.tuple #[.map (some b), .bool true]) ∧ TV n w' w'.heap.size (.iface 58 (.map (some b))) x ∧ Below w.heap.size w w' := by
  refine (table_calls n x A5 c5 A6 c6 P w hr hsm hv hP hn hc).mono ?_
  rintro e w' ⟨m, rfl, hb, _, h⟩
  obtain ⟨fp, hrep, _, hlt⟩ := h h7
  have hk : ∃ b, m = some b := by
    rcases hrep.kind with ⟨_, e⟩ | ⟨_, e⟩ | ⟨_, e⟩ | ⟨_, e⟩ | ⟨_, e⟩ | ⟨_, _, e⟩ | ⟨_, b, e⟩
    all_goals try cases e
    exact ⟨b, rfl⟩
  obtain ⟨b, rfl⟩ := hk
  exact ⟨b, by rw [decide_eq_true h7, Bool.true_or], ⟨fp, hrep, hr, hsm, hc, fun k hk => (hlt k hk).2⟩, hb⟩
/-- A value given back without a fault. -/
def OkPost (w : World) (z : S26) (e : Ending) (w' : World) : Prop :=
  Below w.heap.size w w' ∧ ∃ (A5 : Option Addr) (c5 : Nat) (A6 : Option Addr) (c6 : Nat) (P : Nat → Prop), e = .returned (.tuple #[agg26 z A5 c5 A6 c6, .int .i64 0]) ∧ KV w' P z A5 c5 A6 c6 ∧ ∀ k, P k → k < w'.heap.size
theorem OkPost.of {w w' : World} {z : S26} {v : Value} (hb : Below w.heap.size w w') (h : Val26 w' v z) : OkPost w z (.returned (.tuple #[v, .int .i64 0])) w' := by
  obtain ⟨A5, c5, A6, c6, P, rfl, hk, hP⟩ := h
  exact ⟨hb, A5, c5, A6, c6, P, rfl, hk, hP⟩
set_option maxHeartbeats 4000000 in
theorem ptmi_calls (x : S26) (A5 : Option Addr) (c5 : Nat) (A6 : Option Addr) (c6 : Nat) (P : Nat → Prop) (s : ByteArray) (w : World) (h7 : x.f0 = 7) (hr : Rt 50 x) (hsm : Sm 50 x) (hv : KV w P x A5 c5 A6 c6) (hP : ∀ k, P k → k < w.heap.size) (hc : cnt 50 x ≤ 300) (hs : s.size ≤ 200) (h0 : s ≠ ⟨#[46]⟩) :
    Calls Try.prog 25 #[.string s, agg26 x A5 c5 A6 c6] w (OkPost w (pmap (namesB s) (canon 50 x))) := by
  have hmf : ∀ (fn : Fn) (first cap : Array Value) (w : World), (Instr.makeFunc fn first cap).run Try.prog w = .ok (.func fn first cap) w := fun _ _ _ _ => rfl
  have H7 := Aside0.mk h7
  have RT := Aside0.mk hr
  have SM := Aside0.mk hsm
  have HV := Aside0.mk hv
  have HP := Aside0.mk hP
  have HC := Aside0.mk hc
  have HS := Aside0.mk hs
  have H0 := Aside0.mk h0
  have q2 : ¬ (2000 : Int) < (s.size : Int) := by omega
  have RTN := Aside0.mk (rt_pmap hr (namesB s))
  have SMN := Aside0.mk (sm_pmap hsm (namesB s) fun t ht => Nat.le_trans (names_size ht) (Nat.le_trans hs (by decide)))
  have CN := Aside0.mk (show cnt (50 + (namesB s).length) (pmap (namesB s) x) ≤ 2000 by rw [cnt_pmap]; have := (names_init (s := s)).2; omega)
  have HCP := Aside0.mk (canon_pmap (n := 50) (x := x) (namesB s))
  clear h7 hr hsm hv hP hc hs h0
  rw [← HCP.out]
  go_enter_defers Try.func25, Try.ntmps25
  have HR0 := Aside0.mk (Res.start w #[.int .i64 x.f0, .bool x.f1, .int .i64 x.f2, .float .f64 x.f3, .string x.f4, .slice A5 x.f5.length c5, .slice A6 x.f6.length c6])
  go_wp2_with (first
    | (go_at_call 45; go_must (
        refine (table_tvn 50 (by decide) x A5 c5 A6 c6 P _ H7.out RT.out SM.out (HV.out.below HR0.out.below) (fun k hk => Nat.lt_of_lt_of_le (HP.out k hk) HR0.out.below.size) (Nat.le_trans HC.out (by decide))).mono ?_
        rintro e w2 ⟨b, rfl, ⟨fp, t1, _, _, _, t2⟩, hb⟩
        have HR2 := Aside0.mk (HR0.out.later hb)
        have HT := Aside0.mk (⟨fp, t1, t2⟩ : Rp 50 w2 (.iface 58 (.map (some b))) x)
        clear t1 t2 hb))
    | (go_at_call 56; go_must (
        refine (zptm_calls 50 b x s w2 (Nat.le_trans HS.out (by decide)) H0.out HT.out).mono ?_
        rintro e w3 ⟨hb, b', rfl, hrp⟩
        have HR3 := Aside0.mk (HR2.out.later hb)
        have HRP := Aside0.mk hrp
        clear hb hrp))
    | (go_at_call 46; go_must (
        obtain ⟨fp, r1, r2⟩ := HRP.out
        refine (val_of (50 + (namesB s).length) (pmap (namesB s) x) _ fp w3 r1 RTN.out SMN.out CN.out r2).mono ?_
        intro e w4 hvp
        obtain ⟨B5, d5, B6, d6, Q, rfl, hv4, hQ, hb4⟩ := Val26.of hvp
        have HR4 := Aside0.mk (HR3.out.later hb4)
        have HV4 := Aside0.mk hv4
        have HQ := Aside0.mk hQ
        obtain ⟨⟨c0, c1, c2, c3, c4, c5', c6', c7⟩, f0, f1, f2, f3, f4, f5, f6, f7⟩ := HR4.out.cells
        clear r1 r2 hvp hv4 hQ hb4)))
  obtain ⟨z, hz⟩ : ∃ z, canon (50 + (namesB s).length) (pmap (namesB s) x) = z := ⟨_, rfl⟩
  rw [hz] at HV4 ⊢
  have HF := Aside0.mk (finV_all HR4.out (Nat.le_succ _) HV4.out (fun k hk => by
    have h1 := HQ.out k hk
    have h2 := blk_lt HR3.out.b2
    omega) 0)
  obtain ⟨W5, hW5⟩ : ∃ W5, finV w4 (w.heap.size + 1) z B5 d5 B6 d6 0 = W5 := ⟨_, rfl⟩
  rw [hW5] at HF
  unfold finV fin26 at hW5
  rw [hW5]
  clear hW5
  refine leaves_cons (f := 55) (args := #[.pointer (some ⟨w.heap.size + 1, 0, none⟩), .pointer (some ⟨w.heap.size + 1 + 1, 0, none⟩)]) (by simp) (by simp [go_sem]) ?_
  refine (catch55 _ _ _).mono ?_
  rintro e u' w5 ⟨rfl, rfl, rfl⟩
  obtain ⟨g0, g1, g2, g3, g4, g5, g6, g7⟩ := HF.out.cells
  simp [Leaves, settle, results, Try.results25, go_sem, g0, g1, g2, g3, g4, g5, g6, g7]
  exact OkPost.of HF.out.below HF.out.val
set_option maxHeartbeats 4000000 in
theorem tati_calls (n : Nat) (hn : n ≤ 61) (x y : S26) (A5 : Option Addr) (c5 : Nat) (A6 : Option Addr) (c6 : Nat) (P : Nat → Prop) (s : ByteArray) (w : World) (h7 : x.f0 = 7) (hr : Rt n x) (hsm : Sm n x) (hv : KV w P x A5 c5 A6 c6) (hP : ∀ k, P k → k < w.heap.size) (hc : cnt n x ≤ 2000) (hs : s.size ≤ 90000) (ho : road x (namesB s) = some y) :
    Calls Try.prog 26 #[agg26 x A5 c5 A6 c6, .string s] w fun e w' => ∃ m, Rt m y ∧ OkPost w (canon m y) e w' := by
  have hmf : ∀ (fn : Fn) (first cap : Array Value) (w : World), (Instr.makeFunc fn first cap).run Try.prog w = .ok (.func fn first cap) w := fun _ _ _ _ => rfl
  have HN := Aside0.mk hn
  have H7 := Aside0.mk h7
  have RT := Aside0.mk hr
  have SM := Aside0.mk hsm
  have HV := Aside0.mk hv
  have HP := Aside0.mk hP
  have HC := Aside0.mk hc
  have HS := Aside0.mk hs
  have HO := Aside0.mk ho
  clear hn h7 hr hsm hv hP hc hs ho
  go_enter_defers Try.func26, Try.ntmps26
  have HR0 := Aside0.mk (Res.start w #[.int .i64 x.f0, .bool x.f1, .int .i64 x.f2, .float .f64 x.f3, .string x.f4, .slice A5 x.f5.length c5, .slice A6 x.f6.length c6])
  go_wp2_with (first
    | (go_at_call 45; go_must (
        refine (table_tvn n HN.out x A5 c5 A6 c6 P _ H7.out RT.out SM.out (HV.out.below HR0.out.below) (fun k hk => Nat.lt_of_lt_of_le (HP.out k hk) HR0.out.below.size) HC.out).mono ?_
        rintro e w2 ⟨b, rfl, ht, hb⟩
        have HR2 := Aside0.mk (HR0.out.later hb)
        have HT := Aside0.mk ht
        clear ht hb))
    | (go_at_call 58; go_must (
        refine (table_road n b x s w2 (Nat.le_trans HS.out (by decide)) HT.out).mono ?_
        rintro e w3 ⟨hb, he⟩
        have HR3 := Aside0.mk (HR2.out.later hb)
        have HE := Aside0.mk (he.resolve_right (fun h => by rw [HO.out] at h; cases h.1))
        clear he
        obtain ⟨b', y', m, e1, rfl, htv⟩ := HE.out
        rw [HO.out] at e1
        cases e1
        have HT3 := Aside0.mk (htv.mono hb.size)
        clear htv hb))
    | (go_at_call 46; go_must (
        obtain ⟨fp, r1, r2, r3, r4, r5⟩ := HT3.out
        have HRT := Aside0.mk r2
        refine (val_of m y _ fp w3 r1 r2 r3 r4 r5).mono ?_
        intro e w4 hvp
        obtain ⟨B5, d5, B6, d6, Q, rfl, hv4, hQ, hb4⟩ := Val26.of hvp
        have HR4 := Aside0.mk (HR3.out.later hb4)
        have HV4 := Aside0.mk hv4
        have HQ := Aside0.mk hQ
        obtain ⟨⟨c0, c1, c2, c3, c4, c5', c6', c7⟩, f0, f1, f2, f3, f4, f5, f6, f7⟩ := HR4.out.cells
        clear r1 r2 r3 r4 r5 hvp hv4 hQ hb4)))
  have HF := Aside0.mk (finV_all HR4.out (Nat.le_succ _) HV4.out (fun k hk => by
    have h1 := HQ.out k hk
    have h2 := blk_lt HR3.out.b2
    omega) 0)
  obtain ⟨W5, hW5⟩ : ∃ W5, finV w4 (w.heap.size + 1) (canon m y) B5 d5 B6 d6 0 = W5 := ⟨_, rfl⟩
  rw [hW5] at HF
  unfold finV fin26 at hW5
  rw [hW5]
  clear hW5
  refine leaves_cons (f := 57) (args := #[.pointer (some ⟨w.heap.size + 1, 0, none⟩), .pointer (some ⟨w.heap.size + 1 + 1, 0, none⟩)]) (by simp) (by simp [go_sem]) ?_
  refine (catch57 _ _ _).mono ?_
  rintro e u' w5 ⟨rfl, rfl, rfl⟩
  obtain ⟨g0, g1, g2, g3, g4, g5, g6, g7⟩ := HF.out.cells
  simp [Leaves, settle, results, Try.results26, go_sem, g0, g1, g2, g3, g4, g5, g6, g7]
  exact ⟨m, HRT.out, OkPost.of HF.out.below HF.out.val⟩
end Go.Proofs.Ytjfbjkodjjlkiaa.HVal
/-! What zzCopy and zzCopyMap come to: a value as it lies, copied. What zzCopyMap comes to, and zzCopy whole. A map's own entry set anew while the map is ranged over. -/
/-! What zzCopy and zzCopyMap come to: a value as it lies, copied. -/
namespace Go.Proofs.Ytjfbjkodjjlkiaa.HVal
open Go.RowKit Go.WideMaps Go.Maps Go.Proofs.YtjfbjkodjjlkiaaW.PrintWords Go.Proofs.YtjfbjkodjjlkiaaW.PrintLast Go.Proofs.YtjfbjkodjjlkiaaW.PrintMore Go.Proofs.Ytjfbjkodjjlkiaa.Plain Go.Proofs.Ytjfbjkodjjlkiaa.GTab
attribute [local go_sem] run_store_flt

/-- A copy: the value with blocks of its own. -/
def CopyPost (n : Nat) (w : World) (x : S26) (e : Ending) (w' : World) : Prop :=
  Below w.heap.size w w' ∧ ∃ v' fp', e = .returned v' ∧ Rep n w' v' x fp' ∧ ∀ k ∈ fp', w.heap.size ≤ k ∧ k < w'.heap.size
def CopyC (n : Nat) : Prop := ∀ (x : S26) (v : Value) (fp : List Nat) (w : World), Rep n w v x fp → Rt n x → Sm n x → cnt n x ≤ 2000 → (∀ k ∈ fp, k < w.heap.size) → Calls Try.prog 114 #[v] w (CopyPost n w x)
theorem zs58_nil (w : World) : (Instr.typeAssert .nilIface 20 58 true).run Try.prog w = .ok (.tuple #[.map none, .bool false]) w := by kernel_rfl
theorem zs85_nil (w : World) : (Instr.typeAssert .nilIface 20 85 true).run Try.prog w = .ok (.tuple #[.slice none 0 0, .bool false]) w := by kernel_rfl
theorem zs85_bool (b : Bool) (w : World) : (Instr.typeAssert (.iface 4 (.bool b)) 20 85 true).run Try.prog w = .ok (.tuple #[.slice none 0 0, .bool false]) w := by kernel_rfl
theorem zs85_int (i : Int) (w : World) : (Instr.typeAssert (.iface 2 (.int .i64 i)) 20 85 true).run Try.prog w = .ok (.tuple #[.slice none 0 0, .bool false]) w := by kernel_rfl
theorem zs85_flt (f : Nat) (w : World) : (Instr.typeAssert (.iface 22 (.float .f64 f)) 20 85 true).run Try.prog w = .ok (.tuple #[.slice none 0 0, .bool false]) w := by kernel_rfl
theorem zs85_str (s : ByteArray) (w : World) : (Instr.typeAssert (.iface 9 (.string s)) 20 85 true).run Try.prog w = .ok (.tuple #[.slice none 0 0, .bool false]) w := by kernel_rfl
theorem zs58_list (v : Value) (w : World) : (Instr.typeAssert (.iface 85 v) 20 58 true).run Try.prog w = .ok (.tuple #[.map none, .bool false]) w := by kernel_rfl
theorem zs85_list (v : Value) (w : World) : (Instr.typeAssert (.iface 85 v) 20 85 true).run Try.prog w = .ok (.tuple #[v, .bool true]) w := by kernel_rfl
set_option maxRecDepth 100000 in
set_option maxHeartbeats 4000000 in
theorem copy_scalar (n : Nat) (x : S26) (v : Value) (w : World) (hr : (x.f0 = 0 ∧ v = .nilIface) ∨ (x.f0 = 1 ∧ v = .iface 4 (.bool x.f1)) ∨ (x.f0 = 2 ∧ v = .iface 2 (.int .i64 x.f2)) ∨ (x.f0 = 4 ∧ v = .iface 22 (.float .f64 x.f3)) ∨ (x.f0 = 5 ∧ v = .iface 9 (.string x.f4))) :
    Calls Try.prog 114 #[v] w (CopyPost (n + 1) w x) := by
  have HR := Aside0.mk (show Rep (n + 1) w v x [] from Rep.mk (by
    rcases hr with ⟨a, b⟩ | ⟨a, b⟩ | ⟨a, b⟩ | ⟨a, b⟩ | ⟨a, b⟩
    · exact .inl ⟨a, b, rfl⟩
    · exact .inr (.inl ⟨a, b, rfl⟩)
    · exact .inr (.inr (.inl ⟨a, b, rfl⟩))
    · exact .inr (.inr (.inr (.inl ⟨a, b, rfl⟩)))
    · exact .inr (.inr (.inr (.inr (.inl ⟨a, b, rfl⟩))))))
  rcases hr with ⟨_, rfl⟩ | ⟨_, rfl⟩ | ⟨_, rfl⟩ | ⟨_, rfl⟩ | ⟨_, rfl⟩
  · have t0 := zs58_nil
    have t1 := zs85_nil
    go_enter Try.func114, Try.ntmps114
    go_wp2
    go_ret
    exact ⟨Below.refl _ _, _, [], rfl, HR.out, fun k hk => (nomatch hk)⟩
  · have t0 := as58_bool
    have t1 := zs85_bool
    go_enter Try.func114, Try.ntmps114
    go_wp2
    go_ret
    exact ⟨Below.refl _ _, _, [], rfl, HR.out, fun k hk => (nomatch hk)⟩
  · have t0 := as58_int
    have t1 := zs85_int
    go_enter Try.func114, Try.ntmps114
    go_wp2
    go_ret
    exact ⟨Below.refl _ _, _, [], rfl, HR.out, fun k hk => (nomatch hk)⟩
  · have t0 := as58_flt
    have t1 := zs85_flt
    go_enter Try.func114, Try.ntmps114
    go_wp2
    go_ret
    exact ⟨Below.refl _ _, _, [], rfl, HR.out, fun k hk => (nomatch hk)⟩
  · have t0 := as58_str
    have t1 := zs85_str
    go_enter Try.func114, Try.ntmps114
    go_wp2
    go_ret
    exact ⟨Below.refl _ _, _, [], rfl, HR.out, fun k hk => (nomatch hk)⟩
/-! ### a list -/
theorem row_ownA {W : World} {base e size n g cap : Nat} {xs : List Value} (h : W.ownsRow base e size (.slice (some ⟨g, 0, none⟩) n cap) n xs) : base ≤ g ∧ g < W.heap.size := by
  rcases h.2 with ⟨e, _⟩ | ⟨g', cap', cur, e, hg, hh, _⟩
  · cases e
  · cases e
    exact ⟨hg, blk_lt hh⟩
structure CL (n : Nat) (w : World) (x : S26) (L j : Nat) (ws : List Value) (fps : List (List Nat)) (W : World) : Prop where
  row : W.ownsRow 0 20 1 (.slice (some ⟨w.heap.size, 0, none⟩) L L) L (ws ++ List.replicate (L - j) .nilIface)
  all : All3 (Rep n W) ws (x.f6.take j) fps
  fps : ∀ k ∈ fps.flatten, w.heap.size < k ∧ k < W.heap.size
  below : Below w.heap.size w W
theorem set_rep {ws : List Value} {L j : Nat} {u z : Value} (h : ws.length = j) (hj : j < L) : (ws ++ List.replicate (L - j) z).set j u = (ws ++ [u]) ++ List.replicate (L - (j + 1)) z := by
  subst h
  rw [List.set_append_right _ _ (Nat.le_refl _), Nat.sub_self, show L - ws.length = (L - (ws.length + 1)) + 1 from by omega, List.replicate_succ, List.set_cons_zero, List.append_assoc]
  rfl
theorem CL.next {n : Nat} {w : World} {x : S26} {L j : Nat} {ws : List Value} {fps : List (List Nat)} {W W2 : World} {u : Value} {fp : List Nat} (h : CL n w x L j ws fps W) (hL : x.f6.length = L) (hj : j < x.f6.length) (hb : Below W.heap.size W W2) (hr : Rep n W2 u x.f6[j] fp) (hf : ∀ k ∈ fp, W.heap.size ≤ k ∧ k < W2.heap.size) :
    CL n w x L (j + 1) (ws ++ [u]) (fps ++ [fp]) (W2.setCell ⟨w.heap.size, j, none⟩ u) := by
  have hg := (row_ownA h.row).2
  have hl : ws.length = j := by have := h.all.len.1; rw [List.length_take] at this; omega
  have far : ∀ k, k ≠ w.heap.size → (W2.setCell ⟨w.heap.size, j, none⟩ u).heap[k]? = W2.heap[k]? := fun k hk => Below.heap_setCell W2 ⟨w.heap.size, j, none⟩ u k hk
  refine ⟨?_, ?_, ?_, (below_step h.below hb).setCell (p := ⟨w.heap.size, j, none⟩) (Nat.le_refl _) u⟩
  · have h1 := (World.ownsRow.stored (own_move h.row fun k hk => hb.block k (by have e : w.heap.size = k := (by simpa [Value.ownBlock] using hk); omega)) j u).1
    rw [set_rep hl (by omega)] at h1
    exact h1
  · rw [List.take_succ_eq_append_getElem hj]
    refine All3.snoc (h.all.imp fun v y p hp hrep => hrep.move n fun k hk => ?_) (hr.move n fun k hk => far k ?_)
    · have h1 := h.fps k (List.mem_flatten.2 ⟨p, hp, hk⟩)
      exact (far k (by omega)).trans (hb.block k h1.2)
    · have := hf k hk
      omega
  · intro k hk
    rw [List.flatten_append, List.mem_append] at hk
    have e : (W2.setCell ⟨w.heap.size, j, none⟩ u).heap.size = W2.heap.size := by simp [World.setCell]
    rw [e]
    rcases hk with hk | hk
    · have h1 := h.fps k hk
      exact ⟨h1.1, Nat.lt_of_lt_of_le h1.2 hb.size⟩
    · have h1 := hf k (by simpa using hk)
      omega
theorem made_nil (L : Nat) : (madeCells Value.nilIface.cells (L * 1)).toList = List.replicate L .nilIface := by
  simp only [madeCells, Nat.mul_one]
  apply List.ext_getElem
  · simp
  · intro i h1 h2
    simp [Value.cells, Nat.mod_one]
theorem info20s : (Try.prog.info? 20).map (fun i => (i.zero, i.size, i.bytes)) = some (some .nilIface, 1, 16) := by kernel_rfl
theorem list_rows {w : World} {s : Value} {vs : List Value} (hown : w.ownsRow 0 20 1 s vs.length vs) : ∃ A c, s = .slice A vs.length c ∧ ∀ (j : Nat) (h : j < vs.length), ∃ ad, A = some ad ∧ w.cell? (ad.add j) = some vs[j] := by
  rcases hown.2 with ⟨rfl, h0⟩ | ⟨g, cap, cur, rfl, _, hh, _, _, _, hq⟩
  · exact ⟨none, 0, by rw [h0], fun j h => by omega⟩
  · refine ⟨_, cap, rfl, fun j h => ⟨_, rfl, ?_⟩⟩
    rw [add_blk, blk_cell hh]
    have h2 : (List.take (vs.length * 1) cur.toList)[j]? = vs[j]? := by rw [hq]
    rw [List.getElem?_take_of_lt (by omega), List.getElem?_eq_getElem h] at h2
    simpa using h2
theorem list_at {ws : List Value} {xs : List S26} {L j : Nat} {z : Value} (hj : j < L) (h : ws.length = xs.length) (hx : xs.length = j) : (ws ++ List.replicate (L - j) z)[j]? = some z := by
  rw [List.getElem?_append_right (by omega), h, hx, Nat.sub_self, List.getElem?_replicate, if_pos (by omega)]
theorem copy_list_end {n : Nat} {w W : World} {x : S26} {L : Nat} {ws : List Value} {fps : List (List Nat)} (h : CL n w x L L ws fps W) (hL : x.f6.length = L) (hx : x.f0 = 6) : CopyPost (n + 1) w x (.returned (.iface 85 (.slice (some ⟨w.heap.size, 0, none⟩) L L))) W := by
  have hl : ws.length = L := by have := h.all.len.1; rw [List.length_take] at this; omega
  have hrow := h.row
  rw [Nat.sub_self, List.replicate_zero, List.append_nil] at hrow
  have hall := h.all
  rw [← hL, List.take_length] at hall
  refine ⟨h.below, _, _, rfl, Rep.mk (.inr (.inr (.inr (.inr (.inr (.inl ⟨hx, ws, fps, _, rfl, by rw [hl]; exact hrow, hall, rfl⟩)))))), fun k hk => ?_⟩
  rcases List.mem_append.1 hk with hk | hk
  · have e : k = w.heap.size := by simpa [Value.ownBlock] using hk
    subst e
    exact ⟨Nat.le_refl _, (row_ownA h.row).2⟩
  · have := h.fps k hk
    exact ⟨by omega, this.2⟩
set_option maxRecDepth 100000 in
set_option maxHeartbeats 4000000 in
theorem copy_list (n : Nat) (ih : CopyC n) (x : S26) (s : Value) (vs : List Value) (fps : List (List Nat)) (w : World) (hx : x.f0 = 6) (hown : w.ownsRow 0 20 1 s vs.length vs) (hall : All3 (Rep n w) vs x.f6 fps) (hr : ∀ y ∈ x.f6, Rt n y) (hsm : ∀ y ∈ x.f6, Sm n y) (hc : cnt (n + 1) x ≤ 2000) (hlt : ∀ k ∈ s.ownBlock.toList ++ fps.flatten, k < w.heap.size) :
    Calls Try.prog 114 #[.iface 85 s] w (CopyPost (n + 1) w x) := by
  have hl := hall.len.1
  have LL : x.f6.length ≤ 2000 := by have := len_le hr; unfold cnt at hc; omega
  obtain ⟨A, c, rfl, hel⟩ := list_rows hown
  have HEL := Aside0.mk hel
  have HX := Aside0.mk hx
  have IH := Aside0.mk ih
  have HALL := Aside0.mk hall
  have HR := Aside0.mk hr
  have HSM := Aside0.mk hsm
  have HC := Aside0.mk hc
  have HLT := Aside0.mk hlt
  obtain ⟨L, hL⟩ : ∃ L, vs.length = L := ⟨_, rfl⟩
  have HVL := Aside0.mk hL
  have HL := Aside0.mk (hl.symm.trans hL)
  have HLL := Aside0.mk (show L ≤ 2000 by omega)
  obtain ⟨i0, hi, hz0, hz1, hz2⟩ := info_parts info20s
  obtain ⟨W1, hmk, hrow, hgr⟩ := run_makeSlice_full (P := Try.prog) w 0 85 20 i0 .nilIface 1 Try.underlying85 hi hz0 hz1 .i64 .i64 L (by omega) (by rw [hz2]; omega) (by unfold maxLen; omega) (Nat.zero_le _)
  have HS := Aside0.mk (show CL n w x L 0 [] [] W1 from ⟨by rw [made_nil] at hrow; exact hrow, .nil, fun k hk => by simp at hk, ⟨hgr.os, hgr.tape, hgr.output, hgr.size, fun k hk => hgr.block k hk (by simp)⟩⟩)
  rw [hL]
  clear hl hx ih hall hr hsm hc hlt hel hL LL hown hrow hgr hi hz0 hz1 hz2
  have t3 := zs58_list
  have t4 := zs85_list
  go_enter Try.func114, Try.ntmps114
  go_wp2
  go_loopw [22] (fun i wr => ∃ (j : Nat) (ws : List Value) (qs : List (List Nat)), j ≤ L ∧ i = .int .i64 j ∧ Aside0 (CL n w x L j ws qs wr)) (fun i _ => L - (intOf i).toNat)
  case atStart => exact ⟨0, [], [], Nat.zero_le _, rfl, HS⟩
  case round =>
    obtain ⟨j, ws, qs, hj, rfl, HI⟩ := hrel
    clear HS
    by_cases hlt : j < L
    · have HJ := Aside0.mk hlt
      have hj2 : j < vs.length := by rw [HVL.out]; exact hlt
      have hj6 : j < x.f6.length := by rw [HL.out]; exact hlt
      obtain ⟨ad, hA, z0⟩ := HEL.out j hj2
      subst hA
      have HJ6 := Aside0.mk hj6
      obtain ⟨fpj, hfj, hrj⟩ := HALL.out.get j hj2 hj6
      have fl : ∀ k ∈ fpj, k < w.heap.size := fun k hk => HLT.out k (List.mem_append.2 (.inr (List.mem_flatten.2 ⟨fpj, hfj, hk⟩)))
      have hz := (congrArg (fun a => a) (keep_cell z0 (Below.refl _ _)))
      have z1 : wr.cell? (ad.add j) = some vs[j] := keep_cell z0 HI.out.below
      have HC1 := Aside0.mk (IH.out x.f6[j] vs[j] fpj wr (Rep.move n hrj fun k hk => HI.out.below.block k (fl k hk)) (HR.out _ (List.getElem_mem hj6)) (HSM.out _ (List.getElem_mem hj6)) (by have := sum_le n x.f6 j hj6; have := HC.out; unfold cnt at this; omega) (fun k hk => Nat.lt_of_lt_of_le (fl k hk) HI.out.below.size))
      have p0 : 0 ≤ (j : Int) := Int.natCast_nonneg j
      have q0 : (j : Int) < (L : Int) := Int.ofNat_lt.2 hlt
      obtain ⟨u, hu⟩ : ∃ u, vs[j] = u := ⟨_, rfl⟩
      rw [hu] at z1 HC1
      clear hz z0 hrj fl hu hlt hj
      go_wp2_with (go_at_call 114; go_must (refine HC1.out.mono ?_; rintro e W2 ⟨hb, v', fp', rfl, hrep, hf⟩; have HN := Aside0.mk (HI.out.next HL.out HJ6.out hb hrep hf); have hrow2 := own_move HI.out.row (fun k hk => hb.block k (by have e : w.heap.size = k := (by simpa [Value.ownBlock] using hk); have := (row_ownA HI.out.row).2; omega)); have s0 := World.ownsRow.cellAt hrow2 j (by have := HJ.out; omega); rw [list_at HJ.out HI.out.all.len.1 (by rw [List.length_take, HL.out]; have := HJ.out; omega)] at s0; have s1 := World.ownsRow.frozenAt hrow2 j; have VF := hrep.form; clear hb hrep hf hrow2; rcases VF with rfl | ⟨vt, vu, rfl⟩))
      all_goals (go_roundw)
      all_goals first
        | exact meas26 HJ.out (Nat.le_trans HLL.out (by decide))
        | exact ⟨j + 1, _, _, HJ.out, congrArg (Value.int IntKind.i64) (next63 HJ.out (Nat.le_trans HLL.out (by decide))), HN⟩
    · have e : j = L := Nat.le_antisymm hj (Nat.not_lt.1 hlt)
      subst e
      have q1 : ¬ (j : Int) < (j : Int) := Int.lt_irrefl _
      clear hlt hj
      go_wp2
      go_ret
      exact copy_list_end HI.out HL.out HX.out
end Go.Proofs.Ytjfbjkodjjlkiaa.HVal
/-! What zzCopyMap comes to, and zzCopy whole. -/
namespace Go.Proofs.Ytjfbjkodjjlkiaa.HVal
open Go.RowKit Go.WideMaps Go.Maps Go.Proofs.YtjfbjkodjjlkiaaW.PrintWords Go.Proofs.YtjfbjkodjjlkiaaW.PrintLast Go.Proofs.YtjfbjkodjjlkiaaW.PrintMore Go.Proofs.Ytjfbjkodjjlkiaa.Plain Go.Proofs.Ytjfbjkodjjlkiaa.GTab
attribute [local go_sem] run_store_flt

theorem same_yes (s : ByteArray) : (keyS s).sameKey (keyS s) = true := WideAt.sameKey_self (show WideAt.IsKeyLit (keyS s) from trivial)
theorem same_no {s t : ByteArray} (h : s ≠ t) : (keyS s).sameKey (keyS t) = false := Maps.sameKey_ne fun e => h (keyS_inj e)
theorem rt_rises {n : Nat} {x : S26} (h : Rt (n + 1) x) (h7 : x.f0 = 7) : Rising x.f5 := by
  unfold Rt at h
  rcases h with ⟨h | h | h | h, _⟩ | ⟨h, _⟩ | ⟨h, _⟩ | ⟨_, h, _⟩
  · omega
  · omega
  · omega
  · omega
  · omega
  · omega
  · exact h
/-! ### look-ups in a list of entries -/
theorem look_get {s : ByteArray} {v : Value} : ∀ {ks : List ByteArray} {vs : List Value}, look (ks.zip vs) s = some v → ∃ i : Nat, ks[i]? = some s ∧ vs[i]? = some v
  | [], _, h => by simp [look] at h
  | _ :: _, [], h => by simp [look] at h
  | k :: ks, u :: vs, h => by
    simp only [List.zip_cons_cons, look] at h
    by_cases e : k = s
    · rw [if_pos e] at h
      cases h
      exact ⟨0, by simp [e], rfl⟩
    · rw [if_neg e] at h
      obtain ⟨i, h1, h2⟩ := look_get h
      exact ⟨i + 1, by simpa using h1, by simpa using h2⟩
theorem lk_none {s : ByteArray} : ∀ {ks : List ByteArray} {vs : List Value}, s ∉ ks → look (ks.zip vs) s = none
  | [], _, _ => by simp [look]
  | _ :: _, [], _ => by simp [look]
  | k :: ks, u :: vs, h => by
    simp only [List.zip_cons_cons, look]
    have hne : ¬ k = s := fun e => by subst e; exact h List.mem_cons_self
    rw [if_neg hne]
    exact lk_none fun hm => h (List.mem_cons_of_mem _ hm)
theorem lk_at {s : ByteArray} {v : Value} : ∀ {ks : List ByteArray} {vs : List Value}, ks.Nodup → ∀ i : Nat, ks[i]? = some s → vs[i]? = some v → look (ks.zip vs) s = some v
  | [], _, _, _, h, _ => by simp at h
  | _ :: _, [], _, _, _, h => by simp at h
  | k :: ks, u :: vs, hn, 0, h1, h2 => by
    simp at h1 h2
    simp only [List.zip_cons_cons, look]
    rw [if_pos h1, h2]
  | k :: ks, u :: vs, hn, i + 1, h1, h2 => by
    simp only [List.getElem?_cons_succ] at h1 h2
    simp only [List.zip_cons_cons, look]
    have hne : ¬ k = s := fun e => by subst e; exact (List.nodup_cons.1 hn).1 (List.mem_of_getElem? h1)
    rw [if_neg hne]
    exact lk_at (List.nodup_cons.1 hn).2 i h1 h2
theorem choose3 {Q : Value → S26 → List Nat → Prop} : ∀ (xs : List S26) (K : Nat → Value → Prop), (∀ i (h : i < xs.length), ∃ v p, K i v ∧ Q v xs[i] p) → ∃ vs ps, All3 Q vs xs ps ∧ ∀ i v, vs[i]? = some v → K i v
  | [], _, _ => ⟨[], [], .nil, fun i v h => by simp at h⟩
  | x :: xs, K, h => by
    obtain ⟨v, p, k, q⟩ := h 0 (by simp)
    obtain ⟨vs, ps, ha, hk⟩ := choose3 xs (fun i => K (i + 1)) (fun i hi => h (i + 1) (by simpa using hi))
    refine ⟨v :: vs, p :: ps, .cons q ha, fun i u hu => ?_⟩
    cases i with
    | zero =>
      simp at hu
      subst hu
      exact k
    | succ i => exact hk i u (by simpa using hu)
theorem all3_flat {R : Value → S26 → List Nat → Prop} {F : Nat → Prop} {vs : List Value} {xs : List S26} {ps : List (List Nat)} (h : All3 (fun v x p => R v x p ∧ ∀ k ∈ p, F k) vs xs ps) : All3 R vs xs ps ∧ ∀ k ∈ ps.flatten, F k := by
  induction h with
  | nil => exact ⟨.nil, fun k hk => by simp at hk⟩
  | cons a _ ih =>
    refine ⟨.cons a.1 ih.1, fun k hk => ?_⟩
    rw [List.flatten_cons, List.mem_append] at hk
    exact hk.elim (a.2 k) (ih.2 k)
/-- A map under way to be a copy: what is there already. -/
structure CM (n : Nat) (w : World) (x : S26) (vs : List Value) (m low : Nat) (left : Lit → Bool) (D : DataW Value) (c : Nat) (W : World) : Prop where
  own : W.ownsMap Try.prog 9 hR m c D
  map : IsMap D
  has : ∀ s, Maps.has D (keyS s) = ((look (x.f5.zip vs) s).isSome && !left (keyS s))
  sub : ∀ s, left (keyS s) = true → (look (x.f5.zip vs) s).isSome = true
  vals : ∀ (i : Nat) (s : ByteArray) (y : S26), x.f5[i]? = some s → x.f6[i]? = some y → left (keyS s) = false → ∃ v' fp', (∀ z, D.atKey (keyS s) z = .held v') ∧ Rep n W v' y fp' ∧ ∀ k ∈ fp', low < k ∧ k < W.heap.size
  below : Below w.heap.size w W
theorem CM.later {n : Nat} {w W W2 : World} {x : S26} {vs : List Value} {m low : Nat} {left : Lit → Bool} {D : DataW Value} {c : Nat} (h : CM n w x vs m low left D c W) (hb : Below W.heap.size W W2) : CM n w x vs m low left D c W2 :=
  ⟨by
    obtain ⟨es, clock, hh, r⟩ := h.own
    exact ⟨es, clock, (hb.block m h.own.lt).trans hh, r⟩, h.map, h.has, h.sub, fun i s y h1 h2 h3 => by
    obtain ⟨v', fp', a, b, c⟩ := h.vals i s y h1 h2 h3
    exact ⟨v', fp', a, b.move n fun k hk => hb.block k (c k hk).2, fun k hk => ⟨(c k hk).1, Nat.lt_of_lt_of_le (c k hk).2 hb.size⟩⟩, below_step h.below hb⟩
theorem CM.step {n : Nat} {w W W2 : World} {x : S26} {vs : List Value} {r : Nat} {left : Lit → Bool} {D : DataW Value} {c : Nat} (h : CM n w x vs w.heap.size r left D c W) (hg : W.grownBy W2 (some r)) (hr : w.heap.size < r := by omega) : CM n w x vs w.heap.size r left D c W2 :=
  ⟨h.own.kept hg (by simp; omega), h.map, h.has, h.sub, fun i s y h1 h2 h3 => by
    obtain ⟨v', fp', a, b, c⟩ := h.vals i s y h1 h2 h3
    exact ⟨v', fp', a, b.move n fun k hk => hg.block k (c k hk).2 (by have := (c k hk).1; simp; omega), fun k hk => ⟨(c k hk).1, Nat.lt_of_lt_of_le (c k hk).2 hg.size⟩⟩, below_grown h.below hg (Nat.le_of_lt hr)⟩
/-- One entry more. -/
theorem CM.put {n : Nat} {w W W2 : World} {x : S26} {vs : List Value} {m low : Nat} {left : Lit → Bool} {D : DataW Value} {c : Nat} {s : ByteArray} {v' : Value} {fp' : List Nat} (h : CM n w x vs m low left D c W) (hm : w.heap.size ≤ m) (hml : m ≤ low) (hs : left (keyS s) = true) (hv : ∀ (i : Nat) (y : S26), x.f5[i]? = some s → x.f6[i]? = some y → Rep n W v' y fp') (hfp : ∀ k ∈ fp', low < k ∧ k < W.heap.size)
    (ho : W2.ownsMap Try.prog 9 hR m (c + 1) (D.put (keyS s) (.held v'))) (hg : W.grownBy W2 (some m)) : CM n w x vs m low (fun z => left z && !z.sameKey (keyS s)) (D.put (keyS s) (.held v')) (c + 1) W2 := by
  have far : ∀ k, low < k → k < W.heap.size → W2.heap[k]? = W.heap[k]? := fun k hk hlt => hg.block k hlt (fun e => by cases e; omega)
  refine ⟨ho, h.map.put _ _, fun t => ?_, fun t ht => ?_, fun i t y h1 h2 h3 => ?_, below_grown h.below hg hm⟩
  · by_cases e : t = s
    · subst e
      rw [has_put_same h.map (show WideAt.IsKeyLit (keyS t) from trivial), same_yes, h.sub t hs]
      simp
    · rw [has_put_other (fun e2 => e (keyS_inj e2)), h.has, same_no e]
      simp
  · exact h.sub t (Bool.and_eq_true _ _ ▸ ht).1
  · by_cases e : t = s
    · subst e
      exact ⟨v', fp', fun z => atKey_put_same h.map (show WideAt.IsKeyLit (keyS t) from trivial) _ _, (hv i y h1 h2).move n fun k hk => far k (hfp k hk).1 (hfp k hk).2, fun k hk => ⟨(hfp k hk).1, Nat.lt_of_lt_of_le (hfp k hk).2 hg.size⟩⟩
    · rw [same_no e] at h3
      obtain ⟨u, fu, a, b, c⟩ := h.vals i t y h1 h2 (by simpa using h3)
      exact ⟨u, fu, fun z => by rw [atKey_put_other (fun e2 => e (keyS_inj e2))]; exact a z, b.move n fun k hk => far k (c k hk).1 (c k hk).2, fun k hk => ⟨(c k hk).1, Nat.lt_of_lt_of_le (c k hk).2 hg.size⟩⟩
theorem make_hint (c : Int) (w : World) : (Instr.makeMap 58 (some (.int .i64 c))).run Try.prog w = .ok (.map (some w.heap.size)) (w.alloc (.map #[] 0)) := by kernel_rfl
theorem map_eqn (b : Nat) (w : World) : (binOp .eql 58 (.map (some b)) (.map none)).run Try.prog w = .ok (.bool false) w := by kernel_rfl
/-- All are there: the copy is a map that stands for the same table. -/
theorem CM.done {n : Nat} {w W : World} {x : S26} {vs : List Value} {m low : Nat} {left : Lit → Bool} {D : DataW Value} {c : Nat} (h : CM n w x vs m low left D c W) (h7 : x.f0 = 7) (hrs : Rising x.f5) (hl : x.f5.length = x.f6.length) (hvl : vs.length = x.f6.length) (h0 : ∀ kl, left kl = false) (hc : c ≤ x.f5.length) :
    ∃ vs' ps, Rep (n + 1) W (.iface 58 (.map (some m))) x (m :: ps) ∧ (∀ k ∈ ps, low < k ∧ k < W.heap.size) ∧ vs'.length = x.f6.length ∧ MapAt W m (x.f5.zip vs') := by
  obtain ⟨vs', ps, ha, hk⟩ := choose3 (Q := fun v' y p => Rep n W v' y p ∧ ∀ k ∈ p, low < k ∧ k < W.heap.size) x.f6 (fun i v' => ∀ s, x.f5[i]? = some s → ∀ z, D.atKey (keyS s) z = .held v') (fun i hi => by
    have h5 : i < x.f5.length := by omega
    obtain ⟨v', fp', a, b, d⟩ := h.vals i x.f5[i] x.f6[i] (List.getElem?_eq_getElem h5) (List.getElem?_eq_getElem hi) (h0 _)
    refine ⟨v', fp', fun s hs => ?_, b, d⟩
    rw [List.getElem?_eq_getElem h5] at hs
    cases hs
    exact a)
  obtain ⟨ha1, hf⟩ := all3_flat ha
  have hvl' := ha1.len.1
  have hma : MapAt W m (x.f5.zip vs') := by
    refine ⟨D, h.own.mono (by rw [List.length_zip]; omega), h.map, fun s => ?_⟩
    have e1 : (look (x.f5.zip vs') s).isSome = (look (x.f5.zip vs) s).isSome := by
      by_cases hm : s ∈ x.f5
      · obtain ⟨i, hi⟩ := List.getElem?_of_mem hm
        have hi5 := (List.getElem?_eq_some_iff.1 hi).1
        rw [lk_at (rising_nodup hrs) i hi (List.getElem?_eq_getElem (by omega : i < vs'.length)), lk_at (rising_nodup hrs) i hi (List.getElem?_eq_getElem (by omega : i < vs.length))]
        rfl
      · rw [lk_none hm, lk_none hm]
    refine ⟨by rw [h.has, h0, e1]; simp, fun v hv z => ?_⟩
    obtain ⟨i, h1, h2⟩ := look_get hv
    exact hk i v h2 s h1 z
  exact ⟨vs', ps.flatten, Rep.mk (.inr (.inr (.inr (.inr (.inr (.inr ⟨h7, m, vs', ps, rfl, hl, hma, ha1, rfl⟩)))))), hf, hvl', hma⟩
theorem ranges_same {W W2 : World} {b r n : Nat} {D : DataW Value} {left : Lit → Bool} {cnt : Nat} (h : W.ranges Try.prog 9 hR b r n D left cnt) (hb : W2.heap[b]? = W.heap[b]?) (hr : W2.heap[r]? = W.heap[r]?) : W2.ranges Try.prog 9 hR b r n D left cnt := by
  obtain ⟨es, clock, since, seen, c0, h1, h2, h3, h4, h5, h6⟩ := h
  exact ⟨es, clock, since, seen, c0, hb.trans h1, h2, h3, h4, hr.trans h5, h6⟩
theorem CM.start {n : Nat} {w w0 : World} {x : S26} {vs : List Value} {D : DataW Value} (hrs : Rising x.f5) (_hl : x.f5.length = x.f6.length) (hvl : vs.length = x.f6.length) (hdl : ∀ s, Maps.has D (keyS s) = (look (x.f5.zip vs) s).isSome ∧ ∀ v, look (x.f5.zip vs) s = some v → ∀ z, D.atKey (keyS s) z = .held v) (hg : (w.alloc (.map #[] 0)).grownBy w0 none) :
    CM n w x vs w.heap.size (w.heap.size + 1) (Maps.has D) (.map []) 0 w0 := by
  refine ⟨(World.ownsMap_made w Try.prog 9 hR).kept hg (by simp), isMap_empty, fun s => ?_, fun s hs => by rw [← (hdl s).1]; exact hs, fun i s y h1 h2 h3 => ?_, below_grown (below_alloc (Below.refl _ _) _) (hg.but (some w.heap.size)) (Nat.le_refl _)⟩
  · rw [(hdl s).1]
    show false = _
    cases (look (x.f5.zip vs) s).isSome <;> rfl
  · exfalso
    have hi := (List.getElem?_eq_some_iff.1 h2).1
    rw [(hdl s).1, lk_at (rising_nodup hrs) i h1 (List.getElem?_eq_getElem (by omega : i < vs.length))] at h3
    cases h3
/-- An entry that has come. -/
theorem entry_of {n : Nat} {w : World} {x : S26} {vs : List Value} {fps : List (List Nat)} {D : DataW Value} {s : ByteArray} {v : Value} (hall : All3 (Rep n w) vs x.f6 fps) (hrs : Rising x.f5) (hl : x.f5.length = x.f6.length) (hdl : ∀ s, Maps.has D (keyS s) = (look (x.f5.zip vs) s).isSome ∧ ∀ v, look (x.f5.zip vs) s = some v → ∀ z, D.atKey (keyS s) z = .held v)
    (hi : (look (x.f5.zip vs) s).isSome = true) (hat : ∀ z, D.atKey (keyS s) z = .held v) : ∃ y fp, y ∈ x.f6 ∧ fp ∈ fps ∧ s ∈ x.f5 ∧ Rep n w v y fp ∧ (∃ j, ∃ h : j < x.f6.length, x.f6[j] = y) ∧ ∀ (i : Nat) (y' : S26), x.f5[i]? = some s → x.f6[i]? = some y' → y' = y := by
  obtain ⟨v0, hv0⟩ := Option.isSome_iff_exists.1 hi
  have e : v = v0 := by
    have h1 := (hdl s).2 v0 hv0 (.held v)
    rw [hat] at h1
    cases h1
    rfl
  subst e
  obtain ⟨i, h1, h2⟩ := look_get hv0
  obtain ⟨hi5, hs⟩ := List.getElem?_eq_some_iff.1 h1
  obtain ⟨hiv, hv⟩ := List.getElem?_eq_some_iff.1 h2
  have hi6 : i < x.f6.length := by omega
  obtain ⟨fp, hf, hr⟩ := hall.get i hiv hi6
  rw [hv] at hr
  refine ⟨x.f6[i], fp, List.getElem_mem hi6, hf, List.mem_of_getElem? h1, hr, ⟨i, hi6, rfl⟩, fun i' y' h3 h4 => ?_⟩
  have e : i = i' := (List.getElem?_inj hi5 (rising_nodup hrs)).1 (h1.trans h3.symm)
  subst e
  rw [List.getElem?_eq_getElem hi6] at h4
  exact (Option.some.inj h4).symm
set_option maxRecDepth 100000 in
set_option maxHeartbeats 4000000 in
theorem copy_map (n : Nat) (ih : CopyC n) (x : S26) (b : Nat) (vs : List Value) (fps : List (List Nat)) (w : World) (h7 : x.f0 = 7) (hl : x.f5.length = x.f6.length) (hm : MapAt w b (x.f5.zip vs)) (hall : All3 (Rep n w) vs x.f6 fps) (hrs : Rising x.f5) (hr : ∀ y ∈ x.f6, Rt n y) (hks : ∀ s ∈ x.f5, s.size ≤ maxLen) (hsm : ∀ y ∈ x.f6, Sm n y) (hc : cnt (n + 1) x ≤ 2000) (hlt : ∀ k ∈ b :: fps.flatten, k < w.heap.size) :
    Calls Try.prog 92 #[.map (some b)] w fun e w' => Below w.heap.size w w' ∧ ∃ m vs' ps, e = .returned (.map (some m)) ∧ Rep (n + 1) w' (.iface 58 (.map (some m))) x (m :: ps) ∧ w.heap.size ≤ m ∧ (∀ k ∈ ps, m < k ∧ k < w'.heap.size) ∧ vs'.length = x.f6.length ∧ MapAt w' m (x.f5.zip vs') := by
  have LL : x.f6.length ≤ 2000 := by have := len_le hr; unfold HVal.cnt at hc; omega
  have hvl := hall.len.1
  obtain ⟨D, hown, him, hdl⟩ := hm
  have hkl : (x.f5.zip vs).length = x.f5.length := by rw [List.length_zip]; omega
  rw [hkl] at hown
  have hmk := make_hint
  have hne := map_eqn
  have HALL := Aside0.mk hall
  have HR := Aside0.mk hr
  have HSM := Aside0.mk hsm
  have HKS := Aside0.mk hks
  have HC := Aside0.mk hc
  have HLT := Aside0.mk hlt
  have HRS := Aside0.mk hrs
  have HL := Aside0.mk hl
  have HVL := Aside0.mk hvl
  have HLL := Aside0.mk LL
  have H7 := Aside0.mk h7
  have HDL := Aside0.mk hdl
  have HO := Aside0.mk hown
  have HO1 := Aside0.mk (hown.alloc (.map #[] 0))
  have IH := Aside0.mk ih
  have HSZ := Aside0.mk (show Maps.size D ≤ x.f5.length from hown.size_le)
  clear ih h7 hl hall hrs hr hks hsm hc hlt hvl hdl hkl hown LL
  go_enter Try.func92, Try.ntmps92
  go_wp2_with (first
    | (at_len; go_must (refine wpList_len_own _ rfl _ 58 rfl 9 20 Try.underlying58 hR b x.f5.length D rfl HO.out ?_))
    | (at_range; go_must (refine wpList_range_own _ rfl _ 58 rfl 9 20 law9 Try.underlying58 hR b x.f5.length D rfl HO1.out ?_; intro w0 hrg0 hg0 hs0)))
  go_frame
  simp only [World.size_alloc] at hrg0 ⊢
  have HCM := Aside0.mk (CM.start (n := n) HRS.out HL.out HVL.out HDL.out hg0)
  have HRG := Aside0.mk hrg0
  clear hrg0 hg0 hs0 HO1
  go_loopw [4, 5] (fun _k _v wr => ∃ (left : Lit → Bool) (cn c : Nat) (D' : DataW Value), Aside0 (wr.ranges Try.prog 9 hR b (w.heap.size + 1) x.f5.length D left cn) ∧ Aside0 (c + cn ≤ x.f5.length) ∧ Aside0 (CM n w x vs w.heap.size (w.heap.size + 1) left D' c wr)) (fun _ _ wr => wr.rangeLeft b (w.heap.size + 1))
  case atStart => exact ⟨_, _, 0, _, HRG, ⟨by rw [Nat.zero_add]; exact HSZ.out⟩, HCM⟩
  case round =>
    obtain ⟨left, cn, c, D', HG, HCT, HI⟩ := hrel
    clear HRG HCM
    go_wp2_with (at_next; go_must (refine wpList_next_ranges _ rfl _ rfl 9 law9 hR (fun s : ByteArray => Value.string s) (fun v => v) (fun key kl hk => by obtain ⟨s, h, _⟩ := keyOf_inv hk; exact ⟨s, h⟩) (fun v y _ => ⟨v, rfl⟩) b (w.heap.size + 1) x.f5.length _ _ _ rfl HG.out ?_ ?_))
    · intro hc0 hl0
      have HL0 := Aside0.mk hl0
      have HC0 := Aside0.mk (show c ≤ x.f5.length by have := HCT.out; omega)
      clear hc0 hl0
      go_wp2
      go_ret
      obtain ⟨vs', ps, h1, h2, h3, h4⟩ := HI.out.done H7.out HRS.out HL.out HVL.out HL0.out HC0.out
      exact ⟨HI.out.below, _, vs', ps, rfl, h1, Nat.le_refl _, fun k hk => ⟨by have := (h2 k hk).1; omega, (h2 k hk).2⟩, h3, h4⟩
    · intro s v kl yd yp w1 cnt1 hkey hleft hRv hat hrg1 hcl hg1 hs1 hen
      obtain ⟨s', e1, e2, hsz⟩ := keyOf_inv hkey
      cases e1
      subst e2
      simp only [hR, Option.some.injEq, Prod.mk.injEq] at hRv
      obtain ⟨rfl, rfl⟩ := hRv
      obtain ⟨y, fp, hy, hf, hsm5, hrep, ⟨jj, hj, hje⟩, huni⟩ := entry_of HALL.out HRS.out HL.out HDL.out (HI.out.sub s hleft) hat
      have hb1 : Below w.heap.size w w1 := below_grown HI.out.below hg1 (Nat.le_succ _)
      have fl : ∀ k ∈ fp, k < w.heap.size := fun k hk => HLT.out k (List.mem_cons_of_mem _ (List.mem_flatten.2 ⟨fp, hf, hk⟩))
      have HCC := Aside0.mk (IH.out y v fp w1 (hrep.move n fun k hk => hb1.block k (fl k hk)) (HR.out y hy) (HSM.out y hy) (by have h := sum_le n x.f6 jj hj; rw [hje] at h; have := HC.out; unfold HVal.cnt at this; omega) (fun k hk => Nat.lt_of_lt_of_le (fl k hk) hb1.size))
      have HRG1 := Aside0.mk hrg1
      have HCT1 := Aside0.mk (show c + 1 + cnt1 ≤ x.f5.length by have := HCT.out; omega)
      have HCL := Aside0.mk hcl
      have HI1 := Aside0.mk (HI.out.step hg1)
      have HUN := Aside0.mk huni
      have HSS := Aside0.mk hsz
      have HLF := Aside0.mk hleft
      have HBB := Aside0.mk (show b < w.heap.size from HLT.out b List.mem_cons_self)
      clear hkey hleft hat hrg1 hcl hg1 hs1 hsz hy hf hsm5 hrep hj hje huni hb1 fl HI HCT
      go_wp2_with (first
        | (go_at_call 114; go_must (refine HCC.out.mono ?_; rintro e w2 ⟨hb, v', fp', rfl, hrep, hfp⟩; have HI2 := Aside0.mk (HI1.out.later hb); have HRG2 := Aside0.mk (ranges_same HRG1.out (hb.block _ HRG1.out.owns.lt) (hb.block _ HRG1.out.lt)); have HRP := Aside0.mk hrep; have HFP := Aside0.mk hfp; have HLW := Aside0.mk (show w.heap.size + 1 < w1.heap.size from HRG1.out.lt); clear hb hrep hfp))
        | (at_mapUpdate; refine wpList_mapUpdate_own _ rfl _ _ _ 58 rfl 9 20 law9 Try.underlying58 hR _ _ D' rfl HI2.out.own ?_ _ _ _ rfl rfl (keyS_ok HSS.out) _ [] rfl ?_; (have := HCT1.out; have := HL.out; have := HLL.out; unfold maxLen; omega); intro W4 hown hg4; have hown4 := And.intro hown hg4; clear hown hg4))
      have HW := Aside0.mk (HRG2.out.kept hown4.2 (by have := HBB.out; simp; omega) (by simp))
      have HN := Aside0.mk (HI2.out.put (Nat.le_refl _) (Nat.le_succ _) HLF.out (fun i y' h1 h2 => by rw [HUN.out i y' h1 h2]; exact HRP.out) (fun k hk => ⟨Nat.lt_of_lt_of_le HLW.out (HFP.out k hk).1, (HFP.out k hk).2⟩) hown4.1 hown4.2)
      go_roundw
      case rel => exact ⟨_, _, _, _, _, _, _, _, _, _, _, ⟨_, cnt1, c + 1, _, HW, HCT1, HN⟩, rfl⟩
      case measure => rw [HW.out.left_eq, HG.out.left_eq]; exact HCL.out
set_option maxHeartbeats 4000000 in
theorem copy_table (n : Nat) (ih : CopyC n) (x : S26) (b : Nat) (vs : List Value) (fps : List (List Nat)) (w : World) (h7 : x.f0 = 7) (hl : x.f5.length = x.f6.length) (hm : MapAt w b (x.f5.zip vs)) (hall : All3 (Rep n w) vs x.f6 fps) (hrs : Rising x.f5) (hr : ∀ y ∈ x.f6, Rt n y) (hks : ∀ s ∈ x.f5, s.size ≤ maxLen) (hsm : ∀ y ∈ x.f6, Sm n y) (hc : cnt (n + 1) x ≤ 2000) (hlt : ∀ k ∈ b :: fps.flatten, k < w.heap.size) :
    Calls Try.prog 114 #[.iface 58 (.map (some b))] w (CopyPost (n + 1) w x) := by
  have HC := Aside0.mk (copy_map n ih x b vs fps w h7 hl hm hall hrs hr hks hsm hc hlt)
  have t6 := vs58_map
  clear ih h7 hl hm hall hrs hr hks hsm hc hlt
  go_enter Try.func114, Try.ntmps114
  go_wp2_with (go_at_call 92; go_must (refine HC.out.mono ?_; rintro e w1 ⟨hb, m, vs', ps, rfl, hrep, hm, hps, _, _⟩; have HB := Aside0.mk hb; have HR := Aside0.mk hrep; have HM := Aside0.mk hm; have HPS := Aside0.mk hps; have HML := Aside0.mk hrep; clear hb hrep hm hps))
  go_ret
  refine ⟨HB.out, _, _, rfl, HR.out, fun k hk => ?_⟩
  rcases List.mem_cons.1 hk with rfl | hk
  · refine ⟨HM.out, ?_⟩
    have h := HR.out
    unfold Rep at h
    rcases h with ⟨_, e, _⟩ | ⟨_, e, _⟩ | ⟨_, e, _⟩ | ⟨_, e, _⟩ | ⟨_, e, _⟩ | ⟨_, _, _, _, e, _⟩ | ⟨_, _, _, _, e, _, h2, _⟩
    all_goals cases e
    exact h2.lt
  · exact ⟨Nat.le_trans HM.out (Nat.le_of_lt (HPS.out k hk).1), (HPS.out k hk).2⟩
theorem copy_of : ∀ n, CopyC n
  | 0 => fun _ _ _ _ h => h.elim
  | n + 1 => fun x v fp w hrep hr hsm hc hlt => by
    have hk := rt_kids hr
    unfold Sm at hsm
    unfold Rep at hrep
    rcases hrep with ⟨h0, hv, _⟩ | ⟨h0, hv, _⟩ | ⟨h0, hv, _⟩ | ⟨h0, hv, _⟩ | ⟨h0, hv, _⟩ | ⟨h0, vs, fps, s, rfl, ho, ha, rfl⟩ | ⟨h0, b, vs, fps, rfl, hl, hm, ha, rfl⟩
    · exact copy_scalar n x v w (.inl ⟨h0, hv⟩)
    · exact copy_scalar n x v w (.inr (.inl ⟨h0, hv⟩))
    · exact copy_scalar n x v w (.inr (.inr (.inl ⟨h0, hv⟩)))
    · exact copy_scalar n x v w (.inr (.inr (.inr (.inl ⟨h0, hv⟩))))
    · exact copy_scalar n x v w (.inr (.inr (.inr (.inr ⟨h0, hv⟩))))
    · exact copy_list n (copy_of n) x s vs fps w h0 ho ha hk hsm.2 hc hlt
    · exact copy_table n (copy_of n) x b vs fps w h0 hl hm ha (rt_rises hr h0) hk hsm.1 hsm.2 hc hlt
end Go.Proofs.Ytjfbjkodjjlkiaa.HVal
/-! A map's own entry set anew while the map is ranged over. -/
namespace Go.Proofs.Ytjfbjkodjjlkiaa.HVal
open Go.RowKit Go.WideMaps Go.Maps Go.WideShapes
open Go.WideElems (Fit rd rg pl rd_key rd_val rg_of rd_mk)
open Go.ChangeMaps (setBlock modify_eq_set heap_setBlock_same heap_setBlock_other)
open Go.Proofs.YtjfbjkodjjlkiaaW.PrintWords Go.Proofs.YtjfbjkodjjlkiaaW.PrintLast Go.Proofs.YtjfbjkodjjlkiaaW.PrintMore Go.Proofs.Ytjfbjkodjjlkiaa.Plain Go.Proofs.Ytjfbjkodjjlkiaa.GTab

theorem filter_set {α : Type} (p : α → Bool) : ∀ (l : List α) (j : Nat) (a b : α), l[j]? = some a → p b = p a → ((l.set j b).filter p).length = (l.filter p).length
  | [], _, _, _, h, _ => by simp at h
  | x :: r, 0, a, b, h, e => by
    simp at h
    subst h
    rw [List.set_cons_zero, List.filter_cons, List.filter_cons, e]
    split <;> rfl
  | x :: r, j + 1, a, b, h, e => by
    have := filter_set p r j a b (by simpa using h) e
    rw [List.set_cons_succ, List.filter_cons, List.filter_cons]
    split <;> simp [this]
set_option maxRecDepth 100000 in
theorem ranges_put {W : World} {b r n : Nat} {D : DataW Value} {left : Lit → Bool} {cnt : Nat} (h : W.ranges Try.prog 9 hR b r n D left cnt) {s : ByteArray} (v : Value) (hs : s.size ≤ maxLen) (hn : n < maxLen) (hhas : Maps.has D (keyS s) = true) :
    ∃ W', (Instr.mapUpdate 58 (.map (some b)) (.string s) v).run Try.prog W = .ok () W' ∧ W'.ranges Try.prog 9 hR b r n (D.put (keyS s) (.held v)) left cnt ∧ W.grownBy W' (some b) := by
  have hne := h.ne
  have hz : (zeroValue 20).run Try.prog W = .ok .nilIface W := by kernel_rfl
  obtain ⟨es, clock, since, seen, c0, hb, F, hsz, rfl, hr, hold, rfl, hl1, hl2, hsc, hsk⟩ := h
  rcases law9.find W (keyS_ok hs) es.toList F.keys with ⟨h1, h2⟩ | ⟨j, e0, h1, h2, h3⟩
  · exfalso
    rcases Maps.fit_look false law9 Try.underlying58 hz hb F (keyS_ok hs) with ⟨_, _, hat⟩ | ⟨e0, y, hm, hk, _⟩
    · rw [Maps.has_false_of_atKey hat] at hhas
      cases hhas
    · exact h2 e0 hm hk
  · obtain ⟨es', clock', hrun, F', hput, _, _, _⟩ := Maps.fit_store (R' := hR) law9 Try.underlying58 hb F (Nat.lt_of_le_of_lt hsz hn) (fun _ _ _ _ hz => hz) (keyS_ok hs) (show hR v = some (.held v, []) from rfl)
    have hj : es[j]? = some e0 := by simpa using h2
    have hrun2 : (Instr.mapUpdate 58 (.map (some b)) (.string s) v).run Try.prog W = .ok () (setBlock W b (.map (es.modify j (fun e' => { e' with key := .string s, val := v })) clock)) := by
      simp [Instr.mapUpdate, run_underlying Try.underlying58, MapKept.run_getObj_map hb, law9.check W false (keyS_ok hs), h1, hj, h3, law9.stays W (keyS_ok hs), MapKept.run_setObj_map _ hb, Result.andThen, setBlock]
    have heq := hrun.symm.trans hrun2
    have hw : setBlock W b (.map es' clock') = setBlock W b (.map (es.modify j (fun e' => { e' with key := .string s, val := v })) clock) := by injection heq
    have hcell := (heap_setBlock_same hb (.map es' clock')).symm.trans ((congrArg (fun w : World => w.heap[b]?) hw).trans (heap_setBlock_same hb _))
    obtain ⟨e1, e2⟩ := Obj.map.inj (Option.some.inj hcell)
    subst e2
    have hlist : es'.toList = es.toList.set j { e0 with key := .string s, val := v } := by rw [e1, Array.toList_modify, modify_eq_set _ _ _ _ h2]
    have hjl : j < es.toList.length := (List.getElem?_eq_some_iff.1 h2).1
    have hmem0 : e0 ∈ es.toList := List.mem_of_getElem? h2
    have hk1 : (rg Try.prog 9 hR { e0 with key := .string s, val := v }).1 = keyS s := by rw [rg_of (rd_mk (keyS_ok hs) (show hR v = some (.held v, []) from rfl))]
    have hk0 : (rg Try.prog 9 hR e0).1 = keyS s := by
      obtain ⟨y, hy⟩ := F.reads e0 hmem0
      rw [rg_of hy]
      have := rd_key hy
      rw [h3, keyS_ok hs] at this
      exact (Option.some.inj this).symm
    have who : ∀ x ∈ es'.toList, x = { e0 with key := .string s, val := v } ∨ x ∈ es.toList := fun x hx => by
      rw [hlist] at hx
      obtain ⟨i, hi, ex⟩ := List.getElem_of_mem hx
      rw [List.getElem_set] at ex
      split at ex
      · exact Or.inl ex.symm
      · exact Or.inr (ex ▸ List.getElem_mem (by simpa using hi))
    refine ⟨_, hrun, ⟨es', clock', since, seen, c0, heap_setBlock_same hb _, F', by rw [e1]; simpa using hsz, by rw [DataW.put_eq, hput], (heap_setBlock_other hb _ hne).trans hr, fun x hx => ?_, ?_, fun x hx => ?_, fun kl hkl => ?_, hsc, hsk⟩, ⟨rfl, rfl, rfl, by simp [setBlock], fun i _ hi => heap_setBlock_other hb _ (fun e => hi (by rw [e]))⟩⟩
    · rcases who x hx with rfl | hx
      · exact hold e0 hmem0
      · exact hold x hx
    · have e3 : ∀ a : Array MapEntry, (leftOf a seen).size = (a.toList.filter fun e => !seen.contains e.born).length := fun a => by
        unfold leftOf
        rw [← Array.toList_filter, Array.length_toList]
      rw [e3, e3, hlist]
      exact filter_set _ _ _ e0 _ h2 rfl
    · rcases who x hx with rfl | hx
      · rw [hk1, ← hk0]
        exact hl1 e0 hmem0
      · exact hl1 x hx
    · obtain ⟨x, hx, hxk⟩ := hl2 kl hkl
      obtain ⟨i, hi⟩ := List.getElem?_of_mem hx
      by_cases e : j = i
      · subst e
        rw [h2] at hi
        cases hi
        exact ⟨_, by rw [hlist]; exact List.mem_of_getElem? (by rw [List.getElem?_set_self hjl]), hk1.trans (hk0.symm.trans hxk)⟩
      · exact ⟨x, by rw [hlist]; exact List.mem_of_getElem? (by rw [List.getElem?_set_ne e]; exact hi), hxk⟩
end Go.Proofs.Ytjfbjkodjjlkiaa.HVal
/-! What trimNilValues comes to: the table without its nulls. What trimNilValues comes to: the walk. What impl.TrimNulls and impl.IsTable come to. -/
/-! What trimNilValues comes to: the table without its nulls. -/
namespace Go.Proofs.Ytjfbjkodjjlkiaa.HVal
open Go.RowKit Go.WideMaps Go.Maps Go.Proofs.YtjfbjkodjjlkiaaW.PrintWords Go.Proofs.YtjfbjkodjjlkiaaW.PrintLast Go.Proofs.YtjfbjkodjjlkiaaW.PrintMore Go.Proofs.Ytjfbjkodjjlkiaa.Plain Go.Proofs.Ytjfbjkodjjlkiaa.GTab
attribute [local go_sem] run_store_flt

/-! ### plain facts -/
theorem mem_trimL {f : S26 → S26} {p : ByteArray × S26} : ∀ {ks : List ByteArray} {xs : List S26}, p ∈ trimL f ks xs ↔ ∃ (i : Nat) (y : S26), ks[i]? = some p.1 ∧ xs[i]? = some y ∧ p.2 = one f y ∧ p.2.f0 ≠ 0
  | [], _ => ⟨fun h => by simp [trimL] at h, fun ⟨i, y, h, _⟩ => by simp at h⟩
  | _ :: _, [] => ⟨fun h => by simp [trimL] at h, fun ⟨i, y, _, h, _⟩ => by simp at h⟩
  | k :: ks, x :: xs => by
    rw [trimL, List.mem_append, mem_trimL (ks := ks) (xs := xs)]
    constructor
    · rintro (h | ⟨i, y, h1, h2, h3⟩)
      · by_cases e : (one f x).f0 = 0
        · rw [if_pos e] at h
          cases h
        · rw [if_neg e, List.mem_singleton] at h
          subst h
          exact ⟨0, x, rfl, rfl, rfl, e⟩
      · exact ⟨i + 1, y, by simpa using h1, by simpa using h2, h3⟩
    · rintro ⟨i, y, h1, h2, h3, h4⟩
      cases i with
      | zero =>
        simp at h1 h2
        subst h2
        left
        rw [if_neg (by rw [← h3]; exact h4), List.mem_singleton]
        exact Prod.ext h1.symm h3
      | succ i => exact Or.inr ⟨i, y, by simpa using h1, by simpa using h2, h3, h4⟩
theorem trimL_sub {f : S26 → S26} : ∀ (ks : List ByteArray) (xs : List S26), ((trimL f ks xs).map (·.1)).Sublist ks
  | [], _ => by simp [trimL]
  | _ :: _, [] => by simp [trimL]
  | k :: ks, x :: xs => by
    rw [trimL, List.map_append]
    split
    · exact (trimL_sub ks xs).cons _
    · exact (trimL_sub ks xs).cons_cons _
theorem nodup_le {l1 : List ByteArray} : ∀ {l2 : List ByteArray}, l1.Nodup → (∀ a ∈ l1, a ∈ l2) → l1.length ≤ l2.length := by
  induction l1 with
  | nil => intro l2 _ _; exact Nat.zero_le _
  | cons a r ih =>
    intro l2 hn hs
    have ha : a ∈ l2 := hs a List.mem_cons_self
    have h1 := ih (l2 := l2.filter (fun b => decide (b ≠ a))) (List.nodup_cons.1 hn).2 fun b hb => List.mem_filter.2 ⟨hs b (List.mem_cons_of_mem _ hb), decide_eq_true fun e => by subst e; exact (List.nodup_cons.1 hn).1 hb⟩
    have h2 : (l2.filter (fun b => decide (b ≠ a))).length < l2.length := List.length_filter_lt_length_iff_exists.2 ⟨a, ha, by simp⟩
    rw [List.length_cons]
    omega
theorem turned_grown {W W2 : World} {b : Nat} (h : W.mapTurned W2 b) : W.grownBy W2 (some b) := by
  obtain ⟨es, c, es', c', hb, rfl⟩ := h
  exact ⟨rfl, rfl, rfl, by simp [ChangeMaps.setBlock], fun i _ hi => ChangeMaps.heap_setBlock_other hb _ (fun e => hi (by rw [e]))⟩
set_option maxRecDepth 100000 in
/-- A map has no more entries than it has keys. -/
theorem own_tight {W : World} {m n : Nat} {D : DataW Value} {ks : List ByteArray} (h : W.ownsMap Try.prog 9 hR m n D) (hk : ∀ t, Maps.has D (keyS t) = true → t ∈ ks) : W.ownsMap Try.prog 9 hR m ks.length D := by
  have hz : (zeroValue 20).run Try.prog W = .ok .nilIface W := by kernel_rfl
  obtain ⟨es, clock, hb, F, hs, rfl⟩ := h
  refine ⟨es, clock, hb, F, ?_, rfl⟩
  have hstr : ∀ e ∈ es.toList, ∃ t, e.key = .string t ∧ t ∈ ks := fun e he => by
    obtain ⟨y, hy⟩ := F.reads e he
    obtain ⟨t, h1, h2, h3⟩ := keyOf_inv (WideElems.rd_key hy)
    refine ⟨t, h1, hk t ?_⟩
    rcases Maps.fit_look false law9 Try.underlying58 hz hb F (keyS_ok h3) with ⟨_, hno, _⟩ | ⟨e0, y0, _, _, _, _, hat, _⟩
    · exact absurd h1 (hno e he)
    · exact has_true_of_atKey hat
  have hd : es.toList.Pairwise (fun x y => x.key ≠ y.key) := ((MapKept.stamped_iff es clock).1 F.stamped).2.2
  have key : ∀ l : List MapEntry, (∀ e ∈ l, ∃ t, e.key = .string t ∧ t ∈ ks) → l.Pairwise (fun x y => x.key ≠ y.key) → ∃ ts : List ByteArray, ts.length = l.length ∧ ts.Nodup ∧ (∀ t ∈ ts, t ∈ ks) ∧ ∀ t ∈ ts, ∃ e ∈ l, e.key = .string t := by
    intro l
    induction l with
    | nil => intro _ _; exact ⟨[], rfl, List.nodup_nil, fun t h => (nomatch h), fun t h => (nomatch h)⟩
    | cons a r ih =>
      intro h1 h2
      obtain ⟨ts, a1, a2, a3, a4⟩ := ih (fun e he => h1 e (List.mem_cons_of_mem _ he)) (List.pairwise_cons.1 h2).2
      obtain ⟨t, h3, h4⟩ := h1 a List.mem_cons_self
      refine ⟨t :: ts, by simp [a1], List.nodup_cons.2 ⟨fun hm => ?_, a2⟩, fun u hu => ?_, fun u hu => ?_⟩
      · obtain ⟨e, he, hek⟩ := a4 t hm
        exact (List.pairwise_cons.1 h2).1 e he (h3.trans hek.symm)
      · rcases List.mem_cons.1 hu with rfl | hu
        · exact h4
        · exact a3 u hu
      · rcases List.mem_cons.1 hu with rfl | hu
        · exact ⟨a, List.mem_cons_self, h3⟩
        · obtain ⟨e, he, hek⟩ := a4 u hu
          exact ⟨e, List.mem_cons_of_mem _ he, hek⟩
  obtain ⟨ts, h1, h2, h3, _⟩ := key es.toList hstr hd
  have := nodup_le h2 h3
  rw [h1, Array.length_toList] at this
  exact this
/-! ### while the map is gone through -/
def Held (n : Nat) (m r low : Nat) (D : DataW Value) (W : World) (s : ByteArray) (y : S26) : Prop := ∃ v fp, (∀ z, D.atKey (keyS s) z = .held v) ∧ Rep n W v y fp ∧ ∀ k ∈ fp, low ≤ k ∧ k ≠ m ∧ k ≠ r ∧ k < W.heap.size
structure TN (n : Nat) (w : World) (x : S26) (m r : Nat) (left : Lit → Bool) (D : DataW Value) (W : World) : Prop where
  map : IsMap D
  has : ∀ s, Maps.has D (keyS s) = true ↔ ∃ (i : Nat) (y : S26), x.f5[i]? = some s ∧ x.f6[i]? = some y ∧ (left (keyS s) = true ∨ (one (trim n) y).f0 ≠ 0)
  vals : ∀ (i : Nat) (s : ByteArray) (y : S26), x.f5[i]? = some s → x.f6[i]? = some y → (left (keyS s) = true → Held n m r w.heap.size D W s y) ∧ (left (keyS s) = false → (one (trim n) y).f0 ≠ 0 → Held n m r w.heap.size D W s (one (trim n) y))
  sub : ∀ s, left (keyS s) = true → s ∈ x.f5
  below : Below w.heap.size w W
theorem Held.move {n m r low : Nat} {D D2 : DataW Value} {W W2 : World} {s : ByteArray} {y : S26} (h : Held n m r low D W s y) (hd : ∀ z, D2.atKey (keyS s) z = D.atKey (keyS s) z) (hm : ∀ k, k ≠ m → k ≠ r → k < W.heap.size → W2.heap[k]? = W.heap[k]?) (hs : W.heap.size ≤ W2.heap.size) : Held n m r low D2 W2 s y := by
  obtain ⟨v, fp, a, b, c⟩ := h
  exact ⟨v, fp, fun z => (hd z).trans (a z), b.move n fun k hk => hm k (c k hk).2.1 (c k hk).2.2.1 (c k hk).2.2.2, fun k hk => ⟨(c k hk).1, (c k hk).2.1, (c k hk).2.2.1, Nat.lt_of_lt_of_le (c k hk).2.2.2 hs⟩⟩
/-- The world moves on; the map stays. -/
theorem TN.move {n : Nat} {w W W2 : World} {x : S26} {m r : Nat} {left : Lit → Bool} {D : DataW Value} (h : TN n w x m r left D W) (hm : ∀ k, k ≠ m → k ≠ r → k < W.heap.size → W2.heap[k]? = W.heap[k]?) (hs : W.heap.size ≤ W2.heap.size) (hb : Below w.heap.size w W2) : TN n w x m r left D W2 :=
  ⟨h.map, h.has, fun i s y h1 h2 => ⟨fun hl => ((h.vals i s y h1 h2).1 hl).move (fun _ => rfl) hm hs, fun hl h0 => ((h.vals i s y h1 h2).2 hl h0).move (fun _ => rfl) hm hs⟩, h.sub, hb⟩
/-- One entry is done. -/
theorem TN.next {n : Nat} {w W W2 : World} {x : S26} {m r : Nat} {left : Lit → Bool} {D D2 : DataW Value} {s : ByteArray} {i0 : Nat} {y0 : S26} (h : TN n w x m r left D W) (hrs : Rising x.f5) (h5 : x.f5[i0]? = some s) (h6 : x.f6[i0]? = some y0) (hmap : IsMap D2) (ho : ∀ t, t ≠ s → Maps.has D2 (keyS t) = Maps.has D (keyS t) ∧ ∀ z, D2.atKey (keyS t) z = D.atKey (keyS t) z)
    (hself : Maps.has D2 (keyS s) = true ↔ (one (trim n) y0).f0 ≠ 0) (hheld : (one (trim n) y0).f0 ≠ 0 → Held n m r w.heap.size D2 W2 s (one (trim n) y0)) (hm : ∀ k, k ≠ m → k ≠ r → k < W.heap.size → W2.heap[k]? = W.heap[k]?) (hs : W.heap.size ≤ W2.heap.size) (hb : Below w.heap.size w W2) :
    TN n w x m r (fun z => left z && !z.sameKey (keyS s)) D2 W2 := by
  have uni : ∀ (i : Nat) (y : S26), x.f5[i]? = some s → x.f6[i]? = some y → y = y0 := fun i y h1 h2 => by
    have e : i0 = i := (List.getElem?_inj (List.getElem?_eq_some_iff.1 h5).1 (rising_nodup hrs)).1 (h5.trans h1.symm)
    subst e
    exact Option.some.inj (h2.symm.trans h6)
  refine ⟨hmap, fun t => ?_, fun i t y h1 h2 => ?_, fun t ht => h.sub t (Bool.and_eq_true _ _ ▸ ht).1, hb⟩
  · by_cases e : t = s
    · subst e
      rw [hself, same_yes]
      constructor
      · intro h0
        exact ⟨i0, y0, h5, h6, Or.inr h0⟩
      · rintro ⟨i, y, h1, h2, h3⟩
        rw [uni i y h1 h2] at h3
        simpa using h3
    · rw [(ho t e).1, h.has, same_no e]
      simp
  · by_cases e : t = s
    · subst e
      rw [same_yes, uni i y h1 h2]
      exact ⟨fun hl => by simp at hl, fun _ h0 => hheld h0⟩
    · rw [same_no e]
      exact ⟨fun hl => ((h.vals i t y h1 h2).1 (by simpa using hl)).move (ho t e).2 hm hs, fun hl h0 => ((h.vals i t y h1 h2).2 (by simpa using hl) h0).move (ho t e).2 hm hs⟩
/-- All are done: the map stands for the table without its nulls. -/
theorem TN.done {n N : Nat} {w W : World} {x : S26} {m r : Nat} {left : Lit → Bool} {D : DataW Value} (h : TN n w x m r left D W) (hrs : Rising x.f5) (h0 : ∀ kl, left kl = false) (ho : W.ownsMap Try.prog 9 hR m N D) : ∃ ps, Rep (n + 1) W (.iface 58 (.map (some m))) (trim (n + 1) x) (m :: ps) ∧ ∀ k ∈ ps, w.heap.size ≤ k ∧ k < W.heap.size := by
  obtain ⟨L, hL⟩ : ∃ L, trimL (trim n) x.f5 x.f6 = L := ⟨_, rfl⟩
  have hmem := fun p => mem_trimL (f := trim n) (p := p) (ks := x.f5) (xs := x.f6)
  rw [hL] at hmem
  have hnd : (L.map (·.1)).Nodup := by rw [← hL]; exact (trimL_sub (f := trim n) x.f5 x.f6).nodup (rising_nodup hrs)
  have hhas : ∀ t, Maps.has D (keyS t) = true ↔ t ∈ L.map (·.1) := fun t => by
    rw [h.has, List.mem_map]
    constructor
    · rintro ⟨i, y, h1, h2, h3⟩
      rw [h0] at h3
      exact ⟨(t, one (trim n) y), (hmem _).2 ⟨i, y, h1, h2, rfl, h3.resolve_left (fun e => by cases e)⟩, rfl⟩
    · rintro ⟨p, hp, rfl⟩
      obtain ⟨i, y, h1, h2, h3, h4⟩ := (hmem p).1 hp
      exact ⟨i, y, h1, h2, Or.inr (by rw [← h3]; exact h4)⟩
  obtain ⟨vs, ps, ha, hk⟩ := choose3 (Q := fun v' y p => Rep n W v' y p ∧ ∀ k ∈ p, w.heap.size ≤ k ∧ k < W.heap.size) (L.map (·.2)) (fun j v' => ∀ s, (L.map (·.1))[j]? = some s → ∀ z, D.atKey (keyS s) z = .held v') (fun j hj => by
    have hj' : j < L.length := by simpa using hj
    obtain ⟨i, y, h1, h2, h3, h4⟩ := (hmem L[j]).1 (List.getElem_mem hj')
    obtain ⟨v, fp, a, b, c⟩ := (h.vals i L[j].1 y h1 h2).2 (h0 _) (by rw [← h3]; exact h4)
    refine ⟨v, fp, fun s hs => ?_, ?_, fun k hk => ⟨(c k hk).1, (c k hk).2.2.2⟩⟩
    · rw [List.getElem?_map, List.getElem?_eq_getElem hj'] at hs
      cases hs
      exact a
    · rw [List.getElem_map, h3]
      exact b)
  obtain ⟨ha1, hf⟩ := all3_flat ha
  have hl := ha1.len.1
  have hll : (L.map (·.1)).length = vs.length := by rw [hl, List.length_map, List.length_map]
  have ht : trim (n + 1) x = { z26 with f0 := 7, f5 := L.map (·.1), f6 := L.map (·.2) } := by rw [← hL]; rfl
  refine ⟨ps.flatten, ?_, hf⟩
  rw [ht]
  refine Rep.mk (.inr (.inr (.inr (.inr (.inr (.inr ⟨rfl, m, vs, ps, rfl, by simp, ⟨D, ?_, h.map, fun s => ?_⟩, ha1, rfl⟩))))))
  · have := own_tight ho (fun t ht => (hhas t).1 ht)
    rw [List.length_zip, ← hll, Nat.min_self]
    exact this
  · constructor
    · by_cases hm : s ∈ L.map (·.1)
      · obtain ⟨i, hi⟩ := List.getElem?_of_mem hm
        have hi5 := (List.getElem?_eq_some_iff.1 hi).1
        rw [(hhas s).2 hm, lk_at hnd i hi (List.getElem?_eq_getElem (by omega : i < vs.length))]
        rfl
      · have e : Maps.has D (keyS s) = false := by
          cases hb : Maps.has D (keyS s) with
          | false => rfl
          | true => exact absurd ((hhas s).1 hb) hm
        rw [e, lk_none hm]
        rfl
    · intro v hv z
      obtain ⟨i, h1, h2⟩ := look_get hv
      exact hk i v h2 s h1 z
end Go.Proofs.Ytjfbjkodjjlkiaa.HVal
/-! What trimNilValues comes to: the walk. -/
namespace Go.Proofs.Ytjfbjkodjjlkiaa.HVal
open Go.RowKit Go.WideMaps Go.Maps Go.Proofs.YtjfbjkodjjlkiaaW.PrintWords Go.Proofs.YtjfbjkodjjlkiaaW.PrintLast Go.Proofs.YtjfbjkodjjlkiaaW.PrintMore Go.Proofs.Ytjfbjkodjjlkiaa.Plain Go.Proofs.Ytjfbjkodjjlkiaa.GTab
attribute [local go_sem] run_store_flt

def TrimNC (n : Nat) : Prop := ∀ (x : S26) (b : Nat) (fp : List Nat) (w : World), Rep (n + 1) w (.iface 58 (.map (some b))) x fp → Rt (n + 1) x → Sm (n + 1) x → cnt (n + 1) x ≤ 2000 → (∀ k ∈ fp, k < w.heap.size) →
  Calls Try.prog 74 #[.map (some b)] w fun e w' => Below w.heap.size w w' ∧ ∃ m fp', e = .returned (.map (some m)) ∧ Rep (n + 1) w' (.iface 58 (.map (some m))) (trim (n + 1) x) fp' ∧ ∀ k ∈ fp', w.heap.size ≤ k ∧ k < w'.heap.size
theorem nil_eq (w : World) : (binOp .eql 20 .nilIface .nilIface).run Try.prog w = .ok (.bool true) w := by kernel_rfl
theorem nil_ne (t : TypeId) (u : Value) (w : World) : (binOp .eql 20 (.iface t u) .nilIface).run Try.prog w = .ok (.bool false) w := by kernel_rfl
theorem as58_sure (m : Option Nat) (w : World) : (Instr.typeAssert (.iface 58 (.map m)) 20 58 false).run Try.prog w = .ok (.map m) w := by kernel_rfl
theorem rep_map {n : Nat} {w : World} {b : Nat} {x : S26} {fp : List Nat} (h : Rep (n + 1) w (.iface 58 (.map (some b))) x fp) : ∃ vs fps, x.f0 = 7 ∧ x.f5.length = x.f6.length ∧ MapAt w b (x.f5.zip vs) ∧ All3 (Rep n w) vs x.f6 fps ∧ fp = b :: fps.flatten := by
  unfold Rep at h
  rcases h with ⟨_, e, _⟩ | ⟨_, e, _⟩ | ⟨_, e, _⟩ | ⟨_, e, _⟩ | ⟨_, e, _⟩ | ⟨_, _, _, _, e, _⟩ | ⟨h0, b', vs, fps, e, hl, hm, ha, hf⟩
  all_goals cases e
  exact ⟨vs, fps, h0, hl, hm, ha, hf⟩
theorem TN.start {n : Nat} {w w1 w0 : World} {x : S26} {m : Nat} {vs : List Value} {fps : List (List Nat)} {D : DataW Value} (hrs : Rising x.f5) (hl : x.f5.length = x.f6.length) (hall : All3 (Rep n w1) vs x.f6 fps) (him : IsMap D) (hdl : ∀ s, Maps.has D (keyS s) = (look (x.f5.zip vs) s).isSome ∧ ∀ v, look (x.f5.zip vs) s = some v → ∀ z, D.atKey (keyS s) z = .held v)
    (hm : w.heap.size ≤ m) (hf : ∀ k ∈ fps.flatten, m < k ∧ k < w1.heap.size) (hb : Below w.heap.size w w1) (hg : w1.grownBy w0 none) : TN n w x m w1.heap.size (Maps.has D) D w0 := by
  have hvl := hall.len.1
  have at_ : ∀ (i : Nat) (s : ByteArray) (y : S26), x.f5[i]? = some s → x.f6[i]? = some y → ∃ v, look (x.f5.zip vs) s = some v ∧ ∃ fp, fp ∈ fps ∧ Rep n w1 v y fp := fun i s y h1 h2 => by
    obtain ⟨hi6, rfl⟩ := List.getElem?_eq_some_iff.1 h2
    obtain ⟨fp, hfp, hr⟩ := hall.get i (by omega) hi6
    exact ⟨vs[i], lk_at (rising_nodup hrs) i h1 (List.getElem?_eq_getElem (by omega)), fp, hfp, hr⟩
  refine ⟨him, fun s => ⟨fun h => ?_, fun ⟨i, y, h1, h2, _⟩ => ?_⟩, fun i s y h1 h2 => ⟨fun _ => ?_, fun h0 => ?_⟩, fun s h => ?_, hb.trans ⟨hg.os, hg.tape, hg.output, hg.size, fun k hk => hg.block k (Nat.lt_of_lt_of_le hk hb.size) (by simp)⟩⟩
  · have h' := h
    rw [(hdl s).1] at h'
    obtain ⟨v, hv⟩ := Option.isSome_iff_exists.1 h'
    obtain ⟨i, h1, h2⟩ := look_get hv
    have hi := (List.getElem?_eq_some_iff.1 h1).1
    exact ⟨i, x.f6[i]'(by omega), h1, List.getElem?_eq_getElem (by omega), Or.inl h⟩
  · obtain ⟨v, hv, _⟩ := at_ i s y h1 h2
    rw [(hdl s).1, hv]
    rfl
  · obtain ⟨v, hv, fp, hfp, hr⟩ := at_ i s y h1 h2
    refine ⟨v, fp, (hdl s).2 v hv, hr.move n fun k hk => hg.block k (hf k (List.mem_flatten.2 ⟨fp, hfp, hk⟩)).2 (by simp), fun k hk => ?_⟩
    have h3 := hf k (List.mem_flatten.2 ⟨fp, hfp, hk⟩)
    have h4 := hg.size
    exact ⟨by omega, by omega, by omega, by omega⟩
  · exfalso
    obtain ⟨v, hv, _⟩ := at_ i s y h1 h2
    rw [(hdl s).1, hv] at h0
    cases h0
  · rw [(hdl s).1] at h
    obtain ⟨v, hv⟩ := Option.isSome_iff_exists.1 h
    obtain ⟨i, h1, _⟩ := look_get hv
    exact List.mem_of_getElem? h1
/-- The entry that has come. -/
theorem TN.entry {n : Nat} {w W : World} {x : S26} {m r : Nat} {left : Lit → Bool} {D : DataW Value} {s : ByteArray} {v : Value} (h : TN n w x m r left D W) (hl : x.f5.length = x.f6.length) (hs : left (keyS s) = true) (hat : ∀ z, D.atKey (keyS s) z = .held v) :
    ∃ (i : Nat) (y : S26) (fp : List Nat), x.f5[i]? = some s ∧ x.f6[i]? = some y ∧ y ∈ x.f6 ∧ (∃ j, ∃ hj : j < x.f6.length, x.f6[j] = y) ∧ Rep n W v y fp ∧ ∀ k ∈ fp, w.heap.size ≤ k ∧ k ≠ m ∧ k ≠ r ∧ k < W.heap.size := by
  obtain ⟨i, hi⟩ := List.getElem?_of_mem (h.sub s hs)
  have hi5 := (List.getElem?_eq_some_iff.1 hi).1
  have hi6 : i < x.f6.length := by omega
  obtain ⟨v', fp, a, b, c⟩ := (h.vals i s x.f6[i] hi (List.getElem?_eq_getElem hi6)).1 hs
  have e : v = v' := by
    have h1 := a .nil
    rw [hat] at h1
    cases h1
    rfl
  subst e
  exact ⟨i, x.f6[i], fp, hi, List.getElem?_eq_getElem hi6, List.getElem_mem hi6, ⟨i, hi6, rfl⟩, b, c⟩
theorem tn_put {n : Nat} {w W w5 W4 : World} {x : S26} {m r N cn : Nat} {left left2 : Lit → Bool} {D : DataW Value} {s : ByteArray} {i0 : Nat} {y0 : S26} {m2 : Nat} {fp2 : List Nat} (h : TN (n + 1) w x m r left D W) (hrs : Rising x.f5) (h5 : x.f5[i0]? = some s) (h6 : x.f6[i0]? = some y0) (ho : one (trim (n + 1)) y0 = trim (n + 1) y0) (hwm : w.heap.size ≤ m)
    (hrg : W.ranges Try.prog 9 hR m r N D left2 cn) (hb : Below W.heap.size W w5) (hg : w5.grownBy W4 (some m)) (hrep : Rep (n + 1) w5 (.iface 58 (.map (some m2))) (trim (n + 1) y0) fp2) (hf : ∀ k ∈ fp2, W.heap.size ≤ k ∧ k < w5.heap.size) :
    TN (n + 1) w x m r (fun z => left z && !z.sameKey (keyS s)) (D.put (keyS s) (.held (.iface 58 (.map (some m2))))) W4 := by
  have hml := hrg.owns.lt
  have hrl := hrg.lt
  have h7 : (one (trim (n + 1)) y0).f0 ≠ 0 := by rw [ho]; show (7 : Int) ≠ 0; decide
  have ws : w.heap.size ≤ W.heap.size := h.below.size
  refine h.next hrs h5 h6 (h.map.put _ _) (fun t e => ⟨has_put_other (fun e2 => e (keyS_inj e2)) _, fun z => atKey_put_other (fun e2 => e (keyS_inj e2)) _ z⟩) ⟨fun _ => h7, fun _ => has_put_same h.map (show WideAt.IsKeyLit (keyS s) from trivial) _⟩ (fun _ => ?_) (fun k h2 _ h3 => (hg.block k (Nat.lt_of_lt_of_le h3 hb.size) (fun e => h2 (Option.some.inj e))).trans (hb.block k h3)) (Nat.le_trans hb.size hg.size) (below_grown (below_step h.below hb) hg hwm)
  rw [ho]
  refine ⟨_, fp2, fun z => atKey_put_same h.map (show WideAt.IsKeyLit (keyS s) from trivial) _ z, hrep.move _ fun k hk => hg.block k (hf k hk).2 (fun e => by have := (hf k hk).1; have := Option.some.inj e; omega), fun k hk => ?_⟩
  have h1 := hf k hk
  have h2 := hg.size
  exact ⟨by omega, by omega, by omega, by omega⟩
set_option maxRecDepth 100000 in
set_option maxHeartbeats 4000000 in
theorem trimnil_step (n : Nat) (ih : ∀ n', n = n' + 1 → TrimNC n') : TrimNC n := fun x b fp w hrep hr hsm hc hlt => by
  obtain ⟨vs, fps, h7, hl, hm, hall, rfl⟩ := rep_map hrep
  have hkr := rt_kids hr
  have hrs := rt_rises hr h7
  have hs2 := hsm
  unfold Sm at hs2
  have HCM := Aside0.mk (copy_map n (copy_of n) x b vs fps w h7 hl hm hall hrs hkr hs2.1 hs2.2 hc hlt)
  have HR := Aside0.mk hkr
  have HSM := Aside0.mk hs2.2
  have HC := Aside0.mk hc
  have HRS := Aside0.mk hrs
  have HL := Aside0.mk hl
  have HLL := Aside0.mk (show x.f6.length ≤ 2000 by have := len_le hkr; unfold cnt at hc; omega)
  have IH := Aside0.mk ih
  have e1 := nil_eq
  have e2 := nil_ne
  have e3 := as58_sure
  clear ih hrep hr hsm hc hlt h7 hl hm hall hkr hrs hs2
  go_enter Try.func74, Try.ntmps74
  go_wp2_with (first
    | (go_at_call 92; go_must (refine HCM.out.mono ?_; rintro e w1 ⟨hb, m, vs', ps, rfl, hrep, hwm, hps, _, _⟩; obtain ⟨vs1, fps1, _, _, hm1, hall1, hpe⟩ := rep_map hrep; obtain ⟨D, hown, him, hdl⟩ := hm1; have hps2 : ps = fps1.flatten := (List.cons.inj hpe).2; subst hps2; have HO := Aside0.mk hown; have HTN := Aside0.mk (fun w0 (hg : w1.grownBy w0 none) => TN.start HRS.out HL.out hall1 him hdl hwm hps hb hg); have HZ := Aside0.mk (show (x.f5.zip vs1).length ≤ x.f5.length by rw [List.length_zip]; omega); have HWM := Aside0.mk hwm; have HML := Aside0.mk hown.lt; clear hb hrep hwm hps hall1 hpe hown him hdl HCM))
    | (at_range; go_must (refine wpList_range_own _ rfl _ 58 rfl 9 20 law9 Try.underlying58 hR m _ D rfl HO.out ?_; intro w0 hrg0 hg0 hs0)))
  go_frame
  have HT0 := Aside0.mk (HTN.out _ hg0)
  have HRG := Aside0.mk hrg0
  clear hrg0 hg0 hs0 HTN
  obtain ⟨N, hN⟩ : ∃ N, (x.f5.zip vs1).length = N := ⟨_, rfl⟩
  rw [hN] at HRG HZ
  clear hN HO
  obtain ⟨r, hr⟩ : ∃ r, w1.heap.size = r := ⟨_, rfl⟩
  rw [hr] at HT0 HRG HML ⊢
  have HWR := Aside0.mk (show w.heap.size ≤ r by have := HWM.out; have := HML.out; omega)
  clear hr
  go_loopw [4, 5] (fun _k _v wr => ∃ (left : Lit → Bool) (cn : Nat) (D' : DataW Value), Aside0 (wr.ranges Try.prog 9 hR m r N D' left cn) ∧ Aside0 (TN n w x m r left D' wr)) (fun _ _ wr => wr.rangeLeft m r)
  case atStart => exact ⟨_, _, _, HRG, HT0⟩
  case round =>
    obtain ⟨left, cn, D', HG, HI⟩ := hrel
    clear HRG HT0
    go_wp2_with (at_next; go_must (refine wpList_next_ranges _ rfl _ rfl 9 law9 hR (fun s : ByteArray => Value.string s) (fun v => v) (fun key kl hk => by obtain ⟨s, h, _⟩ := keyOf_inv hk; exact ⟨s, h⟩) (fun v y _ => ⟨v, rfl⟩) m r _ _ _ _ rfl HG.out ?_ ?_))
    · intro hc0 hl0
      have HL0 := Aside0.mk hl0
      clear hc0 hl0
      go_wp2
      go_ret
      obtain ⟨ps, h1, h2⟩ := HI.out.done HRS.out HL0.out HG.out.owns
      exact ⟨HI.out.below, m, _, rfl, h1, fun k hk => by
        rcases List.mem_cons.1 hk with rfl | hk
        · exact ⟨HWM.out, HG.out.owns.lt⟩
        · exact h2 k hk⟩
    · intro s v kl yd yp w3 cnt1 hkey hleft hRv hat hrg1 hcl hg1 hs1 hen
      obtain ⟨s', e1, e2, hsz⟩ := keyOf_inv hkey
      cases e1
      subst e2
      simp only [hR, Option.some.injEq, Prod.mk.injEq] at hRv
      obtain ⟨rfl, rfl⟩ := hRv
      have hfr : ∀ k, k ≠ m → k ≠ r → k < wr.heap.size → w3.heap[k]? = wr.heap[k]? := fun k _ h2 h3 => hg1.block k h3 (fun e => h2 (Option.some.inj e))
      have hbe : Below w.heap.size w w3 := below_grown HI.out.below hg1 HWR.out
      have HI1 := Aside0.mk (HI.out.move hfr hg1.size hbe)
      obtain ⟨i0, y0, fp0, h5, h6, hy, ⟨jj, hj, hje⟩, hrep, hfp⟩ := HI1.out.entry HL.out hleft hat
      have HRG1 := Aside0.mk hrg1
      have HCL := Aside0.mk hcl
      have HSS := Aside0.mk hsz
      have HLF := Aside0.mk hleft
      have H5 := Aside0.mk h5
      have H6 := Aside0.mk h6
      have HREP := Aside0.mk hrep
      have HFP := Aside0.mk hfp
      have HRY := Aside0.mk (HR.out y0 hy)
      have HSY := Aside0.mk (HSM.out y0 hy)
      have HCY := Aside0.mk (show cnt n y0 ≤ 2000 by have h := sum_le n x.f6 jj hj; rw [hje] at h; have := HC.out; unfold HVal.cnt at this; omega)
      have HHAS := Aside0.mk (has_true_of_atKey hat)
      have HAT := Aside0.mk hat
      have VF := hrep.form
      have VK := hrep.kind
      clear hkey hleft hat hrg1 hcl hg1 hs1 hsz hfr hbe h5 h6 hy hj hje hrep hfp HI
      by_cases h0 : y0.f0 = 0
      · have hv : v = .nilIface := by
          rcases VK with ⟨_, e⟩ | ⟨a, _⟩ | ⟨a, _⟩ | ⟨a, _⟩ | ⟨a, _⟩ | ⟨a, _⟩ | ⟨a, _⟩
          · exact e
          all_goals omega
        subst hv
        have HO := Aside0.mk (show (one (trim n) y0).f0 = 0 by unfold one; rw [if_neg (by omega)]; exact h0)
        clear VF VK h0
        go_wp2_with (at_delete; refine wpList_delete_ranges _ rfl _ _ 58 9 rfl 20 law9 Try.underlying58 hR m r _ _ _ _ rfl HRG1.out _ _ rfl (keyS_ok HSS.out) ?_; intro W4 cnt2 hrg2 hle hturn; rw [Maps.strike_twice] at hrg2; have hg4 := turned_grown hturn; have HRG2 := Aside0.mk hrg2; have HLE := Aside0.mk hle; have HN := Aside0.mk (HI1.out.next (W2 := W4) (D2 := D'.del (keyS s)) HRS.out H5.out H6.out (HI1.out.map.del _) (fun t e => ⟨has_del_other (fun e2 => e (keyS_inj e2)), fun z => atKey_del_other (fun e2 => e (keyS_inj e2)) z⟩) (by rw [has_del_same, HO.out]; simp) (fun h => absurd HO.out h) (fun k h2 _ h3 => hg4.block k h3 (fun e => h2 (Option.some.inj e))) hg4.size (below_grown HI1.out.below hg4 HWM.out)); clear hrg2 hle hturn hg4)
        go_roundw
        case rel => exact ⟨_, _, _, _, _, _, _, _, _, _, _, _, _, _, _, _, _, _, _, ⟨_, cnt2, _, HRG2, HN⟩, rfl⟩
        case measure => rw [HRG2.out.left_eq, HG.out.left_eq]; exact Nat.lt_of_le_of_lt HLE.out HCL.out
      · obtain ⟨vt, vu, rfl⟩ : ∃ vt vu, v = .iface vt vu := by
          rcases VF with rfl | h
          · rcases VK with ⟨a, _⟩ | ⟨_, e⟩ | ⟨_, e⟩ | ⟨_, e⟩ | ⟨_, e⟩ | ⟨_, _, e⟩ | ⟨_, _, e⟩
            · exact absurd a h0
            all_goals cases e
          · exact h
        by_cases h7 : y0.f0 = 7
        · obtain ⟨b2, hb2⟩ : ∃ b2, Value.iface vt vu = .iface 58 (.map (some b2)) := by
            rcases VK with ⟨a, _⟩ | ⟨a, _⟩ | ⟨a, _⟩ | ⟨a, _⟩ | ⟨a, _⟩ | ⟨a, _⟩ | ⟨_, b2, e⟩
            · omega
            · omega
            · omega
            · omega
            · omega
            · omega
            · exact ⟨b2, e⟩
          cases hb2
          obtain ⟨n', rfl⟩ : ∃ n', n = n' + 1 := by
            cases n with
            | zero => exact HREP.out.elim
            | succ n' => exact ⟨n', rfl⟩
          have HO := Aside0.mk (show one (trim (n' + 1)) y0 = trim (n' + 1) y0 by unfold one; rw [if_pos h7])
          have H7 := Aside0.mk (decide_eq_true h7)
          have HCA := Aside0.mk (IH.out n' rfl y0 b2 fp0 w3 HREP.out HRY.out HSY.out HCY.out (fun k hk => (HFP.out k hk).2.2.2))
          have HNM := Aside0.mk (show N < maxLen by have := HZ.out; have := HL.out; have := HLL.out; unfold maxLen; omega)
          clear VF VK h0 h7
          go_wp2_with (first
            | (go_at_call 75; go_must (refine (istable_calls HREP.out).mono ?_; rintro e w4 ⟨rfl, rfl⟩; rw [H7.out]))
            | (go_at_call 74; go_must (refine HCA.out.mono ?_; rintro e w5 ⟨hb, m2, fp2, rfl, hrep2, hf2⟩; have hr5 := ranges_same HRG1.out (hb.block m HRG1.out.owns.lt) (hb.block r HRG1.out.lt); obtain ⟨W4, hrun, hrg4, hg4⟩ := ranges_put hr5 (.iface 58 (.map (some m2))) HSS.out HNM.out HHAS.out; have HRG2 := Aside0.mk hrg4; have HN := Aside0.mk (tn_put HI1.out HRS.out H5.out H6.out HO.out HWM.out HRG1.out hb hg4 hrep2 hf2); clear hb hrep2 hf2 hr5 hrg4 hg4)))
          go_roundw
          case rel => exact ⟨_, cnt1, _, HRG2, HN⟩
          case measure => rw [HRG2.out.left_eq, HG.out.left_eq]; exact HCL.out
        · have HO := Aside0.mk (show one (trim n) y0 = y0 by unfold one; rw [if_neg h7])
          have H7 := Aside0.mk (decide_eq_false h7)
          have HN := Aside0.mk (HI1.out.next (W2 := w3) (D2 := D') HRS.out H5.out H6.out HI1.out.map (fun t _ => ⟨rfl, fun _ => rfl⟩) (by rw [HHAS.out, HO.out]; simp [h0]) (fun _ => by rw [HO.out]; exact ⟨_, fp0, HAT.out, HREP.out, HFP.out⟩) (fun _ _ _ _ => rfl) (Nat.le_refl _) HI1.out.below)
          clear VF VK h0 h7
          go_wp2_with (go_at_call 75; go_must (refine (istable_calls HREP.out).mono ?_; rintro e w4 ⟨rfl, rfl⟩; rw [H7.out]))
          go_roundw
          case rel => exact ⟨_, cnt1, _, HRG1, HN⟩
          case measure => rw [HRG1.out.left_eq, HG.out.left_eq]; exact HCL.out
theorem trimnil_of : ∀ n, TrimNC n
  | 0 => trimnil_step 0 fun n' h => by omega
  | n + 1 => trimnil_step (n + 1) fun n' h => by
    have e : n' = n := by omega
    subst e
    exact trimnil_of n'
set_option maxHeartbeats 4000000 in
theorem zztrim_calls (n : Nat) (x : S26) (b : Nat) (fp : List Nat) (w : World) (hrep : Rep (n + 1) w (.iface 58 (.map (some b))) x fp) (hr : Rt (n + 1) x) (hsm : Sm (n + 1) x) (hc : cnt (n + 1) x ≤ 2000) (hlt : ∀ k ∈ fp, k < w.heap.size) :
    Calls Try.prog 47 #[.map (some b)] w fun e w' => Below w.heap.size w w' ∧ ∃ m fp', e = .returned (.map (some m)) ∧ Rep (n + 1) w' (.iface 58 (.map (some m))) (trim (n + 1) x) fp' ∧ ∀ k ∈ fp', w.heap.size ≤ k ∧ k < w'.heap.size := by
  have HC := Aside0.mk (trimnil_of n x b fp w hrep hr hsm hc hlt)
  clear hrep hr hsm hc hlt
  go_enter Try.func47, Try.ntmps47
  go_wp2_with (go_at_call 74; go_must (refine HC.out.mono ?_; rintro e w1 ⟨hb, m, fp', rfl, hrep, hf⟩; have HB := Aside0.mk hb; have HR := Aside0.mk hrep; have HF := Aside0.mk hf; clear hb hrep hf))
  go_ret
  exact ⟨HB.out, m, fp', rfl, HR.out, HF.out⟩
end Go.Proofs.Ytjfbjkodjjlkiaa.HVal
/-! What impl.TrimNulls and impl.IsTable come to. -/
namespace Go.Proofs.Ytjfbjkodjjlkiaa.HVal
open Go.RowKit Go.WideMaps Go.Maps Go.Proofs.YtjfbjkodjjlkiaaW.PrintWords Go.Proofs.YtjfbjkodjjlkiaaW.PrintLast Go.Proofs.YtjfbjkodjjlkiaaW.PrintMore Go.Proofs.Ytjfbjkodjjlkiaa.Plain Go.Proofs.Ytjfbjkodjjlkiaa.GTab
attribute [local go_sem] run_store_flt

/-! ### plain facts -/
theorem rt_trim : ∀ {n : Nat} {x : S26}, Rt n x → x.f0 = 7 → Rt n (trim n x)
  | 0, _, h, _ => h.elim
  | n + 1, x, h, h7 => by
    have hk := rt_kids h
    have hr := rt_rises h h7
    refine rt_table rfl ?_ ?_ fun z hz => ?_
    · exact List.Pairwise.sublist (trimL_sub (f := trim n) x.f5 x.f6) hr
    · show (List.map _ _).length = (List.map _ _).length
      rw [List.length_map, List.length_map]
    · obtain ⟨p, hp, rfl⟩ := List.mem_map.1 hz
      obtain ⟨i, y, _, h2, h3, _⟩ := mem_trimL.1 hp
      have hy : y ∈ x.f6 := List.mem_of_getElem? h2
      rw [h3]
      unfold one
      split
      · rename_i h70
        exact rt_trim (hk y hy) h70
      · exact hk y hy
theorem sm_trim : ∀ {n : Nat} {x : S26}, Sm n x → Sm n (trim n x)
  | 0, _, h => h
  | n + 1, x, h => by
    unfold Sm at h ⊢
    refine ⟨fun s hs => ?_, fun z hz => ?_⟩
    · exact h.1 s ((trimL_sub (f := trim n) x.f5 x.f6).subset hs)
    · obtain ⟨p, hp, rfl⟩ := List.mem_map.1 hz
      obtain ⟨i, y, _, h2, h3, _⟩ := mem_trimL.1 hp
      have hy : y ∈ x.f6 := List.mem_of_getElem? h2
      rw [h3]
      unfold one
      split
      · exact sm_trim (h.2 y hy)
      · exact h.2 y hy
theorem cnt_trimL {n : Nat} {f : S26 → S26} : ∀ (ks : List ByteArray) (xs : List S26), (∀ y ∈ xs, cnt n (one f y) ≤ cnt n y) → (((trimL f ks xs).map (·.2)).map (cnt n)).sum ≤ (xs.map (cnt n)).sum
  | [], _, _ => by simp [trimL]
  | _ :: _, [], _ => by simp [trimL]
  | k :: ks, x :: xs, h => by
    have h1 := cnt_trimL ks xs fun y hy => h y (List.mem_cons_of_mem _ hy)
    have h2 := h x List.mem_cons_self
    rw [trimL, List.map_append, List.map_append, List.sum_append, List.map_cons, List.sum_cons]
    split
    · simp only [List.map_nil, List.sum_nil]
      omega
    · simp only [List.map_cons, List.map_nil, List.sum_cons, List.sum_nil]
      omega
theorem cnt_trim : ∀ (n : Nat) (x : S26), cnt n (trim n x) ≤ cnt n x
  | 0, _ => Nat.le_refl _
  | n + 1, x => by
    have h := cnt_trimL (n := n) (f := trim n) x.f5 x.f6 fun y _ => by
      unfold one
      split
      · exact cnt_trim n y
      · exact Nat.le_refl _
    show 1 + (((trimL (trim n) x.f5 x.f6).map (·.2)).map (cnt n)).sum ≤ 1 + (x.f6.map (cnt n)).sum
    omega
/-! ### impl.IsTable -/
set_option maxHeartbeats 4000000 in
theorem zistab_calls {n : Nat} {w0 w : World} {v : Value} {y : S26} {fp : List Nat} (h : Rep n w0 v y fp) : Calls Try.prog 49 #[v] w fun e w' => e = .returned (.bool (decide (y.f0 = 7))) ∧ w' = w := by
  have HC := Aside0.mk (fun W : World => istable_calls (w := W) h)
  clear h
  go_enter Try.func49, Try.ntmps49
  go_wp2_with (go_at_call 75; go_must (refine (HC.out _).mono ?_; rintro e w1 ⟨rfl, rfl⟩))
  go_ret
  exact ⟨rfl, rfl⟩
set_option maxHeartbeats 4000000 in
theorem istab_calls (n : Nat) (x : S26) (A5 : Option Addr) (c5 : Nat) (A6 : Option Addr) (c6 : Nat) (P : Nat → Prop) (w : World) (hr : Rt n x) (hsm : Sm n x) (hv : KV w P x A5 c5 A6 c6) (hP : ∀ k, P k → k < w.heap.size) (hn : n ≤ 61) (hc : cnt n x ≤ 2000) :
    Calls Try.prog 16 #[agg26 x A5 c5 A6 c6] w (SamePost w (decide (x.f0 = 7))) := by
  have RT := Aside0.mk hr
  have SM := Aside0.mk hsm
  have HV := Aside0.mk hv
  have HP := Aside0.mk hP
  have HC := Aside0.mk hc
  clear hr hsm hv hP hc
  go_enter Try.func16, Try.ntmps16
  go_wp2_with fail
  go_at_call 48
  refine (any_of n x A5 c5 A6 c6 P 0 0 (w.heap.size + 1) _ RT.out SM.out ?_ ?_ (by omega) (by omega) (by omega) ?_ ?_).mono ?_
  · exact HV.out.below (below_alloc (below_alloc (Below.refl _ _) _) _)
  · intro k hk
    have := HP.out k hk
    simp only [World.size_alloc]
    omega
  · have := HC.out
    omega
  · have := blk_new (w.alloc (.cells #[.int .i64 x.f0, .bool x.f1, .int .i64 x.f2, .float .f64 x.f3, .string x.f4, .slice A5 x.f5.length c5, .slice A6 x.f6.length c6] 26)) (.cells #[.int .i64 0] 3)
    simpa using this
  rintro e W2 ⟨val, fp, rfl, hr, hn, hnew, hctr, hgr⟩
  have HB := Aside0.mk (below_grown (below_alloc (below_alloc (Below.refl _ w) _) _) hgr (Nat.le_succ _))
  have HR := Aside0.mk hr
  clear hr hn hnew hctr hgr
  go_wp2_with (go_at_call 49; go_must (refine (zistab_calls HR.out).mono ?_; rintro e w3 ⟨rfl, rfl⟩))
  go_ret
  exact ⟨rfl, HB.out⟩
/-! ### impl.TrimNulls -/
theorem catch44 (p1 p2 : Value) (w : World) : CallsD Try.prog 44 #[p1, p2] .returning w fun e u' w' => e = .returned (.tuple #[]) ∧ u' = .returning ∧ w' = w := by
  refine callsD_of_wpS Try.func44 rfl fun c₀ cs hu => ?_
  apply wpS_seq
  apply wpS_region
  simp [wpOpsS, go_sem, recoverD, hu, Try.ntmps44, Exit.thenS]
  refine wpS_cond (t := false) (by simp [Act.eval, Array.replicate]) ?_
  simp only [Bool.false_eq_true, if_false]
  refine wpS_of_wp (wp_skip ?_)
  cases c₀
  simp_all [bodyPostS, results, Try.results44]
set_option maxHeartbeats 4000000 in
theorem tni_calls (x : S26) (A5 : Option Addr) (c5 : Nat) (A6 : Option Addr) (c6 : Nat) (P : Nat → Prop) (w : World) (h7 : x.f0 = 7) (hr : Rt 50 x) (hsm : Sm 50 x) (hv : KV w P x A5 c5 A6 c6) (hP : ∀ k, P k → k < w.heap.size) (hc : cnt 50 x ≤ 300) :
    Calls Try.prog 13 #[agg26 x A5 c5 A6 c6] w (OkPost w (canon 50 (trim 50 x))) := by
  have hmf : ∀ (fn : Fn) (first cap : Array Value) (w : World), (Instr.makeFunc fn first cap).run Try.prog w = .ok (.func fn first cap) w := fun _ _ _ _ => rfl
  have H7 := Aside0.mk h7
  have RT := Aside0.mk hr
  have SM := Aside0.mk hsm
  have HV := Aside0.mk hv
  have HP := Aside0.mk hP
  have HC := Aside0.mk hc
  have RTN := Aside0.mk (rt_trim hr h7)
  have SMN := Aside0.mk (sm_trim hsm)
  have CN := Aside0.mk (show cnt 50 (trim 50 x) ≤ 2000 from Nat.le_trans (cnt_trim 50 x) (Nat.le_trans hc (by decide)))
  clear h7 hr hsm hv hP hc
  go_enter_defers Try.func13, Try.ntmps13
  have HR0 := Aside0.mk (Res.start w #[.int .i64 x.f0, .bool x.f1, .int .i64 x.f2, .float .f64 x.f3, .string x.f4, .slice A5 x.f5.length c5, .slice A6 x.f6.length c6])
  go_wp2_with (first
    | (go_at_call 45; go_must (
        refine (table_tvn 50 (by decide) x A5 c5 A6 c6 P _ H7.out RT.out SM.out (HV.out.below HR0.out.below) (fun k hk => Nat.lt_of_lt_of_le (HP.out k hk) HR0.out.below.size) (Nat.le_trans HC.out (by decide))).mono ?_
        rintro e w2 ⟨b, rfl, ⟨fp, t1, t2, t3, t4, t5⟩, hb⟩
        have HR2 := Aside0.mk (HR0.out.later hb)
        have HT := Aside0.mk (zztrim_calls 49 x b fp w2 t1 t2 t3 t4 t5)
        clear t1 t2 t3 t4 t5 hb))
    | (go_at_call 47; go_must (
        refine HT.out.mono ?_
        rintro e w3 ⟨hb, m, fp', rfl, hrp, hfp⟩
        have HR3 := Aside0.mk (HR2.out.later hb)
        have HRP := Aside0.mk hrp
        have HFP := Aside0.mk hfp
        clear hb hrp hfp))
    | (go_at_call 46; go_must (
        refine (val_of 50 (trim 50 x) _ fp' w3 HRP.out RTN.out SMN.out CN.out (fun k hk => (HFP.out k hk).2)).mono ?_
        intro e w4 hvp
        obtain ⟨B5, d5, B6, d6, Q, rfl, hv4, hQ, hb4⟩ := Val26.of hvp
        have HR4 := Aside0.mk (HR3.out.later hb4)
        have HV4 := Aside0.mk hv4
        have HQ := Aside0.mk hQ
        obtain ⟨⟨c0, c1, c2, c3, c4, c5', c6', c7⟩, f0, f1, f2, f3, f4, f5, f6, f7⟩ := HR4.out.cells
        clear hvp hv4 hQ hb4)))
  obtain ⟨z, hz⟩ : ∃ z, canon 50 (trim 50 x) = z := ⟨_, rfl⟩
  rw [hz] at HV4 ⊢
  have HF := Aside0.mk (finV_all HR4.out (Nat.le_succ _) HV4.out (fun k hk => by
    have h1 := HQ.out k hk
    have h2 := blk_lt HR3.out.b2
    omega) 0)
  obtain ⟨W5, hW5⟩ : ∃ W5, finV w4 (w.heap.size + 1) z B5 d5 B6 d6 0 = W5 := ⟨_, rfl⟩
  rw [hW5] at HF
  unfold finV fin26 at hW5
  rw [hW5]
  clear hW5
  refine leaves_cons (f := 44) (args := #[.pointer (some ⟨w.heap.size + 1, 0, none⟩), .pointer (some ⟨w.heap.size + 1 + 1, 0, none⟩)]) (by simp) (by simp [go_sem]) ?_
  refine (catch44 _ _ _).mono ?_
  rintro e u' w5 ⟨rfl, rfl, rfl⟩
  obtain ⟨g0, g1, g2, g3, g4, g5, g6, g7⟩ := HF.out.cells
  simp [Leaves, settle, results, Try.results13, go_sem, g0, g1, g2, g3, g4, g5, g6, g7]
  exact OkPost.of HF.out.below HF.out.val
end Go.Proofs.Ytjfbjkodjjlkiaa.HVal
/-! What concatPrefix comes to: a text that is no longer than both with a point between. -/
namespace Go.Proofs.Ytjfbjkodjjlkiaa.HVal
open Go.RowKit Go.WideMaps Go.Maps Go.Proofs.YtjfbjkodjjlkiaaW.PrintWords Go.Proofs.YtjfbjkodjjlkiaaW.PrintLast Go.Proofs.YtjfbjkodjjlkiaaW.PrintMore Go.Proofs.Ytjfbjkodjjlkiaa.Plain Go.Proofs.Ytjfbjkodjjlkiaa.GTab

set_option maxRecDepth 100000 in
set_option maxHeartbeats 2000000 in
theorem prefix_calls (a b : ByteArray) (w : World) (h : a.size + 1 + b.size ≤ 9223372036854775807) : Calls Try.prog 93 #[.string a, .string b] w fun e w' => (∃ s, e = .returned (.string s) ∧ s.size ≤ a.size + 1 + b.size) ∧ w' = w := by
  by_cases h0 : a = ⟨#[]⟩
  · subst h0
    go_enter Try.func93, Try.ntmps93
    go_wp2
    go_ret
    exact ⟨⟨_, rfl, Nat.le_add_left _ _⟩, rfl⟩
  · have hq : (a.toList == (ByteArray.mk #[]).toList) = false := by rw [beq_toList]; exact decide_eq_false h0
    have hq2 : ¬ a.toList = [] := fun e => by rw [show (ByteArray.mk #[]).toList = [] from by kernel_rfl, e] at hq; cases hq
    have hq3 : (a.toList == []) = false := by simpa using hq2
    have hq4 : a.toList.isEmpty = false := by simpa using hq2
    have q1 : ¬ 9223372036854775807 < a.size + 1 := by omega
    have q2 : ¬ 9223372036854775807 < a.size + 1 + b.size := by omega
    clear h
    go_enter Try.func93, Try.ntmps93
    go_wp2
    go_ret
    exact ⟨⟨_, rfl, by rw [ByteArray.size_append, ByteArray.size_append]; exact Nat.le_refl _⟩, rfl⟩
set_option maxHeartbeats 2000000 in
theorem printf_calls (s : ByteArray) (v : Value) (w : World) : Calls Try.prog 77 #[.string s, v] w fun e w' => e = .returned (.tuple #[]) ∧ w' = w := by
  go_enter Try.func77, Try.ntmps77
  go_wp2
  exact bodyPost_end (v := .tuple #[]) (by simp [results, Try.results77, go_sem]) rfl ⟨rfl, rfl⟩
end Go.Proofs.Ytjfbjkodjjlkiaa.HVal
/-! A map of keys that are in a set: what a look-up tells. -/
namespace Go.Proofs.Ytjfbjkodjjlkiaa.HVal
open Go.RowKit Go.WideMaps Go.Maps Go.Proofs.YtjfbjkodjjlkiaaW.PrintWords Go.Proofs.YtjfbjkodjjlkiaaW.PrintLast Go.Proofs.YtjfbjkodjjlkiaaW.PrintMore Go.Proofs.Ytjfbjkodjjlkiaa.Plain Go.Proofs.Ytjfbjkodjjlkiaa.GTab

/-- Block g is a map of just the keys of which q is true. -/
structure Bools (W : World) (g c : Nat) (q : ByteArray → Bool) (D : DataW Value) : Prop where
  own : W.ownsMap Try.prog 9 hR g c D
  map : IsMap D
  has : ∀ s, Maps.has D (keyS s) = q s
  val : ∀ s, q s = true → ∀ z, D.atKey (keyS s) z = .held (.bool true)
  non : ∀ s, q s = false → ∀ z, D.atKey (keyS s) z = z
theorem Bools.look {W : World} {g c : Nat} {q : ByteArray → Bool} {D : DataW Value} (h : Bools W g c q D) {s : ByteArray} (hs : s.size ≤ maxLen) : (Instr.lookup 114 (.map (some g)) (.string s) false).run Try.prog W = .ok (.bool (q s)) W := by
  have hz : (zeroValue 4).run Try.prog W = .ok (.bool false) W := by kernel_rfl
  obtain ⟨v, ps, hrun, hv⟩ := h.own.lookup law9 (t := 114) (e := 4) Try.underlying114 hz (zd := .held (.bool false)) (zp := []) rfl (keyS_ok hs)
  rw [hrun]
  cases hq : q s with
  | true =>
    rw [h.val s hq] at hv
    rw [hR_inv hv]
  | false =>
    rw [h.non s hq] at hv
    rw [hR_inv hv]
theorem Bools.made (W : World) : Bools (W.alloc (.map #[] 0)) W.heap.size 0 (fun _ => false) (.map []) :=
  ⟨World.ownsMap_made _ _ _ _, isMap_empty, fun _ => rfl, (fun _ h => (Bool.false_ne_true h).elim), fun _ _ _ => rfl⟩
theorem Bools.put {W W2 : World} {g c : Nat} {q : ByteArray → Bool} {D : DataW Value} {s : ByteArray} (h : Bools W g c q D) (ho : W2.ownsMap Try.prog 9 hR g (c + 1) (D.put (keyS s) (.held (.bool true)))) : Bools W2 g (c + 1) (fun t => decide (t = s) || q t) (D.put (keyS s) (.held (.bool true))) := by
  have hk : WideAt.IsKeyLit (keyS s) := trivial
  refine ⟨ho, h.map.put _ _, fun t => ?_, fun t ht z => ?_, fun t ht z => ?_⟩
  · by_cases e : t = s
    · subst e
      rw [has_put_same h.map hk]
      simp
    · rw [has_put_other (fun e2 => e (keyS_inj e2)), h.has]
      simp [e]
  · by_cases e : t = s
    · subst e
      exact atKey_put_same h.map hk _ _
    · rw [atKey_put_other (fun e2 => e (keyS_inj e2))]
      exact h.val t (by simpa [e] using ht) z
  · by_cases e : t = s
    · subst e
      simp at ht
    · rw [atKey_put_other (fun e2 => e (keyS_inj e2))]
      exact h.non t (by simpa [e] using ht) z
theorem Bools.same {W W2 : World} {g c : Nat} {q : ByteArray → Bool} {D : DataW Value} (h : Bools W g c q D) (hb : W2.heap[g]? = W.heap[g]?) : Bools W2 g c q D := by
  refine ⟨?_, h.map, h.has, h.val, h.non⟩
  obtain ⟨es, clock, hh, r⟩ := h.own
  exact ⟨es, clock, hb.trans hh, r⟩
end Go.Proofs.Ytjfbjkodjjlkiaa.HVal
/-! Tables as lists of entries with rising keys: an entry put, an entry taken out; what is found decides the list. -/
namespace Go.Proofs.Ytjfbjkodjjlkiaa.HVal
open Go.RowKit Go.WideMaps Go.Maps Go.Proofs.YtjfbjkodjjlkiaaW.PrintWords Go.Proofs.YtjfbjkodjjlkiaaW.PrintLast Go.Proofs.YtjfbjkodjjlkiaaW.PrintMore Go.Proofs.Ytjfbjkodjjlkiaa.Plain Go.Proofs.Ytjfbjkodjjlkiaa.GTab

abbrev Ent := List (ByteArray × S26)
def ltK (a b : ByteArray) : Bool := Op.bytesLess a.toList b.toList
theorem ltK_irrefl (a : ByteArray) : ltK a a = false := by
  unfold ltK
  rw [bytesLess_eq]
  exact decide_eq_false (List.lt_irrefl _)
theorem ltK_trans {a b c : ByteArray} (h : ltK a b = true) (k : ltK b c = true) : ltK a c = true := less_trans h k
theorem ltK_ne {a b : ByteArray} (h : ltK a b = true) : a ≠ b := fun e => by
  subst e
  rw [ltK_irrefl] at h
  cases h
/-- The keys rise. -/
def Up (l : Ent) : Prop := l.Pairwise fun p q => ltK p.1 q.1 = true
def findE (l : Ent) (k : ByteArray) : Option S26 := match l with
  | [] => none
  | (a, x) :: r => if a = k then some x else findE r k
def withE (k : ByteArray) (v : S26) : Ent → Ent
  | [] => [(k, v)]
  | (a, x) :: r => if ltK a k = true then (a, x) :: withE k v r else (k, v) :: ((a, x) :: r).filter (fun p => decide (p.1 ≠ k))
def withoutE (k : ByteArray) (l : Ent) : Ent := l.filter (fun p => decide (p.1 ≠ k))
theorem findE_none {k : ByteArray} : ∀ {l : Ent}, (∀ p ∈ l, p.1 ≠ k) → findE l k = none
  | [], _ => rfl
  | (a, x) :: r, h => by
    have h1 : a ≠ k := h (a, x) List.mem_cons_self
    rw [findE, if_neg h1]
    exact findE_none fun p hp => h p (List.mem_cons_of_mem _ hp)
theorem findE_mem {k : ByteArray} {v : S26} : ∀ {l : Ent}, findE l k = some v → (k, v) ∈ l
  | [], h => by simp [findE] at h
  | (a, x) :: r, h => by
    rw [findE] at h
    by_cases e : a = k
    · rw [if_pos e] at h
      cases h
      subst e
      exact List.mem_cons_self
    · rw [if_neg e] at h
      exact List.mem_cons_of_mem _ (findE_mem h)
theorem findE_filter {k t : ByteArray} : ∀ (l : Ent), findE (l.filter (fun p => decide (p.1 ≠ k))) t = if t = k then none else findE l t
  | [] => by simp [findE]
  | (a, x) :: r => by
    have ih := findE_filter (k := k) (t := t) r
    rw [List.filter_cons]
    by_cases e : a = k
    · subst e
      rw [if_neg (by simp), ih, findE]
      by_cases h : t = a
      · rw [if_pos h, if_pos h]
      · rw [if_neg h, if_neg h, if_neg (Ne.symm h)]
    · rw [if_pos (by simpa using e), findE, findE, ih]
      by_cases h : a = t
      · subst h
        rw [if_pos rfl, if_pos rfl, if_neg e]
      · rw [if_neg h, if_neg h]
theorem findE_without (k t : ByteArray) (l : Ent) : findE (withoutE k l) t = if t = k then none else findE l t := findE_filter l
theorem findE_with {k t : ByteArray} {v : S26} : ∀ (l : Ent), findE (withE k v l) t = if t = k then some v else findE l t
  | [] => by
    simp only [withE, findE]
    by_cases h : k = t
    · rw [if_pos h, if_pos h.symm]
    · rw [if_neg h, if_neg (Ne.symm h)]
  | (a, x) :: r => by
    rw [withE]
    by_cases e : ltK a k = true
    · rw [if_pos e, findE, findE_with r, findE]
      by_cases h : a = t
      · subst h
        rw [if_pos rfl, if_neg (ltK_ne e), if_pos rfl]
      · rw [if_neg h, if_neg h]
    · rw [if_neg e, findE, findE_filter]
      by_cases h : k = t
      · rw [if_pos h, if_pos h.symm]
      · rw [if_neg h, if_neg (Ne.symm h), if_neg (Ne.symm h)]
theorem up_without {k : ByteArray} {l : Ent} (h : Up l) : Up (withoutE k l) := List.Pairwise.filter _ h
theorem mem_with {k : ByteArray} {v : S26} {p : ByteArray × S26} : ∀ {l : Ent}, p ∈ withE k v l → p = (k, v) ∨ p ∈ l
  | [], h => by
    rw [withE, List.mem_singleton] at h
    exact .inl h
  | (a, x) :: r, h => by
    rw [withE] at h
    split at h
    · rcases List.mem_cons.1 h with h | h
      · exact .inr (h ▸ List.mem_cons_self)
      · exact (mem_with h).imp id (List.mem_cons_of_mem _)
    · rcases List.mem_cons.1 h with h | h
      · exact .inl h
      · exact .inr (List.mem_filter.1 h).1
/-- Of two keys one is less, if they are not the same. -/
theorem ltK_total {a b : ByteArray} (h : ¬ ltK a b = true) (hne : a ≠ b) : ltK b a = true := by
  unfold ltK at h ⊢
  rw [bytesLess_eq, decide_eq_true_iff] at h ⊢
  rcases Std.lt_trichotomy a.toList b.toList with h1 | h1 | h1
  · exact absurd h1 h
  · have h2 : (a.toList == b.toList) = true := by rw [h1]; exact beq_self_eq_true _
    rw [beq_toList] at h2
    exact absurd (of_decide_eq_true h2) hne
  · exact h1
theorem up_with {k : ByteArray} {v : S26} : ∀ {l : Ent}, Up l → Up (withE k v l)
  | [], _ => List.pairwise_singleton _ _
  | (a, x) :: r, h => by
    have hc := List.pairwise_cons.1 h
    rw [withE]
    by_cases e : ltK a k = true
    · rw [if_pos e]
      refine List.pairwise_cons.2 ⟨fun p hp => ?_, up_with hc.2⟩
      rcases mem_with hp with rfl | hp
      · exact e
      · exact hc.1 p hp
    · rw [if_neg e]
      refine List.pairwise_cons.2 ⟨fun p hp => ?_, List.Pairwise.filter _ h⟩
      obtain ⟨hm, hne⟩ := List.mem_filter.1 hp
      have hne' : p.1 ≠ k := of_decide_eq_true hne
      rcases List.mem_cons.1 hm with rfl | hm
      · exact ltK_total e hne'
      · by_cases ea : a = k
        · subst ea
          exact hc.1 p hm
        · exact ltK_trans (ltK_total e ea) (hc.1 p hm)
/-- What is found decides the list. -/
theorem up_ext : ∀ {l m : Ent}, Up l → Up m → (∀ t, findE l t = findE m t) → l = m
  | [], [], _, _, _ => rfl
  | [], (b, y) :: m, _, _, h => by
    have := h b
    rw [findE, findE, if_pos rfl] at this
    cases this
  | (a, x) :: l, [], _, _, h => by
    have := h a
    rw [findE, findE, if_pos rfl] at this
    cases this
  | (a, x) :: l, (b, y) :: m, hl, hm, h => by
    have cl := List.pairwise_cons.1 hl
    have cm := List.pairwise_cons.1 hm
    have e : a = b := by
      apply Classical.byContradiction
      intro hne
      by_cases hab : ltK a b = true
      · have h1 := h a
        rw [findE, if_pos rfl, findE, if_neg (Ne.symm hne)] at h1
        have h2 := cm.1 _ (findE_mem h1.symm)
        have := ltK_trans hab h2
        rw [ltK_irrefl] at this
        cases this
      · have hba := ltK_total hab hne
        have h1 := h b
        rw [findE, if_neg hne, findE, if_pos rfl] at h1
        have h2 := cl.1 _ (findE_mem h1)
        have := ltK_trans hba h2
        rw [ltK_irrefl] at this
        cases this
    subst e
    have ex : x = y := by
      have h1 := h a
      rw [findE, if_pos rfl, findE, if_pos rfl] at h1
      exact Option.some.inj h1
    subst ex
    congr 1
    refine up_ext cl.2 cm.2 fun t => ?_
    by_cases et : a = t
    · subst et
      rw [findE_none (fun p hp => (ltK_ne (cl.1 p hp)).symm), findE_none (fun p hp => (ltK_ne (cm.1 p hp)).symm)]
    · have h1 := h t
      rw [findE, if_neg et, findE, if_neg et] at h1
      exact h1
/-! ### coalescing -/
/-- What becomes of what stands under a key (ox), where the first table has dx and the second one v. -/
def effC (mg : Bool) (rec : S26 → S26 → S26) (dx : Option S26) (v : S26) (ox : Option S26) : Option S26 := match dx with
  | none => some v
  | some x => if x.f0 = 0 ∧ v.f0 = 0 then ox else if x.f0 = 0 ∧ mg = false then none else if x.f0 = 7 ∧ v.f0 = 7 then some (rec x v) else ox
def stepC (mg : Bool) (rec : S26 → S26 → S26) (d out : Ent) (p : ByteArray × S26) : Ent := match findE d p.1 with
  | none => withE p.1 p.2 out
  | some x => if x.f0 = 0 ∧ p.2.f0 = 0 then out else if x.f0 = 0 ∧ mg = false then withoutE p.1 out else if x.f0 = 7 ∧ p.2.f0 = 7 then withE p.1 (rec x p.2) out else out
def coalE (mg : Bool) (rec : S26 → S26 → S26) (d s : Ent) : Ent := s.foldl (stepC mg rec d) d
def tabE (l : Ent) : S26 := { z26 with f0 := 7, f5 := l.map (·.1), f6 := l.map (·.2) }
def entE (x : S26) : Ent := x.f5.zip x.f6
/-- Of two tables the first one has the last word. -/
def coal : Nat → Bool → S26 → S26 → S26
  | 0, _, d, _ => d
  | n + 1, mg, d, s => tabE (coalE mg (coal n mg) (entE d) (entE s))
theorem find_step (mg : Bool) (rec : S26 → S26 → S26) (d out : Ent) (p : ByteArray × S26) (t : ByteArray) : findE (stepC mg rec d out p) t = if t = p.1 then effC mg rec (findE d p.1) p.2 (findE out p.1) else findE out t := by
  unfold stepC effC
  cases findE d p.1 with
  | none => exact findE_with out
  | some x =>
    by_cases h1 : x.f0 = 0 ∧ p.2.f0 = 0
    · simp only [if_pos h1]
      by_cases h : t = p.1
      · rw [if_pos h, h]
      · rw [if_neg h]
    · simp only [if_neg h1]
      by_cases h2 : x.f0 = 0 ∧ mg = false
      · simp only [if_pos h2]
        exact findE_without _ _ _
      · simp only [if_neg h2]
        by_cases h3 : x.f0 = 7 ∧ p.2.f0 = 7
        · simp only [if_pos h3]
          exact findE_with out
        · simp only [if_neg h3]
          by_cases h : t = p.1
          · rw [if_pos h, h]
          · rw [if_neg h]
theorem find_fold (mg : Bool) (rec : S26 → S26 → S26) (d : Ent) (t : ByteArray) : ∀ (s out : Ent), Up s → findE (s.foldl (stepC mg rec d) out) t = match findE s t with
    | none => findE out t
    | some v => effC mg rec (findE d t) v (findE out t)
  | [], _, _ => rfl
  | (a, v) :: r, out, h => by
    have hc := List.pairwise_cons.1 h
    rw [List.foldl_cons, find_fold mg rec d t r _ hc.2, find_step, findE]
    by_cases e : a = t
    · subst e
      rw [if_pos rfl, findE_none fun p hp => (ltK_ne (hc.1 p hp)).symm]
      simp only [if_true]
    · rw [if_neg e, if_neg (Ne.symm e)]
theorem find_coal (mg : Bool) (rec : S26 → S26 → S26) {d s : Ent} (hs : Up s) (t : ByteArray) : findE (coalE mg rec d s) t = match findE s t with
    | none => findE d t
    | some v => effC mg rec (findE d t) v (findE d t) := find_fold mg rec d t s d hs
theorem up_step {mg : Bool} {rec : S26 → S26 → S26} {d out : Ent} {p : ByteArray × S26} (h : Up out) : Up (stepC mg rec d out p) := by
  unfold stepC
  cases findE d p.1 with
  | none => exact up_with h
  | some x =>
    show Up (if _ then _ else if _ then _ else if _ then _ else _)
    split
    · exact h
    split
    · exact up_without h
    split
    · exact up_with h
    · exact h
theorem up_fold {mg : Bool} {rec : S26 → S26 → S26} {d : Ent} : ∀ (s out : Ent), Up out → Up (s.foldl (stepC mg rec d) out)
  | [], _, h => h
  | p :: r, out, h => by
    rw [List.foldl_cons]
    exact up_fold r _ (up_step h)
theorem up_coal {mg : Bool} {rec : S26 → S26 → S26} {d s : Ent} (h : Up d) : Up (coalE mg rec d s) := up_fold s d h
theorem ent_tab (l : Ent) : entE (tabE l) = l := by
  show (l.map (·.1)).zip (l.map (·.2)) = l
  induction l with
  | nil => rfl
  | cons p r ih =>
    rw [List.map_cons, List.map_cons, List.zip_cons_cons, ih]
/-- A table that is right has rising entries. -/
theorem up_ent {x : S26} (h : Rising x.f5) : Up (entE x) := by
  unfold Rising at h
  unfold Up entE
  have : ∀ (ks : List ByteArray) (xs : List S26), ks.Pairwise (fun a b => Op.bytesLess a.toList b.toList = true) → (ks.zip xs).Pairwise fun p q => ltK p.1 q.1 = true := by
    intro ks
    induction ks with
    | nil => intro xs _; simp
    | cons k r ih =>
      intro xs h
      cases xs with
      | nil => simp
      | cons y ys =>
        have hc := List.pairwise_cons.1 h
        rw [List.zip_cons_cons]
        exact List.pairwise_cons.2 ⟨fun p hp => hc.1 p.1 (List.of_mem_zip hp).1, ih ys hc.2⟩
  exact this _ _ h
theorem find_ent {s : ByteArray} : ∀ (ks : List ByteArray) (xs : List S26), findE (ks.zip xs) s = find ks xs s
  | [], _ => rfl
  | _ :: _, [] => rfl
  | k :: ks, x :: xs => by
    rw [List.zip_cons_cons, findE, find, find_ent ks xs]
theorem findE_of_mem {p : ByteArray × S26} : ∀ {l : Ent}, Up l → p ∈ l → findE l p.1 = some p.2
  | [], _, h => nomatch h
  | (a, x) :: r, hu, h => by
    have hc := List.pairwise_cons.1 hu
    rw [findE]
    rcases List.mem_cons.1 h with rfl | h
    · rw [if_pos rfl]
    · rw [if_neg (ltK_ne (hc.1 p h))]
      exact findE_of_mem hc.2 h
/-- What stands in the coalesced table. -/
theorem coal_val {mg : Bool} {rec : S26 → S26 → S26} {d s : Ent} (hs : Up s) {t : ByteArray} {y : S26} (h : findE (coalE mg rec d s) t = some y) : findE d t = some y ∨ findE s t = some y ∨ ∃ x v, findE d t = some x ∧ findE s t = some v ∧ x.f0 = 7 ∧ v.f0 = 7 ∧ y = rec x v := by
  rw [find_coal mg rec hs] at h
  cases hv : findE s t with
  | none =>
    rw [hv] at h
    exact .inl h
  | some v =>
    rw [hv] at h
    cases hx : findE d t with
    | none =>
      rw [hx] at h
      exact .inr (.inl h)
    | some x =>
      rw [hx] at h
      unfold effC at h
      simp only at h
      split at h
      · exact .inl h
      split at h
      · cases h
      split at h
      · rename_i h3
        cases h
        exact .inr (.inr ⟨x, v, rfl, rfl, h3.1, h3.2, rfl⟩)
      · exact .inl h
theorem ent_mem {x : S26} {t : ByteArray} {y : S26} (h : findE (entE x) t = some y) : t ∈ x.f5 ∧ y ∈ x.f6 := List.of_mem_zip (findE_mem h)
theorem rt_rises' {n : Nat} {x : S26} (h : Rt (n + 1) x) (h7 : x.f0 = 7) : Rising x.f5 := (rt_rise h h7).1
theorem coal_7 {n : Nat} {mg : Bool} {d s : S26} : (coal (n + 1) mg d s).f0 = 7 := rfl
theorem up_rising {l : Ent} (h : Up l) : Rising (l.map (·.1)) := by
  unfold Rising
  rw [List.pairwise_map]
  exact h
theorem rt_coal : ∀ {n : Nat} {mg : Bool} {d s : S26}, Rt n d → Rt n s → d.f0 = 7 → s.f0 = 7 → Rt n (coal n mg d s)
  | 0, _, _, _, h, _, _, _ => h.elim
  | n + 1, mg, d, s, hd, hs, h7, k7 => by
    have ud := up_ent (rt_rises' hd h7)
    have us := up_ent (rt_rises' hs k7)
    have hu := up_coal (mg := mg) (rec := coal n mg) (d := entE d) (s := entE s) ud
    refine rt_table rfl (up_rising hu) (by show (List.map _ _).length = (List.map _ _).length; rw [List.length_map, List.length_map]) fun y hy => ?_
    obtain ⟨p, hp, rfl⟩ := List.mem_map.1 hy
    rcases coal_val us (findE_of_mem hu hp) with h | h | ⟨x, v, h1, h2, h3, h4, h5⟩
    · exact rt_kids hd _ (ent_mem h).2
    · exact rt_kids hs _ (ent_mem h).2
    · rw [h5]
      exact rt_coal (rt_kids hd _ (ent_mem h1).2) (rt_kids hs _ (ent_mem h2).2) h3 h4
/-! ### canonical values -/
theorem canon_f0 {n : Nat} {x : S26} (h : Rt n x) : (canon n x).f0 = x.f0 := by
  cases n with
  | zero => exact h.elim
  | succ n => exact canon_kind h
theorem ent_canon {n : Nat} {x : S26} (h7 : x.f0 = 7) : entE (canon (n + 1) x) = (entE x).map fun p => (p.1, canon n p.2) := by
  rw [canon_7 h7]
  show x.f5.zip (x.f6.map (canon n)) = (x.f5.zip x.f6).map _
  rw [List.zip_map_right]
  rfl
theorem find_map {f : S26 → S26} (t : ByteArray) : ∀ l : Ent, findE (l.map fun p => (p.1, f p.2)) t = (findE l t).map f
  | [] => rfl
  | (a, x) :: r => by
    rw [List.map_cons, findE, findE, find_map t r]
    split <;> rfl
theorem up_map {f : S26 → S26} {l : Ent} (h : Up l) : Up (l.map fun p => (p.1, f p.2)) := by
  unfold Up
  rw [List.pairwise_map]
  exact h
theorem canon_coal : ∀ {n : Nat} {mg : Bool} {d s : S26}, Rt n d → Rt n s → d.f0 = 7 → s.f0 = 7 → coal n mg (canon n d) (canon n s) = canon n (coal n mg d s)
  | 0, _, _, _, h, _, _, _ => h.elim
  | n + 1, mg, d, s, hd, hs, h7, k7 => by
    have ud := up_ent (rt_rises' hd h7)
    have us := up_ent (rt_rises' hs k7)
    have hu := up_coal (mg := mg) (rec := coal n mg) (d := entE d) (s := entE s) ud
    have key : coalE mg (coal n mg) (entE (canon (n + 1) d)) (entE (canon (n + 1) s)) = (coalE mg (coal n mg) (entE d) (entE s)).map fun p => (p.1, canon n p.2) := by
      rw [ent_canon h7, ent_canon k7]
      refine up_ext (up_coal (up_map ud)) (up_map hu) fun t => ?_
      rw [find_coal mg _ (up_map us), find_map, find_map, find_map, find_coal mg _ us]
      cases hv : findE (entE s) t with
      | none => rfl
      | some v =>
        have rv := rt_kids hs _ (ent_mem hv).2
        cases hx : findE (entE d) t with
        | none => rfl
        | some x =>
          have rx := rt_kids hd _ (ent_mem hx).2
          show effC mg (coal n mg) (some (canon n x)) (canon n v) (some (canon n x)) = (effC mg (coal n mg) (some x) v (some x)).map (canon n)
          unfold effC
          simp only [canon_f0 rx, canon_f0 rv]
          split
          · rfl
          split
          · rfl
          split
          · rename_i h3
            rw [canon_coal rx rv h3.1 h3.2]
            rfl
          · rfl
    show tabE (coalE mg (coal n mg) (entE (canon (n + 1) d)) (entE (canon (n + 1) s))) = _
    rw [key, show coal (n + 1) mg d s = tabE (coalE mg (coal n mg) (entE d) (entE s)) from rfl, canon_7 rfl]
    unfold tabE
    simp only [List.map_map]
    rfl
end Go.Proofs.Ytjfbjkodjjlkiaa.HVal
/-! Of three tables it does not matter which two are coalesced first. -/
namespace Go.Proofs.Ytjfbjkodjjlkiaa.HVal
open Go.RowKit Go.WideMaps Go.Maps Go.Proofs.YtjfbjkodjjlkiaaW.PrintWords Go.Proofs.YtjfbjkodjjlkiaaW.PrintLast Go.Proofs.YtjfbjkodjjlkiaaW.PrintMore Go.Proofs.Ytjfbjkodjjlkiaa.Plain Go.Proofs.Ytjfbjkodjjlkiaa.GTab

/-- No nulls in a table, nor in the tables in it. -/
def NN : Nat → S26 → Prop
  | 0, _ => True
  | n + 1, a => ∀ t x, findE (entE a) t = some x → x.f0 ≠ 0 ∧ (x.f0 = 7 → NN n x)
/-- The same of the keys that both have are tables, and so on within. -/
def Alike : Nat → S26 → S26 → Prop
  | 0, _, _ => True
  | n + 1, a, b => ∀ t x y, findE (entE a) t = some x → findE (entE b) t = some y → (x.f0 = 7 ↔ y.f0 = 7) ∧ (x.f0 = 7 → Alike n x y)
theorem eff_plain {mg : Bool} {rec : S26 → S26 → S26} {x v : S26} (h : x.f0 ≠ 0) : effC mg rec (some x) v (some x) = if x.f0 = 7 ∧ v.f0 = 7 then some (rec x v) else some x := by
  unfold effC
  simp only
  rw [if_neg (fun e => h e.1), if_neg (fun e => h e.1)]
theorem coal_f0 {n : Nat} {mg : Bool} {d s : S26} (h : d.f0 = 7) : (coal n mg d s).f0 = 7 := by
  cases n with
  | zero => exact h
  | succ n => rfl
theorem coal_assoc : ∀ {n : Nat} {a b c : S26}, Rt n a → Rt n b → Rt n c → a.f0 = 7 → b.f0 = 7 → c.f0 = 7 → NN n a → NN n b → NN n c → Alike n a b → Alike n b c → Alike n a c → coal n false (coal n false a b) c = coal n false a (coal n false b c)
  | 0, _, _, _, h, _, _, _, _, _, _, _, _, _, _, _ => h.elim
  | n + 1, a, b, c, ha, hb, hc, a7, b7, c7, na, nb, nc, lab, lbc, lac => by
    have ua := up_ent (rt_rises' ha a7)
    have ub := up_ent (rt_rises' hb b7)
    have uc := up_ent (rt_rises' hc c7)
    have uab := up_coal (mg := false) (rec := coal n false) (d := entE a) (s := entE b) ua
    have ubc := up_coal (mg := false) (rec := coal n false) (d := entE b) (s := entE c) ub
    show tabE (coalE false (coal n false) (entE (tabE (coalE false (coal n false) (entE a) (entE b)))) (entE c)) = tabE (coalE false (coal n false) (entE a) (entE (tabE (coalE false (coal n false) (entE b) (entE c)))))
    rw [ent_tab, ent_tab]
    congr 1
    refine up_ext (up_coal uab) (up_coal ua) fun t => ?_
    rw [find_coal _ _ uc, find_coal _ _ ubc, find_coal _ _ ub, find_coal _ _ uc]
    cases hA : findE (entE a) t with
    | none =>
      cases hB : findE (entE b) t with
      | none => cases findE (entE c) t <;> rfl
      | some y =>
        cases hC : findE (entE c) t with
        | none => rfl
        | some z =>
          have ny := (nb t y hB).1
          show effC false _ (some y) z (some y) = match effC false _ (some y) z (some y) with | none => none | some v => some v
          rw [eff_plain ny]
          split <;> rfl
    | some x =>
      have nx := (na t x hA).1
      cases hB : findE (entE b) t with
      | none => cases findE (entE c) t <;> rfl
      | some y =>
        have ny := (nb t y hB).1
        have xy := lab t x y hA hB
        cases hC : findE (entE c) t with
        | none => rfl
        | some z =>
          have yz := lbc t y z hB hC
          have xz := lac t x z hA hC
          show effC false (coal n false) (effC false (coal n false) (some x) y (some x)) z (effC false (coal n false) (some x) y (some x)) = match effC false (coal n false) (some y) z (some y) with | none => some x | some v => effC false (coal n false) (some x) v (some x)
          rw [eff_plain nx, eff_plain ny]
          by_cases h7 : x.f0 = 7
          · have y7 := xy.1.1 h7
            have z7 := xz.1.1 h7
            rw [if_pos ⟨h7, y7⟩, if_pos ⟨y7, z7⟩]
            have k7 : (coal n false x y).f0 = 7 := coal_f0 h7
            have m7 : (coal n false y z).f0 = 7 := coal_f0 y7
            show effC false (coal n false) (some (coal n false x y)) z (some (coal n false x y)) = effC false (coal n false) (some x) (coal n false y z) (some x)
            rw [eff_plain (by rw [k7]; decide), eff_plain nx, if_pos ⟨k7, z7⟩, if_pos ⟨h7, m7⟩]
            rw [coal_assoc (rt_kids ha _ (ent_mem hA).2) (rt_kids hb _ (ent_mem hB).2) (rt_kids hc _ (ent_mem hC).2) h7 y7 z7 ((na t x hA).2 h7) ((nb t y hB).2 y7) ((nc t z hC).2 z7) (xy.2 h7) (yz.2 y7) (xz.2 h7)]
          · have y7 : ¬ y.f0 = 7 := fun e => h7 (xy.1.2 e)
            rw [if_neg (fun e => h7 e.1), if_neg (fun e => y7 e.1)]
            show effC false (coal n false) (some x) z (some x) = effC false (coal n false) (some x) y (some x)
            rw [eff_plain nx, eff_plain nx, if_neg (fun e => h7 e.1), if_neg (fun e => h7 e.1)]
end Go.Proofs.Ytjfbjkodjjlkiaa.HVal
/-! What was coalesced does not change when the same is coalesced into it again. -/
namespace Go.Proofs.Ytjfbjkodjjlkiaa.HVal
open Go.RowKit Go.WideMaps Go.Maps Go.Proofs.YtjfbjkodjjlkiaaW.PrintWords Go.Proofs.YtjfbjkodjjlkiaaW.PrintLast Go.Proofs.YtjfbjkodjjlkiaaW.PrintMore Go.Proofs.Ytjfbjkodjjlkiaa.Plain Go.Proofs.Ytjfbjkodjjlkiaa.GTab

theorem find_trimL {f : S26 → S26} {t : ByteArray} : ∀ (ks : List ByteArray) (xs : List S26), Up (ks.zip xs) → findE (trimL f ks xs) t = match findE (ks.zip xs) t with
    | none => none
    | some v => if (one f v).f0 = 0 then none else some (one f v)
  | [], _, _ => rfl
  | _ :: _, [], _ => rfl
  | k :: ks, x :: xs, h => by
    rw [List.zip_cons_cons] at h ⊢
    have hc := List.pairwise_cons.1 h
    have ih := find_trimL (f := f) (t := t) ks xs hc.2
    rw [trimL]
    by_cases e : k = t
    · subst e
      have hn : findE (ks.zip xs) k = none := findE_none fun p hp => (ltK_ne (hc.1 p hp)).symm
      rw [hn] at ih
      rw [findE, if_pos rfl]
      by_cases h0 : (one f x).f0 = 0
      · rw [if_pos h0, List.nil_append, ih]
        simp only [if_pos h0]
      · rw [if_neg h0, List.singleton_append, findE, if_pos rfl]
        simp only [if_neg h0]
    · rw [findE, if_neg e, ← ih]
      by_cases h0 : (one f x).f0 = 0
      · rw [if_pos h0, List.nil_append]
      · rw [if_neg h0, List.singleton_append, findE, if_neg e]
theorem ent_trim {n : Nat} {s : S26} : entE (trim (n + 1) s) = trimL (trim n) s.f5 s.f6 := ent_tab _
theorem up_trimL {f : S26 → S26} : ∀ (ks : List ByteArray) (xs : List S26), Up (ks.zip xs) → Up (trimL f ks xs) ∧ ∀ p ∈ trimL f ks xs, ∃ q ∈ ks.zip xs, q.1 = p.1
  | [], _, _ => ⟨List.Pairwise.nil, fun p hp => nomatch hp⟩
  | _ :: _, [], _ => ⟨List.Pairwise.nil, fun p hp => nomatch hp⟩
  | k :: ks, x :: xs, h => by
    rw [List.zip_cons_cons] at h ⊢
    have hc := List.pairwise_cons.1 h
    obtain ⟨h1, h2⟩ := up_trimL (f := f) ks xs hc.2
    rw [trimL]
    split
    · rw [List.nil_append]
      exact ⟨h1, fun p hp => by obtain ⟨q, hq, e⟩ := h2 p hp; exact ⟨q, List.mem_cons_of_mem _ hq, e⟩⟩
    · rw [List.singleton_append]
      refine ⟨List.pairwise_cons.2 ⟨fun p hp => ?_, h1⟩, fun p hp => ?_⟩
      · obtain ⟨q, hq, e⟩ := h2 p hp
        rw [← e]
        exact hc.1 q hq
      · rcases List.mem_cons.1 hp with rfl | hp
        · exact ⟨(k, x), List.mem_cons_self, rfl⟩
        · obtain ⟨q, hq, e⟩ := h2 p hp
          exact ⟨q, List.mem_cons_of_mem _ hq, e⟩
/-- What a canonical table's entries are. -/
theorem cn_tab {n : Nat} {x : S26} (h7 : x.f0 = 7) (hl : x.f5.length = x.f6.length) (hc : canon (n + 1) x = x) : tabE (entE x) = x ∧ ∀ t y, findE (entE x) t = some y → canon n y = y := by
  have h6 : x.f6.map (canon n) = x.f6 := by
    have := congrArg S26.f6 hc
    rw [canon_7 h7] at this
    exact this
  constructor
  · have e : tabE (entE x) = { z26 with f0 := 7, f5 := x.f5, f6 := x.f6 } := by
      show ({ z26 with f0 := 7, f5 := (x.f5.zip x.f6).map (·.1), f6 := (x.f5.zip x.f6).map (·.2) } : S26) = _
      rw [List.map_fst_zip (Nat.le_of_eq hl), List.map_snd_zip (Nat.le_of_eq hl.symm)]
    rw [e, ← hc, canon_7 h7]
  · intro t y hy
    obtain ⟨i, hi, rfl⟩ := List.getElem_of_mem (ent_mem hy).2
    have h1 : (x.f6.map (canon n))[i]? = x.f6[i]? := by rw [h6]
    rw [List.getElem?_map, List.getElem?_eq_getElem hi] at h1
    exact Option.some.inj h1
theorem one_f0 {n : Nat} {v : S26} (hr : Rt n v) : (one (trim n) v).f0 = v.f0 := by
  unfold one
  split
  · rename_i h
    cases n with
    | zero => exact hr.elim
    | succ n => exact h.symm
  · rfl
/-- A table into itself, without its nulls. -/
theorem coal_self : ∀ {n : Nat} {mg : Bool} {v : S26}, Rt n v → v.f0 = 7 → canon n v = v → coal n mg v (trim n v) = v
  | 0, _, _, h, _, _ => h.elim
  | n + 1, mg, v, h, h7, hc => by
    have uv := up_ent (rt_rises' h h7)
    obtain ⟨ht, hk⟩ := cn_tab h7 (rt_rise h h7).2 hc
    have key : coalE mg (coal n mg) (entE v) (entE (trim (n + 1) v)) = entE v := by
      rw [ent_trim]
      refine up_ext (up_coal uv) uv fun t => ?_
      rw [find_coal _ _ (up_trimL _ _ uv).1, find_trimL _ _ uv]
      change (match (match findE (entE v) t with | none => none | some v => if (one (trim n) v).f0 = 0 then none else some (one (trim n) v)) with | none => findE (entE v) t | some w => effC mg (coal n mg) (findE (entE v) t) w (findE (entE v) t)) = _
      cases hx : findE (entE v) t with
      | none => rfl
      | some x =>
        have rx := rt_kids h _ (ent_mem hx).2
        show (match (if (one (trim n) x).f0 = 0 then none else some (one (trim n) x)) with | none => some x | some w => effC mg (coal n mg) (some x) w (some x)) = some x
        rw [one_f0 rx]
        by_cases h0 : x.f0 = 0
        · rw [if_pos h0]
        · rw [if_neg h0]
          show effC mg (coal n mg) (some x) (one (trim n) x) (some x) = some x
          rw [eff_plain h0]
          split
          · rename_i h2
            unfold one
            rw [if_pos h2.1, coal_self rx h2.1 (hk t x hx)]
          · rfl
    show tabE (coalE mg (coal n mg) (entE v) (entE (trim (n + 1) v))) = v
    rw [key, ht]
theorem coal_again : ∀ {n : Nat} {mg : Bool} {d s : S26}, Rt n d → Rt n s → d.f0 = 7 → s.f0 = 7 → NN n d → canon n s = s → coal n mg (coal n mg d s) (trim n s) = coal n mg d s
  | 0, _, _, _, h, _, _, _, _, _ => h.elim
  | n + 1, mg, d, s, hd, hs, h7, k7, nd, hc => by
    have ud := up_ent (rt_rises' hd h7)
    have us := up_ent (rt_rises' hs k7)
    have uo := up_coal (mg := mg) (rec := coal n mg) (d := entE d) (s := entE s) ud
    obtain ⟨_, hk⟩ := cn_tab k7 (rt_rise hs k7).2 hc
    show tabE (coalE mg (coal n mg) (entE (tabE (coalE mg (coal n mg) (entE d) (entE s)))) (entE (trim (n + 1) s))) = tabE (coalE mg (coal n mg) (entE d) (entE s))
    rw [ent_tab, ent_trim]
    congr 1
    refine up_ext (up_coal uo) uo fun t => ?_
    rw [find_coal _ _ (up_trimL _ _ us).1, find_trimL _ _ us]
    change (match (match findE (entE s) t with | none => none | some v => if (one (trim n) v).f0 = 0 then none else some (one (trim n) v)) with | none => findE (coalE mg (coal n mg) (entE d) (entE s)) t | some w => effC mg (coal n mg) (findE (coalE mg (coal n mg) (entE d) (entE s)) t) w (findE (coalE mg (coal n mg) (entE d) (entE s)) t)) = _
    rw [find_coal _ _ us]
    cases hv : findE (entE s) t with
    | none => rfl
    | some v =>
      have rv := rt_kids hs _ (ent_mem hv).2
      show (match (if (one (trim n) v).f0 = 0 then none else some (one (trim n) v)) with | none => effC mg (coal n mg) (findE (entE d) t) v (findE (entE d) t) | some w => effC mg (coal n mg) (effC mg (coal n mg) (findE (entE d) t) v (findE (entE d) t)) w (effC mg (coal n mg) (findE (entE d) t) v (findE (entE d) t))) = effC mg (coal n mg) (findE (entE d) t) v (findE (entE d) t)
      rw [one_f0 rv]
      by_cases h0 : v.f0 = 0
      · rw [if_pos h0]
      · rw [if_neg h0]
        cases hx : findE (entE d) t with
        | none =>
          show effC mg (coal n mg) (some v) (one (trim n) v) (some v) = some v
          rw [eff_plain h0]
          split
          · rename_i h2
            unfold one
            rw [if_pos h2.1, coal_self rv h2.1 (hk t v hv)]
          · rfl
        | some x =>
          have nx := nd t x hx
          have rx := rt_kids hd _ (ent_mem hx).2
          show effC mg (coal n mg) (effC mg (coal n mg) (some x) v (some x)) (one (trim n) v) (effC mg (coal n mg) (some x) v (some x)) = effC mg (coal n mg) (some x) v (some x)
          rw [eff_plain nx.1]
          by_cases h2 : x.f0 = 7 ∧ v.f0 = 7
          · rw [if_pos h2]
            have k : (coal n mg x v).f0 = 7 := coal_f0 h2.1
            rw [eff_plain (by rw [k]; decide), one_f0 rv, if_pos ⟨k, h2.2⟩]
            unfold one
            rw [if_pos h2.2, coal_again rx rv h2.1 h2.2 (nx.2 h2.1) (hk t v hv)]
          · rw [if_neg h2, eff_plain nx.1, one_f0 rv, if_neg h2]
end Go.Proofs.Ytjfbjkodjjlkiaa.HVal
/-! A table that is the same without its nulls has none. -/
namespace Go.Proofs.Ytjfbjkodjjlkiaa.HVal
open Go.RowKit Go.WideMaps Go.Maps Go.Proofs.YtjfbjkodjjlkiaaW.PrintWords Go.Proofs.YtjfbjkodjjlkiaaW.PrintLast Go.Proofs.YtjfbjkodjjlkiaaW.PrintMore Go.Proofs.Ytjfbjkodjjlkiaa.Plain Go.Proofs.Ytjfbjkodjjlkiaa.GTab

theorem trimL_full {f : S26 → S26} : ∀ (ks : List ByteArray) (xs : List S26), ks.length = xs.length → (trimL f ks xs).map (·.1) = ks → (∀ y ∈ xs, (one f y).f0 ≠ 0) ∧ (trimL f ks xs).map (·.2) = xs.map (one f)
  | [], [], _, _ => ⟨fun y hy => (nomatch hy), rfl⟩
  | [], _ :: _, h, _ => by simp at h
  | _ :: _, [], h, _ => by simp at h
  | k :: ks, x :: xs, h, he => by
    have hl : ks.length = xs.length := by simpa using h
    rw [trimL] at he ⊢
    by_cases h0 : (one f x).f0 = 0
    · exfalso
      rw [if_pos h0, List.nil_append] at he
      have h1 := congrArg List.length he
      rw [List.length_map, List.length_cons] at h1
      have := trimL_len (f := f) ks xs
      omega
    · rw [if_neg h0] at he ⊢
      rw [List.singleton_append, List.map_cons] at he
      obtain ⟨h1, h2⟩ := trimL_full ks xs hl (List.cons.inj he).2
      refine ⟨fun y hy => ?_, ?_⟩
      · rcases List.mem_cons.1 hy with rfl | hy
        · exact h0
        · exact h1 y hy
      · rw [List.singleton_append, List.map_cons, List.map_cons, h2]
theorem all2_mem {f : S26 → S26 → Bool} {g : S26 → S26} : ∀ (l : List S26), all2 f (l.map g) l = true → ∀ y ∈ l, f (g y) y = true
  | [], _, y, hy => nomatch hy
  | x :: r, h, y, hy => by
    rw [List.map_cons, all2, Bool.and_eq_true] at h
    rcases List.mem_cons.1 hy with rfl | hy
    · exact h.1
    · exact all2_mem r h.2 y hy
theorem nn_of_same : ∀ {n : Nat} {a : S26}, Rt n a → a.f0 = 7 → sameB n (trim n a) a = true → NN n a
  | 0, _, _, _, _ => trivial
  | n + 1, a, h, h7, hs => by
    have hl := (rt_rise h h7).2
    have e0 : (trim (n + 1) a).f0 = a.f0 := h7.symm
    have t7 : (trim (n + 1) a).f0 = 7 := rfl
    have hlen : (trim (n + 1) a).f6.length = a.f6.length := Classical.byContradiction fun hn => by
      rw [sb_len (by rw [t7]; decide) hn] at hs
      cases hs
    have hkeys : (trim (n + 1) a).f5 = a.f5 := Classical.byContradiction fun hn => by
      rw [sb_keys e0 t7 hlen hn] at hs
      cases hs
    rw [sb_all e0 (by rw [t7]; decide) hlen (fun _ => hkeys)] at hs
    obtain ⟨h1, h2⟩ := trimL_full a.f5 a.f6 hl hkeys
    have hs2 : all2 (sameB n) (a.f6.map (one (trim n))) a.f6 = true := by
      rw [← h2]
      exact hs
    intro t x hx
    have hm := (ent_mem hx).2
    have rx := rt_kids h _ hm
    refine ⟨by rw [← one_f0 rx]; exact h1 x hm, fun x7 => ?_⟩
    have h3 := all2_mem a.f6 hs2 x hm
    unfold one at h3
    rw [if_pos x7] at h3
    exact nn_of_same rx x7 h3
end Go.Proofs.Ytjfbjkodjjlkiaa.HVal
/-! How many values a coalesced table has, and how long its keys are. -/
namespace Go.Proofs.Ytjfbjkodjjlkiaa.HVal
open Go.RowKit Go.WideMaps Go.Maps Go.Proofs.YtjfbjkodjjlkiaaW.PrintWords Go.Proofs.YtjfbjkodjjlkiaaW.PrintLast Go.Proofs.YtjfbjkodjjlkiaaW.PrintMore Go.Proofs.Ytjfbjkodjjlkiaa.Plain Go.Proofs.Ytjfbjkodjjlkiaa.GTab Go.Proofs.Ytjfbjkodjjlkiaa.Opens

def sumE (f : S26 → Nat) (l : Ent) : Nat := (l.map fun p => f p.2).sum
def atE (f : S26 → Nat) (o : Option S26) : Nat := (o.map f).getD 0
theorem sum_filter (f : S26 → Nat) (q : ByteArray × S26 → Bool) : ∀ l : Ent, sumE f (l.filter q) ≤ sumE f l
  | [] => Nat.le_refl _
  | p :: r => by
    have ih := sum_filter f q r
    unfold sumE at ih ⊢
    rw [List.filter_cons]
    split
    · rw [List.map_cons, List.sum_cons, List.map_cons, List.sum_cons]
      omega
    · rw [List.map_cons, List.sum_cons]
      omega
theorem sum_without (f : S26 → Nat) (a : ByteArray) : ∀ l : Ent, atE f (findE l a) + sumE f (withoutE a l) ≤ sumE f l
  | [] => Nat.le_refl _
  | (k, x) :: r => by
    have ih := sum_without f a r
    have hf := sum_filter f (fun p => decide (p.1 ≠ a)) r
    unfold withoutE at ih ⊢
    rw [findE, List.filter_cons]
    by_cases c : k = a
    · rw [if_pos c, if_neg (by simp [c])]
      show f x + _ ≤ sumE f ((k, x) :: r)
      have : sumE f ((k, x) :: r) = f x + sumE f r := by unfold sumE; rw [List.map_cons, List.sum_cons]
      omega
    · rw [if_neg c, if_pos (by simpa using c)]
      have h1 : sumE f ((k, x) :: r) = f x + sumE f r := by unfold sumE; rw [List.map_cons, List.sum_cons]
      have h2 : sumE f ((k, x) :: r.filter fun p => decide (p.1 ≠ a)) = f x + sumE f (r.filter fun p => decide (p.1 ≠ a)) := by unfold sumE; rw [List.map_cons, List.sum_cons]
      omega
theorem sum_two (f : S26 → Nat) : ∀ l d s : Ent, Up l → (∀ t y, findE l t = some y → f y ≤ atE f (findE d t) + atE f (findE s t)) → sumE f l ≤ sumE f d + sumE f s
  | [], _, _, _, _ => Nat.zero_le _
  | (a, x) :: r, d, s, hu, h => by
    have hc := List.pairwise_cons.1 hu
    have h0 := h a x (by rw [findE, if_pos rfl])
    have ih := sum_two f r (withoutE a d) (withoutE a s) hc.2 fun t y ht => by
      have hne : t ≠ a := fun e => by
        subst e
        rw [findE_none fun p hp => (ltK_ne (hc.1 p hp)).symm] at ht
        cases ht
      have h1 := h t y (by rw [findE, if_neg (Ne.symm hne)]; exact ht)
      rw [findE_without, findE_without, if_neg hne, if_neg hne]
      exact h1
    have h1 := sum_without f a d
    have h2 := sum_without f a s
    have h3 : sumE f ((a, x) :: r) = f x + sumE f r := by unfold sumE; rw [List.map_cons, List.sum_cons]
    omega
theorem cnt_ent {n : Nat} {x : S26} (hl : x.f5.length = x.f6.length) : cnt (n + 1) x = 1 + sumE (cnt n) (entE x) := by
  have h : (entE x).map (·.2) = x.f6 := List.map_snd_zip (Nat.le_of_eq hl.symm)
  show 1 + (x.f6.map (cnt n)).sum = 1 + ((entE x).map fun p => cnt n p.2).sum
  conv => lhs; rw [← h, List.map_map]
  rfl
theorem cnt_tabE {n : Nat} (l : Ent) : cnt (n + 1) (tabE l) = 1 + sumE (cnt n) l := by
  show 1 + ((l.map (·.2)).map (cnt n)).sum = 1 + (l.map fun p => cnt n p.2).sum
  rw [List.map_map]
  rfl
theorem cnt_coal : ∀ {n : Nat} {mg : Bool} {d s : S26}, Rt n d → Rt n s → d.f0 = 7 → s.f0 = 7 → cnt n (coal n mg d s) ≤ cnt n d + cnt n s
  | 0, _, _, _, h, _, _, _ => h.elim
  | n + 1, mg, d, s, hd, hs, h7, k7 => by
    have ud := up_ent (rt_rises' hd h7)
    have us := up_ent (rt_rises' hs k7)
    have hu := up_coal (mg := mg) (rec := coal n mg) (d := entE d) (s := entE s) ud
    show cnt (n + 1) (tabE (coalE mg (coal n mg) (entE d) (entE s))) ≤ _
    rw [cnt_tabE, cnt_ent (rt_rise hd h7).2, cnt_ent (rt_rise hs k7).2]
    have := sum_two (cnt n) (coalE mg (coal n mg) (entE d) (entE s)) (entE d) (entE s) hu fun t y ht => by
      rcases coal_val us ht with h | h | ⟨x, v, h1, h2, h3, h4, h5⟩
      · rw [h]
        exact Nat.le_add_right _ _
      · rw [h]
        exact Nat.le_add_left _ _
      · rw [h1, h2, h5]
        exact cnt_coal (rt_kids hd _ (ent_mem h1).2) (rt_kids hs _ (ent_mem h2).2) h3 h4
    omega
theorem sq_coal : ∀ {n : Nat} {mg : Bool} {d s : S26}, Rt n d → Rt n s → d.f0 = 7 → s.f0 = 7 → Sq n d → Sq n s → Sq n (coal n mg d s)
  | 0, _, _, _, h, _, _, _, _, _ => h.elim
  | n + 1, mg, d, s, hd, hs, h7, k7, qd, qs => by
    have ud := up_ent (rt_rises' hd h7)
    have us := up_ent (rt_rises' hs k7)
    have hu := up_coal (mg := mg) (rec := coal n mg) (d := entE d) (s := entE s) ud
    unfold Sq at qd qs
    show Sq (n + 1) (tabE (coalE mg (coal n mg) (entE d) (entE s)))
    unfold Sq
    refine ⟨fun t ht => ?_, fun y hy => ?_⟩
    · obtain ⟨p, hp, rfl⟩ := List.mem_map.1 ht
      rcases coal_val us (findE_of_mem hu hp) with h | h | ⟨x, v, h1, h2, h3, h4, h5⟩
      · exact qd.1 _ (ent_mem h).1
      · exact qs.1 _ (ent_mem h).1
      · exact qd.1 _ (ent_mem h1).1
    · obtain ⟨p, hp, rfl⟩ := List.mem_map.1 hy
      rcases coal_val us (findE_of_mem hu hp) with h | h | ⟨x, v, h1, h2, h3, h4, h5⟩
      · exact qd.2 _ (ent_mem h).2
      · exact qs.2 _ (ent_mem h).2
      · rw [h5]
        exact sq_coal (rt_kids hd _ (ent_mem h1).2) (rt_kids hs _ (ent_mem h2).2) h3 h4 (qd.2 _ (ent_mem h1).2) (qs.2 _ (ent_mem h2).2)
theorem sq_canon : ∀ {n : Nat} {x : S26}, Rt n x → Sq n x → Sq n (canon n x)
  | 0, _, h, _ => h.elim
  | n + 1, x, h, hs => by
    have hk := rt_kids h
    unfold Sq at hs
    have hm : ∀ z ∈ x.f6.map (canon n), Sq n z := fun z hz => by
      obtain ⟨y, hy, rfl⟩ := List.mem_map.1 hz
      exact sq_canon (hk y hy) (hs.2 y hy)
    unfold Sq
    rcases rt_cases h with h0 | h0 | h0 | h0 | ⟨h0, hf⟩ | h0 | h0
    · rw [canon_0 h0]; exact ⟨fun _ h => (nomatch h), fun _ h => (nomatch h)⟩
    · rw [canon_1 h0]; exact ⟨fun _ h => (nomatch h), fun _ h => (nomatch h)⟩
    · rw [canon_2 h0]; exact ⟨fun _ h => (nomatch h), fun _ h => (nomatch h)⟩
    · rw [canon_5 h0]; exact ⟨fun _ h => (nomatch h), fun _ h => (nomatch h)⟩
    · rw [canon_4 h0]; exact ⟨fun _ h => (nomatch h), fun _ h => (nomatch h)⟩
    · rw [canon_6 h0]; exact ⟨fun _ h => (nomatch h), hm⟩
    · rw [canon_7 h0]; exact ⟨hs.1, hm⟩
end Go.Proofs.Ytjfbjkodjjlkiaa.HVal
/-! A map's entries as a function of the keys: put, taken out, changed within; two maps whose entries' blocks are apart. -/
namespace Go.Proofs.Ytjfbjkodjjlkiaa.HVal
open Go.RowKit Go.WideMaps Go.Maps Go.Proofs.YtjfbjkodjjlkiaaW.PrintWords Go.Proofs.YtjfbjkodjjlkiaaW.PrintLast Go.Proofs.YtjfbjkodjjlkiaaW.PrintMore Go.Proofs.Ytjfbjkodjjlkiaa.Plain Go.Proofs.Ytjfbjkodjjlkiaa.GTab

/-- An entry: the value that lies there, what it stands for, the blocks that it leads to. -/
structure En where
  v : Value
  x : S26
  fp : List Nat
abbrev EMap := ByteArray → Option En
def xo (o : Option En) : Option S26 := o.map En.x
def fpo (o : Option En) : List Nat := (o.map En.fp).getD []
def setE (G : EMap) (s : ByteArray) (o : Option En) : EMap := fun t => if t = s then o else G t
theorem setE_same (G : EMap) (s : ByteArray) (o : Option En) : setE G s o s = o := if_pos rfl
theorem setE_other (G : EMap) {s t : ByteArray} (o : Option En) (h : t ≠ s) : setE G s o t = G t := if_neg h
/-- Data D tells the entries that G tells, and these stand for what G says. -/
structure Ms (n : Nat) (W : World) (D : DataW Value) (G : EMap) : Prop where
  map : IsMap D
  has : ∀ s, Maps.has D (keyS s) = (G s).isSome
  val : ∀ s e, G s = some e → (∀ z, D.atKey (keyS s) z = .held e.v) ∧ Rep n W e.v e.x e.fp
variable {n : Nat} {W W2 : World} {D : DataW Value} {G : EMap} {s : ByteArray}
theorem Ms.move (h : Ms n W D G) (hm : ∀ t e, G t = some e → ∀ k ∈ e.fp, W2.heap[k]? = W.heap[k]?) : Ms n W2 D G :=
  ⟨h.map, h.has, fun t e he => ⟨(h.val t e he).1, (h.val t e he).2.move n (hm t e he)⟩⟩
theorem Ms.put (h : Ms n W D G) (e : En) (he : Rep n W e.v e.x e.fp) : Ms n W (D.put (keyS s) (.held e.v)) (setE G s (some e)) := by
  have hk : WideAt.IsKeyLit (keyS s) := trivial
  refine ⟨h.map.put _ _, fun t => ?_, fun t f hf => ?_⟩
  · by_cases c : t = s
    · subst c
      rw [has_put_same h.map hk, setE_same]
      rfl
    · rw [has_put_other (fun e2 => c (keyS_inj e2)), setE_other _ _ c, h.has]
  · by_cases c : t = s
    · subst c
      rw [setE_same] at hf
      cases hf
      exact ⟨fun z => atKey_put_same h.map hk _ z, he⟩
    · rw [setE_other _ _ c] at hf
      exact ⟨fun z => (atKey_put_other (fun e2 => c (keyS_inj e2)) _ z).trans ((h.val t f hf).1 z), (h.val t f hf).2⟩
theorem Ms.del (h : Ms n W D G) : Ms n W (D.del (keyS s)) (setE G s none) := by
  refine ⟨h.map.del _, fun t => ?_, fun t f hf => ?_⟩
  · by_cases c : t = s
    · subst c
      rw [has_del_same, setE_same]
      rfl
    · rw [has_del_other (fun e2 => c (keyS_inj e2)), setE_other _ _ c, h.has]
  · by_cases c : t = s
    · subst c
      rw [setE_same] at hf
      cases hf
    · rw [setE_other _ _ c] at hf
      exact ⟨fun z => (atKey_del_other (fun e2 => c (keyS_inj e2)) z).trans ((h.val t f hf).1 z), (h.val t f hf).2⟩
/-- What an entry's value stands for has changed, not the value. -/
theorem Ms.set (h : Ms n W D G) {e : En} (he : G s = some e) (f : En) (hv : f.v = e.v) (hf : Rep n W f.v f.x f.fp) : Ms n W D (setE G s (some f)) := by
  refine ⟨h.map, fun t => ?_, fun t g hg => ?_⟩
  · by_cases c : t = s
    · subst c
      rw [h.has, he, setE_same]
      rfl
    · rw [setE_other _ _ c, h.has]
  · by_cases c : t = s
    · subst c
      rw [setE_same] at hg
      cases hg
      exact ⟨fun z => by rw [hv]; exact (h.val t e he).1 z, hf⟩
    · rw [setE_other _ _ c] at hg
      exact h.val t g hg
theorem setE_id {o : Option En} (he : G s = o) : setE G s o = G := by
  funext t
  by_cases c : t = s
  · subst c
    rw [setE_same, he]
  · exact setE_other _ _ c

/-! ### a value's entries -/
def find3 : List ByteArray → List Value → List S26 → List (List Nat) → EMap
  | k :: ks, v :: vs, x :: xs, p :: ps, s => if k = s then some ⟨v, x, p⟩ else find3 ks vs xs ps s
  | _, _, _, _, _ => none
theorem find3_all {R : Value → S26 → List Nat → Prop} {vs : List Value} {xs : List S26} {ps : List (List Nat)} (ha : All3 R vs xs ps) : ∀ (ks : List ByteArray), ks.length = xs.length →
    (∀ s, (find3 ks vs xs ps s).map En.v = look (ks.zip vs) s) ∧ (∀ s, xo (find3 ks vs xs ps s) = findE (ks.zip xs) s) ∧ (∀ s e, find3 ks vs xs ps s = some e → R e.v e.x e.fp ∧ e.fp ∈ ps ∧ s ∈ ks) ∧
    (ps.flatten.Nodup → (∀ s e, find3 ks vs xs ps s = some e → e.fp.Nodup) ∧ ∀ s t e f, s ≠ t → find3 ks vs xs ps s = some e → find3 ks vs xs ps t = some f → ∀ k ∈ e.fp, k ∉ f.fp) := by
  induction ha with
  | nil =>
    intro ks hk
    cases ks with
    | cons _ _ => simp at hk
    | nil => exact ⟨fun _ => rfl, fun _ => rfl, fun _ _ h => (nomatch h), fun _ => ⟨fun _ _ h => (nomatch h), fun _ _ _ _ _ h => (nomatch h)⟩⟩
  | @cons v x p vs xs ps hv ha ih =>
    intro ks hk
    cases ks with
    | nil => simp at hk
    | cons a ks =>
      obtain ⟨h1, h2, h3, h4⟩ := ih ks (by simpa using hk)
      refine ⟨fun s => ?_, fun s => ?_, fun s e he => ?_, fun hn => ⟨fun s e he => ?_, fun s t e f hst he hf => ?_⟩⟩
      · rw [find3, List.zip_cons_cons, look]
        by_cases c : a = s
        · rw [if_pos c, if_pos c]; rfl
        · rw [if_neg c, if_neg c, h1]
      · rw [find3, List.zip_cons_cons, findE]
        by_cases c : a = s
        · rw [if_pos c, if_pos c]; rfl
        · rw [if_neg c, if_neg c, h2]
      · rw [find3] at he
        by_cases c : a = s
        · rw [if_pos c] at he
          cases he
          exact ⟨hv, List.mem_cons_self, c ▸ List.mem_cons_self⟩
        · rw [if_neg c] at he
          obtain ⟨q1, q2, q3⟩ := h3 s e he
          exact ⟨q1, List.mem_cons_of_mem _ q2, List.mem_cons_of_mem _ q3⟩
      · rw [List.flatten_cons] at hn
        obtain ⟨n1, n2, n3⟩ := List.nodup_append.1 hn
        rw [find3] at he
        by_cases c : a = s
        · rw [if_pos c] at he
          cases he
          exact n1
        · rw [if_neg c] at he
          exact (h4 n2).1 s e he
      · rw [List.flatten_cons] at hn
        obtain ⟨n1, n2, n3⟩ := List.nodup_append.1 hn
        rw [find3] at he hf
        intro k hk1 hk2
        by_cases c : a = s
        · rw [if_pos c] at he
          cases he
          rw [if_neg (fun e => hst (c.symm.trans e))] at hf
          exact n3 k hk1 k (List.mem_flatten.2 ⟨_, (h3 t f hf).2.1, hk2⟩) rfl
        · rw [if_neg c] at he
          by_cases d : a = t
          · rw [if_pos d] at hf
            cases hf
            exact n3 k hk2 k (List.mem_flatten.2 ⟨_, (h3 s e he).2.1, hk1⟩) rfl
          · rw [if_neg d] at hf
            exact (h4 n2).2 s t e f hst he hf k hk1 hk2
/-- Blocks of entries are apart. -/
structure Apart (G : EMap) : Prop where
  nodup : ∀ t, (fpo (G t)).Nodup
  apart : ∀ s t, s ≠ t → ∀ k ∈ fpo (G s), k ∉ fpo (G t)
theorem fpo_some {o : Option En} {k : Nat} (h : k ∈ fpo o) : ∃ e, o = some e ∧ k ∈ e.fp := by
  cases o with
  | none => cases h
  | some e => exact ⟨e, rfl, h⟩
theorem xo_some {o : Option En} {y : S26} (h : xo o = some y) : ∃ e, o = some e ∧ e.x = y := by
  cases o with
  | none => cases h
  | some e => exact ⟨e, rfl, Option.some.inj h⟩
theorem xo_none {o : Option En} (h : xo o = none) : o = none := by
  cases o with
  | none => rfl
  | some e => cases h
/-- A table that lies there, as its entries. -/
theorem ms_of_rep {b : Nat} {x : S26} {fp : List Nat} (h : Rep (n + 1) W (.iface 58 (.map (some b))) x fp) : ∃ D G ps, x.f0 = 7 ∧ x.f5.length = x.f6.length ∧ fp = b :: ps ∧ W.ownsMap Try.prog 9 hR b x.f5.length D ∧ Ms n W D G ∧ (∀ t, xo (G t) = findE (entE x) t) ∧ (∀ t, ∀ k ∈ fpo (G t), k ∈ ps) ∧ (∀ t e, G t = some e → t ∈ x.f5) ∧ (ps.Nodup → Apart G) := by
  obtain ⟨vs, fps, h7, hl, ⟨D, ho, him, hdl⟩, hall, rfl⟩ := rep_map h
  obtain ⟨h1, h2, h3, h4⟩ := find3_all hall x.f5 hl
  have hN : (x.f5.zip vs).length = x.f5.length := by rw [List.length_zip, hall.len.1, ← hl, Nat.min_self]
  rw [hN] at ho
  refine ⟨D, find3 x.f5 vs x.f6 fps, fps.flatten, h7, hl, rfl, ho, ⟨him, fun s => ?_, fun s e he => ⟨?_, (h3 s e he).1⟩⟩, h2, fun t k hk => ?_, fun t e he => (h3 t e he).2.2, fun hn => ⟨fun t => ?_, fun s t hst k hk1 hk2 => ?_⟩⟩
  · rw [(hdl s).1, ← h1, Option.isSome_map]
  · refine (hdl s).2 _ ?_
    rw [← h1, he]
    rfl
  · obtain ⟨e, he, hk'⟩ := fpo_some hk
    exact List.mem_flatten.2 ⟨_, (h3 t e he).2.1, hk'⟩
  · cases he : find3 x.f5 vs x.f6 fps t with
    | none => exact List.nodup_nil
    | some e => exact (h4 hn).1 t e he
  · obtain ⟨e, he, q1⟩ := fpo_some hk1
    obtain ⟨f, hf, q2⟩ := fpo_some hk2
    exact (h4 hn).2 s t e f hst he hf k q1 q2
theorem look_zip {vf : ByteArray → Value} : ∀ (l : Ent) (s : ByteArray), look ((l.map (·.1)).zip (l.map fun p => vf p.1)) s = (findE l s).map fun _ => vf s
  | [], _ => rfl
  | (a, x) :: r, s => by
    rw [List.map_cons, List.map_cons, List.zip_cons_cons, look, findE, look_zip r s]
    by_cases c : a = s
    · subst c
      rw [if_pos rfl, if_pos rfl]
      rfl
    · rw [if_neg c, if_neg c]
/-- The entries, put together again. -/
theorem rep_of_ms {b N : Nat} {L : Ent} (h : Ms n W D G) (ho : W.ownsMap Try.prog 9 hR b N D) (hu : Up L) (hx : ∀ t, xo (G t) = findE L t) : ∃ ps, Rep (n + 1) W (.iface 58 (.map (some b))) (tabE L) (b :: ps) ∧ (∀ k ∈ ps, ∃ t, k ∈ fpo (G t)) ∧ (Apart G → ps.Nodup) := by
  obtain ⟨vf, hvf⟩ : ∃ vf : ByteArray → Value, vf = fun t => ((G t).map En.v).getD .nilIface := ⟨_, rfl⟩
  have hget : ∀ p ∈ L, ∃ e, G p.1 = some e ∧ e.x = p.2 := fun p hp => xo_some ((hx p.1).trans (findE_of_mem hu hp))
  have hall : ∀ l : Ent, (∀ p ∈ l, ∃ e, G p.1 = some e ∧ e.x = p.2) → All3 (Rep n W) (l.map fun p => vf p.1) (l.map (·.2)) (l.map fun p => fpo (G p.1)) := by
    intro l
    induction l with
    | nil => intro _; exact .nil
    | cons p r ih =>
      intro hl
      obtain ⟨e, he, hex⟩ := hl p List.mem_cons_self
      refine .cons ?_ (ih fun q hq => hl q (List.mem_cons_of_mem _ hq))
      have h1 := (h.val p.1 e he).2
      have e1 : vf p.1 = e.v := by rw [hvf]; simp only [he]; rfl
      have e2 : fpo (G p.1) = e.fp := by rw [he]; rfl
      show Rep n W (vf p.1) p.2 (fpo (G p.1))
      rw [e1, e2, ← hex]
      exact h1
  have htight := own_tight (ks := L.map (·.1)) ho fun t ht => by
    rw [h.has] at ht
    obtain ⟨e, he⟩ := Option.isSome_iff_exists.1 ht
    have h1 := hx t
    rw [he] at h1
    exact List.mem_map.2 ⟨_, findE_mem h1.symm, rfl⟩
  refine ⟨(L.map fun p => fpo (G p.1)).flatten, ?_, fun k hk => ?_, fun ha => ?_⟩
  · refine Rep.mk (.inr (.inr (.inr (.inr (.inr (.inr ⟨rfl, b, L.map fun p => vf p.1, L.map fun p => fpo (G p.1), rfl, by show (List.map _ _).length = (List.map _ _).length; simp, ⟨D, ?_, h.map, fun s => ?_⟩, hall L hget, rfl⟩))))))
    · show W.ownsMap Try.prog 9 hR b ((L.map (·.1)).zip (L.map fun p => vf p.1)).length D
      rw [List.length_zip, List.length_map, List.length_map, Nat.min_self]
      rw [List.length_map] at htight
      exact htight
    · show Maps.has D (keyS s) = (look ((L.map (·.1)).zip (L.map fun p => vf p.1)) s).isSome ∧ ∀ v, look ((L.map (·.1)).zip (L.map fun p => vf p.1)) s = some v → _
      rw [look_zip, Option.isSome_map, ← hx, h.has]
      constructor
      · cases G s <;> rfl
      · intro v hv z
        cases he : G s with
        | none => rw [he] at hv; cases hv
        | some e =>
          rw [he] at hv
          have e1 : vf s = v := Option.some.inj hv
          rw [← e1, hvf, (h.val s e he).1 z]
          simp only [he]
          rfl
  · obtain ⟨q, hq, hkq⟩ := List.mem_flatten.1 hk
    obtain ⟨p, _, rfl⟩ := List.mem_map.1 hq
    exact ⟨p.1, hkq⟩
  · have : ∀ l : Ent, Up l → ((l.map fun p => fpo (G p.1)).flatten).Nodup := by
      intro l
      induction l with
      | nil => intro _; exact List.nodup_nil
      | cons p r ih =>
        intro hl
        have hc := List.pairwise_cons.1 hl
        rw [List.map_cons, List.flatten_cons]
        refine List.nodup_append.2 ⟨ha.nodup p.1, ih hc.2, fun k hk j hj e => ?_⟩
        subst e
        obtain ⟨q, hq, hkq⟩ := List.mem_flatten.1 hj
        obtain ⟨p2, hp2, rfl⟩ := List.mem_map.1 hq
        exact ha.apart p.1 p2.1 (ltK_ne (hc.1 p2 hp2)) k hk hkq
    exact this L hu

/-! ### what changes -/
/-- Of what was there nothing has changed but blocks of F. -/
structure Chg (F : Nat → Prop) (w W : World) : Prop where
  os : W.os = w.os
  tape : W.tape = w.tape
  output : W.output = w.output
  size : w.heap.size ≤ W.heap.size
  block : ∀ k, k < w.heap.size → ¬ F k → W.heap[k]? = w.heap[k]?
theorem Chg.refl (F : Nat → Prop) (w : World) : Chg F w w := ⟨rfl, rfl, rfl, Nat.le_refl _, fun _ _ _ => rfl⟩
/-- One step more: it changes blocks of F, or such as were not there at the beginning. -/
theorem Chg.step {F F2 : Nat → Prop} {w W W2 : World} (h : Chg F w W) (h2 : Chg F2 W W2) (hF : ∀ k, F2 k → F k ∨ w.heap.size ≤ k) : Chg F w W2 :=
  ⟨h2.os.trans h.os, h2.tape.trans h.tape, h2.output.trans h.output, Nat.le_trans h.size h2.size, fun k hk hn => (h2.block k (Nat.lt_of_lt_of_le hk h.size) fun hf => (hF k hf).elim hn fun h => by omega).trans (h.block k hk hn)⟩
theorem chg_grown {w W : World} {r : Nat} (h : w.grownBy W (some r)) : Chg (fun k => k = r) w W := ⟨h.os, h.tape, h.output, h.size, fun k hk hn => h.block k hk (fun e => hn (Option.some.inj e))⟩
theorem chg_none {w W : World} (h : w.grownBy W none) : Chg (fun _ => False) w W := ⟨h.os, h.tape, h.output, h.size, fun k hk _ => h.block k hk (by simp)⟩
theorem chg_below {w W : World} (h : Below w.heap.size w W) : Chg (fun _ => False) w W := ⟨h.os, h.tape, h.output, h.size, fun k hk _ => h.block k hk⟩
theorem Chg.mono {F F2 : Nat → Prop} {w W : World} (h : Chg F w W) (hF : ∀ k, F k → F2 k) : Chg F2 w W := ⟨h.os, h.tape, h.output, h.size, fun k hk hn => h.block k hk fun hf => hn (hF k hf)⟩

/-! ### two maps -/
def ft (Gd Gs : EMap) (t : ByteArray) : List Nat := fpo (Gd t) ++ fpo (Gs t)
/-- The blocks of two maps' entries: apart from each other, all there, all of P. -/
structure Foot (W : World) (P : Nat → Prop) (Gd Gs : EMap) : Prop where
  nodup : ∀ t, (ft Gd Gs t).Nodup
  apart : ∀ s t, s ≠ t → ∀ k ∈ ft Gd Gs s, k ∉ ft Gd Gs t
  lt : ∀ t, ∀ k ∈ ft Gd Gs t, k < W.heap.size ∧ P k
theorem Foot.grow {P : Nat → Prop} {Gd Gs : EMap} (h : Foot W P Gd Gs) (hs : W.heap.size ≤ W2.heap.size) : Foot W2 P Gd Gs := ⟨h.nodup, h.apart, fun t k hk => ⟨Nat.lt_of_lt_of_le (h.lt t k hk).1 hs, (h.lt t k hk).2⟩⟩
theorem Foot.mono {P P2 : Nat → Prop} {Gd Gs : EMap} (h : Foot W P Gd Gs) (hp : ∀ k, k < W.heap.size → P k → P2 k) : Foot W P2 Gd Gs := ⟨h.nodup, h.apart, fun t k hk => ⟨(h.lt t k hk).1, hp k (h.lt t k hk).1 (h.lt t k hk).2⟩⟩
theorem Foot.step {P : Nat → Prop} {Gd Gs : EMap} (h : Foot W P Gd Gs) {o1 o2 : Option En} (hs : W.heap.size ≤ W2.heap.size) (hn : (fpo o1 ++ fpo o2).Nodup) (hk : ∀ k ∈ fpo o1 ++ fpo o2, k ∈ ft Gd Gs s ∨ (W.heap.size ≤ k ∧ k < W2.heap.size ∧ P k)) : Foot W2 P (setE Gd s o1) (setE Gs s o2) := by
  have hself : ft (setE Gd s o1) (setE Gs s o2) s = fpo o1 ++ fpo o2 := by unfold ft; rw [setE_same, setE_same]
  have hother : ∀ t, t ≠ s → ft (setE Gd s o1) (setE Gs s o2) t = ft Gd Gs t := fun t c => by unfold ft; rw [setE_other _ _ c, setE_other _ _ c]
  have hdis : ∀ t, t ≠ s → ∀ k ∈ fpo o1 ++ fpo o2, k ∉ ft Gd Gs t := fun t c k h1 h2 => by
    rcases hk k h1 with h3 | ⟨h3, _⟩
    · exact h.apart t s c k h2 h3
    · have := (h.lt t k h2).1
      omega
  refine ⟨fun t => ?_, fun t u htu k h1 h2 => ?_, fun t k h1 => ?_⟩
  · by_cases c : t = s
    · subst c; rw [hself]; exact hn
    · rw [hother t c]; exact h.nodup t
  · by_cases c : t = s
    · subst c
      rw [hself] at h1
      rw [hother u (Ne.symm htu)] at h2
      exact hdis u (Ne.symm htu) k h1 h2
    · rw [hother t c] at h1
      by_cases d : u = s
      · subst d
        rw [hself] at h2
        exact hdis t c k h2 h1
      · rw [hother u d] at h2
        exact h.apart t u htu k h1 h2
  · by_cases c : t = s
    · subst c
      rw [hself] at h1
      rcases hk k h1 with h3 | ⟨_, h3, h4⟩
      · exact ⟨Nat.lt_of_lt_of_le (h.lt t k h3).1 hs, (h.lt t k h3).2⟩
      · exact ⟨h3, h4⟩
    · rw [hother t c] at h1
      exact ⟨Nat.lt_of_lt_of_le (h.lt t k h1).1 hs, (h.lt t k h1).2⟩
theorem Foot.apartD {P : Nat → Prop} {Gd Gs : EMap} (h : Foot W P Gd Gs) : Apart Gd :=
  ⟨fun t => (List.nodup_append.1 (h.nodup t)).1, fun s t c k h1 h2 => h.apart s t c k (List.mem_append_left _ h1) (List.mem_append_left _ h2)⟩
end Go.Proofs.Ytjfbjkodjjlkiaa.HVal
/-! What is known in the three loops of the coalescing. -/
namespace Go.Proofs.Ytjfbjkodjjlkiaa.HVal
open Go.RowKit Go.WideMaps Go.Maps Go.Proofs.YtjfbjkodjjlkiaaW.PrintWords Go.Proofs.YtjfbjkodjjlkiaaW.PrintLast Go.Proofs.YtjfbjkodjjlkiaaW.PrintMore Go.Proofs.Ytjfbjkodjjlkiaa.Plain Go.Proofs.Ytjfbjkodjjlkiaa.GTab

theorem look58 {n N b : Nat} {W W0 : World} {D : DataW Value} {G : EMap} {s : ByteArray} (ho : W.ownsMap Try.prog 9 hR b N D) (hm : Ms n W0 D G) (hs : s.size ≤ maxLen) : (Instr.lookup 58 (.map (some b)) (.string s) true).run Try.prog W = .ok (.tuple #[((G s).map En.v).getD .nilIface, .bool (G s).isSome]) W := by
  have hz : (zeroValue 20).run Try.prog W = .ok .nilIface W := by kernel_rfl
  obtain ⟨v, ps, hrun, hv⟩ := ho.look_ok law9 Try.underlying58 hz (zd := .held .nilIface) (zp := []) rfl (keyS_ok hs)
  rw [hrun, hm.has]
  cases hG : G s with
  | none =>
    have hh := hm.has s
    rw [hG] at hh
    rw [atKey_of_not_has hh] at hv
    rw [hR_inv hv]
    rfl
  | some e =>
    rw [(hm.val s e hG).1] at hv
    rw [hR_inv hv]
    rfl
/-! ### what is over what -/
def nulE (G : EMap) (t : ByteArray) : Bool := match G t with | some e => decide (e.x.f0 = 0) | none => false
def nnE (G : EMap) (t : ByteArray) : Bool := match G t with | some e => decide (e.x.f0 ≠ 0) | none => false
def nilEn : En := ⟨.nilIface, z26, []⟩
/-- The nulls of one map over another one, but those that are still to come. -/
def over (Gd Gs : EMap) (left : Lit → Bool) : EMap := fun t => if (nulE Gd t && !left (keyS t)) = true then some nilEn else Gs t
def restr (G : EMap) (left : Lit → Bool) : EMap := fun t => if left (keyS t) = true then G t else none
theorem left_self (left : Lit → Bool) (s : ByteArray) : (fun z : Lit => left z && !z.sameKey (keyS s)) (keyS s) = false := by simp [same_yes]
theorem left_other (left : Lit → Bool) {s t : ByteArray} (h : t ≠ s) : (fun z : Lit => left z && !z.sameKey (keyS s)) (keyS t) = left (keyS t) := by simp [same_no h]
theorem restr_next (G : EMap) (left : Lit → Bool) (s : ByteArray) : restr G (fun z => left z && !z.sameKey (keyS s)) = setE (restr G left) s none := by
  funext t
  by_cases c : t = s
  · subst c
    rw [setE_same]
    unfold restr
    rw [left_self]
    rfl
  · rw [setE_other _ _ c]
    unfold restr
    rw [left_other left c]
theorem over_next {Gd Gs : EMap} {left : Lit → Bool} {s : ByteArray} (hl : left (keyS s) = true) : over Gd Gs (fun z => left z && !z.sameKey (keyS s)) = if nulE Gd s = true then setE (over Gd Gs left) s (some nilEn) else over Gd Gs left := by
  funext t
  by_cases c : t = s
  · subst c
    by_cases h : nulE Gd t = true
    · rw [if_pos h, setE_same]
      unfold over
      rw [left_self, h]
      rfl
    · rw [if_neg h]
      unfold over
      rw [left_self, hl]
      have hf : nulE Gd t = false := by simpa using h
      rw [hf]
      rfl
  · have e : over Gd Gs (fun z => left z && !z.sameKey (keyS s)) t = over Gd Gs left t := by unfold over; rw [left_other left c]
    rw [e]
    split
    · rw [setE_other _ _ c]
    · rfl
/-! ### the coalesced table at a key -/
theorem coal_at {mg : Bool} {rec : S26 → S26 → S26} {Ed Es : Ent} {Gd Gs : EMap} {s : ByteArray} (hu : Up Es) (hd : ∀ t, xo (Gd t) = findE Ed t) (hs : ∀ t, xo (Gs t) = findE Es t) :
    findE (coalE mg rec Ed Es) s = match Gd s with
      | none => xo (Gs s)
      | some f => match Gs s with
        | none => some f.x
        | some e => effC mg rec (some f.x) e.x (some f.x) := by
  rw [find_coal mg rec hu, ← hd, ← hs]
  cases Gd s with
  | none => cases Gs s <;> rfl
  | some f => cases Gs s <;> rfl

structure Env where
  n : Nat
  M : Nat
  K : Nat
  mg : Bool
  w : World
  ps : List Nat
  bd : Nat
  bs : Nat
  g : Nat
  Ed : Ent
  Es : Ent
  Gd : EMap
  Gs : EMap
def Env.P (V : Env) (r k : Nat) : Prop := (k ∈ V.ps ∨ V.w.heap.size ≤ k) ∧ k ≠ V.bd ∧ k ≠ V.bs ∧ k ≠ V.g ∧ k ≠ r
def Env.F (V : Env) (k : Nat) : Prop := k ∈ V.ps ∨ k = V.bd ∨ k = V.bs
def Env.G1 (V : Env) : EMap := over V.Gd V.Gs (fun _ => false)
def Env.ks (V : Env) : List ByteArray := V.Ed.map (·.1) ++ V.Es.map (·.1)
structure Env.Ok (V : Env) : Prop where
  M : V.M = V.ks.length
  K : V.K = (V.Es.map (·.1)).length
  bd : V.bd < V.w.heap.size
  bs : V.bs < V.w.heap.size
  ne : V.bd ≠ V.bs
  g : V.w.heap.size ≤ V.g
  ed : ∀ t, xo (V.Gd t) = findE V.Ed t
  es : ∀ t, xo (V.Gs t) = findE V.Es t
  us : Up V.Es
  md : ∀ t e, V.Gd t = some e → Rep V.n V.w e.v e.x e.fp
  lt : ∀ k ∈ V.ps, k < V.w.heap.size ∧ k ≠ V.bd ∧ k ≠ V.bs
  foot : Foot V.w (fun k => k ∈ V.ps) V.Gd V.Gs
theorem xo_keys {G : EMap} {E : Ent} (h : ∀ t, xo (G t) = findE E t) {t : ByteArray} (ht : (G t).isSome = true) : t ∈ E.map (·.1) := by
  obtain ⟨e, he⟩ := Option.isSome_iff_exists.1 ht
  have h1 := h t
  rw [he] at h1
  exact List.mem_map.2 ⟨_, findE_mem h1.symm, rfl⟩
theorem nn_some {G : EMap} {t : ByteArray} (h : nnE G t = true) : (G t).isSome = true := by
  unfold nnE at h
  cases hg : G t with
  | none => rw [hg] at h; cases h
  | some e => rfl
theorem nul_some {G : EMap} {t : ByteArray} (h : nulE G t = true) : ∃ e, G t = some e ∧ e.x.f0 = 0 := by
  unfold nulE at h
  cases hg : G t with
  | none => rw [hg] at h; cases h
  | some e => rw [hg] at h; exact ⟨e, rfl, of_decide_eq_true h⟩

/-! ### the first loop -/
structure C1 (V : Env) (left : Lit → Bool) (W : World) : Prop where
  bools : ∃ Dg, Bools W V.g V.K (fun t => nnE V.Gs t && !left (keyS t)) Dg
  below : Below V.w.heap.size V.w W
variable {V : Env} {left : Lit → Bool} {W W2 : World} {s : ByteArray}
theorem C1.move (h : C1 V left W) {r : Nat} (hg : W.grownBy W2 (some r)) (hr : V.w.heap.size ≤ r) (hne : r ≠ V.g) : C1 V left W2 := by
  obtain ⟨Dg, hb⟩ := h.bools
  exact ⟨⟨Dg, hb.same (hg.block _ hb.own.lt fun e => hne (Option.some.inj e).symm)⟩, below_grown h.below hg hr⟩
theorem C1.start {W0 : World} (_hV : V.Ok) (hg : V.g = V.w.heap.size) (hl : ∀ t, (V.Gs t).isSome = left (keyS t)) (h : (V.w.alloc (.map #[] 0)).grownBy W0 none) : C1 V left W0 := by
  have hb0 : Below V.w.heap.size V.w (V.w.alloc (.map #[] 0)) := below_alloc (Below.refl _ _) _
  have e : (fun t => nnE V.Gs t && !left (keyS t)) = fun _ => false := by
    funext t
    rw [← hl]
    cases hc : nnE V.Gs t with
    | false => rfl
    | true => rw [nn_some hc]; rfl
  refine ⟨⟨.map [], ?_⟩, ⟨h.os.trans hb0.os, h.tape.trans hb0.tape, h.output.trans hb0.output, Nat.le_trans hb0.size h.size, fun k hk => (h.block k (Nat.lt_of_lt_of_le hk hb0.size) (by simp)).trans (hb0.block k hk)⟩⟩
  rw [e, hg]
  have hm := Bools.made V.w
  have hm2 : Bools W0 V.w.heap.size 0 (fun _ => false) (.map []) := hm.same (h.block _ hm.own.lt (by simp))
  refine ⟨?_, hm2.map, hm2.has, hm2.val, hm2.non⟩
  obtain ⟨es, clock, q1, q2, q3, q4⟩ := hm2.own
  exact ⟨es, clock, q1, q2, Nat.le_trans q3 (Nat.zero_le _), q4⟩
theorem C1.skip (h : C1 V left W) (hn : nnE V.Gs s = false) : C1 V (fun z => left z && !z.sameKey (keyS s)) W := by
  obtain ⟨Dg, hb⟩ := h.bools
  refine ⟨⟨Dg, ?_⟩, h.below⟩
  have e : (fun t => nnE V.Gs t && !(fun z : Lit => left z && !z.sameKey (keyS s)) (keyS t)) = fun t => nnE V.Gs t && !left (keyS t) := by
    funext t
    by_cases c : t = s
    · subst c; rw [hn]; rfl
    · rw [left_other left c]
  rw [e]
  exact hb
theorem C1.put (hV : V.Ok) (h : C1 V left W) (hn : nnE V.Gs s = true) {Dg : DataW Value} (hb : Bools W V.g V.K (fun t => nnE V.Gs t && !left (keyS t)) Dg) (ho : W2.ownsMap Try.prog 9 hR V.g (V.K + 1) (Dg.put (keyS s) (.held (.bool true)))) (hg : W.grownBy W2 (some V.g)) : C1 V (fun z => left z && !z.sameKey (keyS s)) W2 := by
  have h2 := hb.put ho
  have e : (fun t => decide (t = s) || (nnE V.Gs t && !left (keyS t))) = fun t => nnE V.Gs t && !(fun z : Lit => left z && !z.sameKey (keyS s)) (keyS t) := by
    funext t
    by_cases c : t = s
    · subst c; rw [left_self, hn]; simp
    · rw [left_other left c]; simp [c]
  rw [e] at h2
  refine ⟨⟨_, ?_, h2.map, h2.has, h2.val, h2.non⟩, below_grown h.below hg hV.g⟩
  have := own_tight (ks := V.Es.map (·.1)) h2.own fun t ht => by
    rw [h2.has] at ht
    exact xo_keys hV.es (nn_some (Bool.and_eq_true _ _ ▸ ht).1)
  rw [hV.K]
  exact this

/-! ### the second loop -/
structure C2 (V : Env) (left : Lit → Bool) (Ds : DataW Value) (W : World) : Prop where
  own : W.ownsMap Try.prog 9 hR V.bs V.M Ds
  ms : Ms V.n W Ds (over V.Gd V.Gs left)
  bools : ∃ Dg, Bools W V.g V.K (nnE V.Gs) Dg
  chg : Chg (fun k => k = V.bs) V.w W
theorem over_fp {Gd Gs : EMap} {t : ByteArray} : ∀ k ∈ fpo (over Gd Gs left t), k ∈ fpo (Gs t) := fun k hk => by
  unfold over at hk
  split at hk
  · cases hk
  · exact hk
theorem Env.Ok.fps (hV : V.Ok) {t : ByteArray} {k : Nat} (hk : k ∈ fpo (V.Gs t)) : k < V.w.heap.size ∧ k ∈ V.ps ∧ k ≠ V.bd ∧ k ≠ V.bs :=
  have h := hV.foot.lt t k (List.mem_append_right _ hk)
  ⟨h.1, h.2, (hV.lt k h.2).2⟩
theorem Env.Ok.fpd (hV : V.Ok) {t : ByteArray} {k : Nat} (hk : k ∈ fpo (V.Gd t)) : k < V.w.heap.size ∧ k ∈ V.ps ∧ k ≠ V.bd ∧ k ≠ V.bs :=
  have h := hV.foot.lt t k (List.mem_append_left _ hk)
  ⟨h.1, h.2, (hV.lt k h.2).2⟩
theorem C2.start {Ds : DataW Value} {N : Nat} {W0 : World} (hV : V.Ok) (h : C1 V left W) (h0 : ∀ kl, left kl = false) (ho : V.w.ownsMap Try.prog 9 hR V.bs N Ds) (hm : Ms V.n V.w Ds V.Gs) {left2 : Lit → Bool} (hl : ∀ t, (V.Gd t).isSome = left2 (keyS t)) (hg : W.grownBy W0 none) : C2 V left2 Ds W0 := by
  have e : over V.Gd V.Gs left2 = V.Gs := by
    funext t
    unfold over
    rw [← hl]
    cases hc : nulE V.Gd t with
    | false => rfl
    | true =>
      obtain ⟨e, he, _⟩ := nul_some hc
      rw [he]
      rfl
  have hfr : ∀ k, k < V.w.heap.size → W0.heap[k]? = V.w.heap[k]? := fun k hk => (hg.block k (Nat.lt_of_lt_of_le hk h.below.size) (by simp)).trans (h.below.block k hk)
  refine ⟨?_, ?_, ?_, ⟨hg.os.trans h.below.os, hg.tape.trans h.below.tape, hg.output.trans h.below.output, Nat.le_trans h.below.size hg.size, fun k hk _ => hfr k hk⟩⟩
  · have h2 := own_tight (ks := V.Es.map (·.1)) ho fun t ht => by
      rw [hm.has] at ht
      exact xo_keys hV.es ht
    obtain ⟨es, clock, q1, q2, q3, q4⟩ := h2
    refine ⟨es, clock, (hfr _ hV.bs).trans q1, q2, Nat.le_trans q3 ?_, q4⟩
    rw [hV.M]
    unfold Env.ks
    rw [List.length_append]
    exact Nat.le_add_left _ _
  · rw [e]
    exact hm.move fun t e he k hk => hfr k (hV.fps (by rw [he]; exact hk)).1
  · obtain ⟨Dg, hb⟩ := h.bools
    have e2 : (fun t => nnE V.Gs t && !left (keyS t)) = nnE V.Gs := by
      funext t
      rw [h0]
      simp
    rw [e2] at hb
    exact ⟨Dg, hb.same (hg.block _ hb.own.lt (by simp))⟩
theorem C2.move {Ds : DataW Value} (hV : V.Ok) (h : C2 V left Ds W) {r : Nat} (hg : W.grownBy W2 (some r)) (hr : V.w.heap.size ≤ r) (hne : r ≠ V.g) : C2 V left Ds W2 := by
  obtain ⟨Dg, hb⟩ := h.bools
  refine ⟨h.own.kept hg (fun e => by have := Option.some.inj e; have := hV.bs; omega), h.ms.move fun t e he k hk => hg.block k ?_ ?_, ⟨Dg, hb.same (hg.block _ hb.own.lt fun e => hne (Option.some.inj e).symm)⟩, h.chg.step (chg_grown hg) fun k e => .inr (e ▸ hr)⟩
  · have h1 := (hV.fps (over_fp k (by rw [he]; exact hk))).1
    exact Nat.lt_of_lt_of_le h1 h.chg.size
  · have h1 := (hV.fps (over_fp k (by rw [he]; exact hk))).1
    intro e
    have := Option.some.inj e
    omega
theorem C2.skip {Ds : DataW Value} (h : C2 V left Ds W) (hl : left (keyS s) = true) (hn : nulE V.Gd s = false) : C2 V (fun z => left z && !z.sameKey (keyS s)) Ds W := by
  have e := over_next (Gd := V.Gd) (Gs := V.Gs) hl
  rw [if_neg (by rw [hn]; decide)] at e
  exact ⟨h.own, by rw [e]; exact h.ms, h.bools, h.chg⟩
theorem C2.keys {Ds : DataW Value} (hV : V.Ok) (h : C2 V left Ds W) {t : ByteArray} (ht : Maps.has Ds (keyS t) = true) : t ∈ V.ks := by
  rw [h.ms.has] at ht
  unfold over at ht
  split at ht
  · rename_i hc
    obtain ⟨e, he, _⟩ := nul_some (Bool.and_eq_true _ _ ▸ hc).1
    exact List.mem_append_left _ (xo_keys hV.ed (by rw [he]; rfl))
  · exact List.mem_append_right _ (xo_keys hV.es ht)
theorem C2.put {Ds : DataW Value} (hV : V.Ok) (h : C2 V left Ds W) (hl : left (keyS s) = true) (hn : nulE V.Gd s = true) (ho : W2.ownsMap Try.prog 9 hR V.bs (V.M + 1) (Ds.put (keyS s) (.held .nilIface))) (hg : W.grownBy W2 (some V.bs)) : C2 V (fun z => left z && !z.sameKey (keyS s)) (Ds.put (keyS s) (.held .nilIface)) W2 := by
  have e := over_next (Gd := V.Gd) (Gs := V.Gs) hl
  rw [if_pos hn] at e
  obtain ⟨Dg, hb⟩ := h.bools
  have hm2 : Ms V.n W2 Ds (over V.Gd V.Gs left) := h.ms.move fun t e he k hk => by
    have h1 := hV.fps (over_fp k (by rw [he]; exact hk))
    exact hg.block k (Nat.lt_of_lt_of_le h1.1 h.chg.size) (fun e => h1.2.2.2 (Option.some.inj e))
  obtain ⟨e0, he0, hx0⟩ := nul_some hn
  obtain ⟨m, hm⟩ : ∃ m, V.n = m + 1 := by
    have h1 := hV.md s e0 he0
    cases hm : V.n with
    | zero => rw [hm] at h1; exact h1.elim
    | succ m => exact ⟨m, rfl⟩
  have h3 : Ms V.n W2 (Ds.put (keyS s) (.held .nilIface)) (setE (over V.Gd V.Gs left) s (some nilEn)) := hm2.put (s := s) nilEn (by rw [hm]; exact Rep.mk (.inl ⟨rfl, rfl, rfl⟩))
  refine ⟨?_, by rw [e]; exact h3, ⟨Dg, hb.same (hg.block _ hb.own.lt fun e => by have := Option.some.inj e; have := hV.bs; have := hV.g; omega)⟩, h.chg.step (chg_grown hg) fun k e => .inl e⟩
  have := own_tight (ks := V.ks) ho fun t ht => by
    rw [h3.has] at ht
    by_cases c : t = s
    · subst c
      exact List.mem_append_left _ (xo_keys hV.ed (by rw [he0]; rfl))
    · rw [setE_other _ _ c] at ht
      exact h.keys hV (by rw [h.ms.has]; exact ht)
  rw [hV.M]
  exact this

/-! ### the third loop -/
structure C3 (V : Env) (r : Nat) (left : Lit → Bool) (Dd : DataW Value) (Gd : EMap) (W : World) : Prop where
  own : W.ownsMap Try.prog 9 hR V.bd V.M Dd
  md : Ms V.n W Dd Gd
  src : ∀ t e, left (keyS t) = true → V.G1 t = some e → Rep V.n W e.v e.x e.fp
  sub : ∀ t, left (keyS t) = true → (V.G1 t).isSome = true
  foot : Foot W (V.P r) Gd (restr V.G1 left)
  todo : ∀ t, left (keyS t) = true → Gd t = V.Gd t
  done : ∀ t, left (keyS t) = false → xo (Gd t) = findE (coalE V.mg (coal V.n V.mg) V.Ed V.Es) t
  bools : ∃ Dg, Bools W V.g V.K (nnE V.Gs) Dg
  chg : Chg V.F V.w W
  r : V.w.heap.size ≤ r ∧ r < W.heap.size ∧ r ≠ V.g
theorem g1_none {t : ByteArray} (hV : V.Ok) (h : V.G1 t = none) : findE (coalE V.mg (coal V.n V.mg) V.Ed V.Es) t = xo (V.Gd t) := by
  rw [coal_at hV.us hV.ed hV.es]
  have h2 : nulE V.Gd t = false ∧ V.Gs t = none := by
    unfold Env.G1 over at h
    split at h
    · cases h
    · rename_i hc
      exact ⟨by simpa using hc, h⟩
  rw [h2.2]
  cases V.Gd t <;> rfl
theorem C3.start {Ds Dd : DataW Value} {N : Nat} {W0 : World} (hV : V.Ok) (h : C2 V left Ds W) (h0 : ∀ kl, left kl = false) (ho : V.w.ownsMap Try.prog 9 hR V.bd N Dd) (hm : Ms V.n V.w Dd V.Gd) (hg : W.grownBy W0 none) (hs : W0.heap.size = W.heap.size + 1) : C3 V W.heap.size (Maps.has Ds) Dd V.Gd W0 ∧ ∀ t e, V.G1 t = some e → ∀ z, Ds.atKey (keyS t) z = .held e.v := by
  have e : over V.Gd V.Gs left = V.G1 := by
    funext t
    unfold Env.G1 over
    rw [h0]
  have hms := h.ms
  rw [e] at hms
  have hsz := h.chg.size
  have hfr : ∀ k, k < V.w.heap.size → k ≠ V.bs → W0.heap[k]? = V.w.heap[k]? := fun k hk hn => (hg.block k (Nat.lt_of_lt_of_le hk hsz) (by simp)).trans (h.chg.block k hk hn)
  obtain ⟨Dg, hb⟩ := h.bools
  have hres : restr V.G1 (Maps.has Ds) = V.G1 := by
    funext t
    unfold restr
    rw [hms.has]
    cases V.G1 t <;> rfl
  refine ⟨⟨?_, ?_, fun t e _ he => (hms.val t e he).2.move _ fun k hk => hg.block k ?_ (by simp), fun t ht => by rw [← hms.has]; exact ht, ?_, fun _ _ => rfl, fun t ht => ?_, ⟨Dg, hb.same (hg.block _ hb.own.lt (by simp))⟩, ?_, hsz, by omega, fun e => by have := hb.own.lt; omega⟩, fun t e he => (hms.val t e he).1⟩
  · have h2 := own_tight (ks := V.Ed.map (·.1)) ho fun t ht => by
      rw [hm.has] at ht
      exact xo_keys hV.ed ht
    obtain ⟨es, clock, q1, q2, q3, q4⟩ := h2
    refine ⟨es, clock, (hfr _ hV.bd hV.ne).trans q1, q2, Nat.le_trans q3 ?_, q4⟩
    rw [hV.M]
    unfold Env.ks
    rw [List.length_append]
    exact Nat.le_add_right _ _
  · exact hm.move fun t e he k hk => by
      have h1 := hV.fpd (t := t) (k := k) (by rw [he]; exact hk)
      exact hfr k h1.1 h1.2.2.2
  · have h1 := hV.fps (over_fp k (by unfold Env.G1 at he; rw [he]; exact hk))
    exact Nat.lt_of_lt_of_le h1.1 hsz
  · rw [hres]
    have hsub : ∀ t, ∀ k ∈ ft V.Gd V.G1 t, k ∈ ft V.Gd V.Gs t := fun t k hk => by
      rcases List.mem_append.1 hk with hk | hk
      · exact List.mem_append_left _ hk
      · exact List.mem_append_right _ (over_fp k hk)
    refine ⟨fun t => ?_, fun s t c k h1 h2 => hV.foot.apart s t c k (hsub s k h1) (hsub t k h2), fun t k hk => ?_⟩
    · obtain ⟨n1, n2, n3⟩ := List.nodup_append.1 (hV.foot.nodup t)
      refine List.nodup_append.2 ⟨n1, ?_, fun a ha b hb => n3 a ha b (over_fp b hb)⟩
      unfold Env.G1 over
      split
      · exact List.nodup_nil
      · exact n2
    · have h1 := hV.foot.lt t k (hsub t k hk)
      have h2 := hV.lt k h1.2
      have h3 := hV.g
      exact ⟨by omega, .inl h1.2, h2.2.1, h2.2.2, by omega, by omega⟩
  · rw [hms.has] at ht
    exact (g1_none hV (by cases hc : V.G1 t with | none => rfl | some e => rw [hc] at ht; cases ht)).symm
  · exact ((h.chg.step (chg_none hg) fun k hk => hk.elim).mono fun k hk => .inr (.inr hk))
theorem C3.move {r : Nat} {Dd : DataW Value} {Gd : EMap} (hV : V.Ok) (h : C3 V r left Dd Gd W) (hg : W.grownBy W2 (some r)) : C3 V r left Dd Gd W2 := by
  obtain ⟨Dg, hb⟩ := h.bools
  have hr := h.r
  have hbd := hV.bd
  have fr : ∀ t, ∀ k ∈ ft Gd (restr V.G1 left) t, W2.heap[k]? = W.heap[k]? := fun t k hk => hg.block k (h.foot.lt t k hk).1 fun e => (h.foot.lt t k hk).2.2.2.2.2 (Option.some.inj e)
  refine ⟨h.own.kept hg (fun e => by have := Option.some.inj e; omega), h.md.move fun t e he k hk => fr t k (List.mem_append_left _ (by rw [he]; exact hk)), fun t e hl he => (h.src t e hl he).move _ fun k hk => fr t k (List.mem_append_right _ (by unfold restr; rw [if_pos hl, he]; exact hk)), h.sub, h.foot.grow hg.size, h.todo, h.done, ⟨Dg, hb.same (hg.block _ hb.own.lt fun e => hr.2.2 (Option.some.inj e).symm)⟩, h.chg.step (chg_grown hg) fun k e => .inr (by rw [e]; exact hr.1), hr.1, Nat.lt_of_lt_of_le hr.2.1 hg.size, hr.2.2⟩
theorem C3.keys {r : Nat} {Dd : DataW Value} {Gd : EMap} (hV : V.Ok) (h : C3 V r left Dd Gd W) {t : ByteArray} (ht : (Gd t).isSome = true) : t ∈ V.ks := by
  by_cases hl : left (keyS t) = true
  · rw [h.todo t hl] at ht
    exact List.mem_append_left _ (xo_keys hV.ed ht)
  · have h1 := h.done t (by simpa using hl)
    obtain ⟨e, he⟩ := Option.isSome_iff_exists.1 ht
    rw [he] at h1
    rcases coal_val hV.us h1.symm with q | q | ⟨x, v, q, _⟩
    · exact List.mem_append_left _ (List.mem_map.2 ⟨_, findE_mem q, rfl⟩)
    · exact List.mem_append_right _ (List.mem_map.2 ⟨_, findE_mem q, rfl⟩)
    · exact List.mem_append_left _ (List.mem_map.2 ⟨_, findE_mem q, rfl⟩)
/-- One entry is done. -/
theorem C3.next {r : Nat} {Dd Dd2 : DataW Value} {Gd : EMap} {o : Option En} {F2 : Nat → Prop} (hV : V.Ok) (h : C3 V r left Dd Gd W) (hl : left (keyS s) = true) (own2 : W2.ownsMap Try.prog 9 hR V.bd V.M Dd2) (md2 : Ms V.n W2 Dd2 (setE Gd s o)) (hch : Chg F2 W W2) (hF2 : ∀ k, F2 k → k ∈ ft Gd (restr V.G1 left) s ∨ k = V.bd)
    (hn : (fpo o).Nodup) (hk : ∀ k ∈ fpo o, k ∈ ft Gd (restr V.G1 left) s ∨ (W.heap.size ≤ k ∧ k < W2.heap.size)) (hx : xo o = findE (coalE V.mg (coal V.n V.mg) V.Ed V.Es) s) : C3 V r (fun z => left z && !z.sameKey (keyS s)) Dd2 (setE Gd s o) W2 := by
  obtain ⟨Dg, hb⟩ := h.bools
  have hsz := h.chg.size
  have hbd := hV.bd
  have hbs := hV.bs
  have hgg := hV.g
  have hgl := hb.own.lt
  have hr := h.r
  refine ⟨own2, md2, fun t e ht he => ?_, fun t ht => h.sub t (Bool.and_eq_true _ _ ▸ ht).1, ?_, fun t ht => ?_, fun t ht => ?_, ⟨Dg, hb.same (hch.block _ hgl fun hf => ?_)⟩, h.chg.step hch fun k hf => ?_, hr.1, Nat.lt_of_lt_of_le hr.2.1 hch.size, hr.2.2⟩
  · have c : t ≠ s := fun c => by subst c; exact absurd ((left_self left t).symm.trans ht) (by decide)
    replace ht : left (keyS t) = true := (left_other left c).symm.trans ht
    refine (h.src t e ht he).move _ fun k hk => ?_
    have hkt : k ∈ ft Gd (restr V.G1 left) t := List.mem_append_right _ (by unfold restr; rw [if_pos ht, he]; exact hk)
    refine hch.block k (h.foot.lt t k hkt).1 fun hf => ?_
    rcases hF2 k hf with q | q
    · exact h.foot.apart t s c k hkt q
    · exact (h.foot.lt t k hkt).2.2.1 q
  · rw [restr_next]
    refine h.foot.step hch.size (by rw [show fpo (none : Option En) = [] from rfl, List.append_nil]; exact hn) fun k hk2 => ?_
    rw [show fpo (none : Option En) = [] from rfl, List.append_nil] at hk2
    refine (hk k hk2).imp id fun q => ⟨q.1, q.2, .inr (by omega), ?_, ?_, ?_, ?_⟩ <;> omega
  · have c : t ≠ s := fun c => by subst c; exact absurd ((left_self left t).symm.trans ht) (by decide)
    replace ht : left (keyS t) = true := (left_other left c).symm.trans ht
    rw [setE_other _ _ c]
    exact h.todo t ht
  · by_cases c : t = s
    · subst c
      rw [setE_same]
      exact hx
    · replace ht : left (keyS t) = false := (left_other left c).symm.trans ht
      rw [setE_other _ _ c]
      exact h.done t ht
  · rcases hF2 _ hf with q | q
    · exact (h.foot.lt s _ q).2.2.2.2.1 rfl
    · omega
  · rcases hF2 k hf with q | q
    · exact (h.foot.lt s k q).2.1.imp (fun q => Or.inl q) id
    · exact .inl (.inr (.inl q))
end Go.Proofs.Ytjfbjkodjjlkiaa.HVal
/-! The rounds of the third loop, and its end. -/
namespace Go.Proofs.Ytjfbjkodjjlkiaa.HVal
open Go.RowKit Go.WideMaps Go.Maps Go.Proofs.YtjfbjkodjjlkiaaW.PrintWords Go.Proofs.YtjfbjkodjjlkiaaW.PrintLast Go.Proofs.YtjfbjkodjjlkiaaW.PrintMore Go.Proofs.Ytjfbjkodjjlkiaa.Plain Go.Proofs.Ytjfbjkodjjlkiaa.GTab Go.Proofs.Ytjfbjkodjjlkiaa.Opens
variable {V : Env} {r : Nat} {left : Lit → Bool} {Dd : DataW Value} {Gd : EMap} {W W2 : World} {s : ByteArray} {e1 f : En}

theorem g1_of_none (hd : V.Gd s = none) (he : V.G1 s = some e1) : V.Gs s = some e1 := by
  unfold Env.G1 over at he
  have h1 : nulE V.Gd s = false := by unfold nulE; rw [hd]
  rw [h1] at he
  exact he
theorem g1_of_some (hd : V.Gd s = some f) (h0 : f.x.f0 ≠ 0) (he : V.G1 s = some e1) : V.Gs s = some e1 := by
  unfold Env.G1 over at he
  have h1 : nulE V.Gd s = false := by unfold nulE; rw [hd]; exact decide_eq_false h0
  rw [h1] at he
  exact he
theorem g1_of_nul (hd : V.Gd s = some f) (h0 : f.x.f0 = 0) (he : V.G1 s = some e1) : e1 = nilEn := by
  unfold Env.G1 over at he
  have h1 : nulE V.Gd s = true := by unfold nulE; rw [hd]; exact decide_eq_true h0
  rw [h1] at he
  exact (Option.some.inj he).symm
theorem coal_skip (hV : V.Ok) (hd : V.Gd s = some f) (he : V.G1 s = some e1) (h1 : ¬ (V.mg = false ∧ f.x.f0 = 0 ∧ nnE V.Gs s = true)) (h2 : ¬ (f.x.f0 = 7 ∧ e1.x.f0 = 7)) : findE (coalE V.mg (coal V.n V.mg) V.Ed V.Es) s = some f.x := by
  rw [coal_at hV.us hV.ed hV.es, hd]
  cases hG : V.Gs s with
  | none => rfl
  | some e =>
    show effC V.mg (coal V.n V.mg) (some f.x) e.x (some f.x) = some f.x
    by_cases h0 : f.x.f0 = 0
    · unfold effC
      simp only
      by_cases he0 : e.x.f0 = 0
      · rw [if_pos ⟨h0, he0⟩]
      · rw [if_neg (fun q => he0 q.2), if_neg (fun q => h1 ⟨q.2, h0, by unfold nnE; rw [hG]; exact decide_eq_true he0⟩), if_neg (fun q => by omega)]
    · have := g1_of_some hd h0 he
      rw [hG] at this
      cases this
      rw [eff_plain h0, if_neg h2]
theorem C3.skip (hV : V.Ok) (h : C3 V r left Dd Gd W) (hl : left (keyS s) = true) (hd : V.Gd s = some f) (he : V.G1 s = some e1) (h1 : ¬ (V.mg = false ∧ f.x.f0 = 0 ∧ nnE V.Gs s = true)) (h2 : ¬ (f.x.f0 = 7 ∧ e1.x.f0 = 7)) : C3 V r (fun z => left z && !z.sameKey (keyS s)) Dd Gd W := by
  have hG : Gd s = some f := (h.todo s hl).trans hd
  have hx := coal_skip hV hd he h1 h2
  have h3 := h.next (o := some f) (W2 := W) (Dd2 := Dd) (F2 := fun _ => False) hV hl h.own (by rw [setE_id hG]; exact h.md) (Chg.refl _ _) (fun _ q => q.elim) (by rw [← hG]; exact (List.nodup_append.1 (h.foot.nodup s)).1) (fun k hk => .inl (List.mem_append_left _ (by rw [hG]; exact hk))) (by rw [hx]; rfl)
  rwa [setE_id hG] at h3
theorem C3.fpd (h : C3 V r left Dd Gd W) {t : ByteArray} {e : En} (he : Gd t = some e) {k : Nat} (hk : k ∈ e.fp) : k < W.heap.size ∧ k ≠ V.bd := by
  have := h.foot.lt t k (List.mem_append_left _ (by rw [he]; exact hk))
  exact ⟨this.1, this.2.2.1⟩
theorem C3.restr_eq (h : C3 V r left Dd Gd W) (hl : left (keyS s) = true) : ft Gd (restr V.G1 left) s = fpo (V.Gd s) ++ fpo (V.G1 s) := by
  unfold ft restr
  rw [if_pos hl, h.todo s hl]
theorem C3.put (hV : V.Ok) (h : C3 V r left Dd Gd W) (hl : left (keyS s) = true) (hd : V.Gd s = none) (he : V.G1 s = some e1) (ho : W2.ownsMap Try.prog 9 hR V.bd (V.M + 1) (Dd.put (keyS s) (.held e1.v))) (hg : W.grownBy W2 (some V.bd)) : ∃ Gd2, C3 V r (fun z => left z && !z.sameKey (keyS s)) (Dd.put (keyS s) (.held e1.v)) Gd2 W2 := by
  have hft := h.restr_eq hl
  rw [hd, he] at hft
  have hs := g1_of_none hd he
  have hm2 : Ms V.n W2 Dd Gd := h.md.move fun t e he k hk => hg.block k (h.fpd he hk).1 fun q => (h.fpd he hk).2 (Option.some.inj q)
  have hr2 : Rep V.n W2 e1.v e1.x e1.fp := (h.src s e1 hl he).move _ fun k hk => by
    have h1 := h.foot.lt s k (by rw [hft]; exact hk)
    exact hg.block k h1.1 fun q => h1.2.2.1 (Option.some.inj q)
  have h3 := hm2.put (s := s) e1 hr2
  have h4 := own_tight (ks := V.ks) ho fun t ht => by
    rw [h3.has] at ht
    by_cases c : t = s
    · subst c
      exact List.mem_append_right _ (xo_keys hV.es (by rw [hs]; rfl))
    · rw [setE_other _ _ c] at ht
      exact h.keys hV ht
  rw [← hV.M] at h4
  refine ⟨_, h.next (o := some e1) (F2 := fun k => k = V.bd) hV hl h4 h3 (chg_grown hg) (fun k q => .inr q) ?_ (fun k hk => .inl (by rw [hft]; exact hk)) ?_⟩
  · have := h.foot.nodup s
    rw [hft] at this
    exact this
  · rw [coal_at hV.us hV.ed hV.es, hd, hs]
theorem C3.del (hV : V.Ok) (h : C3 V r left Dd Gd W) (hl : left (keyS s) = true) (hd : V.Gd s = some f) (h0 : f.x.f0 = 0) (hm : V.mg = false) (hn : nnE V.Gs s = true) (ho : W2.ownsMap Try.prog 9 hR V.bd V.M (Dd.del (keyS s))) (hg : W.grownBy W2 (some V.bd)) : ∃ Gd2, C3 V r (fun z => left z && !z.sameKey (keyS s)) (Dd.del (keyS s)) Gd2 W2 := by
  have hm2 : Ms V.n W2 Dd Gd := h.md.move fun t e he k hk => hg.block k (h.fpd he hk).1 fun q => (h.fpd he hk).2 (Option.some.inj q)
  refine ⟨_, h.next (o := none) (F2 := fun k => k = V.bd) hV hl ho hm2.del (chg_grown hg) (fun k q => .inr q) List.nodup_nil (fun k hk => (nomatch hk)) ?_⟩
  rw [coal_at hV.us hV.ed hV.es, hd]
  unfold nnE at hn
  cases hG : V.Gs s with
  | none => rw [hG] at hn; cases hn
  | some e =>
    rw [hG] at hn
    have he0 : e.x.f0 ≠ 0 := of_decide_eq_true hn
    show none = effC V.mg _ (some f.x) e.x (some f.x)
    unfold effC
    simp only
    rw [if_neg (fun q => he0 q.2), if_pos ⟨h0, hm⟩]
theorem C3.into (hV : V.Ok) (h : C3 V r left Dd Gd W) (hl : left (keyS s) = true) (hd : V.Gd s = some f) (he : V.G1 s = some e1) (h7 : f.x.f0 = 7) (k7 : e1.x.f0 = 7) {fp : List Nat} (hch : Chg (fun k => k ∈ f.fp ∨ k ∈ e1.fp) W W2) (hrep : Rep V.n W2 f.v (coal V.n V.mg f.x e1.x) fp) (hn : fp.Nodup) (hf : ∀ k ∈ fp, k ∈ f.fp ∨ k ∈ e1.fp ∨ (W.heap.size ≤ k ∧ k < W2.heap.size)) : ∃ Gd2, C3 V r (fun z => left z && !z.sameKey (keyS s)) Dd Gd2 W2 := by
  have hft := h.restr_eq hl
  rw [hd, he] at hft
  have hG : Gd s = some f := (h.todo s hl).trans hd
  have hs := g1_of_some hd (by omega) he
  have hin : ∀ k, (k ∈ f.fp ∨ k ∈ e1.fp) → k ∈ ft Gd (restr V.G1 left) s := fun k hk => by rw [hft]; exact List.mem_append.2 hk
  have hown : W2.ownsMap Try.prog 9 hR V.bd V.M Dd := by
    obtain ⟨es, clock, q1, q2⟩ := h.own
    refine ⟨es, clock, (hch.block _ h.own.lt fun q => ?_).trans q1, q2⟩
    exact (h.foot.lt s _ (hin _ q)).2.2.1 rfl
  -- the other entries lie as they did
  have hm2 : Ms V.n W2 Dd (setE Gd s (some ⟨f.v, coal V.n V.mg f.x e1.x, fp⟩)) := by
    refine ⟨h.md.map, fun t => ?_, fun t g hg => ?_⟩
    · by_cases c : t = s
      · subst c
        rw [h.md.has, hG, setE_same]
        rfl
      · rw [setE_other _ _ c, h.md.has]
    · by_cases c : t = s
      · subst c
        rw [setE_same] at hg
        cases hg
        exact ⟨(h.md.val t f hG).1, hrep⟩
      · rw [setE_other _ _ c] at hg
        refine ⟨(h.md.val t g hg).1, (h.md.val t g hg).2.move _ fun k hk => ?_⟩
        have hkt : k ∈ ft Gd (restr V.G1 left) t := List.mem_append_left _ (by rw [hg]; exact hk)
        exact hch.block k (h.foot.lt t k hkt).1 fun q => h.foot.apart t s c k hkt (hin k q)
  refine ⟨_, h.next hV hl hown hm2 hch (fun k q => .inl (hin k q)) hn (fun k hk => ?_) ?_⟩
  · rcases hf k hk with q | q | q
    · exact .inl (hin k (.inl q))
    · exact .inl (hin k (.inr q))
    · exact .inr q
  · rw [coal_at hV.us hV.ed hV.es, hd, hs]
    show some _ = effC V.mg _ (some f.x) e1.x (some f.x)
    rw [eff_plain (by omega), if_pos ⟨h7, k7⟩]
theorem C3.finish (hu : Up V.Ed) (h : C3 V r left Dd Gd W) (h0 : ∀ kl, left kl = false) : ∃ fp, Rep (V.n + 1) W (.iface 58 (.map (some V.bd))) (tabE (coalE V.mg (coal V.n V.mg) V.Ed V.Es)) (V.bd :: fp) ∧ (V.bd :: fp).Nodup ∧ ∀ k ∈ fp, k < W.heap.size ∧ (k ∈ V.ps ∨ V.w.heap.size ≤ k) := by
  obtain ⟨fp, h1, h2, h3⟩ := rep_of_ms h.md h.own (up_coal hu) fun t => h.done t (h0 _)
  have h4 : ∀ k ∈ fp, k < W.heap.size ∧ V.P r k := fun k hk => by
    obtain ⟨t, ht⟩ := h2 k hk
    exact h.foot.lt t k (List.mem_append_left _ ht)
  refine ⟨fp, h1, List.nodup_cons.2 ⟨fun hm => (h4 _ hm).2.2.1 rfl, h3 h.foot.apartD⟩, fun k hk => ⟨(h4 k hk).1, (h4 k hk).2.1⟩⟩

/-! ### the beginning -/
def CoalPost (n : Nat) (mg : Bool) (d s : S26) (bd : Nat) (fpd fps : List Nat) (w : World) (e : Ending) (w' : World) : Prop :=
  e = .returned (.map (some bd)) ∧ Chg (fun k => k ∈ fpd ∨ k ∈ fps) w w' ∧ ∃ fp, Rep (n + 1) w' (.iface 58 (.map (some bd))) (coal (n + 1) mg d s) fp ∧ fp.Nodup ∧ ∀ k ∈ fp, k ∈ fpd ∨ k ∈ fps ∨ (w.heap.size ≤ k ∧ k < w'.heap.size)
def mkEnv (n : Nat) (mg : Bool) (d s : S26) (bd bs : Nat) (ps : List Nat) (Gd Gs : EMap) (w : World) : Env :=
  { n := n, M := d.f5.length + s.f5.length, K := s.f5.length, mg := mg, w := w, ps := ps, bd := bd, bs := bs, g := w.heap.size, Ed := entE d, Es := entE s, Gd := Gd, Gs := Gs }
theorem ent_keys {x : S26} (hl : x.f5.length = x.f6.length) : (entE x).map (·.1) = x.f5 := List.map_fst_zip (Nat.le_of_eq hl)
theorem env_of {n : Nat} {mg : Bool} {d s : S26} {bd bs : Nat} {fpd fps : List Nat} {w : World} (hd : Rep (n + 1) w (.iface 58 (.map (some bd))) d fpd) (hs : Rep (n + 1) w (.iface 58 (.map (some bs))) s fps) (rd : Rt (n + 1) d) (rs : Rt (n + 1) s) (hn : (fpd ++ fps).Nodup) (hlt : ∀ k ∈ fpd ++ fps, k < w.heap.size) :
    ∃ Dd Ds Gd Gs pd ps, fpd = bd :: pd ∧ fps = bs :: ps ∧ (mkEnv n mg d s bd bs (pd ++ ps) Gd Gs w).Ok ∧ w.ownsMap Try.prog 9 hR bd d.f5.length Dd ∧ Ms n w Dd Gd ∧ w.ownsMap Try.prog 9 hR bs s.f5.length Ds ∧ Ms n w Ds Gs ∧ d.f0 = 7 ∧ s.f0 = 7 ∧ Up (entE d) ∧ (∀ t e, Gd t = some e → e.x ∈ d.f6 ∧ t ∈ d.f5) ∧ ∀ t e, Gs t = some e → e.x ∈ s.f6 ∧ t ∈ s.f5 := by
  obtain ⟨Dd, Gd, pd, d7, dl, rfl, od, md, xd, fd, kd, ad⟩ := ms_of_rep hd
  obtain ⟨Ds, Gs, ps, s7, sl, rfl, os, ms, xs, fs, ks, aq⟩ := ms_of_rep hs
  obtain ⟨n1, n2, n3⟩ := List.nodup_append.1 hn
  have d1 := List.nodup_cons.1 n1
  have s1 := List.nodup_cons.1 n2
  have aD := ad d1.2
  have aS := aq s1.2
  refine ⟨Dd, Ds, Gd, Gs, pd, ps, rfl, rfl, ⟨?_, ?_, hlt bd (by simp), hlt bs (by simp), fun e => n3 bd (by simp) bs (by simp) e, Nat.le_refl _, xd, xs, up_ent (rt_rises' rs s7), fun t e he => (md.val t e he).2, fun k hk => ?_, ⟨fun t => ?_, fun u t c k h1 h2 => ?_, fun t k hk => ?_⟩⟩, od, md, os, ms, d7, s7, up_ent (rt_rises' rd d7), fun t e he => ⟨?_, kd t e he⟩, fun t e he => ⟨?_, ks t e he⟩⟩
  · show d.f5.length + s.f5.length = ((entE d).map (·.1) ++ (entE s).map (·.1)).length
    rw [ent_keys dl, ent_keys sl, List.length_append]
  · show s.f5.length = ((entE s).map (·.1)).length
    rw [ent_keys sl]
  · have hk' : k ∈ pd ++ ps := hk
    rcases List.mem_append.1 hk' with q | q
    · exact ⟨hlt k (by simp [q]), fun (e : k = bd) => d1.1 (e ▸ q), fun e => n3 k (List.mem_cons_of_mem _ q) bs (by simp) e⟩
    · exact ⟨hlt k (by simp [q]), fun e => n3 bd (by simp) k (List.mem_cons_of_mem _ q) e.symm, fun (e : k = bs) => s1.1 (e ▸ q)⟩
  · exact List.nodup_append.2 ⟨aD.nodup t, aS.nodup t, fun a ha b hb => n3 a (List.mem_cons_of_mem _ (fd t a ha)) b (List.mem_cons_of_mem _ (fs t b hb))⟩
  · rcases List.mem_append.1 h1 with q1 | q1 <;> rcases List.mem_append.1 h2 with q2 | q2
    · exact aD.apart u t c k q1 q2
    · exact n3 k (List.mem_cons_of_mem _ (fd u k q1)) k (List.mem_cons_of_mem _ (fs t k q2)) rfl
    · exact n3 k (List.mem_cons_of_mem _ (fd t k q2)) k (List.mem_cons_of_mem _ (fs u k q1)) rfl
    · exact aS.apart u t c k q1 q2
  · rcases List.mem_append.1 hk with q | q
    · exact ⟨hlt k (by simp [fd t k q]), List.mem_append_left _ (fd t k q)⟩
    · exact ⟨hlt k (by simp [fs t k q]), List.mem_append_right _ (fs t k q)⟩
  · have := xd t
    rw [he] at this
    exact (ent_mem this.symm).2
  · have := xs t
    rw [he] at this
    exact (ent_mem this.symm).2
def CoalC (n : Nat) : Prop := ∀ (mg : Bool) (d s : S26) (bd bs : Nat) (fpd fps : List Nat) (pre : ByteArray) (w : World), Rep (n + 1) w (.iface 58 (.map (some bd))) d fpd → Rep (n + 1) w (.iface 58 (.map (some bs))) s fps → Rt (n + 1) d → Rt (n + 1) s → Sq (n + 1) d → Sq (n + 1) s → cnt (n + 1) d ≤ 2000 → cnt (n + 1) s ≤ 2000 → (fpd ++ fps).Nodup → (∀ k ∈ fpd ++ fps, k < w.heap.size) →
  pre.size + (n + 1) * 140737488351233 ≤ 9223372036854775807 → Calls Try.prog 76 #[.func (.func 77) #[] #[], .map (some bd), .map (some bs), .string pre, .bool mg] w (CoalPost n mg d s bd fpd fps w)
end Go.Proofs.Ytjfbjkodjjlkiaa.HVal
