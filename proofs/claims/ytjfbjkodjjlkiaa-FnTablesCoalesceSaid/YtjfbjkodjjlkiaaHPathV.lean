/- What pathValue and PathValue come to. -/
import Derived.Test.YtjfbjkodjjlkiaaBE
import Derived.BigQuiet
namespace Go.Proofs.Ytjfbjkodjjlkiaa.HVal
open Go.RowKit Go.WideMaps Go.Maps Go.Proofs.YtjfbjkodjjlkiaaW.PrintWords Go.Proofs.YtjfbjkodjjlkiaaW.PrintLast Go.Proofs.YtjfbjkodjjlkiaaW.PrintMore Go.Proofs.Ytjfbjkodjjlkiaa.Plain Go.Proofs.Ytjfbjkodjjlkiaa.GTab Go.Proofs.Ytjfbjkodjjlkiaa.HBytes

/-- The value under a name, that is no table. -/
def leaf (x : S26) (s : ByteArray) : Option S26 := match find x.f5 x.f6 s with | some y => if y.f0 = 7 then none else some y | none => none
/-- What pathValue gives. -/
def PV (w : World) (o : Option S26) (e : Ending) (w' : World) : Prop :=
  Below w.heap.size w w' ∧ ((∃ v y n, o = some y ∧ e = .returned (.tuple #[v, .nilIface]) ∧ y.f0 ≠ 7 ∧ TV n w' w'.heap.size v y) ∨ (o = none ∧ ∃ v t u, e = .returned (.tuple #[v, .iface t u])))
theorem TV.mono {n : Nat} {w : World} {base base' : Nat} {v : Value} {x : S26} (h : TV n w base v x) (hb : base ≤ base') : TV n w base' v x := by
  obtain ⟨fp, h1, h2, h3, h4, h5⟩ := h
  exact ⟨fp, h1, h2, h3, h4, fun k hk => Nat.lt_of_lt_of_le (h5 k hk) hb⟩
theorem TV.later {n : Nat} {w w' : World} {v : Value} {x : S26} (h : TV n w w.heap.size v x) (hb : Below w.heap.size w w') : TV n w' w'.heap.size v x := (h.move hb).mono hb.size
/-- The three ways of a look-up. -/
theorem TV.leaf {n : Nat} {w : World} {base b : Nat} {x : S26} (h : TV n w base (.iface 58 (.map (some b))) x) (s : ByteArray) (hs : s.size ≤ maxLen) :
    (leaf x s = none ∧ (Instr.lookup 70 (.map (some b)) (.string s) true).run Try.prog w = .ok (.tuple #[.nilIface, .bool false]) w) ∨
    (∃ v q, HVal.leaf x s = (if q then none else HVal.leaf x s) ∧ (Instr.lookup 70 (.map (some b)) (.string s) true).run Try.prog w = .ok (.tuple #[v, .bool true]) w ∧ (Instr.lookup 70 (.map (some b)) (.string s) false).run Try.prog w = .ok v w ∧
      (∀ W, Calls Try.prog 75 #[v] W fun e w' => e = .returned (.bool q) ∧ w' = W) ∧ (q = false → ∃ y n', HVal.leaf x s = some y ∧ y.f0 ≠ 7 ∧ TV n' w base v y)) := by
  obtain ⟨_, kv, hm, hc⟩ := h.open_ s
  rcases hc with ⟨e1, e2⟩ | ⟨n', v, y, e1, e2, hv⟩
  · exact .inl ⟨by unfold HVal.leaf; rw [e2], (map_look hm hs none e1 rfl).1⟩
  · refine .inr ⟨v, decide (y.f0 = 7), ?_, (map_look hm hs (some v) e1 rfl).1, (map_look hm hs (some v) e1 rfl).2, fun W => ?_, fun hq => ?_⟩
    · unfold HVal.leaf
      rw [e2]
      by_cases h7 : y.f0 = 7
      · simp [h7]
      · simp [h7]
    · obtain ⟨fp, hr, _⟩ := hv
      exact istable_calls hr
    · have h7 : y.f0 ≠ 7 := of_decide_eq_false hq
      exact ⟨y, n', by unfold HVal.leaf; rw [e2]; simp [h7], h7, hv⟩
set_option maxRecDepth 100000 in
set_option maxHeartbeats 4000000 in
theorem pv_one (n b : Nat) (x : S26) (A : Option Addr) (c : Nat) (s : ByteArray) (w : World) (hs : s.size ≤ maxLen) (h : TV n w w.heap.size (.iface 58 (.map (some b))) x) (hC : Kd.string.C w A 1 [s]) :
    Calls Try.prog 82 #[.map (some b), .slice A 1 c] w (PV w (leaf x s)) := by
  obtain ⟨ad, rfl, z0⟩ := names_cell hC (j := 0) (by simp)
  simp only [Addr.add, if_true, List.getElem_cons_zero] at z0
  have hl := h.leaf s hs
  have HT := Aside0.mk h
  clear h hs hC
  rcases hl with ⟨h1, l1⟩ | ⟨v, q, h1, l1, l2, hc, hq⟩
  · have H1 := Aside0.mk h1
    clear h1
    go_enter Try.func82, Try.ntmps82
    go_wp2
    go_quiet (fail)
    go_wp2
    go_ret2
    exact ⟨pw_below_drewN (Below.refl _ _) _, .inr ⟨H1.out, _, _, _, rfl⟩⟩
  · have H1 := Aside0.mk h1
    have HC := Aside0.mk hc
    have HQ := Aside0.mk hq
    clear h1 hc hq
    go_enter Try.func82, Try.ntmps82
    cases q with
    | true =>
      go_wp2_with (go_at_call 75; go_must (refine (HC.out _).mono ?_; rintro e w1 ⟨rfl, rfl⟩))
      go_quiet (fail)
      go_wp2
      go_ret2
      exact ⟨pw_below_drewN (Below.refl _ _) _, .inr ⟨by rw [H1.out]; rfl, _, _, _, rfl⟩⟩
    | false =>
      go_wp2_with (go_at_call 75; go_must (refine (HC.out _).mono ?_; rintro e w1 ⟨rfl, rfl⟩))
      go_ret2
      obtain ⟨y, n', e1, e2, e3⟩ := HQ.out trivial
      exact ⟨Below.refl _ _, .inl ⟨_, y, n', e1, rfl, e2, e3⟩⟩
def last2 (x : S26) (l : List ByteArray) : Option S26 := match road x l.dropLast with | some y => leaf y (l.getLastD ⟨#[]⟩) | none => none
theorem len_facts {l : List ByteArray} {k c : Nat} (hk : k + 1 = l.length) (hc : l.length ≤ c) (hl : l.length ≤ 1000000) (h1 : 1 ≤ k) : wrap64 ((l.length : Int) - 1) = (k : Int) ∧ (k : Int) < (l.length : Int) ∧ (0 : Int) ≤ (k : Int) ∧ (k : Int) ≤ (c : Int) := by
  have e : (l.length : Int) - 1 = ((k - 1 : Nat) : Int) + 1 := by omega
  rw [e, wrap_nat (by omega)]
  omega
set_option maxRecDepth 100000 in
set_option maxHeartbeats 4000000 in
theorem pv_many (n b : Nat) (x : S26) (A : Option Addr) (c k : Nat) (l : List ByteArray) (w : World) (hs : ∀ t ∈ l, t.size ≤ maxLen ∧ (46 : UInt8) ∉ t.data.toList) (h : TV n w w.heap.size (.iface 58 (.map (some b))) x) (hC : Kd.string.C w A l.length l) (hc : l.length ≤ c)
    (hk : k + 1 = l.length) (hk1 : 1 ≤ k) (hl : l.length ≤ 1000000) (hj : (joinB l.dropLast dot).size ≤ 100000) :
    Calls Try.prog 82 #[.map (some b), .slice A l.length c] w (PV w (last2 x l)) := by
  have hlt : k < l.length := by omega
  obtain ⟨ad, rfl, z0⟩ := names_cell hC hlt
  have hT : l.take k = l.dropLast := by rw [List.dropLast_eq_take]; congr 1; omega
  have hG : l.getLastD ⟨#[]⟩ = l[k] := by
    rw [List.getLastD_eq_getLast?, List.getLast?_eq_getElem?, List.getElem?_eq_getElem (by omega)]
    simp only [Option.getD_some]
    congr 1
    omega
  have hD : l.dropLast.length = k := by rw [List.length_dropLast]; omega
  have hC2 := Kd.C_take hC (m := k) (by omega)
  rw [hT, hD] at hC2
  obtain ⟨f1, f2, f3, f4⟩ := len_facts hk hc hl hk1
  have b1 : ((l.length : Int) == 1) = false := beq_eq_false_iff_ne.2 (by omega)
  have hN : namesB (joinB l.dropLast dot) = l.dropLast := names_join (by intro e; rw [e] at hD; simp at hD; omega) (fun t ht => (hs t (List.dropLast_subset l ht)).2)
  have HS := Aside0.mk (hs l[k] (List.getElem_mem hlt)).1
  have HL := Aside0.mk (show last2 x l = match road x (namesB (joinB l.dropLast dot)) with | some y => leaf y l[k] | none => none by unfold last2; rw [hG, hN])
  have HJ := Aside0.mk hj
  have HC2 := Aside0.mk hC2
  have HD := Aside0.mk hD
  have HT := Aside0.mk h
  have HK := Aside0.mk (show k ≤ c ∧ k ≤ 1000000 by omega)
  obtain ⟨s, hs0⟩ : ∃ s, l[k] = s := ⟨_, rfl⟩
  rw [hs0] at z0 HS HL
  obtain ⟨P, hP⟩ : ∃ P, joinB l.dropLast dot = P := ⟨_, rfl⟩
  have HP := Aside0.mk hP
  rw [hP] at HL HJ
  clear hs h hC hc hk hk1 hl hj hlt hT hG hD hC2 hN hs0 hP
  go_enter Try.func82, Try.ntmps82
  go_wp2
  go_quiet (fail)
  go_wp2_with (first
    | (go_at_call 96; go_must (
        have hj := joinPath_calls (some ad) c l.dropLast (w.drewN nq) (by rw [HD.out]; exact Kd.C_below HC2.out (pw_below_drewN (Below.refl _ _) _)) (by rw [HD.out]; exact HK.out.1) (by rw [HD.out]; exact HK.out.2) (by rw [HP.out]; exact Nat.le_trans HJ.out (by decide))
        rw [HD.out, HP.out] at hj
        refine hj.mono ?_
        clear hj
        rintro e w2 ⟨rfl, hb⟩
        have HB := Aside0.mk (below_step (pw_below_drewN (Below.refl w.heap.size w) nq) hb)
        have HT2 := Aside0.mk (HT.out.later HB.out)
        clear hb))
    | (go_at_call 58; go_must (
        refine (table_road n b x P w2 HJ.out HT2.out).mono ?_
        rintro e w3 ⟨hb, he⟩
        have HB3 := Aside0.mk (below_step HB.out hb)
        have HBX := Aside0.mk hb
        clear hb
        have tok : True := trivial
        rcases he with ⟨b2, y, n2, hr, rfl, hv⟩ | ⟨hr, m, t, u, rfl⟩)))
  · have hl := (hv.mono HBX.out.size).leaf s HS.out
    rw [hr] at HL
    have HL2 := Aside0.mk HL.out
    clear hr HL hv
    rcases hl with ⟨h1, l1⟩ | ⟨v, q, h1, l1, l2, hc, hq⟩
    · have H1 := Aside0.mk (HL2.out.trans h1)
      clear h1
      go_wp2
      go_ret2
      exact ⟨HB3.out, .inr ⟨H1.out, _, _, _, rfl⟩⟩
    · have H1 := Aside0.mk h1
      have HC := Aside0.mk hc
      have HQ := Aside0.mk hq
      clear h1 hc hq
      cases q with
      | true =>
        go_wp2_with (go_at_call 75; go_must (refine (HC.out _).mono ?_; rintro e w1 ⟨rfl, rfl⟩))
        go_ret2
        exact ⟨HB3.out, .inr ⟨HL2.out.trans (by rw [H1.out]; rfl), _, _, _, rfl⟩⟩
      | false =>
        go_wp2_with (go_at_call 75; go_must (refine (HC.out _).mono ?_; rintro e w1 ⟨rfl, rfl⟩))
        go_ret2
        obtain ⟨y, n', e1, e2, e3⟩ := HQ.out trivial
        exact ⟨HB3.out, .inl ⟨_, y, n', HL2.out.trans e1, rfl, e2, e3⟩⟩
  · have H1 := Aside0.mk hr
    go_ret2
    exact ⟨HB3.out, .inr ⟨by rw [HL.out, H1.out], _, _, _, rfl⟩⟩
/-- The value at a path. -/
def pathV (x : S26) (s : ByteArray) : Option S26 := last2 x (namesB s)
theorem pv_names (n b : Nat) (x : S26) (A : Option Addr) (c : Nat) (s : ByteArray) (w : World) (hs : s.size ≤ 90000) (h : TV n w w.heap.size (.iface 58 (.map (some b))) x) (hC : Kd.string.C w A (namesB s).length (namesB s)) (hc : (namesB s).length ≤ c) :
    Calls Try.prog 82 #[.map (some b), .slice A (namesB s).length c] w (PV w (pathV x s)) := by
  obtain ⟨i1, i2⟩ := names_init (s := s)
  have hN : ∀ t ∈ namesB s, t.size ≤ maxLen ∧ (46 : UInt8) ∉ t.data.toList := fun t ht => ⟨Nat.le_trans (names_size ht) (Nat.le_trans hs (by decide)), namesB_free ht⟩
  unfold pathV
  by_cases h1 : (namesB s).length = 1
  · obtain ⟨t, ht⟩ := List.length_eq_one_iff.1 h1
    rw [ht] at hC hN ⊢
    exact pv_one n b x A c t w (hN t (by simp)).1 h hC
  · have h0 : (namesB s).length ≠ 0 := fun e => namesB_ne s (List.eq_nil_of_length_eq_zero e)
    exact pv_many n b x A c ((namesB s).length - 1) (namesB s) w hN h hC hc (by omega) (by omega) (by omega) (by omega)
set_option maxRecDepth 100000 in
set_option maxHeartbeats 4000000 in
theorem pathv_calls (n b : Nat) (x : S26) (s : ByteArray) (w : World) (hs : s.size ≤ 90000) (h0 : s ≠ ⟨#[]⟩) (h : TV n w w.heap.size (.iface 58 (.map (some b))) x) :
    Calls Try.prog 60 #[.map (some b), .string s] w (PV w (pathV x s)) := by
  have HP := Aside0.mk (parse_calls s w (by omega))
  have HT := Aside0.mk h
  have HS := Aside0.mk hs
  have h1 : (s.toList == []) = false := by
    rw [beq_eq_false_iff_ne]
    intro e
    exact h0 (toList_inj.1 (e.trans (by rw [ByteArray.toList_eq])))
  have h2 : s.toList.isEmpty = false := by
    cases hq : s.toList with
    | nil => rw [hq] at h1; cases h1
    | cons a r => rfl
  clear hs h0 h
  go_enter Try.func60, Try.ntmps60
  go_wp2_with (first
    | (go_at_call 79; go_must (refine HP.out.mono ?_; rintro e w1 ⟨v, rfl, hR, hb⟩; obtain ⟨A, c, rfl, hc, hC⟩ := Kd.R_reads hR; have HC := Aside0.mk hC; have HCC := Aside0.mk hc; have HB := Aside0.mk hb; have HT1 := Aside0.mk (HT.out.later hb); clear hR hb hC hc HT HP))
    | (go_at_call 82; go_must (refine (pv_names n b x A c s _ HS.out HT1.out HC.out HCC.out).mono ?_; rintro e w2 ⟨hb, he⟩; have HB2 := Aside0.mk (below_step HB.out hb); have HE := Aside0.mk he; clear hb he; rcases HE.out with ⟨v, y, n', e1, rfl, e2, e3⟩ | ⟨e1, v, t, u, rfl⟩)))
  · have E1 := Aside0.mk e1
    have E3 := Aside0.mk e3
    have E2 := Aside0.mk e2
    clear e1 e2 e3
    go_ret2
    exact ⟨HB2.out, .inl ⟨_, y, n', E1.out, rfl, E2.out, E3.out⟩⟩
  · have E1 := Aside0.mk e1
    clear e1
    go_ret2
    exact ⟨HB2.out, .inr ⟨E1.out, _, _, _, rfl⟩⟩
end Go.Proofs.Ytjfbjkodjjlkiaa.HVal
