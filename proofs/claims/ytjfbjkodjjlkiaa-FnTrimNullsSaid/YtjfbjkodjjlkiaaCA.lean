/- What zzCopy and zzCopyMap come to: a value as it lies, copied. What zzCopyMap comes to, and zzCopy whole. A map's own entry set anew while the map is ranged over. -/
import Derived.Test.YtjfbjkodjjlkiaaCC
/-! What zzCopy and zzCopyMap come to: a value as it lies, copied. -/
namespace Go.Proofs.Ytjfbjkodjjlkiaa.HVal
open Go.RowKit Go.WideMaps Go.Maps Go.Proofs.YtjfbjkodjjlkiaaW.PrintWords Go.Proofs.YtjfbjkodjjlkiaaW.PrintLast Go.Proofs.YtjfbjkodjjlkiaaW.PrintMore Go.Proofs.Ytjfbjkodjjlkiaa.Plain Go.Proofs.Ytjfbjkodjjlkiaa.GTab
attribute [local go_sem] run_store_flt

/-- A copy: the value with blocks of its own. -/
def CopyPost (n : Nat) (w : World) (x : S26) (e : Ending) (w' : World) : Prop :=
  Below w.heap.size w w' ∧ ∃ v' fp', e = .returned v' ∧ Rep n w' v' x fp' ∧ ∀ k ∈ fp', w.heap.size ≤ k ∧ k < w'.heap.size
def CopyC (n : Nat) : Prop := ∀ (x : S26) (v : Value) (fp : List Nat) (w : World), Rep n w v x fp → Rt n x → Sm n x → cnt n x ≤ 2000 → (∀ k ∈ fp, k < w.heap.size) → Calls Try.prog 114 #[v] w (CopyPost n w x)
theorem zs58_nil (w : World) : (Instr.typeAssert .nilIface 20 58 true).run Try.prog w = .ok (.tuple #[.map none, .bool false]) w := by kernel_rfl
theorem zs85_nil (w : World) : (Instr.typeAssert .nilIface 20 85 true).run Try.prog w = .ok (.tuple #[.slice none 0 0, .bool false]) w := by kernel_rfl
theorem zs85_bool (b : Bool) (w : World) : (Instr.typeAssert (.iface 4 (.bool b)) 20 85 true).run Try.prog w = .ok (.tuple #[.slice none 0 0, .bool false]) w := by kernel_rfl
theorem zs85_int (i : Int) (w : World) : (Instr.typeAssert (.iface 2 (.int .i64 i)) 20 85 true).run Try.prog w = .ok (.tuple #[.slice none 0 0, .bool false]) w := by kernel_rfl
theorem zs85_flt (f : Nat) (w : World) : (Instr.typeAssert (.iface 22 (.float .f64 f)) 20 85 true).run Try.prog w = .ok (.tuple #[.slice none 0 0, .bool false]) w := by kernel_rfl
theorem zs85_str (s : ByteArray) (w : World) : (Instr.typeAssert (.iface 9 (.string s)) 20 85 true).run Try.prog w = .ok (.tuple #[.slice none 0 0, .bool false]) w := by kernel_rfl
theorem zs58_list (v : Value) (w : World) : (Instr.typeAssert (.iface 85 v) 20 58 true).run Try.prog w = .ok (.tuple #[.map none, .bool false]) w := by kernel_rfl
theorem zs85_list (v : Value) (w : World) : (Instr.typeAssert (.iface 85 v) 20 85 true).run Try.prog w = .ok (.tuple #[v, .bool true]) w := by kernel_rfl
set_option maxRecDepth 100000 in
set_option maxHeartbeats 4000000 in
theorem copy_scalar (n : Nat) (x : S26) (v : Value) (w : World) (hr : (x.f0 = 0 ∧ v = .nilIface) ∨ (x.f0 = 1 ∧ v = .iface 4 (.bool x.f1)) ∨ (x.f0 = 2 ∧ v = .iface 2 (.int .i64 x.f2)) ∨ (x.f0 = 4 ∧ v = .iface 22 (.float .f64 x.f3)) ∨ (x.f0 = 5 ∧ v = .iface 9 (.string x.f4))) :
    Calls Try.prog 114 #[v] w (CopyPost (n + 1) w x) := by
  have HR := Aside0.mk (show Rep (n + 1) w v x [] from Rep.mk (by
    rcases hr with ⟨a, b⟩ | ⟨a, b⟩ | ⟨a, b⟩ | ⟨a, b⟩ | ⟨a, b⟩
    · exact .inl ⟨a, b, rfl⟩
    · exact .inr (.inl ⟨a, b, rfl⟩)
    · exact .inr (.inr (.inl ⟨a, b, rfl⟩))
    · exact .inr (.inr (.inr (.inl ⟨a, b, rfl⟩)))
    · exact .inr (.inr (.inr (.inr (.inl ⟨a, b, rfl⟩))))))
  rcases hr with ⟨_, rfl⟩ | ⟨_, rfl⟩ | ⟨_, rfl⟩ | ⟨_, rfl⟩ | ⟨_, rfl⟩
  · have t0 := zs58_nil
    have t1 := zs85_nil
    go_enter Try.func114, Try.ntmps114
    go_wp2
    go_ret
    exact ⟨Below.refl _ _, _, [], rfl, HR.out, fun k hk => (nomatch hk)⟩
  · have t0 := as58_bool
    have t1 := zs85_bool
    go_enter Try.func114, Try.ntmps114
    go_wp2
    go_ret
    exact ⟨Below.refl _ _, _, [], rfl, HR.out, fun k hk => (nomatch hk)⟩
  · have t0 := as58_int
    have t1 := zs85_int
    go_enter Try.func114, Try.ntmps114
    go_wp2
    go_ret
    exact ⟨Below.refl _ _, _, [], rfl, HR.out, fun k hk => (nomatch hk)⟩
  · have t0 := as58_flt
    have t1 := zs85_flt
    go_enter Try.func114, Try.ntmps114
    go_wp2
    go_ret
    exact ⟨Below.refl _ _, _, [], rfl, HR.out, fun k hk => (nomatch hk)⟩
  · have t0 := as58_str
    have t1 := zs85_str
    go_enter Try.func114, Try.ntmps114
    go_wp2
    go_ret
    exact ⟨Below.refl _ _, _, [], rfl, HR.out, fun k hk => (nomatch hk)⟩
/-! ### a list -/
theorem row_ownA {W : World} {base e size n g cap : Nat} {xs : List Value} (h : W.ownsRow base e size (.slice (some ⟨g, 0, none⟩) n cap) n xs) : base ≤ g ∧ g < W.heap.size := by
  rcases h.2 with ⟨e, _⟩ | ⟨g', cap', cur, e, hg, hh, _⟩
  · cases e
  · cases e
    exact ⟨hg, blk_lt hh⟩
structure CL (n : Nat) (w : World) (x : S26) (L j : Nat) (ws : List Value) (fps : List (List Nat)) (W : World) : Prop where
  row : W.ownsRow 0 20 1 (.slice (some ⟨w.heap.size, 0, none⟩) L L) L (ws ++ List.replicate (L - j) .nilIface)
  all : All3 (Rep n W) ws (x.f6.take j) fps
  fps : ∀ k ∈ fps.flatten, w.heap.size < k ∧ k < W.heap.size
  below : Below w.heap.size w W
theorem set_rep {ws : List Value} {L j : Nat} {u z : Value} (h : ws.length = j) (hj : j < L) : (ws ++ List.replicate (L - j) z).set j u = (ws ++ [u]) ++ List.replicate (L - (j + 1)) z := by
  subst h
  rw [List.set_append_right _ _ (Nat.le_refl _), Nat.sub_self, show L - ws.length = (L - (ws.length + 1)) + 1 from by omega, List.replicate_succ, List.set_cons_zero, List.append_assoc]
  rfl
theorem CL.next {n : Nat} {w : World} {x : S26} {L j : Nat} {ws : List Value} {fps : List (List Nat)} {W W2 : World} {u : Value} {fp : List Nat} (h : CL n w x L j ws fps W) (hL : x.f6.length = L) (hj : j < x.f6.length) (hb : Below W.heap.size W W2) (hr : Rep n W2 u x.f6[j] fp) (hf : ∀ k ∈ fp, W.heap.size ≤ k ∧ k < W2.heap.size) :
    CL n w x L (j + 1) (ws ++ [u]) (fps ++ [fp]) (W2.setCell ⟨w.heap.size, j, none⟩ u) := by
  have hg := (row_ownA h.row).2
  have hl : ws.length = j := by have := h.all.len.1; rw [List.length_take] at this; omega
  have far : ∀ k, k ≠ w.heap.size → (W2.setCell ⟨w.heap.size, j, none⟩ u).heap[k]? = W2.heap[k]? := fun k hk => Below.heap_setCell W2 ⟨w.heap.size, j, none⟩ u k hk
  refine ⟨?_, ?_, ?_, (below_step h.below hb).setCell (p := ⟨w.heap.size, j, none⟩) (Nat.le_refl _) u⟩
  · have h1 := (World.ownsRow.stored (own_move h.row fun k hk => hb.block k (by have e : w.heap.size = k := (by simpa [Value.ownBlock] using hk); omega)) j u).1
    rw [set_rep hl (by omega)] at h1
    exact h1
  · rw [List.take_succ_eq_append_getElem hj]
    refine All3.snoc (h.all.imp fun v y p hp hrep => hrep.move n fun k hk => ?_) (hr.move n fun k hk => far k ?_)
    · have h1 := h.fps k (List.mem_flatten.2 ⟨p, hp, hk⟩)
      exact (far k (by omega)).trans (hb.block k h1.2)
    · have := hf k hk
      omega
  · intro k hk
    rw [List.flatten_append, List.mem_append] at hk
    have e : (W2.setCell ⟨w.heap.size, j, none⟩ u).heap.size = W2.heap.size := by simp [World.setCell]
    rw [e]
    rcases hk with hk | hk
    · have h1 := h.fps k hk
      exact ⟨h1.1, Nat.lt_of_lt_of_le h1.2 hb.size⟩
    · have h1 := hf k (by simpa using hk)
      omega
theorem made_nil (L : Nat) : (madeCells Value.nilIface.cells (L * 1)).toList = List.replicate L .nilIface := by
  simp only [madeCells, Nat.mul_one]
  apply List.ext_getElem
  · simp
  · intro i h1 h2
    simp [Value.cells, Nat.mod_one]
theorem info20s : (Try.prog.info? 20).map (fun i => (i.zero, i.size, i.bytes)) = some (some .nilIface, 1, 16) := by kernel_rfl
theorem list_rows {w : World} {s : Value} {vs : List Value} (hown : w.ownsRow 0 20 1 s vs.length vs) : ∃ A c, s = .slice A vs.length c ∧ ∀ (j : Nat) (h : j < vs.length), ∃ ad, A = some ad ∧ w.cell? (ad.add j) = some vs[j] := by
  rcases hown.2 with ⟨rfl, h0⟩ | ⟨g, cap, cur, rfl, _, hh, _, _, _, hq⟩
  · exact ⟨none, 0, by rw [h0], fun j h => by omega⟩
  · refine ⟨_, cap, rfl, fun j h => ⟨_, rfl, ?_⟩⟩
    rw [add_blk, blk_cell hh]
    have h2 : (List.take (vs.length * 1) cur.toList)[j]? = vs[j]? := by rw [hq]
    rw [List.getElem?_take_of_lt (by omega), List.getElem?_eq_getElem h] at h2
    simpa using h2
theorem list_at {ws : List Value} {xs : List S26} {L j : Nat} {z : Value} (hj : j < L) (h : ws.length = xs.length) (hx : xs.length = j) : (ws ++ List.replicate (L - j) z)[j]? = some z := by
  rw [List.getElem?_append_right (by omega), h, hx, Nat.sub_self, List.getElem?_replicate, if_pos (by omega)]
theorem copy_list_end {n : Nat} {w W : World} {x : S26} {L : Nat} {ws : List Value} {fps : List (List Nat)} (h : CL n w x L L ws fps W) (hL : x.f6.length = L) (hx : x.f0 = 6) : CopyPost (n + 1) w x (.returned (.iface 85 (.slice (some ⟨w.heap.size, 0, none⟩) L L))) W := by
  have hl : ws.length = L := by have := h.all.len.1; rw [List.length_take] at this; omega
  have hrow := h.row
  rw [Nat.sub_self, List.replicate_zero, List.append_nil] at hrow
  have hall := h.all
  rw [← hL, List.take_length] at hall
  refine ⟨h.below, _, _, rfl, Rep.mk (.inr (.inr (.inr (.inr (.inr (.inl ⟨hx, ws, fps, _, rfl, by rw [hl]; exact hrow, hall, rfl⟩)))))), fun k hk => ?_⟩
  rcases List.mem_append.1 hk with hk | hk
  · have e : k = w.heap.size := by simpa [Value.ownBlock] using hk
    subst e
    exact ⟨Nat.le_refl _, (row_ownA h.row).2⟩
  · have := h.fps k hk
    exact ⟨by omega, this.2⟩
set_option maxRecDepth 100000 in
set_option maxHeartbeats 4000000 in
theorem copy_list (n : Nat) (ih : CopyC n) (x : S26) (s : Value) (vs : List Value) (fps : List (List Nat)) (w : World) (hx : x.f0 = 6) (hown : w.ownsRow 0 20 1 s vs.length vs) (hall : All3 (Rep n w) vs x.f6 fps) (hr : ∀ y ∈ x.f6, Rt n y) (hsm : ∀ y ∈ x.f6, Sm n y) (hc : cnt (n + 1) x ≤ 2000) (hlt : ∀ k ∈ s.ownBlock.toList ++ fps.flatten, k < w.heap.size) :
    Calls Try.prog 114 #[.iface 85 s] w (CopyPost (n + 1) w x) := by
  have hl := hall.len.1
  have LL : x.f6.length ≤ 2000 := by have := len_le hr; unfold cnt at hc; omega
  obtain ⟨A, c, rfl, hel⟩ := list_rows hown
  have HEL := Aside0.mk hel
  have HX := Aside0.mk hx
  have IH := Aside0.mk ih
  have HALL := Aside0.mk hall
  have HR := Aside0.mk hr
  have HSM := Aside0.mk hsm
  have HC := Aside0.mk hc
  have HLT := Aside0.mk hlt
  obtain ⟨L, hL⟩ : ∃ L, vs.length = L := ⟨_, rfl⟩
  have HVL := Aside0.mk hL
  have HL := Aside0.mk (hl.symm.trans hL)
  have HLL := Aside0.mk (show L ≤ 2000 by omega)
  obtain ⟨i0, hi, hz0, hz1, hz2⟩ := info_parts info20s
  obtain ⟨W1, hmk, hrow, hgr⟩ := run_makeSlice_full (P := Try.prog) w 0 85 20 i0 .nilIface 1 Try.underlying85 hi hz0 hz1 .i64 .i64 L (by omega) (by rw [hz2]; omega) (by unfold maxLen; omega) (Nat.zero_le _)
  have HS := Aside0.mk (show CL n w x L 0 [] [] W1 from ⟨by rw [made_nil] at hrow; exact hrow, .nil, fun k hk => by simp at hk, ⟨hgr.os, hgr.tape, hgr.output, hgr.size, fun k hk => hgr.block k hk (by simp)⟩⟩)
  rw [hL]
  clear hl hx ih hall hr hsm hc hlt hel hL LL hown hrow hgr hi hz0 hz1 hz2
  have t3 := zs58_list
  have t4 := zs85_list
  go_enter Try.func114, Try.ntmps114
  go_wp2
  go_loopw [22] (fun i wr => ∃ (j : Nat) (ws : List Value) (qs : List (List Nat)), j ≤ L ∧ i = .int .i64 j ∧ Aside0 (CL n w x L j ws qs wr)) (fun i _ => L - (intOf i).toNat)
  case atStart => exact ⟨0, [], [], Nat.zero_le _, rfl, HS⟩
  case round =>
    obtain ⟨j, ws, qs, hj, rfl, HI⟩ := hrel
    clear HS
    by_cases hlt : j < L
    · have HJ := Aside0.mk hlt
      have hj2 : j < vs.length := by rw [HVL.out]; exact hlt
      have hj6 : j < x.f6.length := by rw [HL.out]; exact hlt
      obtain ⟨ad, hA, z0⟩ := HEL.out j hj2
      subst hA
      have HJ6 := Aside0.mk hj6
      obtain ⟨fpj, hfj, hrj⟩ := HALL.out.get j hj2 hj6
      have fl : ∀ k ∈ fpj, k < w.heap.size := fun k hk => HLT.out k (List.mem_append.2 (.inr (List.mem_flatten.2 ⟨fpj, hfj, hk⟩)))
      have hz := (congrArg (fun a => a) (keep_cell z0 (Below.refl _ _)))
      have z1 : wr.cell? (ad.add j) = some vs[j] := keep_cell z0 HI.out.below
      have HC1 := Aside0.mk (IH.out x.f6[j] vs[j] fpj wr (Rep.move n hrj fun k hk => HI.out.below.block k (fl k hk)) (HR.out _ (List.getElem_mem hj6)) (HSM.out _ (List.getElem_mem hj6)) (by have := sum_le n x.f6 j hj6; have := HC.out; unfold cnt at this; omega) (fun k hk => Nat.lt_of_lt_of_le (fl k hk) HI.out.below.size))
      have p0 : 0 ≤ (j : Int) := Int.natCast_nonneg j
      have q0 : (j : Int) < (L : Int) := Int.ofNat_lt.2 hlt
      obtain ⟨u, hu⟩ : ∃ u, vs[j] = u := ⟨_, rfl⟩
      rw [hu] at z1 HC1
      clear hz z0 hrj fl hu hlt hj
      go_wp2_with (go_at_call 114; go_must (refine HC1.out.mono ?_; rintro e W2 ⟨hb, v', fp', rfl, hrep, hf⟩; have HN := Aside0.mk (HI.out.next HL.out HJ6.out hb hrep hf); have hrow2 := own_move HI.out.row (fun k hk => hb.block k (by have e : w.heap.size = k := (by simpa [Value.ownBlock] using hk); have := (row_ownA HI.out.row).2; omega)); have s0 := World.ownsRow.cellAt hrow2 j (by have := HJ.out; omega); rw [list_at HJ.out HI.out.all.len.1 (by rw [List.length_take, HL.out]; have := HJ.out; omega)] at s0; have s1 := World.ownsRow.frozenAt hrow2 j; have VF := hrep.form; clear hb hrep hf hrow2; rcases VF with rfl | ⟨vt, vu, rfl⟩))
      all_goals (go_roundw)
      all_goals first
        | exact meas26 HJ.out (Nat.le_trans HLL.out (by decide))
        | exact ⟨j + 1, _, _, HJ.out, congrArg (Value.int IntKind.i64) (next63 HJ.out (Nat.le_trans HLL.out (by decide))), HN⟩
    · have e : j = L := Nat.le_antisymm hj (Nat.not_lt.1 hlt)
      subst e
      have q1 : ¬ (j : Int) < (j : Int) := Int.lt_irrefl _
      clear hlt hj
      go_wp2
      go_ret
      exact copy_list_end HI.out HL.out HX.out
end Go.Proofs.Ytjfbjkodjjlkiaa.HVal
/-! What zzCopyMap comes to, and zzCopy whole. -/
namespace Go.Proofs.Ytjfbjkodjjlkiaa.HVal
open Go.RowKit Go.WideMaps Go.Maps Go.Proofs.YtjfbjkodjjlkiaaW.PrintWords Go.Proofs.YtjfbjkodjjlkiaaW.PrintLast Go.Proofs.YtjfbjkodjjlkiaaW.PrintMore Go.Proofs.Ytjfbjkodjjlkiaa.Plain Go.Proofs.Ytjfbjkodjjlkiaa.GTab
attribute [local go_sem] run_store_flt

theorem same_yes (s : ByteArray) : (keyS s).sameKey (keyS s) = true := WideAt.sameKey_self (show WideAt.IsKeyLit (keyS s) from trivial)
theorem same_no {s t : ByteArray} (h : s ≠ t) : (keyS s).sameKey (keyS t) = false := Maps.sameKey_ne fun e => h (keyS_inj e)
theorem rt_rises {n : Nat} {x : S26} (h : Rt (n + 1) x) (h7 : x.f0 = 7) : Rising x.f5 := by
  unfold Rt at h
  rcases h with ⟨h | h | h | h, _⟩ | ⟨h, _⟩ | ⟨h, _⟩ | ⟨_, h, _⟩
  · omega
  · omega
  · omega
  · omega
  · omega
  · omega
  · exact h
/-! ### look-ups in a list of entries -/
theorem look_get {s : ByteArray} {v : Value} : ∀ {ks : List ByteArray} {vs : List Value}, look (ks.zip vs) s = some v → ∃ i : Nat, ks[i]? = some s ∧ vs[i]? = some v
  | [], _, h => by simp [look] at h
  | _ :: _, [], h => by simp [look] at h
  | k :: ks, u :: vs, h => by
    simp only [List.zip_cons_cons, look] at h
    by_cases e : k = s
    · rw [if_pos e] at h
      cases h
      exact ⟨0, by simp [e], rfl⟩
    · rw [if_neg e] at h
      obtain ⟨i, h1, h2⟩ := look_get h
      exact ⟨i + 1, by simpa using h1, by simpa using h2⟩
theorem lk_none {s : ByteArray} : ∀ {ks : List ByteArray} {vs : List Value}, s ∉ ks → look (ks.zip vs) s = none
  | [], _, _ => by simp [look]
  | _ :: _, [], _ => by simp [look]
  | k :: ks, u :: vs, h => by
    simp only [List.zip_cons_cons, look]
    have hne : ¬ k = s := fun e => by subst e; exact h List.mem_cons_self
    rw [if_neg hne]
    exact lk_none fun hm => h (List.mem_cons_of_mem _ hm)
theorem lk_at {s : ByteArray} {v : Value} : ∀ {ks : List ByteArray} {vs : List Value}, ks.Nodup → ∀ i : Nat, ks[i]? = some s → vs[i]? = some v → look (ks.zip vs) s = some v
  | [], _, _, _, h, _ => by simp at h
  | _ :: _, [], _, _, _, h => by simp at h
  | k :: ks, u :: vs, hn, 0, h1, h2 => by
    simp at h1 h2
    simp only [List.zip_cons_cons, look]
    rw [if_pos h1, h2]
  | k :: ks, u :: vs, hn, i + 1, h1, h2 => by
    simp only [List.getElem?_cons_succ] at h1 h2
    simp only [List.zip_cons_cons, look]
    have hne : ¬ k = s := fun e => by subst e; exact (List.nodup_cons.1 hn).1 (List.mem_of_getElem? h1)
    rw [if_neg hne]
    exact lk_at (List.nodup_cons.1 hn).2 i h1 h2
theorem choose3 {Q : Value → S26 → List Nat → Prop} : ∀ (xs : List S26) (K : Nat → Value → Prop), (∀ i (h : i < xs.length), ∃ v p, K i v ∧ Q v xs[i] p) → ∃ vs ps, All3 Q vs xs ps ∧ ∀ i v, vs[i]? = some v → K i v
  | [], _, _ => ⟨[], [], .nil, fun i v h => by simp at h⟩
  | x :: xs, K, h => by
    obtain ⟨v, p, k, q⟩ := h 0 (by simp)
    obtain ⟨vs, ps, ha, hk⟩ := choose3 xs (fun i => K (i + 1)) (fun i hi => h (i + 1) (by simpa using hi))
    refine ⟨v :: vs, p :: ps, .cons q ha, fun i u hu => ?_⟩
    cases i with
    | zero =>
      simp at hu
      subst hu
      exact k
    | succ i => exact hk i u (by simpa using hu)
theorem all3_flat {R : Value → S26 → List Nat → Prop} {F : Nat → Prop} {vs : List Value} {xs : List S26} {ps : List (List Nat)} (h : All3 (fun v x p => R v x p ∧ ∀ k ∈ p, F k) vs xs ps) : All3 R vs xs ps ∧ ∀ k ∈ ps.flatten, F k := by
  induction h with
  | nil => exact ⟨.nil, fun k hk => by simp at hk⟩
  | cons a _ ih =>
    refine ⟨.cons a.1 ih.1, fun k hk => ?_⟩
    rw [List.flatten_cons, List.mem_append] at hk
    exact hk.elim (a.2 k) (ih.2 k)
/-- A map under way to be a copy: what is there already. -/
structure CM (n : Nat) (w : World) (x : S26) (vs : List Value) (m low : Nat) (left : Lit → Bool) (D : DataW Value) (c : Nat) (W : World) : Prop where
  own : W.ownsMap Try.prog 9 hR m c D
  map : IsMap D
  has : ∀ s, Maps.has D (keyS s) = ((look (x.f5.zip vs) s).isSome && !left (keyS s))
  sub : ∀ s, left (keyS s) = true → (look (x.f5.zip vs) s).isSome = true
  vals : ∀ (i : Nat) (s : ByteArray) (y : S26), x.f5[i]? = some s → x.f6[i]? = some y → left (keyS s) = false → ∃ v' fp', (∀ z, D.atKey (keyS s) z = .held v') ∧ Rep n W v' y fp' ∧ ∀ k ∈ fp', low < k ∧ k < W.heap.size
  below : Below w.heap.size w W
theorem CM.later {n : Nat} {w W W2 : World} {x : S26} {vs : List Value} {m low : Nat} {left : Lit → Bool} {D : DataW Value} {c : Nat} (h : CM n w x vs m low left D c W) (hb : Below W.heap.size W W2) : CM n w x vs m low left D c W2 :=
  ⟨by
    obtain ⟨es, clock, hh, r⟩ := h.own
    exact ⟨es, clock, (hb.block m h.own.lt).trans hh, r⟩, h.map, h.has, h.sub, fun i s y h1 h2 h3 => by
    obtain ⟨v', fp', a, b, c⟩ := h.vals i s y h1 h2 h3
    exact ⟨v', fp', a, b.move n fun k hk => hb.block k (c k hk).2, fun k hk => ⟨(c k hk).1, Nat.lt_of_lt_of_le (c k hk).2 hb.size⟩⟩, below_step h.below hb⟩
theorem CM.step {n : Nat} {w W W2 : World} {x : S26} {vs : List Value} {r : Nat} {left : Lit → Bool} {D : DataW Value} {c : Nat} (h : CM n w x vs w.heap.size r left D c W) (hg : W.grownBy W2 (some r)) (hr : w.heap.size < r := by omega) : CM n w x vs w.heap.size r left D c W2 :=
  ⟨h.own.kept hg (by simp; omega), h.map, h.has, h.sub, fun i s y h1 h2 h3 => by
    obtain ⟨v', fp', a, b, c⟩ := h.vals i s y h1 h2 h3
    exact ⟨v', fp', a, b.move n fun k hk => hg.block k (c k hk).2 (by have := (c k hk).1; simp; omega), fun k hk => ⟨(c k hk).1, Nat.lt_of_lt_of_le (c k hk).2 hg.size⟩⟩, below_grown h.below hg (Nat.le_of_lt hr)⟩
/-- One entry more. -/
theorem CM.put {n : Nat} {w W W2 : World} {x : S26} {vs : List Value} {m low : Nat} {left : Lit → Bool} {D : DataW Value} {c : Nat} {s : ByteArray} {v' : Value} {fp' : List Nat} (h : CM n w x vs m low left D c W) (hm : w.heap.size ≤ m) (hml : m ≤ low) (hs : left (keyS s) = true) (hv : ∀ (i : Nat) (y : S26), x.f5[i]? = some s → x.f6[i]? = some y → Rep n W v' y fp') (hfp : ∀ k ∈ fp', low < k ∧ k < W.heap.size)
    (ho : W2.ownsMap Try.prog 9 hR m (c + 1) (D.put (keyS s) (.held v'))) (hg : W.grownBy W2 (some m)) : CM n w x vs m low (fun z => left z && !z.sameKey (keyS s)) (D.put (keyS s) (.held v')) (c + 1) W2 := by
  have far : ∀ k, low < k → k < W.heap.size → W2.heap[k]? = W.heap[k]? := fun k hk hlt => hg.block k hlt (fun e => by cases e; omega)
  refine ⟨ho, h.map.put _ _, fun t => ?_, fun t ht => ?_, fun i t y h1 h2 h3 => ?_, below_grown h.below hg hm⟩
  · by_cases e : t = s
    · subst e
      rw [has_put_same h.map (show WideAt.IsKeyLit (keyS t) from trivial), same_yes, h.sub t hs]
      simp
    · rw [has_put_other (fun e2 => e (keyS_inj e2)), h.has, same_no e]
      simp
  · exact h.sub t (Bool.and_eq_true _ _ ▸ ht).1
  · by_cases e : t = s
    · subst e
      exact ⟨v', fp', fun z => atKey_put_same h.map (show WideAt.IsKeyLit (keyS t) from trivial) _ _, (hv i y h1 h2).move n fun k hk => far k (hfp k hk).1 (hfp k hk).2, fun k hk => ⟨(hfp k hk).1, Nat.lt_of_lt_of_le (hfp k hk).2 hg.size⟩⟩
    · rw [same_no e] at h3
      obtain ⟨u, fu, a, b, c⟩ := h.vals i t y h1 h2 (by simpa using h3)
      exact ⟨u, fu, fun z => by rw [atKey_put_other (fun e2 => e (keyS_inj e2))]; exact a z, b.move n fun k hk => far k (c k hk).1 (c k hk).2, fun k hk => ⟨(c k hk).1, Nat.lt_of_lt_of_le (c k hk).2 hg.size⟩⟩
theorem make_hint (c : Int) (w : World) : (Instr.makeMap 58 (some (.int .i64 c))).run Try.prog w = .ok (.map (some w.heap.size)) (w.alloc (.map #[] 0)) := by kernel_rfl
theorem map_eqn (b : Nat) (w : World) : (binOp .eql 58 (.map (some b)) (.map none)).run Try.prog w = .ok (.bool false) w := by kernel_rfl
/-- All are there: the copy is a map that stands for the same table. -/
theorem CM.done {n : Nat} {w W : World} {x : S26} {vs : List Value} {m low : Nat} {left : Lit → Bool} {D : DataW Value} {c : Nat} (h : CM n w x vs m low left D c W) (h7 : x.f0 = 7) (hrs : Rising x.f5) (hl : x.f5.length = x.f6.length) (hvl : vs.length = x.f6.length) (h0 : ∀ kl, left kl = false) (hc : c ≤ x.f5.length) :
    ∃ vs' ps, Rep (n + 1) W (.iface 58 (.map (some m))) x (m :: ps) ∧ (∀ k ∈ ps, low < k ∧ k < W.heap.size) ∧ vs'.length = x.f6.length ∧ MapAt W m (x.f5.zip vs') := by
  obtain ⟨vs', ps, ha, hk⟩ := choose3 (Q := fun v' y p => Rep n W v' y p ∧ ∀ k ∈ p, low < k ∧ k < W.heap.size) x.f6 (fun i v' => ∀ s, x.f5[i]? = some s → ∀ z, D.atKey (keyS s) z = .held v') (fun i hi => by
    have h5 : i < x.f5.length := by omega
    obtain ⟨v', fp', a, b, d⟩ := h.vals i x.f5[i] x.f6[i] (List.getElem?_eq_getElem h5) (List.getElem?_eq_getElem hi) (h0 _)
    refine ⟨v', fp', fun s hs => ?_, b, d⟩
    rw [List.getElem?_eq_getElem h5] at hs
    cases hs
    exact a)
  obtain ⟨ha1, hf⟩ := all3_flat ha
  have hvl' := ha1.len.1
  have hma : MapAt W m (x.f5.zip vs') := by
    refine ⟨D, h.own.mono (by rw [List.length_zip]; omega), h.map, fun s => ?_⟩
    have e1 : (look (x.f5.zip vs') s).isSome = (look (x.f5.zip vs) s).isSome := by
      by_cases hm : s ∈ x.f5
      · obtain ⟨i, hi⟩ := List.getElem?_of_mem hm
        have hi5 := (List.getElem?_eq_some_iff.1 hi).1
        rw [lk_at (rising_nodup hrs) i hi (List.getElem?_eq_getElem (by omega : i < vs'.length)), lk_at (rising_nodup hrs) i hi (List.getElem?_eq_getElem (by omega : i < vs.length))]
        rfl
      · rw [lk_none hm, lk_none hm]
    refine ⟨by rw [h.has, h0, e1]; simp, fun v hv z => ?_⟩
    obtain ⟨i, h1, h2⟩ := look_get hv
    exact hk i v h2 s h1 z
  exact ⟨vs', ps.flatten, Rep.mk (.inr (.inr (.inr (.inr (.inr (.inr ⟨h7, m, vs', ps, rfl, hl, hma, ha1, rfl⟩)))))), hf, hvl', hma⟩
theorem ranges_same {W W2 : World} {b r n : Nat} {D : DataW Value} {left : Lit → Bool} {cnt : Nat} (h : W.ranges Try.prog 9 hR b r n D left cnt) (hb : W2.heap[b]? = W.heap[b]?) (hr : W2.heap[r]? = W.heap[r]?) : W2.ranges Try.prog 9 hR b r n D left cnt := by
  obtain ⟨es, clock, since, seen, c0, h1, h2, h3, h4, h5, h6⟩ := h
  exact ⟨es, clock, since, seen, c0, hb.trans h1, h2, h3, h4, hr.trans h5, h6⟩
theorem CM.start {n : Nat} {w w0 : World} {x : S26} {vs : List Value} {D : DataW Value} (hrs : Rising x.f5) (_hl : x.f5.length = x.f6.length) (hvl : vs.length = x.f6.length) (hdl : ∀ s, Maps.has D (keyS s) = (look (x.f5.zip vs) s).isSome ∧ ∀ v, look (x.f5.zip vs) s = some v → ∀ z, D.atKey (keyS s) z = .held v) (hg : (w.alloc (.map #[] 0)).grownBy w0 none) :
    CM n w x vs w.heap.size (w.heap.size + 1) (Maps.has D) (.map []) 0 w0 := by
  refine ⟨(World.ownsMap_made w Try.prog 9 hR).kept hg (by simp), isMap_empty, fun s => ?_, fun s hs => by rw [← (hdl s).1]; exact hs, fun i s y h1 h2 h3 => ?_, below_grown (below_alloc (Below.refl _ _) _) (hg.but (some w.heap.size)) (Nat.le_refl _)⟩
  · rw [(hdl s).1]
    show false = _
    cases (look (x.f5.zip vs) s).isSome <;> rfl
  · exfalso
    have hi := (List.getElem?_eq_some_iff.1 h2).1
    rw [(hdl s).1, lk_at (rising_nodup hrs) i h1 (List.getElem?_eq_getElem (by omega : i < vs.length))] at h3
    cases h3
/-- An entry that has come. -/
theorem entry_of {n : Nat} {w : World} {x : S26} {vs : List Value} {fps : List (List Nat)} {D : DataW Value} {s : ByteArray} {v : Value} (hall : All3 (Rep n w) vs x.f6 fps) (hrs : Rising x.f5) (hl : x.f5.length = x.f6.length) (hdl : ∀ s, Maps.has D (keyS s) = (look (x.f5.zip vs) s).isSome ∧ ∀ v, look (x.f5.zip vs) s = some v → ∀ z, D.atKey (keyS s) z = .held v)
    (hi : (look (x.f5.zip vs) s).isSome = true) (hat : ∀ z, D.atKey (keyS s) z = .held v) : ∃ y fp, y ∈ x.f6 ∧ fp ∈ fps ∧ s ∈ x.f5 ∧ Rep n w v y fp ∧ (∃ j, ∃ h : j < x.f6.length, x.f6[j] = y) ∧ ∀ (i : Nat) (y' : S26), x.f5[i]? = some s → x.f6[i]? = some y' → y' = y := by
  obtain ⟨v0, hv0⟩ := Option.isSome_iff_exists.1 hi
  have e : v = v0 := by
    have h1 := (hdl s).2 v0 hv0 (.held v)
    rw [hat] at h1
    cases h1
    rfl
  subst e
  obtain ⟨i, h1, h2⟩ := look_get hv0
  obtain ⟨hi5, hs⟩ := List.getElem?_eq_some_iff.1 h1
  obtain ⟨hiv, hv⟩ := List.getElem?_eq_some_iff.1 h2
  have hi6 : i < x.f6.length := by omega
  obtain ⟨fp, hf, hr⟩ := hall.get i hiv hi6
  rw [hv] at hr
  refine ⟨x.f6[i], fp, List.getElem_mem hi6, hf, List.mem_of_getElem? h1, hr, ⟨i, hi6, rfl⟩, fun i' y' h3 h4 => ?_⟩
  have e : i = i' := (List.getElem?_inj hi5 (rising_nodup hrs)).1 (h1.trans h3.symm)
  subst e
  rw [List.getElem?_eq_getElem hi6] at h4
  exact (Option.some.inj h4).symm
set_option maxRecDepth 100000 in
set_option maxHeartbeats 4000000 in
theorem copy_map (n : Nat) (ih : CopyC n) (x : S26) (b : Nat) (vs : List Value) (fps : List (List Nat)) (w : World) (h7 : x.f0 = 7) (hl : x.f5.length = x.f6.length) (hm : MapAt w b (x.f5.zip vs)) (hall : All3 (Rep n w) vs x.f6 fps) (hrs : Rising x.f5) (hr : ∀ y ∈ x.f6, Rt n y) (hks : ∀ s ∈ x.f5, s.size ≤ maxLen) (hsm : ∀ y ∈ x.f6, Sm n y) (hc : cnt (n + 1) x ≤ 2000) (hlt : ∀ k ∈ b :: fps.flatten, k < w.heap.size) :
    Calls Try.prog 92 #[.map (some b)] w fun e w' => Below w.heap.size w w' ∧ ∃ m vs' ps, e = .returned (.map (some m)) ∧ Rep (n + 1) w' (.iface 58 (.map (some m))) x (m :: ps) ∧ w.heap.size ≤ m ∧ (∀ k ∈ ps, m < k ∧ k < w'.heap.size) ∧ vs'.length = x.f6.length ∧ MapAt w' m (x.f5.zip vs') := by
  have LL : x.f6.length ≤ 2000 := by have := len_le hr; unfold HVal.cnt at hc; omega
  have hvl := hall.len.1
  obtain ⟨D, hown, him, hdl⟩ := hm
  have hkl : (x.f5.zip vs).length = x.f5.length := by rw [List.length_zip]; omega
  rw [hkl] at hown
  have hmk := make_hint
  have hne := map_eqn
  have HALL := Aside0.mk hall
  have HR := Aside0.mk hr
  have HSM := Aside0.mk hsm
  have HKS := Aside0.mk hks
  have HC := Aside0.mk hc
  have HLT := Aside0.mk hlt
  have HRS := Aside0.mk hrs
  have HL := Aside0.mk hl
  have HVL := Aside0.mk hvl
  have HLL := Aside0.mk LL
  have H7 := Aside0.mk h7
  have HDL := Aside0.mk hdl
  have HO := Aside0.mk hown
  have HO1 := Aside0.mk (hown.alloc (.map #[] 0))
  have IH := Aside0.mk ih
  have HSZ := Aside0.mk (show Maps.size D ≤ x.f5.length from hown.size_le)
  clear ih h7 hl hall hrs hr hks hsm hc hlt hvl hdl hkl hown LL
  go_enter Try.func92, Try.ntmps92
  go_wp2_with (first
    | (at_len; go_must (refine wpList_len_own _ rfl _ 58 rfl 9 20 Try.underlying58 hR b x.f5.length D rfl HO.out ?_))
    | (at_range; go_must (refine wpList_range_own _ rfl _ 58 rfl 9 20 law9 Try.underlying58 hR b x.f5.length D rfl HO1.out ?_; intro w0 hrg0 hg0 hs0)))
  go_frame
  simp only [World.size_alloc] at hrg0 ⊢
  have HCM := Aside0.mk (CM.start (n := n) HRS.out HL.out HVL.out HDL.out hg0)
  have HRG := Aside0.mk hrg0
  clear hrg0 hg0 hs0 HO1
  go_loopw [4, 5] (fun _k _v wr => ∃ (left : Lit → Bool) (cn c : Nat) (D' : DataW Value), Aside0 (wr.ranges Try.prog 9 hR b (w.heap.size + 1) x.f5.length D left cn) ∧ Aside0 (c + cn ≤ x.f5.length) ∧ Aside0 (CM n w x vs w.heap.size (w.heap.size + 1) left D' c wr)) (fun _ _ wr => wr.rangeLeft b (w.heap.size + 1))
  case atStart => exact ⟨_, _, 0, _, HRG, ⟨by rw [Nat.zero_add]; exact HSZ.out⟩, HCM⟩
  case round =>
    obtain ⟨left, cn, c, D', HG, HCT, HI⟩ := hrel
    clear HRG HCM
    go_wp2_with (at_next; go_must (refine wpList_next_ranges _ rfl _ rfl 9 law9 hR (fun s : ByteArray => Value.string s) (fun v => v) (fun key kl hk => by obtain ⟨s, h, _⟩ := keyOf_inv hk; exact ⟨s, h⟩) (fun v y _ => ⟨v, rfl⟩) b (w.heap.size + 1) x.f5.length _ _ _ rfl HG.out ?_ ?_))
    · intro hc0 hl0
      have HL0 := Aside0.mk hl0
      have HC0 := Aside0.mk (show c ≤ x.f5.length by have := HCT.out; omega)
      clear hc0 hl0
      go_wp2
      go_ret
      obtain ⟨vs', ps, h1, h2, h3, h4⟩ := HI.out.done H7.out HRS.out HL.out HVL.out HL0.out HC0.out
      exact ⟨HI.out.below, _, vs', ps, rfl, h1, Nat.le_refl _, fun k hk => ⟨by have := (h2 k hk).1; omega, (h2 k hk).2⟩, h3, h4⟩
    · intro s v kl yd yp w1 cnt1 hkey hleft hRv hat hrg1 hcl hg1 hs1 hen
      obtain ⟨s', e1, e2, hsz⟩ := keyOf_inv hkey
      cases e1
      subst e2
      simp only [hR, Option.some.injEq, Prod.mk.injEq] at hRv
      obtain ⟨rfl, rfl⟩ := hRv
      obtain ⟨y, fp, hy, hf, hsm5, hrep, ⟨jj, hj, hje⟩, huni⟩ := entry_of HALL.out HRS.out HL.out HDL.out (HI.out.sub s hleft) hat
      have hb1 : Below w.heap.size w w1 := below_grown HI.out.below hg1 (Nat.le_succ _)
      have fl : ∀ k ∈ fp, k < w.heap.size := fun k hk => HLT.out k (List.mem_cons_of_mem _ (List.mem_flatten.2 ⟨fp, hf, hk⟩))
      have HCC := Aside0.mk (IH.out y v fp w1 (hrep.move n fun k hk => hb1.block k (fl k hk)) (HR.out y hy) (HSM.out y hy) (by have h := sum_le n x.f6 jj hj; rw [hje] at h; have := HC.out; unfold HVal.cnt at this; omega) (fun k hk => Nat.lt_of_lt_of_le (fl k hk) hb1.size))
      have HRG1 := Aside0.mk hrg1
      have HCT1 := Aside0.mk (show c + 1 + cnt1 ≤ x.f5.length by have := HCT.out; omega)
      have HCL := Aside0.mk hcl
      have HI1 := Aside0.mk (HI.out.step hg1)
      have HUN := Aside0.mk huni
      have HSS := Aside0.mk hsz
      have HLF := Aside0.mk hleft
      have HBB := Aside0.mk (show b < w.heap.size from HLT.out b List.mem_cons_self)
      clear hkey hleft hat hrg1 hcl hg1 hs1 hsz hy hf hsm5 hrep hj hje huni hb1 fl HI HCT
      go_wp2_with (first
        | (go_at_call 114; go_must (refine HCC.out.mono ?_; rintro e w2 ⟨hb, v', fp', rfl, hrep, hfp⟩; have HI2 := Aside0.mk (HI1.out.later hb); have HRG2 := Aside0.mk (ranges_same HRG1.out (hb.block _ HRG1.out.owns.lt) (hb.block _ HRG1.out.lt)); have HRP := Aside0.mk hrep; have HFP := Aside0.mk hfp; have HLW := Aside0.mk (show w.heap.size + 1 < w1.heap.size from HRG1.out.lt); clear hb hrep hfp))
        | (at_mapUpdate; refine wpList_mapUpdate_own _ rfl _ _ _ 58 rfl 9 20 law9 Try.underlying58 hR _ _ D' rfl HI2.out.own ?_ _ _ _ rfl rfl (keyS_ok HSS.out) _ [] rfl ?_; (have := HCT1.out; have := HL.out; have := HLL.out; unfold maxLen; omega); intro W4 hown hg4; have hown4 := And.intro hown hg4; clear hown hg4))
      have HW := Aside0.mk (HRG2.out.kept hown4.2 (by have := HBB.out; simp; omega) (by simp))
      have HN := Aside0.mk (HI2.out.put (Nat.le_refl _) (Nat.le_succ _) HLF.out (fun i y' h1 h2 => by rw [HUN.out i y' h1 h2]; exact HRP.out) (fun k hk => ⟨Nat.lt_of_lt_of_le HLW.out (HFP.out k hk).1, (HFP.out k hk).2⟩) hown4.1 hown4.2)
      go_roundw
      case rel => exact ⟨_, _, _, _, _, _, _, _, _, _, _, ⟨_, cnt1, c + 1, _, HW, HCT1, HN⟩, rfl⟩
      case measure => rw [HW.out.left_eq, HG.out.left_eq]; exact HCL.out
set_option maxHeartbeats 4000000 in
theorem copy_table (n : Nat) (ih : CopyC n) (x : S26) (b : Nat) (vs : List Value) (fps : List (List Nat)) (w : World) (h7 : x.f0 = 7) (hl : x.f5.length = x.f6.length) (hm : MapAt w b (x.f5.zip vs)) (hall : All3 (Rep n w) vs x.f6 fps) (hrs : Rising x.f5) (hr : ∀ y ∈ x.f6, Rt n y) (hks : ∀ s ∈ x.f5, s.size ≤ maxLen) (hsm : ∀ y ∈ x.f6, Sm n y) (hc : cnt (n + 1) x ≤ 2000) (hlt : ∀ k ∈ b :: fps.flatten, k < w.heap.size) :
    Calls Try.prog 114 #[.iface 58 (.map (some b))] w (CopyPost (n + 1) w x) := by
  have HC := Aside0.mk (copy_map n ih x b vs fps w h7 hl hm hall hrs hr hks hsm hc hlt)
  have t6 := vs58_map
  clear ih h7 hl hm hall hrs hr hks hsm hc hlt
  go_enter Try.func114, Try.ntmps114
  go_wp2_with (go_at_call 92; go_must (refine HC.out.mono ?_; rintro e w1 ⟨hb, m, vs', ps, rfl, hrep, hm, hps, _, _⟩; have HB := Aside0.mk hb; have HR := Aside0.mk hrep; have HM := Aside0.mk hm; have HPS := Aside0.mk hps; have HML := Aside0.mk hrep; clear hb hrep hm hps))
  go_ret
  refine ⟨HB.out, _, _, rfl, HR.out, fun k hk => ?_⟩
  rcases List.mem_cons.1 hk with rfl | hk
  · refine ⟨HM.out, ?_⟩
    have h := HR.out
    unfold Rep at h
    rcases h with ⟨_, e, _⟩ | ⟨_, e, _⟩ | ⟨_, e, _⟩ | ⟨_, e, _⟩ | ⟨_, e, _⟩ | ⟨_, _, _, _, e, _⟩ | ⟨_, _, _, _, e, _, h2, _⟩
    all_goals cases e
    exact h2.lt
  · exact ⟨Nat.le_trans HM.out (Nat.le_of_lt (HPS.out k hk).1), (HPS.out k hk).2⟩
theorem copy_of : ∀ n, CopyC n
  | 0 => fun _ _ _ _ h => h.elim
  | n + 1 => fun x v fp w hrep hr hsm hc hlt => by
    have hk := rt_kids hr
    unfold Sm at hsm
    unfold Rep at hrep
    rcases hrep with ⟨h0, hv, _⟩ | ⟨h0, hv, _⟩ | ⟨h0, hv, _⟩ | ⟨h0, hv, _⟩ | ⟨h0, hv, _⟩ | ⟨h0, vs, fps, s, rfl, ho, ha, rfl⟩ | ⟨h0, b, vs, fps, rfl, hl, hm, ha, rfl⟩
    · exact copy_scalar n x v w (.inl ⟨h0, hv⟩)
    · exact copy_scalar n x v w (.inr (.inl ⟨h0, hv⟩))
    · exact copy_scalar n x v w (.inr (.inr (.inl ⟨h0, hv⟩)))
    · exact copy_scalar n x v w (.inr (.inr (.inr (.inl ⟨h0, hv⟩))))
    · exact copy_scalar n x v w (.inr (.inr (.inr (.inr ⟨h0, hv⟩))))
    · exact copy_list n (copy_of n) x s vs fps w h0 ho ha hk hsm.2 hc hlt
    · exact copy_table n (copy_of n) x b vs fps w h0 hl hm ha (rt_rises hr h0) hk hsm.1 hsm.2 hc hlt
end Go.Proofs.Ytjfbjkodjjlkiaa.HVal
/-! A map's own entry set anew while the map is ranged over. -/
namespace Go.Proofs.Ytjfbjkodjjlkiaa.HVal
open Go.RowKit Go.WideMaps Go.Maps Go.WideShapes
open Go.WideElems (Fit rd rg pl rd_key rd_val rg_of rd_mk)
open Go.ChangeMaps (setBlock modify_eq_set heap_setBlock_same heap_setBlock_other)
open Go.Proofs.YtjfbjkodjjlkiaaW.PrintWords Go.Proofs.YtjfbjkodjjlkiaaW.PrintLast Go.Proofs.YtjfbjkodjjlkiaaW.PrintMore Go.Proofs.Ytjfbjkodjjlkiaa.Plain Go.Proofs.Ytjfbjkodjjlkiaa.GTab

theorem filter_set {α : Type} (p : α → Bool) : ∀ (l : List α) (j : Nat) (a b : α), l[j]? = some a → p b = p a → ((l.set j b).filter p).length = (l.filter p).length
  | [], _, _, _, h, _ => by simp at h
  | x :: r, 0, a, b, h, e => by
    simp at h
    subst h
    rw [List.set_cons_zero, List.filter_cons, List.filter_cons, e]
    split <;> rfl
  | x :: r, j + 1, a, b, h, e => by
    have := filter_set p r j a b (by simpa using h) e
    rw [List.set_cons_succ, List.filter_cons, List.filter_cons]
    split <;> simp [this]
set_option maxRecDepth 100000 in
theorem ranges_put {W : World} {b r n : Nat} {D : DataW Value} {left : Lit → Bool} {cnt : Nat} (h : W.ranges Try.prog 9 hR b r n D left cnt) {s : ByteArray} (v : Value) (hs : s.size ≤ maxLen) (hn : n < maxLen) (hhas : Maps.has D (keyS s) = true) :
    ∃ W', (Instr.mapUpdate 58 (.map (some b)) (.string s) v).run Try.prog W = .ok () W' ∧ W'.ranges Try.prog 9 hR b r n (D.put (keyS s) (.held v)) left cnt ∧ W.grownBy W' (some b) := by
  have hne := h.ne
  have hz : (zeroValue 20).run Try.prog W = .ok .nilIface W := by kernel_rfl
  obtain ⟨es, clock, since, seen, c0, hb, F, hsz, rfl, hr, hold, rfl, hl1, hl2, hsc, hsk⟩ := h
  rcases law9.find W (keyS_ok hs) es.toList F.keys with ⟨h1, h2⟩ | ⟨j, e0, h1, h2, h3⟩
  · exfalso
    rcases Maps.fit_look false law9 Try.underlying58 hz hb F (keyS_ok hs) with ⟨_, _, hat⟩ | ⟨e0, y, hm, hk, _⟩
    · rw [Maps.has_false_of_atKey hat] at hhas
      cases hhas
    · exact h2 e0 hm hk
  · obtain ⟨es', clock', hrun, F', hput, _, _, _⟩ := Maps.fit_store (R' := hR) law9 Try.underlying58 hb F (Nat.lt_of_le_of_lt hsz hn) (fun _ _ _ _ hz => hz) (keyS_ok hs) (show hR v = some (.held v, []) from rfl)
    have hj : es[j]? = some e0 := by simpa using h2
    have hrun2 : (Instr.mapUpdate 58 (.map (some b)) (.string s) v).run Try.prog W = .ok () (setBlock W b (.map (es.modify j (fun e' => { e' with key := .string s, val := v })) clock)) := by
      simp [Instr.mapUpdate, run_underlying Try.underlying58, MapKept.run_getObj_map hb, law9.check W false (keyS_ok hs), h1, hj, h3, law9.stays W (keyS_ok hs), MapKept.run_setObj_map _ hb, Result.andThen, setBlock]
    have heq := hrun.symm.trans hrun2
    have hw : setBlock W b (.map es' clock') = setBlock W b (.map (es.modify j (fun e' => { e' with key := .string s, val := v })) clock) := by injection heq
    have hcell := (heap_setBlock_same hb (.map es' clock')).symm.trans ((congrArg (fun w : World => w.heap[b]?) hw).trans (heap_setBlock_same hb _))
    obtain ⟨e1, e2⟩ := Obj.map.inj (Option.some.inj hcell)
    subst e2
    have hlist : es'.toList = es.toList.set j { e0 with key := .string s, val := v } := by rw [e1, Array.toList_modify, modify_eq_set _ _ _ _ h2]
    have hjl : j < es.toList.length := (List.getElem?_eq_some_iff.1 h2).1
    have hmem0 : e0 ∈ es.toList := List.mem_of_getElem? h2
    have hk1 : (rg Try.prog 9 hR { e0 with key := .string s, val := v }).1 = keyS s := by rw [rg_of (rd_mk (keyS_ok hs) (show hR v = some (.held v, []) from rfl))]
    have hk0 : (rg Try.prog 9 hR e0).1 = keyS s := by
      obtain ⟨y, hy⟩ := F.reads e0 hmem0
      rw [rg_of hy]
      have := rd_key hy
      rw [h3, keyS_ok hs] at this
      exact (Option.some.inj this).symm
    have who : ∀ x ∈ es'.toList, x = { e0 with key := .string s, val := v } ∨ x ∈ es.toList := fun x hx => by
      rw [hlist] at hx
      obtain ⟨i, hi, ex⟩ := List.getElem_of_mem hx
      rw [List.getElem_set] at ex
      split at ex
      · exact Or.inl ex.symm
      · exact Or.inr (ex ▸ List.getElem_mem (by simpa using hi))
    refine ⟨_, hrun, ⟨es', clock', since, seen, c0, heap_setBlock_same hb _, F', by rw [e1]; simpa using hsz, by rw [DataW.put_eq, hput], (heap_setBlock_other hb _ hne).trans hr, fun x hx => ?_, ?_, fun x hx => ?_, fun kl hkl => ?_, hsc, hsk⟩, ⟨rfl, rfl, rfl, by simp [setBlock], fun i _ hi => heap_setBlock_other hb _ (fun e => hi (by rw [e]))⟩⟩
    · rcases who x hx with rfl | hx
      · exact hold e0 hmem0
      · exact hold x hx
    · have e3 : ∀ a : Array MapEntry, (leftOf a seen).size = (a.toList.filter fun e => !seen.contains e.born).length := fun a => by
        unfold leftOf
        rw [← Array.toList_filter, Array.length_toList]
      rw [e3, e3, hlist]
      exact filter_set _ _ _ e0 _ h2 rfl
    · rcases who x hx with rfl | hx
      · rw [hk1, ← hk0]
        exact hl1 e0 hmem0
      · exact hl1 x hx
    · obtain ⟨x, hx, hxk⟩ := hl2 kl hkl
      obtain ⟨i, hi⟩ := List.getElem?_of_mem hx
      by_cases e : j = i
      · subst e
        rw [h2] at hi
        cases hi
        exact ⟨_, by rw [hlist]; exact List.mem_of_getElem? (by rw [List.getElem?_set_self hjl]), hk1.trans (hk0.symm.trans hxk)⟩
      · exact ⟨x, by rw [hlist]; exact List.mem_of_getElem? (by rw [List.getElem?_set_ne e]; exact hi), hxk⟩
end Go.Proofs.Ytjfbjkodjjlkiaa.HVal
