/- What impl.valueOf comes to for a list. The keys of a map, collected and sorted, are those of the table. What impl.valueOf comes to for a map. What impl.valueOf comes to, for all values that can be given. -/
import Derived.Test.YtjfbjkodjjlkiaaBA
import Derived.Test.YtjfbjkodjjlkiaaBC
import Derived.Deep.RegionLaw
import Derived.Deep.AppendLies
import Derived.Sort.KeysCollected
import Derived.Sort.OwnSorted
import Derived.Test.YtjfbjkodjjlkiaaHShelfslicesSort
/-! What impl.valueOf comes to for a list. -/
namespace Go.Proofs.Ytjfbjkodjjlkiaa.HVal
open Go.RowKit Go.WideMaps Go.Maps Go.Proofs.YtjfbjkodjjlkiaaW.PrintWords Go.Proofs.YtjfbjkodjjlkiaaW.PrintLast Go.Proofs.YtjfbjkodjjlkiaaW.PrintMore Go.Proofs.Ytjfbjkodjjlkiaa.Plain Go.Proofs.Ytjfbjkodjjlkiaa.GTab
attribute [local go_sem] run_store_flt

theorem R_form {α : Type} {d : Kd α} {e : Nat} {w : World} {base : Nat} {ok : Nat → Prop} {v : Value} {xs : List α} (h : d.R e w base ok v xs) : ∃ A c, v = .slice A xs.length c := by
  obtain ⟨_, inner, ho, _⟩ := h
  rcases ho.2 with ⟨rfl, h0⟩ | ⟨g, cap, cur, rfl, _⟩
  · exact ⟨none, 0, by rw [h0]⟩
  · exact ⟨_, _, rfl⟩
theorem info26 : (Try.prog.info? 26).map (fun i => (i.zero, i.size, i.bytes)) = some (some (.agg #[.int .i64 0, .bool false, .int .i64 0, .float .f64 0, .string ⟨#[]⟩, .slice none 0 0, .slice none 0 0]), k26.sz, 96) := by kernel_rfl
theorem All3.get {R : Value → S26 → List Nat → Prop} {vs : List Value} {xs : List S26} {ps : List (List Nat)} (h : All3 R vs xs ps) : ∀ (j : Nat) (h1 : j < vs.length) (h2 : j < xs.length), ∃ p, p ∈ ps ∧ R vs[j] xs[j] p := by
  induction h with
  | nil => intro j h1; simp at h1
  | cons a _ ih =>
    intro j h1 h2
    cases j with
    | zero => exact ⟨_, List.mem_cons_self, a⟩
    | succ j =>
      obtain ⟨p, hp, hr⟩ := ih j (by simpa using h1) (by simpa using h2)
      exact ⟨p, List.mem_cons_of_mem _ hp, by simpa using hr⟩
theorem row_lt {α : Type} {d : Kd α} {e : Nat} {w : World} {base : Nat} {ok : Nat → Prop} {v : Value} {xs : List α} (h : d.R e w base ok v xs) (k : Nat) (hk : v.ownBlock = some k) : k < w.heap.size := by
  obtain ⟨_, inner, ho, _⟩ := h
  exact (ho.lt k hk).2
structure VL (n : Nat) (w : World) (x : S26) (j : Nat) (v6 : Value) (wr : World) : Prop where
  row : k26.R 26 wr w.heap.size (fun k => w.heap.size + 1 < k) v6 ((x.f6.take j).map (canon n))
  out : wr.heap[w.heap.size]? = some (.cells #[.int .i64 0, .bool false, .int .i64 0, .float .f64 0, .string ⟨#[]⟩, .slice none 0 0, .slice none 0 0] 26 (0, 0))
  box : wr.heap[w.heap.size + 1]? = some (.cells #[.int .i64 6, .bool false, .int .i64 0, .float .f64 0, .string ⟨#[]⟩, .slice none 0 0, v6] 26 (0, 0))
  below : Below w.heap.size w wr
  size : w.heap.size + 2 ≤ wr.heap.size

theorem vl_start {n : Nat} {w : World} {x : S26} : VL n w x 0 (.slice none 0 0) ((w.alloc (.cells #[.int .i64 0, .bool false, .int .i64 0, .float .f64 0, .string ⟨#[]⟩, .slice none 0 0, .slice none 0 0] 26)).alloc (.cells #[.int .i64 6, .bool false, .int .i64 0, .float .f64 0, .string ⟨#[]⟩, .slice none 0 0, .slice none 0 0] 26)) := by
  refine ⟨Kd.R_nil _ _ _ _ _, blk_alloc (blk_new w _) _, ?_, below_alloc (below_alloc (Below.refl _ _) _) _, by simp⟩
  have := blk_new (w.alloc (.cells #[.int .i64 0, .bool false, .int .i64 0, .float .f64 0, .string ⟨#[]⟩, .slice none 0 0, .slice none 0 0] 26)) (.cells #[.int .i64 6, .bool false, .int .i64 0, .float .f64 0, .string ⟨#[]⟩, .slice none 0 0, .slice none 0 0] 26)
  rwa [World.size_alloc] at this

theorem put7 {wr : World} {b : Nat} {z0 z1 z2 z3 z4 z5 z6 : Value} (h : wr.heap[b]? = some (.cells #[z0, z1, z2, z3, z4, z5, z6] 26 (0, 0))) (a0 a1 a2 a3 a4 a5 a6 : Value) :
    (((((((wr.setCell ⟨b, 0, none⟩ a0).setCell ⟨b, 1, none⟩ a1).setCell ⟨b, 2, none⟩ a2).setCell ⟨b, 3, none⟩ a3).setCell ⟨b, 4, none⟩ a4).setCell ⟨b, 5, none⟩ a5).setCell ⟨b, 6, none⟩ a6).heap[b]? = some (.cells #[a0, a1, a2, a3, a4, a5, a6] 26 (0, 0)) := by
  have h0 := blk_put (cs' := #[a0, z1, z2, z3, z4, z5, z6]) h 0 a0 rfl
  generalize wr.setCell ⟨b, 0, none⟩ a0 = w0 at h0 ⊢
  have h1 := blk_put (cs' := #[a0, a1, z2, z3, z4, z5, z6]) h0 1 a1 rfl
  generalize w0.setCell ⟨b, 1, none⟩ a1 = w1 at h1 ⊢
  have h2 := blk_put (cs' := #[a0, a1, a2, z3, z4, z5, z6]) h1 2 a2 rfl
  generalize w1.setCell ⟨b, 2, none⟩ a2 = w2 at h2 ⊢
  have h3 := blk_put (cs' := #[a0, a1, a2, a3, z4, z5, z6]) h2 3 a3 rfl
  generalize w2.setCell ⟨b, 3, none⟩ a3 = w3 at h3 ⊢
  have h4 := blk_put (cs' := #[a0, a1, a2, a3, a4, z5, z6]) h3 4 a4 rfl
  generalize w3.setCell ⟨b, 4, none⟩ a4 = w4 at h4 ⊢
  have h5 := blk_put (cs' := #[a0, a1, a2, a3, a4, a5, z6]) h4 5 a5 rfl
  generalize w4.setCell ⟨b, 5, none⟩ a5 = w5 at h5 ⊢
  have h6 := blk_put (cs' := #[a0, a1, a2, a3, a4, a5, a6]) h5 6 a6 rfl
  generalize w5.setCell ⟨b, 6, none⟩ a6 = w6 at h6 ⊢
  exact h6
theorem grown_puti {w w1 : World} {g : Nat} (h : w.grownBy w1 (some g)) (i : Nat) (v : Value) : w.grownBy (w1.setCell ⟨g, i, none⟩ v) (some g) :=
  ⟨h.os, h.tape, h.output, by simpa [World.setCell] using h.size, fun k hk hne => (Below.heap_setCell w1 ⟨g, i, none⟩ v k (by simpa using hne)).trans (h.block k hk hne)⟩
theorem grown7 {wr : World} {b : Nat} (a0 a1 a2 a3 a4 a5 a6 : Value) : wr.grownBy (((((((wr.setCell ⟨b, 0, none⟩ a0).setCell ⟨b, 1, none⟩ a1).setCell ⟨b, 2, none⟩ a2).setCell ⟨b, 3, none⟩ a3).setCell ⟨b, 4, none⟩ a4).setCell ⟨b, 5, none⟩ a5).setCell ⟨b, 6, none⟩ a6) (some b) := by
  have g := grown_refl wr (some b)
  have g0 := grown_puti g 0 a0
  generalize wr.setCell ⟨b, 0, none⟩ a0 = w0 at g0 ⊢
  have g1 := grown_puti g0 1 a1
  generalize w0.setCell ⟨b, 1, none⟩ a1 = w1 at g1 ⊢
  have g2 := grown_puti g1 2 a2
  generalize w1.setCell ⟨b, 2, none⟩ a2 = w2 at g2 ⊢
  have g3 := grown_puti g2 3 a3
  generalize w2.setCell ⟨b, 3, none⟩ a3 = w3 at g3 ⊢
  have g4 := grown_puti g3 4 a4
  generalize w3.setCell ⟨b, 4, none⟩ a4 = w4 at g4 ⊢
  have g5 := grown_puti g4 5 a5
  generalize w4.setCell ⟨b, 5, none⟩ a5 = w5 at g5 ⊢
  have g6 := grown_puti g5 6 a6
  generalize w5.setCell ⟨b, 6, none⟩ a6 = w6 at g6 ⊢
  exact g6
theorem val_list_end {n : Nat} {w wr W : World} {x : S26} {v6 : Value} (h : VL n w x x.f6.length v6 wr) (hx : x.f0 = 6) (hg : wr.grownBy W (some w.heap.size)) {e : Ending} (he : e = .returned (.agg #[.int .i64 6, .bool false, .int .i64 0, .float .f64 0, .string ⟨#[]⟩, .slice none 0 0, v6])) : ValPost (n + 1) w x e W := by
  have hc : canon (n + 1) x = { z26 with f0 := 6, f6 := x.f6.map (canon n) } := by unfold canon; rw [hx]; rfl
  have hr := h.row
  rw [List.take_length] at hr
  refine ⟨.slice none 0 0, v6, by rw [he, hc]; rfl, ?_, below_grown h.below hg (Nat.le_refl _)⟩
  rw [hc]
  exact k26_mkM W _ _ _ (Kd.R_nil _ _ _ _ _) (Kd.R_mono (Kd.R_move (Kd.R_bound hr) fun k hk => hg.block k hk.2.2.1 (by have := hk.1; simp; omega)) fun _ _ => trivial)

theorem VL.next {n : Nat} {w : World} {x : S26} {j : Nat} {v6 : Value} {wr : World} (h : VL n w x j v6 wr) (hj : j < x.f6.length) {W2 : World} (hb : Below wr.heap.size wr W2) {v1 : Value} {W4 : World} (hR : k26.R 26 W4 w.heap.size (fun k => w.heap.size + 1 < k) v1 ((x.f6.take j).map (canon n) ++ [canon n x.f6[j]])) (hg : W2.grownBy W4 v6.ownBlock) :
    VL n w x (j + 1) v1 (W4.setCell ⟨w.heap.size + 1, 6, none⟩ v1) := by
  have s1 := h.size
  have s2 := hb.size
  have s4 := hg.size
  have far : ∀ k, k ≤ w.heap.size + 1 → W4.heap[k]? = wr.heap[k]? := fun k hk => (hg.block k (by omega) fun e => by have := h.row.1 k e.symm; omega).trans (hb.block k (by omega))
  have hs : ∀ k, k ≠ w.heap.size + 1 → (W4.setCell ⟨w.heap.size + 1, 6, none⟩ v1).heap[k]? = W4.heap[k]? := fun k hk => Below.heap_setCell W4 ⟨w.heap.size + 1, 6, none⟩ v1 k (by simpa using hk)
  refine ⟨?_, (hs _ (by omega)).trans ((far _ (by omega)).trans h.out), blk_put ((far _ (Nat.le_refl _)).trans h.box) 6 v1 rfl, ⟨?_, ?_, ?_, ?_, fun k hk => (hs k (by omega)).trans ((far k (by omega)).trans (h.below.block k hk))⟩, ?_⟩
  · rw [List.take_succ_eq_append_getElem hj, List.map_append]
    exact Kd.R_move hR fun k hk => hs k (by omega)
  · exact hg.os.trans (hb.os.trans h.below.os)
  · exact hg.tape.trans (hb.tape.trans h.below.tape)
  · exact hg.output.trans (hb.output.trans h.below.output)
  · have := h.below.size
    simp [World.setCell]
    omega
  · simp [World.setCell]
    omega

theorem VL.drew {n : Nat} {w : World} {x : S26} {j : Nat} {v6 : Value} {wr : World} (h : VL n w x j v6 wr) : VL n w x j v6 wr.drew :=
  ⟨Kd.R_move h.row fun _ _ => rfl, h.out, h.box, below_drew h.below, h.size⟩
theorem VL.far {n : Nat} {w : World} {x : S26} {j : Nat} {v6 : Value} {wr : World} (h : VL n w x j v6 wr) {W2 : World} (hb : Below wr.heap.size wr W2) : VL n w x j v6 W2 :=
  ⟨Kd.R_below h.row hb, blk_below h.out hb, blk_below h.box hb, ⟨hb.os.trans h.below.os, hb.tape.trans h.below.tape, hb.output.trans h.below.output, Nat.le_trans h.below.size hb.size, fun k hk => (hb.block k (by have := h.size; omega)).trans (h.below.block k hk)⟩, Nat.le_trans h.size hb.size⟩

/-- The append of a round, as a step of its region. -/
theorem app_step {n : Nat} {w : World} {x : S26} {j : Nat} {v6 : Value} {wr W2 : World} {v5 v7 : Value} (hj : j < x.f6.length) (LL : x.f6.length ≤ 2000) (hwr : w.heap.size + 2 ≤ wr.heap.size) (hle : wr.heap.size ≤ W2.heap.size) (HE : VL n w x j v6 W2) (hv6 : ∀ k, v6.ownBlock = some k → k < wr.heap.size)
    (HM : k26.M W2 wr.heap.size (fun _ => True) (canon n x.f6[j]) [.int .i64 (canon n x.f6[j]).f0, .bool (canon n x.f6[j]).f1, .int .i64 (canon n x.f6[j]).f2, .float .f64 (canon n x.f6[j]).f3, .string (canon n x.f6[j]).f4, v5, v7])
    {ops : Array Oper} {o : Oper} {a : Act} {K : Act → World → Prop} {Q : Exit → Act → World → Prop} {E : Prop} (hgd : o.guard = none) (ho : o.op = .call { callee := .builtin .append, args := #[.tmp 52, .tmp 55], argTypes := #[24, 24] }) (hs : a.eval (.tmp 52) = v6) (hx : a.eval (.tmp 55) = .slice (some ⟨W2.heap.size, 0, none⟩) 1 1)
    (h : ∀ v1 W4, k26.R 26 W4 w.heap.size (fun k => w.heap.size + 1 < k) v1 ((x.f6.take j).map (canon n) ++ [canon n x.f6[j]]) → W2.grownBy W4 v6.ownBlock → K (a.put o.dst v1) W4) :
    if Region.wanted o (yielded ops a.tmps) = true then Oper.wp Try.prog o a (W2.alloc (.cells #[.int .i64 (canon n x.f6[j]).f0, .bool (canon n x.f6[j]).f1, .int .i64 (canon n x.f6[j]).f2, .float .f64 (canon n x.f6[j]).f3, .string (canon n x.f6[j]).f4, v5, v7] 26)) K Q else E := by
  have hw : Region.wanted o (yielded ops a.tmps) = true := by simp [Region.wanted, hgd]
  have hl : ((x.f6.take j).map (canon n)).length = j := by rw [List.length_map, List.length_take]; omega
  have key := Kd.R_append_step (P := Try.prog) (ops := ops) (Q := Q) (Kc := K) k26 (w0 := w) (W := W2) w.heap.size hw (.tmp 52) (.tmp 55) 24 26 _ 96 ho Try.underlying24 info26 rfl (by decide) (by decide) v6 ((x.f6.take j).map (canon n)) (canon n x.f6[j]) _ (fun k => w.heap.size + 1 < k) (fun k => wr.heap.size ≤ k) hs hx
    (k26.M_lower (by omega) (k26.M_mono (fun k hk => hk.2.1) (k26.M_bound HM))) (fun k hk => ⟨by omega, fun e => by have := hv6 k e.symm; omega⟩) (fun k hk => by omega) HE.row HE.below (by omega) (by rw [hl]; omega) (fun v1 w1 hR _ hg _ => h v1 w1 hR hg)
  rw [if_pos hw] at key ⊢
  exact key

theorem vl_len {n : Nat} {l : List S26} {j : Nat} (h : j < l.length) : (List.map (canon n) (List.take j l) ++ [canon n l[j]]).length = j + 1 := by
  simp
  omega
theorem meas27 {L j : Nat} (h : j < L) : L - (intOf (.int .i64 ((j : Int) + 1))).toNat < L - (intOf (.int .i64 (j : Int))).toNat := by
  simp only [intOf]
  omega
theorem row_el {w wr : World} {g : Nat} {cur : Array Value} {vs : List Value} (hh : w.heap[g]? = some (.cells cur 20 (0, 0))) (hq : List.take (vs.length * 1) cur.toList = vs) (hb : Below w.heap.size w wr) {j : Nat} (hj : j < vs.length) : wr.cell? ⟨g, j, none⟩ = some vs[j] := by
  have h1 := blk_cell (blk_below hh hb) j
  have h2 : (List.take (vs.length * 1) cur.toList)[j]? = vs[j]? := by rw [hq]
  rw [List.getElem?_take_of_lt (by omega), List.getElem?_eq_getElem hj] at h2
  rw [h1, ← h2]
  simp
set_option maxRecDepth 100000 in
set_option maxHeartbeats 4000000 in
theorem val_list (n : Nat) (ih : ValC n) (x : S26) (s : Value) (vs : List Value) (fps : List (List Nat)) (w : World) (hx : x.f0 = 6) (hown : w.ownsRow 0 20 1 s vs.length vs) (hall : All3 (Rep n w) vs x.f6 fps) (hr : ∀ y ∈ x.f6, Rt n y) (hsm : ∀ y ∈ x.f6, Sm n y) (hc : cnt (n + 1) x ≤ 2000) (hlt : ∀ k ∈ s.ownBlock.toList ++ fps.flatten, k < w.heap.size) :
    Calls Try.prog 46 #[.iface 85 s] w (ValPost (n + 1) w x) := by
  have hl := hall.len.1
  have LL : x.f6.length ≤ 2000 := by have := len_le hr; unfold cnt at hc; omega
  have HX := Aside0.mk hx
  have IH := Aside0.mk ih
  have HALL := Aside0.mk hall
  have HR := Aside0.mk hr
  have HSM := Aside0.mk hsm
  have HC := Aside0.mk hc
  have HLT := Aside0.mk hlt
  clear hx ih hall hr hsm hc hlt
  have t0 := vs4_list
  have t1 := vs2_list
  have t2 := vs22_list
  have t3 := vs9_list
  have t4 := vs85_list
  rcases hown.2 with ⟨rfl, hv⟩ | ⟨g, cap, cur, rfl, hg, hh, hq⟩
  · have e0 : x.f6.length = 0 := hl.symm.trans hv
    have e1 : vs = [] := List.length_eq_zero_iff.1 hv
    subst e1
    go_enter Try.func46, Try.ntmps46
    go_wp2
    go_loopw [47] (fun i wr => i = .int .i64 0 ∧ Aside0 (VL n w x 0 (.slice none 0 0) wr)) (fun _ _ => 0)
    case atStart => exact ⟨rfl, ⟨vl_start⟩⟩
    case round =>
      obtain ⟨rfl, HI0⟩ := hrel
      have HI := Aside0.mk (show VL n w x x.f6.length (.slice none 0 0) wr by rw [e0]; exact HI0.out)
      clear HI0
      have hb0 : wr.cell? ⟨w.heap.size + 1, 0, none⟩ = some (.int .i64 6) := (blk_cell HI.out.box 0).trans rfl
      have hb1 : wr.cell? ⟨w.heap.size + 1, 1, none⟩ = some (.bool false) := (blk_cell HI.out.box 1).trans rfl
      have hb2 : wr.cell? ⟨w.heap.size + 1, 2, none⟩ = some (.int .i64 0) := (blk_cell HI.out.box 2).trans rfl
      have hb3 : wr.cell? ⟨w.heap.size + 1, 3, none⟩ = some (.float .f64 0) := (blk_cell HI.out.box 3).trans rfl
      have hb4 : wr.cell? ⟨w.heap.size + 1, 4, none⟩ = some (.string ⟨#[]⟩) := (blk_cell HI.out.box 4).trans rfl
      have hb5 : wr.cell? ⟨w.heap.size + 1, 5, none⟩ = some (.slice none 0 0) := (blk_cell HI.out.box 5).trans rfl
      have hb6 : wr.cell? ⟨w.heap.size + 1, 6, none⟩ = some (.slice none 0 0) := (blk_cell HI.out.box 6).trans rfl
      have oc0 : wr.cell? ⟨w.heap.size, 0, none⟩ = some (.int .i64 0) := (blk_cell HI.out.out 0).trans rfl
      have oc1 : wr.cell? ⟨w.heap.size, 1, none⟩ = some (.bool false) := (blk_cell HI.out.out 1).trans rfl
      have oc2 : wr.cell? ⟨w.heap.size, 2, none⟩ = some (.int .i64 0) := (blk_cell HI.out.out 2).trans rfl
      have oc3 : wr.cell? ⟨w.heap.size, 3, none⟩ = some (.float .f64 0) := (blk_cell HI.out.out 3).trans rfl
      have oc4 : wr.cell? ⟨w.heap.size, 4, none⟩ = some (.string ⟨#[]⟩) := (blk_cell HI.out.out 4).trans rfl
      have oc5 : wr.cell? ⟨w.heap.size, 5, none⟩ = some (.slice none 0 0) := (blk_cell HI.out.out 5).trans rfl
      have oc6 : wr.cell? ⟨w.heap.size, 6, none⟩ = some (.slice none 0 0) := (blk_cell HI.out.out 6).trans rfl
      have off := blk_frozen HI.out.out
      have off0 := off 0
      have off1 := off 1
      have off2 := off 2
      have off3 := off 3
      have off4 := off 4
      have off5 := off 5
      have off6 := off 6
      clear off
      go_wp2_with fail
      refine bodyPost_ret (results_cell_row rfl _ _ w.heap.size 26 _ (0, 0) _ rfl (put7 HI.out.out _ _ _ _ _ _ _) rfl rfl rfl) rfl ?_
      exact val_list_end HI.out HX.out (grown7 _ _ _ _ _ _ _) (by simp)
  · have HH := Aside0.mk hh
    have HQ := Aside0.mk hq
    clear hh hq hg
    have HLV := Aside0.mk hl
    have HOW := Aside0.mk hown
    rw [hl]
    clear hl hown
    go_enter Try.func46, Try.ntmps46
    go_wp2
    go_loopw [47] (fun i wr => ∃ (j : Nat) (v6 : Value), j ≤ x.f6.length ∧ i = .int .i64 j ∧ Aside0 (VL n w x j v6 wr)) (fun i _ => x.f6.length - (intOf i).toNat)
    case atStart => exact ⟨0, _, Nat.zero_le _, rfl, ⟨vl_start⟩⟩
    case round =>
      obtain ⟨j, v6, hj, rfl, HI⟩ := hrel
      by_cases hlt : j < x.f6.length
      · have HLT2 := Aside0.mk hlt
        have hb9 : wr.cell? ⟨w.heap.size + 1, 6, none⟩ = some v6 := (blk_cell HI.out.box 6).trans rfl
        have hj2 : j < vs.length := by rw [HLV.out]; exact hlt
        have el : wr.cell? ⟨g, j, none⟩ = some vs[j] := row_el HH.out HQ.out.2.2.2 HI.out.below hj2
        obtain ⟨fpj, hfj, hrj⟩ := HALL.out.get j hj2 hlt
        have fl : ∀ k ∈ fpj, k < w.heap.size := fun k hk => HLT.out k (List.mem_append.2 (.inr (List.mem_flatten.2 ⟨fpj, hfj, hk⟩)))
        have HC := Aside0.mk (IH.out x.f6[j] vs[j] fpj wr.drew (Rep.move n hrj fun k hk => HI.out.below.block k (fl k hk)) (HR.out _ (List.getElem_mem hlt)) (HSM.out _ (List.getElem_mem hlt)) (by have := sum_le n x.f6 j hlt; have := HC.out; unfold cnt at this; omega) (fun k hk => by have := fl k hk; have := HI.out.size; show k < wr.heap.size; omega))
        clear hrj fl
        go_wp2_with fail
        have HD := Aside0.mk HI.out.drew
        have hd9 : wr.drew.cell? ⟨w.heap.size + 1, 6, none⟩ = some v6 := (blk_cell HD.out.box 6).trans rfl
        have HV6 := Aside0.mk (fun k (hk : v6.ownBlock = some k) => row_lt HI.out.row k hk)
        have lw : j + 1 ≤ x.f6.length := hlt
        go_region_law (first
          | (go_simp; go_at_call 46; refine HC.out.mono ?_; rintro e W2 ⟨v5, v7, rfl, hm, hb⟩; have HM := Aside0.mk hm; have HBW := Aside0.mk (show Below wr.heap.size wr W2 from ⟨hb.os, hb.tape, hb.output, hb.size, hb.block⟩); have HE := Aside0.mk (HD.out.far hb); have h29 : W2.cell? ⟨w.heap.size + 1, 6, none⟩ = some v6 := (blk_cell HE.out.box 6).trans rfl; have lt2 : w.heap.size + 1 < W2.heap.size := Nat.lt_of_lt_of_le (Nat.lt_succ_self _) HE.out.size; clear hm; try go_simp)
          | (refine app_step HLT2.out LL HI.out.size HBW.out.size HE.out HV6.out HM.out rfl rfl rfl rfl ?_; intro v1 W4 hR hg4; have HN := Aside0.mk (HI.out.next HLT2.out HBW.out hR hg4); have hb4 := (hg4.block (w.heap.size + 1) (by have := HE.out.size; omega) (fun e => by have := HE.out.row.1 _ e.symm; omega)).trans HE.out.box; have hc4 : W4.cell? ⟨w.heap.size + 1, 6, none⟩ = some v6 := (blk_cell hb4 6).trans rfl; have hf4 := blk_frozen hb4 6; obtain ⟨A1, c1, rfl⟩ := R_form hR; clear hR hb4))
        all_goals
          go_wp2_with fail
          go_roundw
          case rel =>
            have h := HN.out
            rw [vl_len HLT2.out] at h
            exact ⟨j + 1, _, HLT2.out, rfl, ⟨h⟩⟩
          case measure => exact meas27 HLT2.out
      · have e : j = x.f6.length := Nat.le_antisymm hj (Nat.not_lt.1 hlt)
        subst e
        obtain ⟨A6, c6, rfl⟩ := R_form HI.out.row
        have hb0 : wr.cell? ⟨w.heap.size + 1, 0, none⟩ = some (.int .i64 6) := (blk_cell HI.out.box 0).trans rfl
        have hb1 : wr.cell? ⟨w.heap.size + 1, 1, none⟩ = some (.bool false) := (blk_cell HI.out.box 1).trans rfl
        have hb2 : wr.cell? ⟨w.heap.size + 1, 2, none⟩ = some (.int .i64 0) := (blk_cell HI.out.box 2).trans rfl
        have hb3 : wr.cell? ⟨w.heap.size + 1, 3, none⟩ = some (.float .f64 0) := (blk_cell HI.out.box 3).trans rfl
        have hb4 : wr.cell? ⟨w.heap.size + 1, 4, none⟩ = some (.string ⟨#[]⟩) := (blk_cell HI.out.box 4).trans rfl
        have hb5 : wr.cell? ⟨w.heap.size + 1, 5, none⟩ = some (.slice none 0 0) := (blk_cell HI.out.box 5).trans rfl
        have hb6 : wr.cell? ⟨w.heap.size + 1, 6, none⟩ = some (.slice A6 ((x.f6.take x.f6.length).map (canon n)).length c6) := (blk_cell HI.out.box 6).trans rfl
        have oc0 : wr.cell? ⟨w.heap.size, 0, none⟩ = some (.int .i64 0) := (blk_cell HI.out.out 0).trans rfl
        have oc1 : wr.cell? ⟨w.heap.size, 1, none⟩ = some (.bool false) := (blk_cell HI.out.out 1).trans rfl
        have oc2 : wr.cell? ⟨w.heap.size, 2, none⟩ = some (.int .i64 0) := (blk_cell HI.out.out 2).trans rfl
        have oc3 : wr.cell? ⟨w.heap.size, 3, none⟩ = some (.float .f64 0) := (blk_cell HI.out.out 3).trans rfl
        have oc4 : wr.cell? ⟨w.heap.size, 4, none⟩ = some (.string ⟨#[]⟩) := (blk_cell HI.out.out 4).trans rfl
        have oc5 : wr.cell? ⟨w.heap.size, 5, none⟩ = some (.slice none 0 0) := (blk_cell HI.out.out 5).trans rfl
        have oc6 : wr.cell? ⟨w.heap.size, 6, none⟩ = some (.slice none 0 0) := (blk_cell HI.out.out 6).trans rfl
        have off := blk_frozen HI.out.out
        have off0 := off 0
        have off1 := off 1
        have off2 := off 2
        have off3 := off 3
        have off4 := off 4
        have off5 := off 5
        have off6 := off 6
        clear off
        go_wp2_with fail
        refine bodyPost_ret (results_cell_row rfl _ _ w.heap.size 26 _ (0, 0) _ rfl (put7 HI.out.out _ _ _ _ _ _ _) rfl rfl rfl) rfl ?_
        exact val_list_end HI.out HX.out (grown7 _ _ _ _ _ _ _) (by simp)

end Go.Proofs.Ytjfbjkodjjlkiaa.HVal
/-! The keys of a map, collected and sorted, are those of the table. -/
namespace Go.Proofs.Ytjfbjkodjjlkiaa.HVal
open Go.RowKit Go.WideMaps Go.Maps Go.Sort Go.Proofs.YtjfbjkodjjlkiaaW.PrintWords Go.Proofs.YtjfbjkodjjlkiaaW.PrintLast Go.Proofs.YtjfbjkodjjlkiaaW.PrintMore Go.Proofs.Ytjfbjkodjjlkiaa.Plain Go.Proofs.Ytjfbjkodjjlkiaa.GTab

theorem look_isSome : ∀ (ks : List ByteArray) (vs : List Value), ks.length = vs.length → ∀ s, (look (ks.zip vs) s).isSome = true ↔ s ∈ ks
  | [], _, _, s => by simp [look]
  | k :: ks, [], h, s => by simp at h
  | k :: ks, v :: vs, h, s => by
    simp only [List.zip_cons_cons, look]
    by_cases e : k = s
    · simp [e]
    · rw [if_neg e, look_isSome ks vs (by simpa using h) s]
      simp [Ne.symm e]
theorem look_at : ∀ (ks : List ByteArray) (vs : List Value), ks.Nodup → ∀ (j : Nat) (h1 : j < ks.length) (h2 : j < vs.length), look (ks.zip vs) ks[j] = some vs[j]
  | [], _, _, j, h1, _ => by simp at h1
  | k :: ks, [], _, j, _, h2 => by simp at h2
  | k :: ks, v :: vs, hn, 0, _, _ => by simp [look]
  | k :: ks, v :: vs, hn, j + 1, h1, h2 => by
    rw [List.nodup_cons] at hn
    have hm : ks[j]'(by simpa using h1) ∈ ks := List.getElem_mem _
    have hne : k ≠ ks[j]'(by simpa using h1) := fun e => hn.1 (e ▸ hm)
    simp only [List.zip_cons_cons, look, List.getElem_cons_succ]
    rw [if_neg hne]
    exact look_at ks vs hn.2 j _ _
abbrev kl (s : ByteArray) : List UInt8 := s.data.toList
theorem kl_inj {a b : ByteArray} (h : kl a = kl b) : a = b := ByteArray.ext (Array.toList_inj.1 h)
theorem rising_lt {l : List ByteArray} (h : Rising l) : (l.map kl).Pairwise (fun a b => a < b) := by
  unfold Rising at h
  rw [List.pairwise_map]
  refine h.imp fun {a b} hab => ?_
  rw [bytesLess_eq, decide_eq_true_iff, ByteArray.toList_eq, ByteArray.toList_eq] at hab
  exact hab
theorem rising_nodup {l : List ByteArray} (h : Rising l) : l.Nodup := by
  have h1 := rising_lt h
  have h2 : (l.map kl).Nodup := h1.imp fun {a b} hab e => by subst e; exact List.lt_irrefl _ hab
  exact (List.pairwise_map.1 h2).imp fun h e => h (congrArg kl e)
theorem sorted_keys {D : DataW Value} {left : Lit → Bool} {ss : List (List UInt8)} {ks : List ByteArray} {vs : List Value} (hc : Collected D left ss) (hl : ∀ z, left z = false) (hr : Rising ks) (hlen : ks.length = vs.length) (hD : ∀ s, Maps.has D (keyS s) = (look (ks.zip vs) s).isSome) : ss.mergeSort leB = ks.map kl := by
  have hm : ∀ u, u ∈ ss ↔ u ∈ ks.map kl := by
    intro u
    have hs : keyS ⟨u.toArray⟩ = .string u := by simp [keyS]
    rw [hc.2 u, hl]
    have h1 := hD ⟨u.toArray⟩
    rw [hs] at h1
    rw [h1, look_isSome ks vs hlen]
    simp only [List.mem_map, and_true]
    constructor
    · intro h
      exact ⟨_, h, by simp⟩
    · rintro ⟨s, hs2, rfl⟩
      exact hs2
  have hlt := rising_lt hr
  have hnd : (ks.map kl).Nodup := hlt.imp fun {a b} hab e => by subst e; exact List.lt_irrefl _ hab
  have hp : ss.Perm (ks.map kl) := (List.perm_ext_iff_of_nodup hc.1 hnd).2 hm
  rw [mergeSort_of_perm hp]
  exact List.mergeSort_of_pairwise (hlt.imp fun {a b} hab => by simp only [leB, decide_eq_true_eq]; exact List.le_of_lt hab)
theorem enc_keys (ks : List ByteArray) : (ks.map kl).map encStr = ks.map Value.string := by
  rw [List.map_map]
  rfl

abbrev zcs : Array Value := #[.int .i64 0, .bool false, .int .i64 0, .float .f64 0, .string ⟨#[]⟩, .slice none 0 0, .slice none 0 0]
abbrev mcs (v5 v6 : Value) : Array Value := #[.int .i64 7, .bool false, .int .i64 0, .float .f64 0, .string ⟨#[]⟩, v5, v6]
/-- The values that have been made so far. -/
structure MI (n : Nat) (w : World) (x : S26) (j : Nat) (v5 v6 : Value) (wr : World) : Prop where
  out : wr.heap[w.heap.size]? = some (.cells zcs 26 (0, 0))
  box : wr.heap[w.heap.size + 1]? = some (.cells (mcs v5 v6) 26 (0, 0))
  keys : wr.ownsRow (w.heap.size + 1 + 1) 9 1 v5 x.f5.length (x.f5.map Value.string)
  row : k26.R 26 wr w.heap.size (fun k => w.heap.size + 1 < k ∧ some k ≠ v5.ownBlock) v6 ((x.f6.take j).map (canon n))
  below : Below w.heap.size w wr
  size : w.heap.size + 1 + 1 ≤ wr.heap.size
theorem MI.far {n : Nat} {w : World} {x : S26} {j : Nat} {v5 v6 : Value} {wr : World} (h : MI n w x j v5 v6 wr) {W2 : World} (hb : Below wr.heap.size wr W2) : MI n w x j v5 v6 W2 :=
  ⟨blk_below h.out hb, blk_below h.box hb, own_at h.keys (fun k hk => hb.block k (h.keys.lt k (by simpa using hk)).2), Kd.R_below h.row hb, below_step h.below hb, Nat.le_trans h.size hb.size⟩
theorem MI.drew {n : Nat} {w : World} {x : S26} {j : Nat} {v5 v6 : Value} {wr : World} (h : MI n w x j v5 v6 wr) : MI n w x j v5 v6 wr.drew := h.far (below_drew (Below.refl _ _))
theorem MI.next {n : Nat} {w : World} {x : S26} {j : Nat} {v5 v6 : Value} {wr : World} (h : MI n w x j v5 v6 wr) (hj : j < x.f6.length) {W2 : World} (hb : Below wr.heap.size wr W2) {v1 : Value} {W4 : World} (hR : k26.R 26 W4 w.heap.size (fun k => w.heap.size + 1 < k ∧ some k ≠ v5.ownBlock) v1 ((x.f6.take j).map (canon n) ++ [canon n x.f6[j]])) (hg : W2.grownBy W4 v6.ownBlock) :
    MI n w x (j + 1) v5 v1 (W4.setCell ⟨w.heap.size + 1, 6, none⟩ v1) := by
  have h2 := h.far hb
  have s2 := h2.size
  have s4 := hg.size
  have far : ∀ k, k ≤ w.heap.size + 1 → W4.heap[k]? = W2.heap[k]? := fun k hk => hg.block k (by omega) fun e => by have := (h2.row.1 k e.symm).1; omega
  have hs : ∀ k, k ≠ w.heap.size + 1 → (W4.setCell ⟨w.heap.size + 1, 6, none⟩ v1).heap[k]? = W4.heap[k]? := fun k hk => Below.heap_setCell W4 ⟨w.heap.size + 1, 6, none⟩ v1 k (by simpa using hk)
  have hz : (W4.setCell ⟨w.heap.size + 1, 6, none⟩ v1).heap.size = W4.heap.size := by simp [World.setCell]
  refine ⟨(hs _ (by omega)).trans ((far _ (by omega)).trans h2.out), blk_put ((far _ (Nat.le_refl _)).trans h2.box) 6 v1 rfl, ?_, ?_, ⟨hg.os.trans h2.below.os, hg.tape.trans h2.below.tape, hg.output.trans h2.below.output, by rw [hz]; have := h2.below.size; omega, fun k hk => (hs k (by omega)).trans ((far k (by omega)).trans (h2.below.block k hk))⟩, by rw [hz]; omega⟩
  · refine own_at h2.keys fun k hk => ?_
    have hk2 : v5.ownBlock = some k := by simpa using hk
    have hl := h2.keys.lt k hk2
    exact (hs k (by omega)).trans (hg.block k hl.2 fun e => (h2.row.1 k e.symm).2 hk2.symm)
  · rw [List.take_succ_eq_append_getElem hj, List.map_append]
    exact Kd.R_move hR fun k hk => hs k (by omega)
theorem MI.ends {n : Nat} {w wr W : World} {x : S26} {v5 v6 : Value} (h : MI n w x x.f6.length v5 v6 wr) (hx : x.f0 = 7) (hg : wr.grownBy W (some w.heap.size)) {e : Ending} (he : e = .returned (.agg #[.int .i64 7, .bool false, .int .i64 0, .float .f64 0, .string ⟨#[]⟩, v5, v6])) : ValPost (n + 1) w x e W := by
  have hc : canon (n + 1) x = { z26 with f0 := 7, f5 := x.f5, f6 := x.f6.map (canon n) } := by unfold canon; rw [hx]; rfl
  have hr := h.row
  rw [List.take_length] at hr
  refine ⟨v5, v6, by rw [he, hc]; rfl, ?_, below_grown h.below hg (Nat.le_refl _)⟩
  rw [hc]
  have g6 : k26.R 26 W w.heap.size (fun _ => True) v6 (x.f6.map (canon n)) := Kd.R_mono (Kd.R_move (Kd.R_bound hr) fun k hk => hg.block k hk.2.2.1 (by have := hk.1.1; simp; omega)) fun _ _ => trivial
  have o5 : W.ownsRow w.heap.size 9 1 v5 x.f5.length (x.f5.map Value.string) := by
    refine own_weaken (own_at h.keys fun k hk => ?_) (by omega)
    have hl := h.keys.lt k (by simpa using hk)
    exact hg.block k hl.2 (by simp; omega)
  have g5 : Kd.string.R 9 W w.heap.size (fun _ => True) v5 x.f5 := ⟨fun _ _ => trivial, x.f5.map Value.string, o5, Kd.reps_scalar x.f5⟩
  exact k26_mkM W w.heap.size (fun _ => True) { z26 with f0 := 7, f5 := x.f5, f6 := x.f6.map (canon n) } g5 g6
/-- The append of a round, as a step of its region. -/
theorem app_map {n : Nat} {w : World} {x : S26} {j : Nat} {v6 : Value} {wr W2 : World} {v5 u5 u7 : Value} (hj : j < x.f6.length) (LL : x.f6.length ≤ 2000) (hwr : w.heap.size + 1 + 1 ≤ wr.heap.size) (hle : wr.heap.size ≤ W2.heap.size) (HE : MI n w x j v5 v6 W2) (hv6 : ∀ k, v6.ownBlock = some k → k < wr.heap.size) (hv5 : ∀ k, v5.ownBlock = some k → k < wr.heap.size)
    (HM : k26.M W2 wr.heap.size (fun _ => True) (canon n x.f6[j]) [.int .i64 (canon n x.f6[j]).f0, .bool (canon n x.f6[j]).f1, .int .i64 (canon n x.f6[j]).f2, .float .f64 (canon n x.f6[j]).f3, .string (canon n x.f6[j]).f4, u5, u7])
    {ops : Array Oper} {o : Oper} {a : Act} {K : Act → World → Prop} {Q : Exit → Act → World → Prop} {E : Prop} (hgd : o.guard = none) (ho : o.op = .call { callee := .builtin .append, args := #[.tmp 96, .tmp 101], argTypes := #[24, 24] }) (hs : a.eval (.tmp 96) = v6) (hx : a.eval (.tmp 101) = .slice (some ⟨W2.heap.size, 0, none⟩) 1 1)
    (h : ∀ v1 W4, k26.R 26 W4 w.heap.size (fun k => w.heap.size + 1 < k ∧ some k ≠ v5.ownBlock) v1 ((x.f6.take j).map (canon n) ++ [canon n x.f6[j]]) → W2.grownBy W4 v6.ownBlock → K (a.put o.dst v1) W4) :
    if Region.wanted o (yielded ops a.tmps) = true then Oper.wp Try.prog o a (W2.alloc (.cells #[.int .i64 (canon n x.f6[j]).f0, .bool (canon n x.f6[j]).f1, .int .i64 (canon n x.f6[j]).f2, .float .f64 (canon n x.f6[j]).f3, .string (canon n x.f6[j]).f4, u5, u7] 26)) K Q else E := by
  have hw : Region.wanted o (yielded ops a.tmps) = true := by simp [Region.wanted, hgd]
  have hl : ((x.f6.take j).map (canon n)).length = j := by rw [List.length_map, List.length_take]; omega
  have far5 : ∀ k, wr.heap.size ≤ k → some k ≠ v5.ownBlock := fun k hk e => by have := hv5 k e.symm; omega
  have key := Kd.R_append_step (P := Try.prog) (ops := ops) (Q := Q) (Kc := K) k26 (w0 := w) (W := W2) w.heap.size hw (.tmp 96) (.tmp 101) 24 26 _ 96 ho Try.underlying24 info26 rfl (by decide) (by decide) v6 ((x.f6.take j).map (canon n)) (canon n x.f6[j]) _ (fun k => w.heap.size + 1 < k ∧ some k ≠ v5.ownBlock) (fun k => wr.heap.size ≤ k) hs hx
    (k26.M_lower (by omega) (k26.M_mono (fun k hk => hk.2.1) (k26.M_bound HM))) (fun k hk => ⟨⟨by omega, far5 k hk⟩, fun e => by have := hv6 k e.symm; omega⟩) (fun k hk => ⟨by omega, far5 k (by omega)⟩) HE.row HE.below (by omega) (by rw [hl]; omega) (fun v1 w1 hR _ hg _ => h v1 w1 hR hg)
  rw [if_pos hw] at key ⊢
  exact key
end Go.Proofs.Ytjfbjkodjjlkiaa.HVal
/-! What impl.valueOf comes to for a map. -/
namespace Go.Proofs.Ytjfbjkodjjlkiaa.HVal
open Go.RowKit Go.WideMaps Go.Maps Go.Sort Go.Proofs.YtjfbjkodjjlkiaaW.PrintWords Go.Proofs.YtjfbjkodjjlkiaaW.PrintLast Go.Proofs.YtjfbjkodjjlkiaaW.PrintMore Go.Proofs.Ytjfbjkodjjlkiaa.Plain Go.Proofs.Ytjfbjkodjjlkiaa.GTab
attribute [local go_sem] run_store_flt

/-- The keys that have been collected. -/
structure KI (w : World) (ss : List (List UInt8)) (v5 : Value) (wr : World) : Prop where
  out : wr.heap[w.heap.size]? = some (.cells zcs 26 (0, 0))
  box : wr.heap[w.heap.size + 1]? = some (.cells (mcs v5 (.slice none 0 0)) 26 (0, 0))
  row : wr.ownsRow (w.heap.size + 1 + 1) 9 1 v5 ss.length (ss.map encStr)
  below : Below w.heap.size w wr
  size : w.heap.size + 1 + 1 ≤ wr.heap.size
theorem KI.start {w : World} : KI w [] (.slice none 0 0) ((w.alloc (.cells zcs 26)).alloc (.cells (mcs (.slice none 0 0) (.slice none 0 0)) 26)) := by
  refine ⟨blk_alloc (blk_new w _) _, ?_, ⟨rfl, .inl ⟨rfl, rfl⟩⟩, below_alloc (below_alloc (Below.refl _ _) _) _, by simp⟩
  have := blk_new (w.alloc (.cells zcs 26)) (.cells (mcs (.slice none 0 0) (.slice none 0 0)) 26)
  rwa [World.size_alloc] at this
/-- A block from there on, or nothing, has turned that is not the row. -/
theorem KI.kept {w wr W : World} {ss : List (List UInt8)} {v5 : Value} {row : Option Nat} (h : KI w ss v5 wr) (hg : wr.grownBy W row) (hr : ∀ k, row = some k → w.heap.size + 1 + 1 ≤ k) (hne : row ≠ v5.ownBlock ∨ row = none) : KI w ss v5 W := by
  have hs := h.size
  have ne : ∀ k, k < w.heap.size + 1 + 1 → some k ≠ row := fun k hk e => by have := hr k e.symm; omega
  refine ⟨(hg.block _ (by omega) (ne _ (by omega))).trans h.out, (hg.block _ (by omega) (ne _ (by omega))).trans h.box, h.row.kept hg ?_, ⟨hg.os.trans h.below.os, hg.tape.trans h.below.tape, hg.output.trans h.below.output, Nat.le_trans h.below.size hg.size, fun k hk => (hg.block k (by omega) (ne k (by omega))).trans (h.below.block k hk)⟩, Nat.le_trans hs hg.size⟩
  rcases hne with h1 | h1
  · exact .inr (Ne.symm h1)
  · cases hv : v5.ownBlock with
    | none => exact .inl rfl
    | some k => exact .inr (by rw [h1]; simp)
theorem KI.next {w wr W4 : World} {ss : List (List UInt8)} {x : List UInt8} {v5 v' : Value} (h : KI w ss v5 wr) (hg : (wr.alloc (.cells #[encStr x] 9)).grownBy W4 v5.ownBlock) (hown : W4.ownsRow (w.heap.size + 1 + 1) 9 1 v' (ss.length + 1) (ss.map encStr ++ [encStr x])) :
    KI w (ss ++ [x]) v' (W4.setCell ⟨w.heap.size + 1, 5, none⟩ v') := by
  have hs := h.size
  have hg1 := hg.size
  rw [World.size_alloc] at hg1
  have g0 : ∀ k, k < w.heap.size + 1 + 1 → W4.heap[k]? = wr.heap[k]? := fun k hk => (hg.block k (by rw [World.size_alloc]; omega) (fun e => by have := (h.row.lt k e.symm).1; omega)).trans (Below.heap_alloc wr _ k (by omega))
  have hset : ∀ k, k ≠ w.heap.size + 1 → (W4.setCell ⟨w.heap.size + 1, 5, none⟩ v').heap[k]? = W4.heap[k]? := fun k hk => Below.heap_setCell W4 ⟨w.heap.size + 1, 5, none⟩ v' k hk
  have hz : (W4.setCell ⟨w.heap.size + 1, 5, none⟩ v').heap.size = W4.heap.size := by simp [World.setCell]
  refine ⟨(hset _ (by omega)).trans ((g0 _ (by omega)).trans h.out), blk_put ((g0 _ (by omega)).trans h.box) 5 v' rfl, ?_, ⟨hg.os.trans h.below.os, hg.tape.trans h.below.tape, hg.output.trans h.below.output, by rw [hz]; have := h.below.size; omega, fun k hk => (hset k (by omega)).trans ((g0 k (by omega)).trans (h.below.block k hk))⟩, by rw [hz]; omega⟩
  rw [List.length_append, List.length_singleton, List.map_append, List.map_singleton]
  refine own_at hown fun k hk => hset k ?_
  have := (hown.lt k (by simpa using hk)).1
  omega
theorem own_slice {w : World} {base n : Nat} {e : TypeId} {size : Nat} {v : Value} {xs : List Value} (h : w.ownsRow base e size v n xs) : ∃ A c, v = .slice A n c := by
  rcases h.2 with ⟨rfl, h0⟩ | ⟨g, cap, cur, rfl, _⟩
  · exact ⟨none, 0, by rw [h0]⟩
  · exact ⟨_, _, rfl⟩
theorem KI.box_at {w wr W4 : World} {ss : List (List UInt8)} {o : Obj} {v5 : Value} (h : KI w ss v5 wr) (hg : (wr.alloc o).grownBy W4 v5.ownBlock) : W4.heap[w.heap.size + 1]? = some (.cells (mcs v5 (.slice none 0 0)) 26 (0, 0)) := by
  have hs := h.size
  exact (hg.block _ (by rw [World.size_alloc]; omega) (fun e => by have := (h.row.lt _ e.symm).1; omega)).trans ((Below.heap_alloc wr _ _ (by omega)).trans h.box)
theorem KI.low {w wr : World} {ss : List (List UInt8)} {v5 : Value} (h : KI w ss v5 wr) {k : Nat} (hk : k < w.heap.size + 1 + 1) : some k ≠ v5.ownBlock := fun e => by
  have := (h.row.lt k e.symm).1
  omega
theorem rg_next {w2 W4 : World} {b r n cnt q i : Nat} {D : DataW Value} {left : Lit → Bool} {o : Obj} {row : Option Nat} {v : Value} (h : w2.ranges Try.prog 9 hR b r n D left cnt) (hg : (w2.alloc o).grownBy W4 row) (hb : some b ≠ row) (hr : some r ≠ row) (hqb : b ≠ q) (hqr : r ≠ q) : (W4.setCell ⟨q, i, none⟩ v).ranges Try.prog 9 hR b r n D left cnt :=
  ((h.alloc o).kept hg hb hr).kept (grown_puti (grown_refl W4 (some q)) i v) (by simpa using hqb) (by simpa using hqr)
theorem ki_len {ss : List (List UInt8)} {cnt cnt2 z : Nat} (h : ss.length + cnt ≤ z) (_h2 : cnt2 < cnt) (hz : z ≤ 2000) : ss.length + 1 ≤ maxLen ∧ (ss.length + 1) * 16 ≤ 140737488355328 := by
  unfold maxLen
  omega
theorem ki_cnt {ss : List (List UInt8)} {x : List UInt8} {cnt cnt2 z : Nat} (h : ss.length + cnt ≤ z) (h2 : cnt2 < cnt) : (ss ++ [x]).length + cnt2 ≤ z := by
  simp
  omega
theorem info9s : (Try.prog.info? 9).map (fun i => (i.zero, i.size, i.bytes)) = some (some (.string ⟨#[]⟩), 1, 16) := by kernel_rfl
theorem map_ne (b : Nat) (w : World) : (binOp .eql 58 (.map (some b)) (.map none)).run Try.prog w = .ok (.bool false) w := by kernel_rfl
theorem MI.start {n : Nat} {w wr W : World} {x : S26} {ss : List (List UInt8)} {v5 : Value} (h : KI w ss v5 wr) (hg : wr.grownBy W v5.ownBlock) (hk : W.ownsRow (w.heap.size + 1 + 1) 9 1 v5 x.f5.length (x.f5.map Value.string)) : MI n w x 0 v5 (.slice none 0 0) W := by
  have hs := h.size
  have old : ∀ k, k < w.heap.size + 1 + 1 → W.heap[k]? = wr.heap[k]? := fun k hk2 => hg.block k (by omega) (h.low hk2)
  exact ⟨(old _ (by omega)).trans h.out, (old _ (by omega)).trans h.box, hk, Kd.R_nil _ _ _ _ _, ⟨hg.os.trans h.below.os, hg.tape.trans h.below.tape, hg.output.trans h.below.output, Nat.le_trans h.below.size hg.size, fun k hk2 => (old k (by omega)).trans (h.below.block k hk2)⟩, Nat.le_trans hs hg.size⟩
theorem sort_calls {n : Nat} {w wr : World} {x : S26} {ss : List (List UInt8)} {A5 : Option Addr} {c5 : Nat} (h : KI w ss (.slice A5 x.f5.length c5) wr) (hls : ss.length = x.f5.length) (hsk : ss.mergeSort leB = x.f5.map kl) (hk : x.f5.length ≤ 2000) :
    Calls Try.prog 73 #[.slice A5 x.f5.length c5] wr fun e W => e = .returned (.tuple #[]) ∧ MI n w x 0 (.slice A5 x.f5.length c5) (.slice none 0 0) W := by
  have hrow := h.row
  rw [hls] at hrow
  rcases hrow.2 with ⟨hnil, h0⟩ | ⟨g, cap, cur, hv5, hbase, hb, h1, h2, h3, h4⟩
  · injection hnil with e1 e2 e3
    subst e1 e3
    have e0 : x.f5 = [] := List.length_eq_zero_iff.1 e2
    rw [e0] at h ⊢
    refine (Try.slices_Sort_string_none none 0 wr).mono ?_
    rintro e W ⟨rfl, rfl⟩
    exact ⟨rfl, MI.start h (grown_refl _ _) (by rw [e0]; exact ⟨rfl, .inl ⟨rfl, rfl⟩⟩)⟩
  · injection hv5 with e1 e2 e3
    subst e1 e3
    have hH : Holds encStr wr g 0 ss.toArray := holds_of_block hb (by rw [hls]; simpa using h4)
    have hgl : g < wr.heap.size := blk_lt hb
    rw [← hls]
    refine (Try.slices_Sort_string g 0 c5 ss wr hH hgl (by omega)).mono ?_
    rintro e W ⟨rfl, nn, os, rfl⟩
    refine ⟨rfl, ?_⟩
    rw [hls]
    refine MI.start h (grownBy_sorted _) ?_
    have hq := ownsRow_sorted (n := nn) (os := os) (ss := ss) (ts := ss.mergeSort leB) (by simp) hbase hb (by omega) h2 h3
    rw [hls, hsk, enc_keys, ← hsk] at hq
    exact hq
theorem cnt_el {n : Nat} {x : S26} {j : Nat} (h : cnt (n + 1) x ≤ 2000) (hj : j < x.f6.length) : cnt n x.f6[j] ≤ 2000 := by
  have := sum_le n x.f6 j hj
  unfold cnt at h
  omega
theorem MI.box_far {n : Nat} {w : World} {x : S26} {j : Nat} {v5 v6 : Value} {W2 W4 : World} (h : MI n w x j v5 v6 W2) (hg : W2.grownBy W4 v6.ownBlock) : W4.heap[w.heap.size + 1]? = some (.cells (mcs v5 v6) 26 (0, 0)) := by
  have hs := h.size
  exact (hg.block _ (by omega) (fun e => by have := (h.row.1 _ e.symm).1; omega)).trans h.box
theorem zero20m (w : World) : (zeroValue 20).run Try.prog w = .ok .nilIface w := by kernel_rfl
theorem look_map {w wr : World} {b N : Nat} {D : DataW Value} {ks : List ByteArray} {vs : List Value} (hown : w.ownsMap Try.prog 9 hR b N D) (hb : Below w.heap.size w wr) (hlook : ∀ s v, look (ks.zip vs) s = some v → ∀ z, D.atKey (keyS s) z = .held v) (hn : ks.Nodup) (hks : ∀ s ∈ ks, s.size ≤ maxLen) {j : Nat} (h1 : j < ks.length) (h2 : j < vs.length) :
    (Instr.lookup 58 (.map (some b)) (.string ks[j]) false).run Try.prog wr = .ok vs[j] wr := by
  have ho : wr.ownsMap Try.prog 9 hR b N D := hown.kept (grown_of_below hb none) (by simp)
  obtain ⟨v, ps, hrun, hv⟩ := ho.lookup law9 Try.underlying58 (zero20m wr) (zd := .held .nilIface) (zp := []) rfl (keyS_ok (hks _ (List.getElem_mem h1)))
  rw [hlook _ _ (look_at ks vs hn j h1 h2)] at hv
  rw [hrun, hR_inv hv]
theorem key_of {n : Nat} {w : World} {x : S26} {j : Nat} {A5 : Option Addr} {c5 : Nat} {v6 : Value} {wr : World} (h : MI n w x j (.slice A5 x.f5.length c5) v6 wr) {i : Nat} (hi : i < x.f5.length) : ∃ ad, A5 = some ad ∧ wr.cell? (ad.add i) = some (.string x.f5[i]) := by
  have g5 : Kd.string.R 9 wr (w.heap.size + 1 + 1) (fun _ => True) (.slice A5 x.f5.length c5) x.f5 := ⟨fun _ _ => trivial, x.f5.map Value.string, h.keys, Kd.reps_scalar x.f5⟩
  obtain ⟨ad, e, hx⟩ := Kd.at_string (Kd.R_reads' g5).2.2 (i : Int) (Int.natCast_nonneg i) (Int.ofNat_lt.2 hi)
  rw [rdOf_nat _ _ _ hi, Int.toNat_natCast] at hx
  exact ⟨ad, e, hx⟩
set_option maxRecDepth 100000 in
set_option maxHeartbeats 8000000 in
theorem val_map (n : Nat) (ih : ValC n) (x : S26) (b : Nat) (vs : List Value) (fps : List (List Nat)) (w : World) (hx : x.f0 = 7) (hl : x.f5.length = x.f6.length) (hm : MapAt w b (x.f5.zip vs)) (hall : All3 (Rep n w) vs x.f6 fps) (hrs : Rising x.f5) (hr : ∀ y ∈ x.f6, Rt n y) (hks : ∀ s ∈ x.f5, s.size ≤ maxLen) (hsm : ∀ y ∈ x.f6, Sm n y) (hc : cnt (n + 1) x ≤ 2000) (hlt : ∀ k ∈ b :: fps.flatten, k < w.heap.size) :
    Calls Try.prog 46 #[.iface 58 (.map (some b))] w (ValPost (n + 1) w x) := by
  have LL : x.f6.length ≤ 2000 := by have := len_le hr; unfold cnt at hc; omega
  have hvl := hall.len.1
  obtain ⟨D, hown, hism, hlook⟩ := hm
  have hN : (x.f5.zip vs).length = x.f5.length := by rw [List.length_zip]; omega
  rw [hN] at hown
  have LK := Aside0.mk (show x.f5.length ≤ 2000 by omega)
  have HOWN := Aside0.mk hown
  have HX := Aside0.mk hx
  have IH := Aside0.mk ih
  have HALL := Aside0.mk hall
  have HR := Aside0.mk hr
  have HSM := Aside0.mk hsm
  have HC := Aside0.mk hc
  have HLT := Aside0.mk hlt
  have HL := Aside0.mk hl
  have HVL := Aside0.mk hvl
  have HRS := Aside0.mk hrs
  have HKS := Aside0.mk hks
  have HLOOK := Aside0.mk hlook
  have HK0 := Aside0.mk (KI.start (w := w))
  have HO1 := Aside0.mk ((hown.alloc (.cells zcs 26)).alloc (.cells (mcs (.slice none 0 0) (.slice none 0 0)) 26))
  clear hx ih hall hr hsm hc hlt hl hvl hrs hks hlook hown hism hN LL
  have t0 := vs4_map
  have t1 := vs2_map
  have t2 := vs22_map
  have t3 := vs9_map
  have t4 := vs85_map
  have t5 := vs70_map
  have t6 := vs58_map
  have t7 := map_ne
  obtain ⟨i0, hi, hz0, hz1, hz2⟩ := info_parts info9s
  go_enter Try.func46, Try.ntmps46
  go_wp2_with (at_range; go_must (refine wpList_range_own _ rfl _ 58 rfl 9 20 law9 Try.underlying58 hR b x.f5.length D rfl HO1.out ?_; intro w0 hrg0 hg0 hs0))
  go_frame
  simp only [World.size_alloc] at hrg0 ⊢
  have HKI := Aside0.mk (HK0.out.kept hg0 (fun k h => by cases h) (.inr rfl))
  have HRG := Aside0.mk hrg0
  have HZ := Aside0.mk (Nat.le_trans HOWN.out.size_le LK.out)
  clear hrg0 hg0 hs0 HO1 HK0
  go_loopw [15] (fun _k wr => ∃ (left : Lit → Bool) (cnt : Nat) (ss : List (List UInt8)) (v5 : Value), Aside0 (wr.ranges Try.prog 9 hR b (w.heap.size + 1 + 1) x.f5.length D left cnt) ∧ Aside0 (ss.length + cnt ≤ Maps.size D) ∧ Aside0 (Collected D left ss) ∧ Aside0 (KI w ss v5 wr)) (fun _ wr => wr.rangeLeft b (w.heap.size + 1 + 1))
  case atStart => exact ⟨_, _, [], _, HRG, ⟨by simp⟩, ⟨Collected.start D⟩, HKI⟩
  case round =>
    obtain ⟨left, cnt, ss, v5, HG, HS, HCO, HI⟩ := hrel
    clear HRG HKI
    go_wp2_with (at_next; go_must (refine wpList_next_ranges _ rfl _ rfl 9 law9 hR encStr (fun v => v) (fun key kl hk => by obtain ⟨x', hx', _⟩ := Maps.keyOf_str Try.underlying9 hk; exact ⟨x', hx'⟩) (fun v y _ => ⟨v, rfl⟩) b (w.heap.size + 1 + 1) x.f5.length _ _ _ rfl HG.out ?_ ?_))
    · intro hc0 hl0
      have HLS0 := Aside0.mk (sorted_keys HCO.out hl0 HRS.out (HL.out.trans HVL.out.symm) (fun s => (HLOOK.out s).1))
      have HLS := Aside0.mk (show ss.length = x.f5.length by have h := congrArg List.length HLS0.out; simpa using h)
      obtain ⟨A5, c5, hv5⟩ := own_slice HI.out.row
      rw [HLS.out] at hv5
      subst hv5
      have hb9 := (blk_cell HI.out.box 5).trans rfl
      have HSC := Aside0.mk (sort_calls (n := n) HI.out HLS.out HLS0.out LK.out)
      clear hc0 hl0 HG HS HCO HZ
      go_wp2_with (go_at_call 73; go_must (refine HSC.out.mono ?_; rintro e W3 ⟨rfl, hmi⟩; have HM3 := Aside0.mk hmi; have e5 := (blk_cell hmi.box 5).trans rfl; clear hmi hb9))
      clear HI HSC HLS HLS0
      go_loopw [91] (fun i wr => ∃ (j : Nat) (v6 : Value), j ≤ x.f5.length ∧ i = .int .i64 j ∧ Aside0 (MI n w x j (.slice A5 x.f5.length c5) v6 wr)) (fun i _ => x.f5.length - (intOf i).toNat)
      case atStart => exact ⟨0, _, Nat.zero_le _, rfl, HM3⟩
      case round =>
        obtain ⟨j, v6, hj, rfl, HI⟩ := hrel
        clear HM3 e5
        by_cases hlt : j < x.f5.length
        · have HJ := Aside0.mk hlt
          have h6 : j < x.f6.length := HL.out ▸ hlt
          have hj2 : j < vs.length := by rw [HVL.out]; exact h6
          have HLT2 := Aside0.mk h6
          obtain ⟨ad, hA, el⟩ := key_of HI.out hlt
          subst hA
          have LL6 := Aside0.mk (show x.f6.length ≤ 2000 from HL.out ▸ LK.out)
          have hb9 : wr.cell? ⟨w.heap.size + 1, 6, none⟩ = some v6 := (blk_cell HI.out.box 6).trans rfl
          have lk := look_map (wr := wr.drew) HOWN.out (below_drew HI.out.below) (fun s => (HLOOK.out s).2) (rising_nodup HRS.out) HKS.out hlt hj2
          obtain ⟨fpj, hfj, hrj⟩ := HALL.out.get j hj2 h6
          have fl : ∀ k ∈ fpj, k < w.heap.size := fun k hk => HLT.out k (List.mem_cons_of_mem _ (List.mem_flatten.2 ⟨fpj, hfj, hk⟩))
          have HC2 := Aside0.mk (IH.out x.f6[j] vs[j] fpj wr.drew (Rep.move n hrj fun k hk => HI.out.below.block k (fl k hk)) (HR.out _ (List.getElem_mem h6)) (HSM.out _ (List.getElem_mem h6)) (cnt_el HC.out h6) (fun k hk => Nat.lt_of_lt_of_le (fl k hk) HI.out.below.size))
          have p0 : 0 ≤ (j : Int) := Int.natCast_nonneg j
          have q0 : (j : Int) < (x.f5.length : Int) := Int.ofNat_lt.2 hlt
          clear hrj fl hfj
          go_wp2_with fail
          have HD := Aside0.mk HI.out.drew
          have hd9 : wr.drew.cell? ⟨w.heap.size + 1, 6, none⟩ = some v6 := (blk_cell HD.out.box 6).trans rfl
          have HV6 := Aside0.mk (fun k (hk : v6.ownBlock = some k) => row_lt HI.out.row k hk)
          have HV5 := Aside0.mk (fun k (hk : (Value.slice (some ad) x.f5.length c5).ownBlock = some k) => (HI.out.keys.lt k hk).2)
          go_region_law (first
            | (go_simp; go_at_call 46; go_must (refine HC2.out.mono ?_; rintro e W2 ⟨u5, u7, rfl, hm, hb⟩; have HM := Aside0.mk hm; have HBW := Aside0.mk (show Below wr.heap.size wr W2 from ⟨hb.os, hb.tape, hb.output, hb.size, hb.block⟩); have HE := Aside0.mk (HD.out.far hb); have h29 : W2.cell? ⟨w.heap.size + 1, 6, none⟩ = some v6 := (blk_cell HE.out.box 6).trans rfl; have lt2 : w.heap.size + 1 < W2.heap.size := HE.out.size; clear hm; try go_simp))
            | (refine app_map HLT2.out LL6.out HI.out.size HBW.out.size HE.out HV6.out HV5.out HM.out rfl rfl rfl rfl ?_; intro v1 W4 hR hg4; have HN := Aside0.mk (HI.out.next HLT2.out HBW.out hR hg4); have hb4 := HE.out.box_far hg4; have hc4 : W4.cell? ⟨w.heap.size + 1, 6, none⟩ = some v6 := (blk_cell hb4 6).trans rfl; have hf4 := blk_frozen hb4 6; obtain ⟨A1, c1, rfl⟩ := R_form hR; rw [vl_len HLT2.out] at HN ⊢; clear hR hb4))
          all_goals
            go_wp2_with fail
            go_roundw
            case rel => exact ⟨j + 1, _, HJ.out, congrArg (Value.int IntKind.i64) (next63 HJ.out (Nat.le_trans LK.out (by decide))), HN⟩
            case measure => exact meas26 HJ.out (Nat.le_trans LK.out (by decide))
        · have e : j = x.f5.length := Nat.le_antisymm hj (Nat.not_lt.1 hlt)
          have q1 : ¬ (j : Int) < (x.f5.length : Int) := not_lt_int hlt
          have HI := Aside0.mk (show MI n w x x.f6.length (.slice A5 x.f5.length c5) v6 wr by rw [(e.trans HL.out).symm]; exact HI.out)
          clear hlt hj e
          obtain ⟨A6, c6, rfl⟩ := R_form HI.out.row
          have hb0 : wr.cell? ⟨w.heap.size + 1, 0, none⟩ = some (.int .i64 7) := (blk_cell HI.out.box 0).trans rfl
          have hb1 : wr.cell? ⟨w.heap.size + 1, 1, none⟩ = some (.bool false) := (blk_cell HI.out.box 1).trans rfl
          have hb2 : wr.cell? ⟨w.heap.size + 1, 2, none⟩ = some (.int .i64 0) := (blk_cell HI.out.box 2).trans rfl
          have hb3 : wr.cell? ⟨w.heap.size + 1, 3, none⟩ = some (.float .f64 0) := (blk_cell HI.out.box 3).trans rfl
          have hb4 : wr.cell? ⟨w.heap.size + 1, 4, none⟩ = some (.string ⟨#[]⟩) := (blk_cell HI.out.box 4).trans rfl
          have hb5 : wr.cell? ⟨w.heap.size + 1, 5, none⟩ = some (.slice A5 x.f5.length c5) := (blk_cell HI.out.box 5).trans rfl
          have hb6 : wr.cell? ⟨w.heap.size + 1, 6, none⟩ = some (.slice A6 ((x.f6.take x.f6.length).map (canon n)).length c6) := (blk_cell HI.out.box 6).trans rfl
          have oc0 : wr.cell? ⟨w.heap.size, 0, none⟩ = some (.int .i64 0) := (blk_cell HI.out.out 0).trans rfl
          have oc1 : wr.cell? ⟨w.heap.size, 1, none⟩ = some (.bool false) := (blk_cell HI.out.out 1).trans rfl
          have oc2 : wr.cell? ⟨w.heap.size, 2, none⟩ = some (.int .i64 0) := (blk_cell HI.out.out 2).trans rfl
          have oc3 : wr.cell? ⟨w.heap.size, 3, none⟩ = some (.float .f64 0) := (blk_cell HI.out.out 3).trans rfl
          have oc4 : wr.cell? ⟨w.heap.size, 4, none⟩ = some (.string ⟨#[]⟩) := (blk_cell HI.out.out 4).trans rfl
          have oc5 : wr.cell? ⟨w.heap.size, 5, none⟩ = some (.slice none 0 0) := (blk_cell HI.out.out 5).trans rfl
          have oc6 : wr.cell? ⟨w.heap.size, 6, none⟩ = some (.slice none 0 0) := (blk_cell HI.out.out 6).trans rfl
          have off := blk_frozen HI.out.out
          have off0 := off 0
          have off1 := off 1
          have off2 := off 2
          have off3 := off 3
          have off4 := off 4
          have off5 := off 5
          have off6 := off 6
          clear off
          go_wp2_with fail
          refine bodyPost_ret (results_cell_row rfl _ _ w.heap.size 26 _ (0, 0) _ rfl (put7 HI.out.out _ _ _ _ _ _ _) rfl rfl rfl) rfl ?_
          exact HI.out.ends HX.out (grown7 _ _ _ _ _ _ _) (by simp)
    · intro u c kl yd yp w2 cnt2 hkey hlk hv hat hrg2 hlt hg2 hs2 hen
      obtain ⟨u2, ex, rfl, hxl⟩ := Maps.keyOf_str Try.underlying9 hkey
      obtain rfl := encStr_inj ex
      have HN := Aside0.mk (HI.out.kept hg2 (fun k h => by cases h; exact Nat.le_refl _) (.inl (row_ne_iter HI.out.row HG.out)))
      have HG2 := Aside0.mk hrg2
      have HLT2 := Aside0.mk hlt
      have HCN := Aside0.mk (HCO.out.step hlk hat)
      have HLE := Aside0.mk (ki_len HS.out hlt HZ.out)
      have HCT := Aside0.mk (ki_cnt (x := u) HS.out hlt)
      have hb9 := (blk_cell HN.out.box 5).trans rfl
      clear hs2 hkey hlk hv hat hrg2 hlt hg2 hxl ex
      go_wp2_with (refine gate_builtin (b := .append) (xs := #[.tmp 80, .tmp 82]) rfl ?_; at_builtin; go_must (refine wpList_append_own _ rfl _ _ 23 rfl (w.heap.size + 1 + 1) 9 i0 (.string ⟨#[]⟩) 1 16 Try.underlying23 hi hz0 hz1 hz2 rfl (by decide) _ _ _ rfl (HN.out.row.alloc _) ⟨w2.heap.size, 0, none⟩ 1 1 [encStr u] rfl rfl (cell_one_new _ _ _) (by simp [Value.oneCell', encStr]) HLE.out.1 HLE.out.2 (Nat.le_trans HN.out.size (by simp)) ?_; intro v' w3 hown' hg3 hnil3; have HNN := Aside0.mk (HN.out.next hg3 hown'); have bx3 := HN.out.box_at hg3; have c5 := (blk_cell bx3 5).trans rfl; have f5 := blk_frozen bx3 5; have HG3 := Aside0.mk hg3; obtain ⟨A1, c1, rfl⟩ := own_slice hown'; clear hown' hg3 hnil3 bx3; go_frame))
      have HBL := Aside0.mk (HLT.out b List.mem_cons_self)
      have HG4 := Aside0.mk (rg_next (q := w.heap.size + 1) (i := 5) (v := .slice A1 (ss.length + 1) c1) HG2.out HG3.out (HN.out.low (Nat.lt_succ_of_lt (Nat.lt_succ_of_lt HBL.out))) (row_ne_iter HN.out.row HG2.out) (Nat.ne_of_lt (Nat.lt_succ_of_lt HBL.out)) (Nat.succ_ne_self _))
      have HME := Aside0.mk (show World.rangeLeft _ b (w.heap.size + 1 + 1) < World.rangeLeft wr b (w.heap.size + 1 + 1) by rw [HG4.out.left_eq, HG.out.left_eq]; exact HLT2.out)
      clear c5 f5 hb9 hen t0 t1 t2 t3 t4 t5 t6 t7
      go_roundw
      case rel => exact ⟨_, cnt2, ss ++ [u], _, HG4, HCT, HCN, HNN⟩
      case measure => exact HME.out
end Go.Proofs.Ytjfbjkodjjlkiaa.HVal
/-! What impl.valueOf comes to, for all values that can be given. -/
namespace Go.Proofs.Ytjfbjkodjjlkiaa.HVal
open Go.RowKit Go.WideMaps Go.Maps Go.Proofs.YtjfbjkodjjlkiaaW.PrintWords Go.Proofs.YtjfbjkodjjlkiaaW.PrintLast Go.Proofs.YtjfbjkodjjlkiaaW.PrintMore Go.Proofs.Ytjfbjkodjjlkiaa.Plain Go.Proofs.Ytjfbjkodjjlkiaa.GTab

theorem val_of : ∀ n, ValC n
  | 0 => fun _ _ _ _ h => h.elim
  | n + 1 => fun x v fp w hrep hr hsm hc hlt => by
    unfold Sm at hsm
    unfold Rep at hrep
    unfold Rt at hr
    rcases hrep with ⟨h0, hv, _⟩ | ⟨h0, hv, _⟩ | ⟨h0, hv, _⟩ | ⟨h0, hv, _⟩ | ⟨h0, hv, _⟩ | ⟨h0, vs, fps, s, rfl, ho, ha, rfl⟩ | ⟨h0, b, vs, fps, rfl, hl, hm, ha, rfl⟩
    · exact val_scalar n x v w (.inl ⟨h0, hv⟩)
    · exact val_scalar n x v w (.inr (.inl ⟨h0, hv⟩))
    · exact val_scalar n x v w (.inr (.inr (.inl ⟨h0, hv⟩)))
    · exact val_scalar n x v w (.inr (.inr (.inr (.inl ⟨h0, hv⟩))))
    · exact val_scalar n x v w (.inr (.inr (.inr (.inr ⟨h0, hv⟩))))
    · have hr6 : ∀ y ∈ x.f6, Rt n y := by
        rcases hr with ⟨h, _⟩ | ⟨h, _⟩ | ⟨_, _, h⟩ | ⟨h, _⟩
        · omega
        · omega
        · exact h
        · omega
      exact val_list n (val_of n) x s vs fps w h0 ho ha hr6 hsm.2 hc hlt
    · have hr7 : Rising x.f5 ∧ ∀ y ∈ x.f6, Rt n y := by
        rcases hr with ⟨h, _⟩ | ⟨h, _⟩ | ⟨h, _⟩ | ⟨_, h1, _, h2⟩
        · omega
        · omega
        · omega
        · exact ⟨h1, h2⟩
      exact val_map n (val_of n) x b vs fps w h0 hl hm ha hr7.1 hr7.2 hsm.1 hsm.2 hc hlt
/-- What was canonical stays so: only what a value's kind does not use is left out. -/
theorem canon_kind : ∀ {n : Nat} {x : S26}, Rt (n + 1) x → (canon (n + 1) x).f0 = x.f0 := by
  intro n x hr
  unfold Rt at hr
  unfold canon
  rcases hr with ⟨h, _⟩ | ⟨h, _⟩ | ⟨h, _⟩ | ⟨h, _⟩
  · rcases h with h | h | h | h <;> rw [h] <;> rfl
  all_goals rw [h]; rfl
end Go.Proofs.Ytjfbjkodjjlkiaa.HVal
