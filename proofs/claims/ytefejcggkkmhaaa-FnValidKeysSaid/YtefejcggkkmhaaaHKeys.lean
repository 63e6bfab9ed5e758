/- What impl.ValidKeys comes to. -/
import Derived.Test.YtefejcggkkmhaaaHKyValid
import Derived.Maps.AppendAt
import Derived.Laws.AppendOwnNone
import Derived.Defers
import Derived.Recover
import Derived.RegionTactic
import Derived.Deep.DeepMust
namespace Go.Proofs.Ytefejcggkkmhaaa.HSets
open Go.RowKit Go.WideMaps Go.Maps Go.Proofs.YtefejcggkkmhaaaW.PrintWords Go.Proofs.YtefejcggkkmhaaaW.PrintLast Go.Proofs.YtefejcggkkmhaaaW.PrintMore Go.Proofs.Ytefejcggkkmhaaa.Plain

def VPost (w : World) (ll : List (List ByteArray)) (values keys : List ByteArray) (e : Ending) (w' : World) : Prop := ∃ v1 v2, e = .returned (.tuple #[v1, v2]) ∧ Rd w' v1 (valid ll values keys).1 ∧ Rd w' v2 (valid ll values keys).2 ∧ Below w.heap.size w w'

set_option maxHeartbeats 1000000 in
theorem zzvalid_calls (A B K : Option Addr) (ca cb ck : Nat) (ll : List (List ByteArray)) (values keys : List ByteArray) (w : World) (hr : Kd.C (Kd.slice 9 Kd.string) w A ll.length ll) (hv : Kd.C Kd.string w B values.length values) (hk : Kd.C Kd.string w K keys.length keys)
    (hl : ∀ l ∈ ll, l.length = keys.length) (hlv : values.length = keys.length) (hll : ll.length ≤ 10) (hkl : keys.length ≤ 10) (hsz : ∀ s ∈ keys, s.size ≤ 1000) (hcb : values.length ≤ cb) (hck : keys.length ≤ ck) :
    Calls Try.prog 22 #[.slice A ll.length ca, .slice B values.length cb, .slice K keys.length ck] w (VPost w ll values keys) := by
  have HC := Aside0.mk (valid_calls A B K ca cb ck ll values keys w hr hv hk hl hlv hll hkl hsz hcb hck)
  clear hr hv hk hl hlv hll hkl hsz hcb hck
  go_enter Try.func22, Try.ntmps22
  go_wp2_with (go_at_call 24; refine HC.out.mono ?_; rintro e w' ⟨v1, v2, rfl, h1, h2, hb⟩)
  go_ret2
  exact ⟨_, _, rfl, h1, h2, hb⟩

theorem catch_idle (p1 p2 p3 : Value) (w : World) :
    CallsD Try.prog 21 #[p1, p2, p3] .returning w fun e u' w' => e = .returned (.tuple #[]) ∧ u' = .returning ∧ w' = w := by
  refine callsD_of_wpS Try.func21 rfl fun c₀ cs hu => ?_
  apply wpS_seq
  apply wpS_region
  simp [wpOpsS, go_sem, recoverD, hu, Try.ntmps21, Exit.thenS]
  refine wpS_cond (t := false) (by simp [Act.eval, Array.replicate]) ?_
  simp only [Bool.false_eq_true, if_false]
  refine wpS_of_wp (wp_skip ?_)
  cases c₀
  simp_all [bodyPostS, results, Try.results21]

theorem info22 : (Try.prog.info? 22).map (fun i => (i.zero, i.size, i.bytes)) = some (some (.slice none 0 0), 1, 24) := by kernel_rfl
/-- The headers of a list of lists. -/
theorem heads {w : World} {ad : Addr} {ll : List (List ByteArray)} {n : Nat} (h : Kd.C (Kd.slice 9 Kd.string) w (some ad) ll.length ll) (hl : ∀ l ∈ ll, l.length = n) : ∃ news : List Value, news.length = ll.length ∧ (∀ j u, news[j]? = some u → w.cell? (ad.add j) = some u) ∧ ∀ u ∈ news, ∃ A c, u = .slice A n c := by
  have key : ∀ j : Fin ll.length, ∃ u, w.cell? (ad.add j.1) = some u ∧ ∃ A c, u = .slice A n c := fun j => by
    obtain ⟨ad', B, c, e, hc, _⟩ := row_at h j.1 j.2
    cases e
    exact ⟨_, hc, B, c, by rw [hl _ (List.getElem_mem j.2)]⟩
  let f : Fin ll.length → Value := fun j => Classical.choose (key j)
  refine ⟨List.ofFn f, List.length_ofFn, fun j u hu => ?_, fun u hu => ?_⟩
  · rw [List.getElem?_ofFn] at hu
    split at hu
    · rename_i hj
      cases hu
      exact (Classical.choose_spec (key ⟨j, hj⟩)).1
    · cases hu
  · rw [List.mem_ofFn] at hu
    obtain ⟨j, rfl⟩ := hu
    exact (Classical.choose_spec (key j)).2

/-- A row of headers of one length. -/
def Heads (m n g : Nat) (W : World) : Prop := ∀ j, j < m → ∃ A c, W.cell? ⟨g, j, none⟩ = some (.slice A n c)
theorem start_own (w : World) (B : Option Addr) (n cb : Nat) : (w.alloc (.cells #[.slice B n cb] 22)).ownsRow 0 22 1 (.slice (some ⟨w.heap.size, 0, none⟩) 1 1) 1 [.slice B n cb] :=
  ⟨rfl, .inr ⟨w.heap.size, 1, #[.slice B n cb], rfl, Nat.zero_le _, blk_new _ _, Nat.le_refl _, by decide, rfl, rfl⟩⟩
theorem far_cell {w : World} (o1 o2 o3 o4 : Obj) {p : Addr} {u : Value} (h : w.cell? p = some u) : ((((w.alloc o1).alloc o2).alloc o3).alloc o4).cell? p = some u := pw_cell_below (below_alloc (below_alloc (below_alloc (below_alloc (Below.refl _ w) _) _) _) _) h
theorem start_at {W : World} {b : Nat} (h : W.heap.size = b) (B : Option Addr) (n cb : Nat) : (W.alloc (.cells #[.slice B n cb] 22)).ownsRow 0 22 1 (.slice (some ⟨b, 0, none⟩) 1 1) 1 [.slice B n cb] := by
  subst h
  exact start_own W B n cb
theorem size3 (w : World) (o1 o2 o3 : Obj) : (((w.alloc o1).alloc o2).alloc o3).heap.size = w.heap.size + 1 + 1 + 1 := by simp
theorem heads_start (w : World) (B : Option Addr) (n cb : Nat) : Heads 1 n w.heap.size (w.alloc (.cells #[.slice B n cb] 22)) := fun j hj => by
  obtain rfl : j = 0 := by omega
  exact ⟨B, cb, (blk_cell (blk_new w _) 0).trans rfl⟩
theorem heads_own {w : World} {n m : Nat} {B : Option Addr} {cb : Nat} {v : Value} {news : List Value} (hown : w.ownsRow 0 22 1 v (1 + m) ([.slice B n cb] ++ news)) (hl : news.length = m) (hn : ∀ u ∈ news, ∃ A c, u = .slice A n c) : ∃ g c, v = .slice (some ⟨g, 0, none⟩) (m + 1) c ∧ g < w.heap.size ∧ Heads (m + 1) n g w := by
  rcases hown.2 with ⟨_, h0⟩ | ⟨g, cap, cur, rfl, hg, hh, hq⟩
  · omega
  · refine ⟨g, cap, by rw [Nat.add_comm], blk_lt hh, fun j hj => ?_⟩
    have hcell := hown.cells (g := g) rfl
    cases j with
    | zero => exact ⟨B, cb, by have := hcell 0 _ rfl; rwa [add_plain] at this⟩
    | succ j =>
      obtain ⟨A, c, e⟩ := hn news[j] (List.getElem_mem (by omega))
      refine ⟨A, c, ?_⟩
      have := hcell (j + 1) news[j] (by simp)
      rw [add_plain] at this
      rw [this, e]
theorem blk_at {w : World} {b : Nat} (o : Obj) (h : w.heap.size = b) : (w.alloc o).heap[b]? = some o := by subst h; exact blk_new w o
theorem blk_grown {w w' : World} {b g : Nat} {o : Obj} {v : Value} (h : w.heap[b]? = some o) (hg : w.grownBy w' v.ownBlock) (hv : v.ownBlock = some g) (hne : b ≠ g) : w'.heap[b]? = some o := (hg.block b (blk_lt h) (by rw [hv]; simpa using hne)).trans h

structure VK (w : World) (m n g : Nat) (W : World) : Prop where
  b1 : W.heap[w.heap.size]? = some (.cells #[.slice none 0 0] 22 (0, 0))
  b2 : W.heap[w.heap.size + 1]? = some (.cells #[.slice none 0 0] 22 (0, 0))
  b3 : W.heap[w.heap.size + 1 + 1]? = some (.cells #[.int .i64 0] 3 (0, 0))
  heads : Heads m n g W
  below : Below w.heap.size w W
theorem vk_start (w : World) (B : Option Addr) (n cb : Nat) : VK w 1 n (w.heap.size + 1 + 1 + 1) ((((w.alloc (.cells #[.slice none 0 0] 22)).alloc (.cells #[.slice none 0 0] 22)).alloc (.cells #[.int .i64 0] 3)).alloc (.cells #[.slice B n cb] 22)) := by
  refine ⟨blk_alloc (blk_alloc (blk_alloc (blk_at _ rfl) _) _) _, blk_alloc (blk_alloc (blk_at _ (by simp)) _) _, blk_alloc (blk_at _ (by simp)) _, ?_, below_alloc (below_alloc (below_alloc (below_alloc (Below.refl _ w) _) _) _) _⟩
  have := heads_start (((w.alloc (.cells #[.slice none 0 0] 22)).alloc (.cells #[.slice none 0 0] 22)).alloc (.cells #[.int .i64 0] 3)) B n cb
  rw [size3] at this
  exact this
theorem VK.grown {w W W4 : World} {m m' n g g' : Nat} (h : VK w m n g W) {v : Value} (hg : W.grownBy W4 v.ownBlock) (hv : v.ownBlock = some (w.heap.size + 1 + 1 + 1)) (hh : Heads m' n g' W4) : VK w m' n g' W4 :=
  ⟨blk_grown h.b1 hg hv (by omega), blk_grown h.b2 hg hv (by omega), blk_grown h.b3 hg hv (by omega), hh, hg.os.trans h.below.os, hg.tape.trans h.below.tape, hg.output.trans h.below.output, Nat.le_trans h.below.size hg.size, fun k hk => (hg.block k (by have := h.below.size; omega) (by rw [hv]; simp; omega)).trans (h.below.block k hk)⟩

theorem rd_set {w : World} {v : Value} {l : List ByteArray} (h : Rd w v l) {p : Addr} {u : Value} (hp : w.cell? p = some u) (hu : ∀ s, u ≠ .string s) (x : Value) : Rd (w.setCell p x) v l := by
  obtain ⟨A, c, e, hc, hr⟩ := h
  refine ⟨A, c, e, hc, ?_⟩
  have h2 : ReadsOf Value.string ByteArray.empty w A l.length l := Kd.reads_of_C (h1 := fun _ => rfl) hr
  refine Kd.C_of_reads (d := ByteArray.empty) (h1 := fun _ => rfl) ⟨h2.1, h2.2.1, fun hn => ?_⟩
  obtain ⟨ad, ea, hcell⟩ := h2.2.2 hn
  refine ⟨ad, ea, fun j hj => ?_⟩
  have := hcell j hj
  rw [World.cell?_setCell_other _ _ _ _ (fun eq => by rw [← eq, hp] at this; exact hu _ (Option.some.inj this))]
  exact this
theorem rd_drew {w : World} {v : Value} {l : List ByteArray} (h : Rd w v l) : Rd w.drew v l := by
  obtain ⟨A, c, e, hc, hr⟩ := h
  exact ⟨A, c, e, hc, Kd.C_below hr (below_drew (Below.refl _ _))⟩
theorem blk_setO {w : World} {b : Nat} {o : Obj} (h : w.heap[b]? = some o) {p : Addr} (hne : b ≠ p.block) (v : Value) : (w.setCell p v).heap[b]? = some o := (Below.heap_setCell w p v b hne).trans h
/-- The results are laid, and laid once more. -/
def fin3 (w4 : World) (n : Nat) (v1 v2 : Value) : World := (((((w4.setCell ⟨n, 0, none⟩ v1).setCell ⟨n + 1, 0, none⟩ v2).setCell ⟨n, 0, none⟩ v1).setCell ⟨n + 1, 0, none⟩ v2).setCell ⟨n + 1 + 1, 0, none⟩ (.int .i64 0)).drew
theorem fin3_all {w w4 : World} {A1 A2 : Option Addr} {n1 n2 c1 c2 : Nat} {l1 l2 : List ByteArray} (h1 : w4.heap[w.heap.size]? = some (.cells #[.slice none 0 0] 22 (0, 0))) (h2 : w4.heap[w.heap.size + 1]? = some (.cells #[.slice none 0 0] 22 (0, 0))) (h3 : w4.heap[w.heap.size + 1 + 1]? = some (.cells #[.int .i64 0] 3 (0, 0))) (hb : Below w.heap.size w w4)
    (r1 : Rd w4 (.slice A1 n1 c1) l1) (r2 : Rd w4 (.slice A2 n2 c2) l2) :
    ((fin3 w4 w.heap.size (.slice A1 n1 c1) (.slice A2 n2 c2)).cell? ⟨w.heap.size, 0, none⟩ = some (.slice A1 n1 c1) ∧ (fin3 w4 w.heap.size (.slice A1 n1 c1) (.slice A2 n2 c2)).cell? ⟨w.heap.size + 1, 0, none⟩ = some (.slice A2 n2 c2) ∧ (fin3 w4 w.heap.size (.slice A1 n1 c1) (.slice A2 n2 c2)).cell? ⟨w.heap.size + 1 + 1, 0, none⟩ = some (.int .i64 0)) ∧
    Rd (fin3 w4 w.heap.size (.slice A1 n1 c1) (.slice A2 n2 c2)) (.slice A1 n1 c1) l1 ∧ Rd (fin3 w4 w.heap.size (.slice A1 n1 c1) (.slice A2 n2 c2)) (.slice A2 n2 c2) l2 ∧ Below w.heap.size w (fin3 w4 w.heap.size (.slice A1 n1 c1) (.slice A2 n2 c2)) := by
  have ns : ∀ (A : Option Addr) (n c : Nat) (s : ByteArray), (Value.slice A n c) ≠ .string s := fun _ _ _ _ h => by cases h
  unfold fin3
  generalize hN : w.heap.size = N at *
  have q1 := (blk_cell h1 0).trans rfl
  have q2 := (blk_cell h2 0).trans rfl
  have q3 := (blk_cell h3 0).trans rfl
  -- one store behind the other
  have a1 := blk_put (cs' := #[.slice A1 n1 c1]) h1 0 (.slice A1 n1 c1) rfl
  have a2 := blk_setO (p := ⟨N, 0, none⟩) h2 (by simp) (.slice A1 n1 c1)
  have a3 := blk_setO (p := ⟨N, 0, none⟩) h3 (by simp; omega) (.slice A1 n1 c1)
  have ar1 := rd_set r1 q1 (ns _ _ _) (.slice A1 n1 c1)
  have ar2 := rd_set r2 q1 (ns _ _ _) (.slice A1 n1 c1)
  have ab := hb.setCell (p := ⟨N, 0, none⟩) (by simp only; omega) (.slice A1 n1 c1)
  generalize w4.setCell ⟨N, 0, none⟩ (.slice A1 n1 c1) = W1 at *
  clear h1 h2 h3 r1 r2 hb q1 q2 q3
  have q2 := (blk_cell a2 0).trans rfl
  have b2 := blk_put (cs' := #[.slice A2 n2 c2]) a2 0 (.slice A2 n2 c2) rfl
  have b1 := blk_setO (p := ⟨N + 1, 0, none⟩) a1 (by simp) (.slice A2 n2 c2)
  have b3 := blk_setO (p := ⟨N + 1, 0, none⟩) a3 (by simp) (.slice A2 n2 c2)
  have br1 := rd_set ar1 q2 (ns _ _ _) (.slice A2 n2 c2)
  have br2 := rd_set ar2 q2 (ns _ _ _) (.slice A2 n2 c2)
  have bb := ab.setCell (p := ⟨N + 1, 0, none⟩) (by simp only; omega) (.slice A2 n2 c2)
  generalize W1.setCell ⟨N + 1, 0, none⟩ (.slice A2 n2 c2) = W2 at *
  clear a1 a2 a3 ar1 ar2 ab q2
  have q1 := (blk_cell b1 0).trans rfl
  have d1 := blk_put (cs' := #[.slice A1 n1 c1]) b1 0 (.slice A1 n1 c1) rfl
  have d2 := blk_setO (p := ⟨N, 0, none⟩) b2 (by simp) (.slice A1 n1 c1)
  have d3 := blk_setO (p := ⟨N, 0, none⟩) b3 (by simp; omega) (.slice A1 n1 c1)
  have dr1 := rd_set br1 q1 (ns _ _ _) (.slice A1 n1 c1)
  have dr2 := rd_set br2 q1 (ns _ _ _) (.slice A1 n1 c1)
  have db := bb.setCell (p := ⟨N, 0, none⟩) (by simp only; omega) (.slice A1 n1 c1)
  generalize W2.setCell ⟨N, 0, none⟩ (.slice A1 n1 c1) = W3 at *
  clear b1 b2 b3 br1 br2 bb q1
  have q2 := (blk_cell d2 0).trans rfl
  have e2 := blk_put (cs' := #[.slice A2 n2 c2]) d2 0 (.slice A2 n2 c2) rfl
  have e1 := blk_setO (p := ⟨N + 1, 0, none⟩) d1 (by simp) (.slice A2 n2 c2)
  have e3 := blk_setO (p := ⟨N + 1, 0, none⟩) d3 (by simp) (.slice A2 n2 c2)
  have er1 := rd_set dr1 q2 (ns _ _ _) (.slice A2 n2 c2)
  have er2 := rd_set dr2 q2 (ns _ _ _) (.slice A2 n2 c2)
  have eb := db.setCell (p := ⟨N + 1, 0, none⟩) (by simp only; omega) (.slice A2 n2 c2)
  generalize W3.setCell ⟨N + 1, 0, none⟩ (.slice A2 n2 c2) = W4 at *
  clear d1 d2 d3 dr1 dr2 db q2
  have q3 := (blk_cell e3 0).trans rfl
  have f3 := blk_put (cs' := #[.int .i64 0]) e3 0 (.int .i64 0) rfl
  have f1 := blk_setO (p := ⟨N + 1 + 1, 0, none⟩) e1 (by simp; omega) (.int .i64 0)
  have f2 := blk_setO (p := ⟨N + 1 + 1, 0, none⟩) e2 (by simp) (.int .i64 0)
  have fr1 := rd_set er1 q3 (fun s h => by cases h) (.int .i64 0)
  have fr2 := rd_set er2 q3 (fun s h => by cases h) (.int .i64 0)
  have fb := eb.setCell (p := ⟨N + 1 + 1, 0, none⟩) (by simp only; omega) (.int .i64 0)
  generalize W4.setCell ⟨N + 1 + 1, 0, none⟩ (.int .i64 0) = W5 at *
  exact ⟨⟨(blk_cell (blk_drew f1) 0).trans rfl, (blk_cell (blk_drew f2) 0).trans rfl, (blk_cell (blk_drew f3) 0).trans rfl⟩, rd_drew fr1, rd_drew fr2, below_drew fb⟩

set_option maxHeartbeats 2000000 in
theorem keys_calls (va : Value) (B K : Option Addr) (cb ck : Nat) (ll : List (List ByteArray)) (values keys : List ByteArray) (w : World) (hA : (va = .slice none 0 0 ∧ ll = []) ∨ ∃ ad ca, va = .slice (some ad) ll.length ca ∧ Kd.C (Kd.slice 9 Kd.string) w (some ad) ll.length ll) (hv : Kd.C Kd.string w B values.length values) (hk : Kd.C Kd.string w K keys.length keys)
    (hl : ∀ l ∈ ll, l.length = keys.length) (hlv : values.length = keys.length) (hll : ll.length ≤ 10) (hkl : keys.length ≤ 10) (hsz : ∀ s ∈ keys, s.size ≤ 1000) (hcb : values.length ≤ cb) (hck : keys.length ≤ ck) :
    Calls Try.prog 16 #[va, .slice B values.length cb, .slice K keys.length ck] w fun e w' => ∃ v1 v2, e = .returned (.tuple #[v1, v2, .int .i64 0]) ∧ Rd w' v1 (valid ll values keys).1 ∧ Rd w' v2 (valid ll values keys).2 ∧ Below w.heap.size w w' := by
  have hmf : ∀ (fn : Fn) (first cap : Array Value) (w : World), (Instr.makeFunc fn first cap).run Try.prog w = .ok (.func fn first cap) w := fun _ _ _ _ => rfl
  obtain ⟨i0, hi, hz0, hz1, hz2⟩ := info_parts info22
  obtain ⟨A, ca, rfl, hr⟩ : ∃ A ca, va = .slice A ll.length ca ∧ Kd.C (Kd.slice 9 Kd.string) w A ll.length ll := by
    rcases hA with ⟨rfl, rfl⟩ | ⟨ad, ca, rfl, hr⟩
    · exact ⟨none, 0, rfl, (Kd.R_reads (Kd.R_nil (Kd.slice 9 Kd.string) 22 w 0 (fun _ => True))).elim fun A h => h.elim fun c h => by have e := h.1; cases e; exact h.2.2⟩
    · exact ⟨some ad, ca, rfl, hr⟩
  have HC := Aside0.mk (fun W (hb : Below w.heap.size w W) => zzvalid_calls A B K ca cb ck ll values keys W (Kd.C_below hr hb) (Kd.C_below hv hb) (Kd.C_below hk hb) hl hlv hll hkl hsz hcb hck)
  have HR := Aside0.mk hr
  have HV := Aside0.mk hv
  have HK := Aside0.mk hk
  have HL := Aside0.mk hl
  have HSZ := Aside0.mk hsz
  clear hv hk hl hsz hr
  obtain ⟨n, hn⟩ : ∃ n, keys.length = n := ⟨_, rfl⟩
  rw [hlv, hn] at HC ⊢
  rw [hn] at hkl hck
  rw [hlv, hn] at hcb
  have HNK := Aside0.mk hn
  have HLV := Aside0.mk hlv
  clear hlv hn
  rcases hA with ⟨e1, rfl⟩ | ⟨ad, ca', e1, _⟩
  · cases e1
    go_enter_defers Try.func16, Try.ntmps16
    go_wp2_with (refine gate_builtin (b := .append) (xs := #[.tmp 13, .tmp 14]) rfl ?_; at_builtin; refine wpList_append_own_none rfl _ _ 30 rfl 0 22 i0 1 Try.underlying30 hi _ 1 [.slice B n cb] rfl (start_own _ _ _ _) rfl ?_)
    have HJ := Aside0.mk (vk_start w B n cb)
    go_loop [17] (fun i => ∃ j : Nat, j ≤ 1 ∧ i = .int .i64 j) (fun i => 1 - (intOf i).toNat)
    case atStart => exact ⟨0, Nat.zero_le _, rfl⟩
    case round =>
      obtain ⟨j, hj, rfl⟩ := hrel
      by_cases hlt : j < 1
      · have HLT := Aside0.mk hlt
        obtain ⟨A2, c2, hcell⟩ := HJ.out.heads j hlt
        go_wp2_with fail
        go_round
        case rel => exact ⟨j + 1, HLT.out, by go_num⟩
        case measure => simp [intOf]; omega
      · have e : j = 1 := by omega
        subst e
        go_wp2_with fail
        go_at_call 22
        refine (HC.out _ HJ.out.below).mono ?_
        rintro e W5 ⟨v1, v2, rfl, hr1, hr2, hb⟩
        have HR1 := Aside0.mk hr1
        have HR2 := Aside0.mk hr2
        obtain ⟨A1, d1, rfl, _, _⟩ := hr1
        obtain ⟨A2, d2, rfl, _, _⟩ := hr2
        have D1 := Aside0.mk (blk_below HJ.out.b1 hb)
        have D2 := Aside0.mk (blk_below HJ.out.b2 hb)
        have D3 := Aside0.mk (blk_below HJ.out.b3 hb)
        have HB := Aside0.mk (below_step HJ.out.below hb)
        have c1 := (blk_cell D1.out 0).trans rfl
        have c2 := (blk_cell D2.out 0).trans rfl
        have c3 := (blk_cell D3.out 0).trans rfl
        have f1 := blk_frozen D1.out 0
        have f2 := blk_frozen D2.out 0
        have f3 := blk_frozen D3.out 0
        clear hb
        go_wp2_with fail
        go_region
        go_wp2_with fail
        have HF := Aside0.mk (fin3_all D1.out D2.out D3.out HB.out HR1.out HR2.out)
        obtain ⟨W6, hW6⟩ : ∃ W6, fin3 W5 w.heap.size (.slice A1 (valid [] values keys).1.length d1) (.slice A2 (valid [] values keys).2.length d2) = W6 := ⟨_, rfl⟩
        rw [hW6] at HF
        unfold fin3 at hW6
        rw [hW6]
        clear hW6 c1 c2 c3 f1 f2 f3
        refine leaves_cons (f := 21) (args := #[.pointer (some ⟨w.heap.size, 0, none⟩), .pointer (some ⟨w.heap.size + 1, 0, none⟩), .pointer (some ⟨w.heap.size + 1 + 1, 0, none⟩)]) (by simp) (by simp [go_sem]) ?_
        refine (catch_idle _ _ _ _).mono ?_
        rintro e u' w5 ⟨rfl, rfl, rfl⟩
        obtain ⟨⟨c1, c2, c3⟩, g1, g2, gb⟩ := HF.out
        have G := Aside0.mk (And.intro g1 (And.intro g2 gb))
        clear g1 g2 gb
        simp [Leaves, settle, results, Try.results16, go_sem, c1, c2, c3]
        exact ⟨_, _, ⟨rfl, rfl⟩, G.out⟩
  · cases e1
    obtain ⟨news, hn1, hn2, hn3⟩ := heads HR.out HL.out
    rw [HNK.out] at hn3
    have HN2 := Aside0.mk hn2
    have HN3 := Aside0.mk hn3
    have H1C : Aside0 (∀ u ∈ news, u.oneCell' = true) := ⟨fun u hu => by obtain ⟨A, c, rfl⟩ := hn3 u hu; rfl⟩
    clear hn2 hn3
    go_enter_defers Try.func16, Try.ntmps16
    go_wp2_with (refine gate_builtin (b := .append) (xs := #[.tmp 13, .tmp 14]) rfl ?_; at_builtin; go_must (refine wpList_append_own_at _ rfl _ _ 30 rfl 0 22 i0 (.slice none 0 0) 1 24 Try.underlying30 hi hz0 hz1 hz2 rfl (by decide) (.slice (some ⟨w.heap.size + 1 + 1 + 1, 0, none⟩) 1 1) 1 [.slice B n cb] rfl (start_at (size3 _ _ _ _) _ _ _) ad ll.length ca news rfl (by rw [hn1]; omega) (fun j u hu => far_cell _ _ _ _ (HN2.out j u hu)) H1C.out (by unfold maxLen; omega) (by omega) (Nat.zero_le _) ?_; intro v' w' hown' hg _ hat; obtain ⟨g, c, rfl, hglt, hh⟩ := heads_own hown' hn1 HN3.out; have HJ := Aside0.mk ((vk_start w B n cb).grown hg rfl hh); clear hown' hg hat hh))
    go_loop [17] (fun i => ∃ j : Nat, j ≤ (ll.length + 1) ∧ i = .int .i64 j) (fun i => (ll.length + 1) - (intOf i).toNat)
    case atStart => exact ⟨0, Nat.zero_le _, rfl⟩
    case round =>
      obtain ⟨j, hj, rfl⟩ := hrel
      by_cases hlt : j < (ll.length + 1)
      · have HLT := Aside0.mk hlt
        obtain ⟨A2, c2, hcell⟩ := HJ.out.heads j hlt
        go_wp2_with fail
        go_round
        case rel => exact ⟨j + 1, HLT.out, by go_num⟩
        case measure => simp [intOf]; omega
      · have e : j = (ll.length + 1) := by omega
        subst e
        go_wp2_with fail
        go_at_call 22
        refine (HC.out _ HJ.out.below).mono ?_
        rintro e W5 ⟨v1, v2, rfl, hr1, hr2, hb⟩
        have HR1 := Aside0.mk hr1
        have HR2 := Aside0.mk hr2
        obtain ⟨A1, d1, rfl, _, _⟩ := hr1
        obtain ⟨A2, d2, rfl, _, _⟩ := hr2
        have D1 := Aside0.mk (blk_below HJ.out.b1 hb)
        have D2 := Aside0.mk (blk_below HJ.out.b2 hb)
        have D3 := Aside0.mk (blk_below HJ.out.b3 hb)
        have HB := Aside0.mk (below_step HJ.out.below hb)
        have c1 := (blk_cell D1.out 0).trans rfl
        have c2 := (blk_cell D2.out 0).trans rfl
        have c3 := (blk_cell D3.out 0).trans rfl
        have f1 := blk_frozen D1.out 0
        have f2 := blk_frozen D2.out 0
        have f3 := blk_frozen D3.out 0
        clear hb
        go_wp2_with fail
        go_region
        go_wp2_with fail
        have HF := Aside0.mk (fin3_all D1.out D2.out D3.out HB.out HR1.out HR2.out)
        obtain ⟨W6, hW6⟩ : ∃ W6, fin3 W5 w.heap.size (.slice A1 (valid ll values keys).1.length d1) (.slice A2 (valid ll values keys).2.length d2) = W6 := ⟨_, rfl⟩
        rw [hW6] at HF
        unfold fin3 at hW6
        rw [hW6]
        clear hW6 c1 c2 c3 f1 f2 f3
        refine leaves_cons (f := 21) (args := #[.pointer (some ⟨w.heap.size, 0, none⟩), .pointer (some ⟨w.heap.size + 1, 0, none⟩), .pointer (some ⟨w.heap.size + 1 + 1, 0, none⟩)]) (by simp) (by simp [go_sem]) ?_
        refine (catch_idle _ _ _ _).mono ?_
        rintro e u' w5 ⟨rfl, rfl, rfl⟩
        obtain ⟨⟨c1, c2, c3⟩, g1, g2, gb⟩ := HF.out
        have G := Aside0.mk (And.intro g1 (And.intro g2 gb))
        clear g1 g2 gb
        simp [Leaves, settle, results, Try.results16, go_sem, c1, c2, c3]
        exact ⟨_, _, ⟨rfl, rfl⟩, G.out⟩

end Go.Proofs.Ytefejcggkkmhaaa.HSets
