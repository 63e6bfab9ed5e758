/- What AliasDependency comes to. -/
import Derived.Test.YtmjecafddklbjaaHMid
import Derived.Test.YtmjecafddklbjaaHOne
import Derived.Defers
import Derived.Recover
namespace Go.Proofs.Ytmjecafddklbjaa.HAlias
open Go.RowKit Go.WideMaps Go.Maps Go.Proofs.YtmjecafddklbjaaW.PrintWords Go.Proofs.YtmjecafddklbjaaW.PrintLast Go.Proofs.YtmjecafddklbjaaW.PrintMore Go.Proofs.Ytmjecafddklbjaa.HMapI Go.Proofs.Ytmjecafddklbjaa.HSchema Go.Proofs.Ytmjecafddklbjaa.Plain Go.Proofs.Ytmjecafddklbjaa.GWants

theorem info62 : (Try.prog.info? 62).map (fun i => (i.zero, i.size, i.bytes)) = some (some (.pointer none), 1, 8) := by kernel_rfl
set_option maxHeartbeats 1000000 in
theorem zz_calls (A : Option Addr) (c : Nat) (cs : List Ch) (d : Nat) (n v al : ByteArray) (w : World) (hA : ChartsAt w A cs) (hD : Dep w d n v al) (hl : cs.length ≤ 1000000) :
    Calls Try.prog 20 #[.slice A cs.length c, .pointer (some ⟨d, 0, none⟩)] w (Alias w al (pick n v cs)) := by
  have HA := Aside0.mk hA
  have HL := Aside0.mk hl
  have HD := Aside0.mk hD
  clear hA hl hD
  go_enter Try.func20, Try.ntmps20
  rcases pick_place n v cs with ⟨hp, _⟩ | ⟨i, hi, hp, _, _⟩
  · have HP := Aside0.mk hp
    clear hp
    go_wp2_with (go_at_call 26; go_must (refine (alias_calls A c cs d n v al w HA.out HD.out HL.out).mono ?_; rintro e w1 ⟨hb, ha⟩; rw [HP.out] at ha; subst ha; have HB := Aside0.mk hb; clear hb))
    go_ret
    exact ⟨HB.out, by rw [HP.out]; rfl⟩
  · have HP := Aside0.mk hp
    clear hp
    go_wp2_with (go_at_call 26; go_must (refine (alias_calls A c cs d n v al w HA.out HD.out HL.out).mono ?_; rintro e w1 ⟨hb, ha⟩; rw [HP.out] at ha; obtain ⟨q, m, rfl, hC⟩ := ha; have HB := Aside0.mk hb; have HCC := Aside0.mk hC; clear hb hC))
    go_ret
    exact ⟨HB.out, by rw [HP.out]; exact ⟨q, m, rfl, HCC.out⟩⟩
theorem catch3 (p1 p2 p3 : Value) (w : World) :
    CallsD Try.prog 17 #[p1, p2, p3] .returning w fun e u' w' => e = .returned (.tuple #[]) ∧ u' = .returning ∧ w' = w := by
  refine callsD_of_wpS Try.func17 rfl fun c₀ cs hu => ?_
  apply wpS_seq
  apply wpS_region
  simp [wpOpsS, go_sem, recoverD, hu, Try.ntmps17, Exit.thenS]
  refine wpS_cond (t := false) (by simp [Act.eval, Array.replicate]) ?_
  simp only [Bool.false_eq_true, if_false]
  refine wpS_of_wp (wp_skip ?_)
  cases c₀
  simp_all [bodyPostS, results, Try.results17]
/-- The results laid. -/
def fin (W : World) (n : Nat) (s : ByteArray) (i f : Int) : World := (((W.setCell ⟨n + 1, 0, none⟩ (.string s)).setCell ⟨n + 1 + 1, 0, none⟩ (.int .i64 i)).setCell ⟨n + 1 + 1 + 1, 0, none⟩ (.int .i64 f))
theorem fin_below {B : Nat} {w W : World} {n : Nat} {s : ByteArray} {i f : Int} (h : Below B w W) (hn : B ≤ n) : Below B w (fin W n s i f) :=
  ((h.setCell (p := ⟨n + 1, 0, none⟩) (by simp only; omega) _).setCell (p := ⟨n + 1 + 1, 0, none⟩) (by simp only; omega) _).setCell (p := ⟨n + 1 + 1 + 1, 0, none⟩) (by simp only; omega) _
theorem fin_cells {W : World} {n : Nat} {s : ByteArray} {i f : Int} {x1 x2 x3 : Value} {t1 t2 t3 : TypeId} (h1 : W.heap[n + 1]? = some (.cells #[x1] t1 (0, 0))) (h2 : W.heap[n + 1 + 1]? = some (.cells #[x2] t2 (0, 0))) (h3 : W.heap[n + 1 + 1 + 1]? = some (.cells #[x3] t3 (0, 0))) :
    (fin W n s i f).cell? ⟨n + 1, 0, none⟩ = some (.string s) ∧ (fin W n s i f).cell? ⟨n + 1 + 1, 0, none⟩ = some (.int .i64 i) ∧ (fin W n s i f).cell? ⟨n + 1 + 1 + 1, 0, none⟩ = some (.int .i64 f) := by
  refine ⟨?_, ?_, ?_⟩
  · exact (blk_cell (t := t1) (blk_setO (blk_setO (blk_put h1 0 (.string s) rfl) (by simp only; omega) _) (by simp only; omega) _) 0).trans rfl
  · exact (blk_cell (t := t2) (blk_setO (blk_put (blk_setO h2 (by simp only; omega) _) 0 (.int .i64 i) rfl) (by simp only; omega) _) 0).trans rfl
  · exact (blk_cell (t := t3) (blk_put (blk_setO (blk_setO h3 (by simp only; omega) _) (by simp only; omega) _) 0 (.int .i64 f) rfl) 0).trans rfl
theorem Mid.start {xs : List (ByteArray × ByteArray)} {wc : Array Value} {w : World} : Mid xs wc 0 [] none 0 w ((((w.alloc (.cells wc 31)).alloc (.cells #[.string E0] 9)).alloc (.cells #[.int .i64 0] 3)).alloc (.cells #[.int .i64 0] 3)) :=
  ⟨blk_alloc (blk_alloc (blk_alloc (HSchema.blk_at _ rfl) _) _) _, blk_alloc (blk_alloc (HSchema.blk_at _ (by simp)) _) _, blk_alloc (HSchema.blk_at _ (by simp)) _, HSchema.blk_at _ (by simp), below_alloc (below_alloc (below_alloc (below_alloc (Below.refl _ _) _) _) _) _,
    Kd.R_nil _ _ _ _ _, fun _ h => (List.not_mem_nil h).elim, rfl, rfl, fun i h => by simp at h⟩
/-- What is told, and that nothing else is changed. -/
def Told3 (w : World) (r : ByteArray × Nat × Nat) (e : Ending) (w' : World) : Prop := e = .returned (.tuple #[.string r.1, .int .i64 r.2.1, .int .i64 r.2.2]) ∧ Below w.heap.size w w'
/-- The cells of a chart that stands in a slice. -/
theorem at_cells {w : World} {A : Option Addr} {n : Nat} {xs : List (ByteArray × ByteArray)} (h : Kd.C kCh w A n xs) (j : Nat) (hn : j < n) (hj : j < xs.length) : ∃ ad, A = some ad ∧ w.cell? (ad.add (j * 11)) = some (.string xs[j].1) ∧
    w.cell? ⟨(ad.add (j * 11)).block, (ad.add (j * 11)).off + 1, none⟩ = some (.string xs[j].2) ∧ w.cell? ⟨(ad.add (j * 11)).block, (ad.add (j * 11)).off + 2, none⟩ = some (.int .i64 0) ∧
    w.cell? ⟨(ad.add (j * 11)).block, (ad.add (j * 11)).off + 3, none⟩ = some (.bool false) ∧ w.cell? ⟨(ad.add (j * 11)).block, (ad.add (j * 11)).off + 4, none⟩ = some (.int .i64 0) ∧
    w.cell? ⟨(ad.add (j * 11)).block, (ad.add (j * 11)).off + 5, none⟩ = some (.float .f64 0) ∧ w.cell? ⟨(ad.add (j * 11)).block, (ad.add (j * 11)).off + 6, none⟩ = some (.string E0) ∧
    w.cell? ⟨(ad.add (j * 11)).block, (ad.add (j * 11)).off + 7, none⟩ = some (.slice none 0 0) ∧ w.cell? ⟨(ad.add (j * 11)).block, (ad.add (j * 11)).off + 8, none⟩ = some (.slice none 0 0) ∧
    w.cell? ⟨(ad.add (j * 11)).block, (ad.add (j * 11)).off + 9, none⟩ = some (.slice none 0 0) ∧ w.cell? ⟨(ad.add (j * 11)).block, (ad.add (j * 11)).off + 10, none⟩ = some (.slice none 0 0) := by
  obtain ⟨ad, e, hc⟩ := at_Ch h j hn hj
  refine ⟨ad, e, hc 0 _ rfl, ?_, ?_, ?_, ?_, ?_, ?_, ?_, ?_, ?_, ?_⟩
  · rw [← add_field _ _ 1 (by omega)]; exact hc 1 _ rfl
  · rw [← add_field _ _ 2 (by omega)]; exact hc 2 _ rfl
  · rw [← add_field _ _ 3 (by omega)]; exact hc 3 _ rfl
  · rw [← add_field _ _ 4 (by omega)]; exact hc 4 _ rfl
  · rw [← add_field _ _ 5 (by omega)]; exact hc 5 _ rfl
  · rw [← add_field _ _ 6 (by omega)]; exact hc 6 _ rfl
  · rw [← add_field _ _ 7 (by omega)]; exact hc 7 _ rfl
  · rw [← add_field _ _ 8 (by omega)]; exact hc 8 _ rfl
  · rw [← add_field _ _ 9 (by omega)]; exact hc 9 _ rfl
  · rw [← add_field _ _ 10 (by omega)]; exact hc 10 _ rfl
end Go.Proofs.Ytmjecafddklbjaa.HAlias
