/- What the package's own parts of AliasDependency come to: no values, a chart without dependencies. -/
import Derived.Test.YtmjecafddklbjaaHSchemaKeys
import Derived.Test.YtmjecafddklbjaaGWantsx
import Derived.Deep.DeepMust
namespace Go.Proofs.Ytmjecafddklbjaa.HAlias
open Go.RowKit Go.WideMaps Go.Maps Go.Proofs.YtmjecafddklbjaaW.PrintWords Go.Proofs.Ytmjecafddklbjaa.HMapI Go.Proofs.Ytmjecafddklbjaa.HSchema Go.Proofs.Ytmjecafddklbjaa.Plain Go.Proofs.Ytmjecafddklbjaa.GWants

abbrev E0 : ByteArray := ⟨#[]⟩
/-- No value. -/
abbrev zv : Value := .agg #[.int .i64 0, .bool false, .int .i64 0, .float .f64 0, .string E0, .slice none 0 0, .slice none 0 0]
set_option maxHeartbeats 1000000 in
theorem any0 (pb : Nat) (w : World) (h : w.heap[pb]? = some (.cells #[.int .i64 0] 3 (0, 0))) :
    Calls Try.prog 27 #[zv, .int .i64 0, .pointer (some ⟨pb, 0, none⟩)] w fun e w' => e = .returned (.tuple #[.nilIface, .bool true]) ∧ Below pb w w' := by
  have hlt := blk_lt h
  have c := (blk_cell h 0).trans rfl
  have f := blk_frozen h 0
  have HB := Aside0.mk (((Below.refl pb w).setCell (p := ⟨pb, 0, none⟩) (Nat.le_refl _) (.int .i64 1)).alloc (by simp [World.setCell]; omega) (.cells #[.int .i64 0, .bool false, .int .i64 0, .float .f64 0, .string E0, .slice none 0 0, .slice none 0 0] 39 (0, 0)))
  go_enter Try.func27, Try.ntmps27
  go_wp2
  go_ret2
  exact ⟨rfl, HB.out⟩

theorem as_map (w : World) : (Instr.typeAssert .nilIface 20 65 true).run Try.prog w = .ok (.tuple #[.map none, .bool false]) w := by kernel_rfl
abbrev zcells : Array Value := #[.int .i64 0, .bool false, .int .i64 0, .float .f64 0, .string E0, .slice none 0 0, .slice none 0 0]
set_option maxHeartbeats 1000000 in
theorem table0 (w : World) : Calls Try.prog 23 #[zv] w fun e w' => e = .returned (.tuple #[.map none, .bool true]) ∧ Below w.heap.size w w' := by
  have ta := as_map
  go_enter Try.func23, Try.ntmps23
  go_wp2_with (go_at_call 27; go_must (refine (any0 _ _ (HSchema.blk_at _ (by simp))).mono ?_; rintro e w1 ⟨rfl, hb⟩; have c := (blk_cell ((hb.block w.heap.size (by omega)).trans (blk_alloc (HSchema.blk_at (w := w) (.cells zcells 39) rfl) _)) 0).trans rfl; have HB := Aside0.mk ((((Below.refl w.heap.size w).alloc (Nat.le_refl _) (.cells zcells 39)).alloc (by simp) (.cells #[.int .i64 0] 3)).trans (hb.mono (by omega))); clear hb))
  go_region
  go_wp2
  go_ret2
  exact ⟨rfl, below_drew HB.out⟩

theorem wants0 (w : World) : Calls Try.prog 19 #[.slice none 0 0] w fun e w' => e = .returned (.tuple #[.slice none 0 0, .bool true]) ∧ w' = w := by
  go_enter Try.func19, Try.ntmps19
  go_wp2
  go_loop [4, 12] (fun o i => o = .slice none 0 0 ∧ i = .int .i64 0) (fun _ _ => 0)
  case atStart => exact ⟨rfl, rfl⟩
  case round =>
    obtain ⟨rfl, rfl⟩ := hrel
    go_wp2
    go_ret2
    exact ⟨rfl, rfl⟩

/-- A chart as it is made of a name and a version. -/
abbrev cv (n v : ByteArray) : Value := .agg #[.string n, .string v, .int .i64 0, .bool false, .int .i64 0, .float .f64 0, .string E0, .slice none 0 0, .slice none 0 0, .slice none 0 0, .slice none 0 0]
/-- A chart as the package has it. -/
structure Chart (W : World) (q m : Nat) (n v : ByteArray) (vals : Option Nat) : Prop where
  at_q : W.heap[q]? = some (.cells #[.pointer (some ⟨m, 0, none⟩), .map vals, .pointer none, .slice none 0 0] 68 (0, 0))
  at_m : W.heap[m]? = some (.cells #[.string n, .string v, .slice none 0 0] 84 (0, 0))
def Made (w : World) (n v : ByteArray) (e : Ending) (w' : World) : Prop := ∃ q m, e = .returned (.tuple #[.pointer (some ⟨q, 0, none⟩), .bool true]) ∧ Chart w' q m n v none ∧ w.heap.size ≤ q ∧ w.heap.size ≤ m ∧ q ≠ m ∧ Below w.heap.size w w'
set_option maxHeartbeats 1000000 in
theorem chart0 (n v : ByteArray) (k : Nat) (hk : impl_plain.f k v = some true) (w : World) : Calls Try.prog 18 #[cv n v, .int .i64 0] w (Made w n v) := by
  have HK := Aside0.mk hk
  clear hk
  go_enter Try.func18, Try.ntmps18
  go_wp2_with (first
    | (go_at_call 23; go_must (refine (table0 _).mono ?_; rintro e w1 ⟨rfl, hb⟩; have HQ := Aside0.mk (blk_below (HSchema.blk_at (w := w) (.cells #[.string n, .string v, .int .i64 0, .bool false, .int .i64 0, .float .f64 0, .string E0, .slice none 0 0, .slice none 0 0, .slice none 0 0, .slice none 0 0] 42) rfl) hb); have HB := Aside0.mk (below_step (below_alloc (Below.refl w.heap.size w) _) hb); clear hb; have c0 := (blk_cell HQ.out 0).trans rfl; have c1 := (blk_cell HQ.out 1).trans rfl; have c2 := (blk_cell HQ.out 9).trans rfl; have c3 := (blk_cell HQ.out 10).trans rfl))
    | (go_at_call 19; refine (wants0 _).mono ?_; rintro e w2 ⟨rfl, rfl⟩)
    | (go_at_call 24; go_must (refine (impl_plain.calls k v true _ HK.out).mono ?_; rintro e w3 ⟨rfl, hd⟩; obtain ⟨nd, hw3⟩ := hd.out; have HQ3 := Aside0.mk (by rw [hw3]; exact blk_drewN HQ.out nd : w3.heap[w.heap.size]? = some (.cells #[.string n, .string v, .int .i64 0, .bool false, .int .i64 0, .float .f64 0, .string E0, .slice none 0 0, .slice none 0 0, .slice none 0 0, .slice none 0 0] 42 (0, 0))); have HB3 := Aside0.mk (by rw [hw3]; exact pw_below_drewN HB.out nd : Below w.heap.size w w3); clear hw3 hd c0 c1 c2 c3; have c0 := (blk_cell HQ3.out 0).trans rfl; have c1 := (blk_cell HQ3.out 1).trans rfl; have c2 := (blk_cell HQ3.out 9).trans rfl; have hlt := blk_lt HQ3.out; have ne1 : w.heap.size ≠ w3.heap.size := Nat.ne_of_lt hlt; have ne2 : w.heap.size ≠ w3.heap.size + 1 := Nat.ne_of_lt (Nat.lt_succ_of_lt hlt))))
  go_loop [62] (fun i => i = .int .i64 0) (fun _ => 0)
  case atStart => rfl
  case round =>
    subst hrel
    go_wp2
    go_ret2
    refine ⟨w3.heap.size + 1, w3.heap.size, rfl, ⟨HSchema.blk_at _ (by simp), blk_alloc (HSchema.blk_at _ rfl) _⟩, ?_, ?_, ?_, ?_⟩
    · omega
    · omega
    · omega
    · exact below_alloc (below_alloc HB3.out _) _

set_option maxHeartbeats 1000000 in
theorem name0 (q m : Nat) (n v : ByteArray) (vals : Option Nat) (w : World) (h : Chart w q m n v vals) : Calls Try.prog 21 #[.pointer (some ⟨q, 0, none⟩)] w fun e w' => e = .returned (.string n) ∧ w' = w := by
  have c1 := (blk_cell h.at_q 0).trans rfl
  have c2 := (blk_cell h.at_m 0).trans rfl
  go_enter Try.func21, Try.ntmps21
  go_wp2
  go_ret
  exact ⟨rfl, rfl⟩

theorem range0 (a b : ByteArray) (w : World) : Calls Try.prog 28 #[.string a, .string b] w fun e w' => e = .returned (.bool (decide (a = b))) ∧ w' = w := by
  go_enter Try.func28, Try.ntmps28
  go_wp2
  go_ret
  exact ⟨by show Ending.returned (.bool (a.toList == b.toList)) = _; rw [beq_toList], rfl⟩
end Go.Proofs.Ytmjecafddklbjaa.HAlias
