/- A want as it is copied: its dependency under way, and done. -/
import Derived.Test.YtmjecafddklbjaaHIns
import Derived.Deep.LoopGhost
import Derived.Deep.RegionHeld3
import Derived.Deep.RegionLaw
namespace Go.Proofs.Ytmjecafddklbjaa.HAlias
open Go.RowKit Go.WideMaps Go.Maps Go.Proofs.YtmjecafddklbjaaW.PrintWords Go.Proofs.YtmjecafddklbjaaW.PrintLast Go.Proofs.YtmjecafddklbjaaW.PrintMore Go.Proofs.Ytmjecafddklbjaa.HMapI Go.Proofs.Ytmjecafddklbjaa.HSchema Go.Proofs.Ytmjecafddklbjaa.Plain Go.Proofs.Ytmjecafddklbjaa.GWants

/-- The copied want is held. -/
structure TK (p : Nat) (cs : Array Value) (w W : World) : Prop where
  box : W.heap[p]? = some (.cells cs 31 (0, 0))
  below : Below w.heap.size w W
theorem TK.drew {p : Nat} {cs : Array Value} {w W : World} (h : TK p cs w W) : TK p cs w W.drew := ⟨blk_drew h.box, below_drew h.below⟩
theorem TK.alloc {p : Nat} {cs : Array Value} {w W : World} (h : TK p cs w W) (o : Obj) : TK p cs w (W.alloc o) := ⟨blk_alloc h.box o, below_alloc h.below o⟩
theorem TK.far {p : Nat} {cs : Array Value} {w W W' : World} (h : TK p cs w W) (hb : Below W.heap.size W W') : TK p cs w W' := ⟨blk_below h.box hb, below_step h.below hb⟩
theorem TK.all {p : Nat} {n v cnd al : ByteArray} {t i : Value} {en : Bool} {w W : World} (h : TK p #[.string n, .string v, .string cnd, .string al, t, .bool en, i] w W) : W.cell? ⟨p, 0, none⟩ = some (.string n) ∧ W.cell? ⟨p, 1, none⟩ = some (.string v) ∧ W.cell? ⟨p, 2, none⟩ = some (.string cnd) ∧ W.cell? ⟨p, 3, none⟩ = some (.string al) ∧ W.cell? ⟨p, 4, none⟩ = some t ∧ W.cell? ⟨p, 5, none⟩ = some (.bool en) ∧ TK p #[.string n, .string v, .string cnd, .string al, t, .bool en, i] w W :=
  ⟨(blk_cell h.box 0).trans rfl, (blk_cell h.box 1).trans rfl, (blk_cell h.box 2).trans rfl, (blk_cell h.box 3).trans rfl, (blk_cell h.box 4).trans rfl, (blk_cell h.box 5).trans rfl, h⟩
theorem info9 : (Try.prog.info? 9).map (fun i => (i.zero, i.size, i.bytes)) = some (some (.string ⟨#[]⟩), 1, 16) := by kernel_rfl
theorem R_zero (W0 : World) (base : Nat) (hb : base ≤ W0.heap.size) : Kd.R Kd.string 9 (W0.alloc (.cells #[] 9)) base (fun _ => True) (.slice (some ⟨W0.heap.size, 0, none⟩) 0 0) ([] : List ByteArray) :=
  ⟨fun _ _ => trivial, [], by
    have h2 := World.ownsRow_lit (base := base) (e := 9) (size := 1) W0 #[] 0 hb (by decide) (by simp)
    have h3 : (W0.alloc (.cells #[] 9)).ownsRow base 9 1 (.slice (some ⟨W0.heap.size, 0, none⟩) 0 0) 0 [] := by simpa using h2
    exact h3, Reps.none _ _⟩
/-- The dependency under way: its block, and the row of what it imports. -/
structure Way (base d : Nat) (n v cnd al : ByteArray) (T : Value) (en : Bool) (A8 : Option Addr) (c8 : Nat) (l : List Value) (w W : World) : Prop where
  blk : W.heap[d]? = some (.cells #[.string n, .string v, .string E0, .string cnd, T, .bool en, .slice A8 l.length c8, .string al] 87 (0, 0))
  row : Kd.R kAny 20 W base (fun k => k ≠ d) (.slice A8 l.length c8) l
  below : Below w.heap.size w W
  base_le : w.heap.size ≤ base
  d_le : base ≤ d
set_option linter.unusedVariables false in
theorem Way.start {base d : Nat} {n v cnd al : ByteArray} {T : Value} {en : Bool} {w W : World} (h : W.heap[d]? = some (.cells #[.string n, .string v, .string E0, .string cnd, T, .bool en, .slice none 0 0, .string al] 87 (0, 0))) (hB : Below w.heap.size w W) (hb : w.heap.size ≤ base) (hd : base ≤ d) : Way base d n v cnd al T en none 0 [] w W :=
  ⟨h, Kd.R_nil kAny 20 W base (fun k => k ≠ d), hB, hb, hd⟩
theorem Way.dep {base d : Nat} {n v cnd al : ByteArray} {T : Value} {en : Bool} {A8 : Option Addr} {c8 : Nat} {l : List Value} {w W : World} (h : Way base d n v cnd al T en A8 c8 l w W) : Dep W d n v al :=
  ⟨blk_lt h.blk, (blk_cell h.blk 0).trans rfl, (blk_cell h.blk 1).trans rfl, (blk_cell h.blk 7).trans rfl⟩
theorem info73 : (Try.prog.info? 73).map (fun i => (i.zero, i.size, i.bytes)) = some (some (.pointer none), 1, 8) := by kernel_rfl
theorem Dep.below {W W' : World} {d : Nat} {n v al : ByteArray} (h : Dep W d n v al) (hb : Below W.heap.size W W') : Dep W' d n v al :=
  ⟨Nat.lt_of_lt_of_le h.lt hb.size, (World.cell?_of_block (hb.block d h.lt)).trans h.c0, (World.cell?_of_block (hb.block d h.lt)).trans h.c1, (World.cell?_of_block (hb.block d h.lt)).trans h.c7⟩
theorem Way.alloc {base d : Nat} {n v cnd al : ByteArray} {T : Value} {en : Bool} {A8 : Option Addr} {c8 : Nat} {l : List Value} {w W : World} (h : Way base d n v cnd al T en A8 c8 l w W) (o : Obj) : Way base d n v cnd al T en A8 c8 l w (W.alloc o) :=
  ⟨blk_alloc h.blk o, Kd.R_alloc h.row o, below_alloc h.below o, h.base_le, h.d_le⟩
theorem Way.drew {base d : Nat} {n v cnd al : ByteArray} {T : Value} {en : Bool} {A8 : Option Addr} {c8 : Nat} {l : List Value} {w W : World} (h : Way base d n v cnd al T en A8 c8 l w W) : Way base d n v cnd al T en A8 c8 l w W.drew :=
  ⟨blk_drew h.blk, Kd.R_drew h.row, below_drew h.below, h.base_le, h.d_le⟩
theorem Way.next {d : Nat} {n v cnd al : ByteArray} {T : Value} {en : Bool} {A8 A1 : Option Addr} {c8 c1 : Nat} {l : List Value} {x : Value} {w W w7 : World} (h : Way d d n v cnd al T en A8 c8 l w W)
    (hR : Kd.R kAny 20 w7 d (fun k => k ≠ d) (.slice A1 (l ++ [x]).length c1) (l ++ [x])) (hg : W.grownBy w7 (Value.slice A8 l.length c8).ownBlock) (hB : Below d W w7) :
    Way d d n v cnd al T en A1 c1 (l ++ [x]) w (w7.setCell ⟨d, 6, none⟩ (.slice A1 (l ++ [x]).length c1)) :=
  ⟨blk_put ((hg.block d (blk_lt h.blk) (fun e => h.row.1 d e.symm rfl)).trans h.blk) 6 _ rfl, Kd.R_far hR (fun _ hk => hk) _, (h.below.trans (hB.mono h.base_le)).setCell (p := ⟨d, 6, none⟩) h.base_le _, h.base_le, h.d_le⟩
theorem Way.at_d {d : Nat} {n v cnd al : ByteArray} {T : Value} {en : Bool} {A8 : Option Addr} {c8 : Nat} {l : List Value} {_w W w7 : World} (h : Way d d n v cnd al T en A8 c8 l _w W) (hg : W.grownBy w7 (Value.slice A8 l.length c8).ownBlock) :
    w7.heap[d]? = some (.cells #[.string n, .string v, .string E0, .string cnd, T, .bool en, .slice A8 l.length c8, .string al] 87 (0, 0)) := (hg.block d (blk_lt h.blk) (fun e => h.row.1 d e.symm rfl)).trans h.blk
theorem info20 : (Try.prog.info? 20).map (fun i => (i.zero, i.size, i.bytes)) = some (some .nilIface, 1, 16) := by kernel_rfl
theorem meas2 {L j : Nat} (h : j < L) : L - (intOf (.int .i64 ((j : Int) + 1))).toNat < L - (intOf (.int .i64 (j : Int))).toNat := by
  simp only [intOf]
  omega
theorem Way.later {base d : Nat} {n v cnd al : ByteArray} {T : Value} {en : Bool} {A8 : Option Addr} {c8 : Nat} {l : List Value} {w W W' : World} (h : Way base d n v cnd al T en A8 c8 l w W) (hb : Below W.heap.size W W') : Way base d n v cnd al T en A8 c8 l w W' :=
  ⟨blk_below h.blk hb, Kd.R_below h.row hb, below_step h.below hb, h.base_le, h.d_le⟩
theorem Way.own_ne {base d : Nat} {n v cnd al : ByteArray} {T : Value} {en : Bool} {A8 : Option Addr} {c8 : Nat} {l : List Value} {w W : World} (h : Way base d n v cnd al T en A8 c8 l w W) : some W.heap.size ≠ (Value.slice A8 l.length c8).ownBlock := fun e => by
  have := ((Kd.R_bound h.row).1 _ e.symm).2.2.1
  omega
/-- The cells of an import, behind what lies further. -/
theorem imp_below {w W : World} {r : Nat} {f1 f2 : ByteArray} (hr : r < w.heap.size) (hb : Below w.heap.size w W) (h : w.cell? ⟨r, 1, none⟩ = some (.string f1) ∧ w.cell? ⟨r, 2, none⟩ = some (.string f2)) : W.cell? ⟨r, 1, none⟩ = some (.string f1) ∧ W.cell? ⟨r, 2, none⟩ = some (.string f2) :=
  ⟨(World.cell?_of_block (hb.block r hr)).trans h.1, (World.cell?_of_block (hb.block r hr)).trans h.2⟩
theorem imp_grown {w W : World} {r : Nat} {o : Option Nat} {f1 f2 : ByteArray} (hr : r < w.heap.size) (hb : w.grownBy W o) (hne : some r ≠ o) (h : w.cell? ⟨r, 1, none⟩ = some (.string f1) ∧ w.cell? ⟨r, 2, none⟩ = some (.string f2)) : W.cell? ⟨r, 1, none⟩ = some (.string f1) ∧ W.cell? ⟨r, 2, none⟩ = some (.string f2) :=
  ⟨(World.cell?_of_block (hb.block r hr hne)).trans h.1, (World.cell?_of_block (hb.block r hr hne)).trans h.2⟩
theorem imp_set {w : World} {r d : Nat} {f1 f2 : ByteArray} {x : Value} (hne : r ≠ d) (h : w.cell? ⟨r, 1, none⟩ = some (.string f1) ∧ w.cell? ⟨r, 2, none⟩ = some (.string f2)) : (w.setCell ⟨d, 6, none⟩ x).cell? ⟨r, 1, none⟩ = some (.string f1) ∧ (w.setCell ⟨d, 6, none⟩ x).cell? ⟨r, 2, none⟩ = some (.string f2) :=
  ⟨(World.cell?_of_block (Below.heap_setCell w ⟨d, 6, none⟩ x r hne)).trans h.1, (World.cell?_of_block (Below.heap_setCell w ⟨d, 6, none⟩ x r hne)).trans h.2⟩
theorem fresh_d {W : World} {d : Nat} (h : d < W.heap.size) : ∀ k, W.heap.size ≤ k → k ≠ d := fun k hk e => by omega
theorem bytes_l {l : List Value} {j L : Nat} (h1 : l.length = j) (h2 : L ≤ 20) (h3 : j < L) : (l.length + 1) * 16 ≤ 140737488355328 := by omega
/-- A row of one pointer. -/
theorem one_of {base : Nat} {w W : World} {v : Value} {d : Nat} {n x al : ByteArray} (h : Kd.R kPtr 73 W base (fun _ => True) v ([] ++ [d])) (hD : Dep W d n x al) (hB : Below w.heap.size w W) :
    ∃ g c d, v = .slice (some ⟨g, 0, none⟩) 1 c ∧ W.cell? ⟨g, 0, none⟩ = some (.pointer (some ⟨d, 0, none⟩)) ∧ Dep W d n x al ∧ Below w.heap.size w W := by
  obtain ⟨A2, c2, rfl⟩ := Kd.R_slice h
  obtain ⟨inner, hi⟩ := Kd.R_own h
  obtain ⟨g, cap, e1, _⟩ := hi.form (by simp)
  injection e1 with e2 e3 e4
  subst e2
  obtain ⟨ad, e, hx⟩ := at_Ptr (Kd.R_reads' h).2.2 0 (by simp) (by simp)
  cases e
  exact ⟨g, c2, d, rfl, by simpa [Addr.add] using hx, hD, hB⟩
/-- Dependencies of one. -/
def One (w : World) (n v al : ByteArray) (e : Ending) (w' : World) : Prop := ∃ g c d, e = .returned (.tuple #[.slice (some ⟨g, 0, none⟩) 1 c, .bool true]) ∧ w'.cell? ⟨g, 0, none⟩ = some (.pointer (some ⟨d, 0, none⟩)) ∧ Dep w' d n v al ∧ Below w.heap.size w w'
end Go.Proofs.Ytmjecafddklbjaa.HAlias
