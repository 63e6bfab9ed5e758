/- What AliasDependency has made of the charts so far; the first chart of a name and version by its place. -/
import Derived.Test.YtmjecafddklbjaaHIns
namespace Go.Proofs.Ytmjecafddklbjaa.HAlias
open Go.RowKit Go.WideMaps Go.Maps Go.Proofs.YtmjecafddklbjaaW.PrintWords Go.Proofs.YtmjecafddklbjaaW.PrintLast Go.Proofs.YtmjecafddklbjaaW.PrintMore Go.Proofs.Ytmjecafddklbjaa.HMapI Go.Proofs.Ytmjecafddklbjaa.HSchema Go.Proofs.Ytmjecafddklbjaa.Plain Go.Proofs.Ytmjecafddklbjaa.GWants

/-- The place of the first chart of a name and version. -/
def place (n v : ByteArray) : List (ByteArray × ByteArray) → Option Nat
  | [] => none
  | x :: r => if x.1 = n ∧ x.2 = v then some 0 else (place n v r).map (· + 1)
/-- The name, the place and the fault that are told. -/
def answer (xs : List (ByteArray × ByteArray)) (n v al : ByteArray) : ByteArray × Nat × Nat :=
  match place n v xs with
  | none => (E0, 0, 1)
  | some i => (named al n, i, 0)
theorem pick_place (n v : ByteArray) : ∀ cs : List Ch,
    (pick n v cs = none ∧ place n v (cs.map fun x => (x.n, x.v)) = none) ∨ ∃ (i : Nat) (h : i < cs.length), pick n v cs = some cs[i] ∧ place n v (cs.map fun x => (x.n, x.v)) = some i ∧ cs[i].n = n
  | [] => .inl ⟨rfl, rfl⟩
  | x :: r => by
    by_cases h : x.n = n ∧ x.v = v
    · exact .inr ⟨0, by simp, by simp [pick, h], by simp [place, h], h.1⟩
    · rcases pick_place n v r with ⟨h1, h2⟩ | ⟨i, hi, h1, h2, h3⟩
      · exact .inl ⟨by simp [pick, h, h1], by simp only [List.map_cons, place]; rw [if_neg h, h2]; rfl⟩
      · exact .inr ⟨i + 1, by simp [hi], by simp [pick, h, h1], by simp only [List.map_cons, place]; rw [if_neg h, h2]; rfl, by simpa using h3⟩

/-- The map that tells a chart's place. -/
def atMap (i : Nat) : Obj := .map #[{ key := .string ⟨#[97, 116]⟩, val := .iface 2 (.int .i64 i), born := 0 }] (0 + 1)
theorem look_at {W : World} {B i : Nat} (h : W.heap[B]? = some (atMap i)) : (Instr.lookup 65 (.map (some B)) (.string ⟨#[97, 116]⟩) false).run Try.prog W = .ok (.iface 2 (.int .i64 i)) W := by
  have hk : Try.prog.underlying 9 = some .string := rfl
  have hm : Try.prog.underlying 65 = some (.map 9 20) := rfl
  have hc : (Instr.checkKey false 10000 9 (.string ⟨#[97, 116]⟩)).run Try.prog W = .ok () W := MapKept.run_checkKey (k := .string ⟨#[97, 116]⟩) hk (by simp [MapKept.IsKey]) false 9999
  have hf : Instr.findNow .string (.string ⟨#[97, 116]⟩) ([{ key := .string ⟨#[97, 116]⟩, val := .iface 2 (.int .i64 i), born := 0 }] : List MapEntry) 0 = some (some (0, .iface 2 (.int .i64 i))) := by rfl
  simp [Instr.lookup, run_underlying hm, MapKept.run_getObj_map h, hc, MapKept.run_findKey hk hf, Result.andThen]
theorem as_place (i : Int) (W : World) : (Instr.typeAssert (.iface 2 (.int .i64 i)) 20 2 false).run Try.prog W = .ok (.int .i64 i) W := by kernel_rfl

/-- The blocks that charts do not have. -/
def okc (cs : List Ch) (k : Nat) : Prop := ∀ x ∈ cs, k ≠ x.q ∧ k ≠ x.m ∧ ∀ b, x.vals = some b → k ≠ b
structure Mid (xs : List (ByteArray × ByteArray)) (wc : Array Value) (j : Nat) (cs : List Ch) (A7 : Option Addr) (c7 : Nat) (w W : World) : Prop where
  b0 : W.heap[w.heap.size]? = some (.cells wc 31 (0, 0))
  b1 : W.heap[w.heap.size + 1]? = some (.cells #[.string E0] 9 (0, 0))
  b2 : W.heap[w.heap.size + 1 + 1]? = some (.cells #[.int .i64 0] 3 (0, 0))
  b3 : W.heap[w.heap.size + 1 + 1 + 1]? = some (.cells #[.int .i64 0] 3 (0, 0))
  below : Below w.heap.size w W
  row : Kd.R kPtr 62 W (w.heap.size + 1 + 1 + 1 + 1) (okc cs) (.slice A7 cs.length c7) (cs.map (·.q))
  ins : ∀ x ∈ cs, x.In W
  len : cs.length = j
  same : cs.map (fun x => (x.n, x.v)) = xs.take j
  maps : ∀ (i : Nat) (h : i < cs.length), ∃ B, cs[i].vals = some B ∧ W.heap[B]? = some (atMap i)
theorem Mid.later {xs : List (ByteArray × ByteArray)} {wc : Array Value} {j : Nat} {cs : List Ch} {A7 : Option Addr} {c7 : Nat} {w W W' : World} (h : Mid xs wc j cs A7 c7 w W) (hb : Below W.heap.size W W') : Mid xs wc j cs A7 c7 w W' :=
  ⟨blk_below h.b0 hb, blk_below h.b1 hb, blk_below h.b2 hb, blk_below h.b3 hb, below_step h.below hb, Kd.R_below h.row hb, fun x hx => (h.ins x hx).below hb, h.len, h.same, fun i hi => by
    obtain ⟨B, e1, e2⟩ := h.maps i hi
    exact ⟨B, e1, blk_below e2 hb⟩⟩
/-- The row where a new chart is made, which is none of its blocks. -/
theorem Mid.wide {xs : List (ByteArray × ByteArray)} {wc : Array Value} {j : Nat} {cs : List Ch} {A7 : Option Addr} {c7 : Nat} {w W W' : World} (h : Mid xs wc j cs A7 c7 w W) (hb : Below W.heap.size W W') (x : Ch) (hq : W.heap.size ≤ x.q) (hm : W.heap.size ≤ x.m) (hv : ∀ b, x.vals = some b → W.heap.size ≤ b) :
    Kd.R kPtr 62 W' (w.heap.size + 1 + 1 + 1 + 1) (okc (cs ++ [x])) (.slice A7 cs.length c7) (cs.map (·.q)) := by
  refine Kd.R_below (Kd.R_mono (Kd.R_bound h.row) fun k hk => ?_) hb
  intro y hy
  rcases List.mem_append.1 hy with hy | hy
  · exact hk.1 y hy
  · rw [List.mem_singleton] at hy
    subst hy
    have hl := hk.2.2.1
    exact ⟨by omega, by omega, fun b e => by have := hv b e; omega⟩
theorem okc_new {W : World} {cs : List Ch} (hin : ∀ x ∈ cs, x.In W ∧ ∀ b, x.vals = some b → b < W.heap.size) : ∀ k, W.heap.size ≤ k → okc cs k := by
  intro k hk x hx
  obtain ⟨h1, h2⟩ := hin x hx
  have := blk_lt h1.at_q
  have := blk_lt h1.at_m
  exact ⟨by omega, by omega, fun b e => by have := h2 b e; omega⟩
theorem Mid.fresh {xs : List (ByteArray × ByteArray)} {wc : Array Value} {j : Nat} {cs : List Ch} {A7 : Option Addr} {c7 : Nat} {w W : World} (h : Mid xs wc j cs A7 c7 w W) (x : Ch) (hx : x.In W) (i : Nat) (B : Nat) (hv : x.vals = some B) (hB : W.heap[B]? = some (atMap i)) : ∀ k, W.heap.size ≤ k → okc (cs ++ [x]) k := by
  refine okc_new fun y hy => ?_
  rcases List.mem_append.1 hy with hy | hy
  · refine ⟨h.ins y hy, fun b e => ?_⟩
    obtain ⟨i, hi, rfl⟩ := List.mem_iff_getElem.1 hy
    obtain ⟨B', e1, e2⟩ := h.maps i hi
    rw [e1] at e
    injection e with e
    subst e
    exact blk_lt e2
  · rw [List.mem_singleton] at hy
    subst hy
    exact ⟨hx, fun b e => by rw [hv] at e; injection e with e; subst e; exact blk_lt hB⟩
/-- One more chart. -/
theorem Mid.next {xs : List (ByteArray × ByteArray)} {wc : Array Value} {j : Nat} {cs : List Ch} {A7 A1 : Option Addr} {c7 c1 : Nat} {w W W1 : World} {x : Ch} {B : Nat} (hM : Mid xs wc j cs A7 c7 w W) (hj : j < xs.length) (hx : x.In W) (hn : (x.n, x.v) = xs[j]) (hv : x.vals = some B) (hB : W.heap[B]? = some (atMap j))
    (hK : Kd.R kPtr 62 W (w.heap.size + 1 + 1 + 1 + 1) (okc (cs ++ [x])) (.slice A7 cs.length c7) (cs.map (·.q)))
    (hR : Kd.R kPtr 62 W1 (w.heap.size + 1 + 1 + 1 + 1) (okc (cs ++ [x])) (.slice A1 (cs.map (·.q) ++ [x.q]).length c1) (cs.map (·.q) ++ [x.q])) (hg : W.grownBy W1 (Value.slice A7 cs.length c7).ownBlock) : Mid xs wc (j + 1) (cs ++ [x]) A1 c1 w W1 := by
  have hb := hM.below.size
  have hK2 := Kd.R_bound hK
  have old : ∀ {b : Nat} {o : Obj}, W.heap[b]? = some o → b < w.heap.size + 1 + 1 + 1 + 1 → W1.heap[b]? = some o := fun {b o} h hlt =>
    (hg.block b (blk_lt h) (fun e => by have := (hK2.1 b e.symm).2.1; omega)).trans h
  have far : ∀ {b : Nat} {o : Obj}, W.heap[b]? = some o → (okc (cs ++ [x]) b → False) → W1.heap[b]? = some o := fun {b o} h hno =>
    (hg.block b (blk_lt h) (fun e => hno (hK.1 b e.symm))).trans h
  refine ⟨old hM.b0 (by omega), old hM.b1 (by omega), old hM.b2 (by omega), old hM.b3 (by omega), ?_, ?_, ?_, ?_, ?_, ?_⟩
  · exact pw_below_grown hM.below _ hM.below.size hg (fun k hk => by have := (hK2.1 k hk).2.1; omega)
  · simpa using hR
  · intro y hy
    have hy0 : y.In W := by
      rcases List.mem_append.1 hy with hy | hy
      · exact hM.ins y hy
      · rw [List.mem_singleton] at hy
        subst hy
        exact hx
    exact ⟨far hy0.at_q (fun h => (h y hy).1 rfl), far hy0.at_m (fun h => (h y hy).2.1 rfl)⟩
  · simp [hM.len]
  · rw [List.map_append, hM.same, List.map_singleton, hn, List.take_succ_eq_append_getElem hj]
  · intro i hi
    rw [List.length_append, List.length_singleton] at hi
    by_cases h : i < cs.length
    · obtain ⟨B', e1, e2⟩ := hM.maps i h
      refine ⟨B', by rw [List.getElem_append_left h]; exact e1, far e2 (fun ho => ?_)⟩
      exact (ho cs[i] (List.mem_append_left _ (List.getElem_mem h))).2.2 B' e1 rfl
    · have e : i = cs.length := by omega
      subst e
      refine ⟨B, by simpa using hv, far ?_ (fun ho => (ho x (by simp)).2.2 B hv rfl)⟩
      rw [hB, hM.len]
end Go.Proofs.Ytmjecafddklbjaa.HAlias
