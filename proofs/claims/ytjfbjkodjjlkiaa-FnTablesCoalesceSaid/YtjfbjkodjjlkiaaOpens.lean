/- What can be read as data at a type is a value of a kind, and is bounded where its weights are: strings, whole numbers, bools, slices, structs. -/
import Derived.Test.YtjfbjkodjjlkiaaWSized
import Derived.Test.YtjfbjkodjjlkiaaWMore
import Derived.SizedLaws
import Derived.ChangeSlices
namespace Go.Proofs.Ytjfbjkodjjlkiaa.Opens
open Go.ChangeShapes Go.WideShapes Go.Proofs.YtjfbjkodjjlkiaaW.PrintWords

/-- Whatever reads at type t with at most m steps is of kind d; and S holds of it where all weights are within reach. -/
def OpensAt {α : Type} (P : Program) (m : Nat) (t : TypeId) (d : Kd α) (S : α → Prop) : Prop :=
  ∀ (H : Type) (enc : TypeId × Value → H) (w : World) (base : Nat) (spare : Nat → Bool) (held : Bool) (fuel : Nat) (cs : List Value) (x : DataW H × List MemPlace),
    fuel ≤ m → DataW.trod enc P w base spare held fuel t cs = some x → ∃ a, d.K w a cs ∧ ((∀ n ∈ x.1.weights P t, n ≤ 140737488351232) → S a)

theorem OpensAt.less {α : Type} {P : Program} {m m' : Nat} {t : TypeId} {d : Kd α} {S : α → Prop} (h : OpensAt P m t d S) (hm : m' ≤ m) : OpensAt P m' t d S :=
  fun H enc w base spare held fuel cs x hf ht => h H enc w base spare held fuel cs x (Nat.le_trans hf hm) ht

theorem OpensAt.imp {α : Type} {P : Program} {m : Nat} {t : TypeId} {d : Kd α} {S S' : α → Prop} (h : OpensAt P m t d S) (hS : ∀ a, S a → S' a) : OpensAt P m t d S' :=
  fun H enc w base spare held fuel cs x hf ht => by
    obtain ⟨a, h1, h2⟩ := h H enc w base spare held fuel cs x hf ht
    exact ⟨a, h1, fun hw => hS a (h2 hw)⟩

theorem opens_string {P : Program} {t : TypeId} (m : Nat) (ht : P.underlying t = some .string) : OpensAt P m t Kd.string (fun s => s.size ≤ 140737488351232) := by
  intro H enc w base spare held fuel cs x _ h
  obtain ⟨s, rfl, rfl, hs⟩ := DataW.trod_string ht h
  refine ⟨s, rfl, fun hw => ?_⟩
  have := hw s.data.toList.length (by simp [DataW.weights])
  rw [Array.length_toList] at this
  exact this

theorem opens_int {P : Program} {t : TypeId} {k : IntKind} (m : Nat) (ht : P.underlying t = some (.int k)) : OpensAt P m t (Kd.int k) (fun n => (Lit.int k n).wf = true) := by
  intro H enc w base spare held fuel cs x _ h
  obtain ⟨n, rfl, rfl, hn⟩ := DataW.trod_int ht h
  exact ⟨n, rfl, fun _ => hn⟩

theorem opens_bool {P : Program} {t : TypeId} (m : Nat) (ht : P.underlying t = some .bool) : OpensAt P m t Kd.bool (fun _ => True) := by
  intro H enc w base spare held fuel cs x _ h
  obtain ⟨n, rfl, rfl⟩ := DataW.trod_bool ht h
  exact ⟨n, rfl, fun _ => trivial⟩

theorem weightsAll_mem {H : Type} {P : Program} {e : TypeId} : ∀ {l : List (DataW H)} {d : DataW H}, d ∈ l → ∀ n ∈ d.weights P e, n ∈ DataW.weightsAll P e l
  | d0 :: l, d, hd, n, hn => by
    simp only [DataW.weightsAll, List.mem_append]
    rcases List.mem_cons.1 hd with rfl | hd
    · exact .inl hn
    · exact .inr (weightsAll_mem hd n hn)
  | [], _, hd, _, _ => by cases hd

theorem list_choose {α β : Type} {R : Nat → α → β → Prop} : ∀ (l : List α) (_ : ∀ i x, l[i]? = some x → ∃ b, R i x b), ∃ bs : List β, bs.length = l.length ∧ ∀ i x, l[i]? = some x → ∃ b, bs[i]? = some b ∧ R i x b := by
  intro l
  induction l generalizing R with
  | nil => intro _; exact ⟨[], rfl, fun i x h => by simp at h⟩
  | cons x l ih =>
    intro h
    obtain ⟨b, hb⟩ := h 0 x rfl
    obtain ⟨bs, hl, hbs⟩ := ih (R := fun i x b => R (i + 1) x b) (fun i y hy => h (i + 1) y (by simpa using hy))
    refine ⟨b :: bs, by simp [hl], ?_⟩
    intro i y hy
    cases i with
    | zero => simp at hy; subst hy; exact ⟨b, rfl, hb⟩
    | succ i => simpa using hbs i y (by simpa using hy)

theorem cells_get {w : World} {base : Nat} {a : Addr} {n : Nat} {c : List Value} (h : w.cells? base a n = some c) : c.length = n ∧ ∀ i u, c[i]? = some u → w.cell? (a.add i) = some u := by
  unfold World.cells? at h
  split at h
  · have hl : c.length = n := by have := mapM_some_length h; simpa using this
    refine ⟨hl, fun i u hu => ?_⟩
    have hi : i < n := by rw [← hl]; exact (List.getElem?_eq_some_iff.1 hu).1
    rw [← hu]
    exact mapM_some_get h i i (by simp [hi])
  · cases h

theorem opens_slice {α : Type} {P : Program} {m : Nat} {t e e' : TypeId} {d : Kd α} {S : α → Prop} {B : Nat} (ht : P.underlying t = some (.slice e)) (hc : P.cellsOf e = d.sz) (hB : P.bytesOf e = B) (h : OpensAt P m e d S) :
    OpensAt P (m + 1) t (Kd.slice e' d) (fun l => l.length ≤ maxLen ∧ l.length * B ≤ 140737488351232 ∧ ∀ a ∈ l, S a) := by
  intro H enc w base spare held fuel cs x hf hx
  rcases DataW.trod_slice ht hx with ⟨rfl, rfl⟩ | ⟨a, len, cap, elems, rest, n, rfl, rfl, rfl, hb, hl, hm, hlen, hel, hsp, hns⟩
  · exact ⟨[], ⟨none, 0, rfl, Nat.le_refl _, rfl, by simp, fun hn => absurd hn (by simp)⟩, fun _ => ⟨by simp, by simp, fun a ha => by cases ha⟩⟩
  · have hn : n ≤ m := by omega
    have each : ∀ i y, elems[i]? = some y → ∃ b : α, (∃ c, c.length = d.sz ∧ d.K w b c ∧ ∀ j u, c[j]? = some u → w.cell? (a.add (i * d.sz + j)) = some u) ∧ ((∀ n ∈ y.1.weights P e, n ≤ 140737488351232) → S b) := by
      intro i y hy
      have hi : i < len := by rw [← hlen]; exact (List.getElem?_eq_some_iff.1 hy).1
      have := hel i hi
      rw [hy, hc, Option.bind_eq_some_iff] at this
      obtain ⟨c, hcs, hy'⟩ := this
      obtain ⟨hcl, hcg⟩ := cells_get hcs
      obtain ⟨b, hb1, hb2⟩ := h H enc w base spare held n c y hn hy'
      refine ⟨b, ⟨c, hcl, hb1, fun j u hu => ?_⟩, hb2⟩
      have := hcg j u hu
      rw [Addr.add_add] at this
      exact this
    obtain ⟨bs, hbl, hbs⟩ := list_choose elems each
    have hlm : len ≤ 9223372036854775807 := Nat.le_trans hl hm
    refine ⟨bs, ⟨some a, cap, by rw [hbl, hlen], by rw [hbl, hlen]; exact hl, rfl, by rw [hbl, hlen]; exact hlm, fun _ => ⟨a, rfl, ?_⟩⟩, ?_⟩
    · intro j p hp
      have hj : j < elems.length := by rw [← hbl]; exact (List.getElem?_eq_some_iff.1 hp).1
      obtain ⟨b, hb1, hb2, _⟩ := hbs j _ (List.getElem?_eq_getElem hj)
      have : b = p := Option.some.inj (hb1.symm.trans hp)
      subst this
      exact hb2
    · intro hw
      simp only [DataW.weights, ht] at hw
      have h1 := hw _ (List.mem_cons_self)
      rw [hB, List.length_map, List.length_map] at h1
      refine ⟨by rw [hbl, hlen]; exact hlm, ?_, ?_⟩
      · rw [hbl]
        exact Nat.le_trans (Nat.mul_le_mul_right _ (Nat.le_add_right _ _)) h1
      · intro p hp
        obtain ⟨j, hj⟩ := List.getElem?_of_mem hp
        have hj' : j < elems.length := by rw [← hbl]; exact (List.getElem?_eq_some_iff.1 hj).1
        obtain ⟨b, hb1, _, hb3⟩ := hbs j _ (List.getElem?_eq_getElem hj')
        have : b = p := Option.some.inj (hb1.symm.trans hj)
        subst this
        refine hb3 (fun n hn' => hw n ?_)
        rw [List.mem_cons, List.mem_append]
        exact .inr (.inl (weightsAll_mem (List.mem_map_of_mem (List.getElem_mem hj')) n hn'))

/-! ### structs -/
/-- Types in line, from cell 0 on. -/
def OpensRow {α : Type} (P : Program) (m : Nat) (ts : List TypeId) (d : Kd α) (S : α → Prop) : Prop :=
  ∀ (H : Type) (enc : TypeId × Value → H) (w : World) (base : Nat) (spare : Nat → Bool) (held : Bool) (fuel : Nat) (cs : List Value) (xs : List (DataW H × List MemPlace)),
    fuel ≤ m → cs.length = d.sz → xs.length = ts.length →
    (∀ i t, ts[i]? = some t → DataW.trod enc P w base spare held fuel t ((cs.drop ((ts.take i).map P.cellsOf).sum).take (P.cellsOf t)) = xs[i]?) →
    ∃ a, d.K w a cs ∧ ((∀ n ∈ DataW.weightsEach P ts (xs.map (·.1)), n ≤ 140737488351232) → S a)

theorem opensRow_one {α : Type} {P : Program} {m : Nat} {t : TypeId} {d : Kd α} {S : α → Prop} (h : OpensAt P m t d S) (hc : P.cellsOf t = d.sz) : OpensRow P m [t] d S := by
  intro H enc w base spare held fuel cs xs hf hl hxs hall
  have := hall 0 t rfl
  simp only [List.take_zero, List.map_nil, List.sum_nil, List.drop_zero] at this
  rw [hc, ← hl, List.take_length] at this
  match xs, hxs with
  | [x], _ =>
    obtain ⟨a, h1, h2⟩ := h H enc w base spare held fuel cs x hf this
    exact ⟨a, h1, fun hw => h2 (fun n hn => hw n (by simp [DataW.weightsEach, hn]))⟩

theorem opensRow_cons {α β : Type} {P : Program} {m : Nat} {t : TypeId} {ts : List TypeId} {d : Kd α} {d' : Kd β} {S : α → Prop} {S' : β → Prop} (h : OpensAt P m t d S) (hc : P.cellsOf t = d.sz) (hr : OpensRow P m ts d' S') :
    OpensRow P m (t :: ts) (Kd.pair d d') (fun x => S x.1 ∧ S' x.2) := by
  intro H enc w base spare held fuel cs xs hf hl hxs hall
  have hl' : cs.length = d.sz + d'.sz := hl
  match xs, hxs with
  | x :: xs, hxs =>
    have h0 := hall 0 t rfl
    simp only [List.take_zero, List.map_nil, List.sum_nil, List.drop_zero, List.getElem?_cons_zero] at h0
    rw [hc] at h0
    obtain ⟨a, ha1, ha2⟩ := h H enc w base spare held fuel _ x hf h0
    obtain ⟨b, hb1, hb2⟩ := hr H enc w base spare held fuel (cs.drop d.sz) xs hf (by rw [List.length_drop]; omega) (by simpa using hxs) (fun i u hu => by
      have := hall (i + 1) u (by simpa using hu)
      rw [List.take_succ_cons, List.map_cons, List.sum_cons, hc, ← List.drop_drop] at this
      simpa using this)
    exact ⟨(a, b), ⟨cs.take d.sz, cs.drop d.sz, (List.take_append_drop _ _).symm, ha1, hb1⟩, fun hw => ⟨ha2 (fun n hn => hw n (by simp [DataW.weightsEach, hn])), hb2 (fun n hn => hw n (by simp [DataW.weightsEach, hn]))⟩⟩

theorem opens_struct {α β : Type} {P : Program} {m : Nat} {t : TypeId} {fs : Array Field} {ts : List TypeId} {d : Kd α} {S : α → Prop} (f : β → α) (g : α → β) (hfg : ∀ a, f (g a) = a) (ht : P.underlying t = some (.struct fs))
    (hts : fs.toList.map (·.type) = ts) (hoff : ∀ i f, fs[i]? = some f → f.offset = ((ts.take i).map P.cellsOf).sum) (hc : P.cellsOf t = d.sz) (h : OpensRow P m ts d S) :
    OpensAt P (m + 1) t (Kd.iso d f) (fun b => S (f b)) := by
  intro H enc w base spare held fuel cs x hf hx
  obtain ⟨xs, n, rfl, rfl, hl, hxl, hall⟩ := DataW.trod_struct ht hx
  have hlt : ts.length = fs.size := by rw [← hts]; simp
  obtain ⟨a, h1, h2⟩ := h H enc w base spare held n cs xs (by omega) (hl.trans hc) (hxl.trans hlt.symm) (fun i u hu => by
    have hi : i < fs.size := by rw [← hlt]; exact (List.getElem?_eq_some_iff.1 hu).1
    have hg : fs[i]? = some fs[i] := Array.getElem?_eq_getElem hi
    have hu' : u = fs[i].type := by
      rw [← hts, List.getElem?_map] at hu
      have e : fs.toList[i]? = some fs[i] := by simp [hi]
      rw [e] at hu
      exact (Option.some.inj hu).symm
    have := hall i _ hg
    rw [hoff i _ hg] at this
    rw [hu']
    exact this)
  refine ⟨g a, ?_, fun hw => ?_⟩
  · show d.K w (f (g a)) cs
    rw [hfg]; exact h1
  · show S (f (g a))
    rw [hfg]
    refine h2 (fun k hk => hw k ?_)
    simp only [DataW.weights, ht, hts]
    exact hk

theorem off_of {P : Program} {fs : Array Field} {ts : List TypeId} (h : (List.range fs.size).all (fun i => (fs[i]?.map (·.offset)) == some ((ts.take i).map P.cellsOf).sum) = true) : ∀ i f, fs[i]? = some f → f.offset = ((ts.take i).map P.cellsOf).sum := by
  intro i f hf
  have hi : i < fs.size := (Array.getElem?_eq_some_iff.1 hf).1
  have := List.all_eq_true.1 h i (by simpa using hi)
  rw [hf] at this
  simpa using this

/-! ### an argument -/
theorem open_at {α : Type} {P : Program} {t : TypeId} {d : Kd α} {S : α → Prop} (hall : ∀ m, OpensAt P m t d S) {H : Type} {enc : TypeId × Value → H} {w : World} {base : Nat} {spare : Nat → Bool} {held : Bool} {v : Value} {dd : DataW H} {ps : List MemPlace} {ts : List TypeId} {ds : List (DataW H)} {j : Nat}
    (hsz : (DataW.weightsEach P ts ds).all (· ≤ reachBytes) = true) (ht : ts[j]? = some t) (hd : ds[j]? = some dd) (h : DataW.Trod enc P w base spare held t v dd ps) : ∃ a, d.K w a v.cells.toList ∧ S a := by
  obtain ⟨fuel, hf⟩ := h
  obtain ⟨a, h1, h2⟩ := hall fuel H enc w base spare held fuel _ _ (Nat.le_refl _) hf
  refine ⟨a, h1, h2 (fun n hn => ?_)⟩
  have := List.all_eq_true.1 hsz n (DataW.weights_mem_each ht hd n hn)
  exact of_decide_eq_true this

end Go.Proofs.Ytjfbjkodjjlkiaa.Opens
