/- FnAlias: the state of its walk: the want's box, and the charts so far. -/
import Derived.Test.YtmjecafddklbjaaHAlias4
import Derived.Test.YtmjecafddklbjaaHAlias6
import Derived.Test.YtmjecafddklbjaaHFits
namespace Go.Proofs.Ytmjecafddklbjaa.HAlias
open Go.RowKit Go.WideMaps Go.Maps Go.Proofs.YtmjecafddklbjaaW.PrintWords Go.Proofs.YtmjecafddklbjaaW.PrintLast Go.Proofs.YtmjecafddklbjaaW.PrintMore Go.Proofs.Ytmjecafddklbjaa.HMapI Go.Proofs.Ytmjecafddklbjaa.HSchema Go.Proofs.Ytmjecafddklbjaa.Plain Go.Proofs.Ytmjecafddklbjaa.GWants Go.Proofs.Ytmjecafddklbjaa.HFits

/-- AliasDependency, with no premise of wantsOf. -/
theorem alias_dep1 (A : Option Addr) (c : Nat) (xs : List (ByteArray × ByteArray)) (n v cnd al : ByteArray) (A4 : Option Addr) (c4 : Nat) (en : Bool) (A6 : Option Addr) (c6 : Nat) (l4 : List ByteArray) (l6 : List S60) (k : Nat) (w : World)
    (hA : Kd.C kCh w A xs.length xs) (hv : ∀ (j : Nat) (h : j < xs.length), ∃ k, impl_plain.f k xs[j].2 = some true) (hl : xs.length ≤ 1000)
    (hk : impl_plain.f k v = some true) (h6 : l6.length ≤ 20) (h4 : l4.length ≤ 1000000)
    (hr4 : Kd.C Kd.string w A4 l4.length l4) (hc4 : l4.length ≤ c4) (hr6 : Kd.C k60 w A6 l6.length l6) (hc6 : l6.length ≤ c6) :
    Calls Try.prog 10 #[.slice A xs.length c, .agg (wcells n v cnd al A4 l4 c4 en A6 l6 c6)] w (Told3 w (answer xs n v al)) :=
  alias_dep wants1 A c xs n v cnd al A4 c4 en A6 c6 l4 l6 k w hA hv hl hk h6 h4 hr4 hc4 hr6 hc6
/-- A slice of one element that has just been made. -/
theorem C_one {α : Type} {d : Kd α} {W : World} {b : Nat} {x : α} {cs : List Value} {e : TypeId} (h : W.heap[b]? = some (.cells cs.toArray e (0, 0))) (hK : d.K W x cs) : Kd.C d W (some ⟨b, 0, none⟩) 1 [x] := by
  refine ⟨rfl, by decide, fun _ => ⟨⟨b, 0, none⟩, rfl, fun j p hp => ?_⟩⟩
  cases j with
  | succ j => simp at hp
  | zero =>
    have e : x = p := by simpa using hp
    subst e
    refine ⟨cs, d.K_len hK, hK, fun i u hi => ?_⟩
    have hc := blk_cell h i
    rw [List.getElem?_toArray, hi] at hc
    rw [Nat.zero_mul, Nat.zero_add, add_plain]
    exact hc
/-- The walk's state. -/
structure Lw (xs : List (ByteArray × ByteArray)) (wc : Array Value) (A7 : Option Addr) (c7 : Nat) (w W : World) : Prop where
  box : W.heap[w.heap.size]? = some (.cells wc 31 (0, 0))
  below : Below w.heap.size w W
  row : Kd.R kCh 42 W (w.heap.size + 1) (fun _ => True) (.slice A7 xs.length c7) xs
theorem Lw.later {xs : List (ByteArray × ByteArray)} {wc : Array Value} {A7 : Option Addr} {c7 : Nat} {w W W' : World} (h : Lw xs wc A7 c7 w W) (hb : Below W.heap.size W W') : Lw xs wc A7 c7 w W' :=
  ⟨blk_below h.box hb, below_step h.below hb, Kd.R_below h.row hb⟩
theorem Lw.drew {xs : List (ByteArray × ByteArray)} {wc : Array Value} {A7 : Option Addr} {c7 : Nat} {w W : World} (h : Lw xs wc A7 c7 w W) : Lw xs wc A7 c7 w W.drew := h.later (below_drew (Below.refl _ _))
theorem Lw.start {wc : Array Value} {w : World} : Lw [] wc none 0 w (w.alloc (.cells wc 31)) :=
  ⟨HSchema.blk_at _ rfl, below_alloc (Below.refl _ _) _, Kd.R_nil _ _ _ _ _⟩
theorem Lw.next {xs : List (ByteArray × ByteArray)} {wc : Array Value} {A7 A1 : Option Addr} {c7 c1 : Nat} {w W W1 : World} {x : ByteArray × ByteArray} (h : Lw xs wc A7 c7 w W)
    (hR : Kd.R kCh 42 W1 (w.heap.size + 1) (fun _ => True) (.slice A1 (xs ++ [x]).length c1) (xs ++ [x])) (hg : W.grownBy W1 (Value.slice A7 xs.length c7).ownBlock) : Lw (xs ++ [x]) wc A1 c1 w W1 := by
  have hb := (Kd.R_bound h.row).1
  refine ⟨(hg.block _ (blk_lt h.box) (fun e => ?_)).trans h.box, pw_below_grown h.below _ h.below.size hg (fun k hk => ?_), hR⟩
  · have := (hb _ e.symm).2.1
    omega
  · have := (hb _ hk).2.1
    omega
theorem Lw.cells {xs : List (ByteArray × ByteArray)} {n v cnd al : ByteArray} {A4 : Option Addr} {l4 : List ByteArray} {c4 : Nat} {en : Bool} {A6 : Option Addr} {l6 : List S60} {c6 : Nat} {A7 : Option Addr} {c7 : Nat} {w W : World} (h : Lw xs (wcells n v cnd al A4 l4 c4 en A6 l6 c6) A7 c7 w W) :
    W.cell? ⟨w.heap.size, 0, none⟩ = some (.string n) ∧ W.cell? ⟨w.heap.size, 1, none⟩ = some (.string v) ∧ W.cell? ⟨w.heap.size, 2, none⟩ = some (.string cnd) ∧ W.cell? ⟨w.heap.size, 3, none⟩ = some (.string al) ∧ W.cell? ⟨w.heap.size, 4, none⟩ = some (.slice A4 l4.length c4) ∧ W.cell? ⟨w.heap.size, 5, none⟩ = some (.bool en) ∧ W.cell? ⟨w.heap.size, 6, none⟩ = some (.slice A6 l6.length c6) :=
  ⟨(blk_cell h.box 0).trans rfl, (blk_cell h.box 1).trans rfl, (blk_cell h.box 2).trans rfl, (blk_cell h.box 3).trans rfl, (blk_cell h.box 4).trans rfl, (blk_cell h.box 5).trans rfl, (blk_cell h.box 6).trans rfl⟩
/-- A text of a list, wherever the world has gone on. -/
theorem text_at {w : World} {A : Option Addr} {l : List ByteArray} (h : Kd.C Kd.string w A l.length l) (j : Nat) (hj : j < l.length) : ∃ ad, A = some ad ∧ ∀ W, Below w.heap.size w W → W.cell? (ad.add j) = some (.string l[j]) := by
  have key : ∀ W, Below w.heap.size w W → ∃ ad, A = some ad ∧ W.cell? (ad.add j) = some (.string l[j]) := by
    intro W hb
    obtain ⟨ad, e, hx⟩ := Kd.at_string (Kd.C_below h hb) (j : Int) (Int.natCast_nonneg j) (Int.ofNat_lt.2 hj)
    rw [rdOf_nat _ l j hj, Int.toNat_natCast] at hx
    exact ⟨ad, e, hx⟩
  obtain ⟨ad, e, _⟩ := key w (Below.refl _ _)
  refine ⟨ad, e, fun W hb => ?_⟩
  obtain ⟨ad2, e2, hx⟩ := key W hb
  rw [e] at e2
  cases e2
  exact hx
/-- The charts' names and versions so far. -/
def pairs (l0 l1 : List ByteArray) (j : Nat) : List (ByteArray × ByteArray) := (l0.zip l1).take j
theorem pairs_next {l0 l1 : List ByteArray} {j : Nat} (h0 : j < l0.length) (h1 : j < l1.length) : pairs l0 l1 (j + 1) = pairs l0 l1 j ++ [(l0[j], l1[j])] := by
  unfold pairs
  rw [List.take_succ_eq_append_getElem (by simp; omega)]
  simp
theorem pairs_len {l0 l1 : List ByteArray} {j : Nat} (h0 : j ≤ l0.length) (h1 : j ≤ l1.length) : (pairs l0 l1 j).length = j := by
  unfold pairs
  simp
  omega
/-- None of the first j is it. -/
def Scan (n v : ByteArray) (xs : List (ByteArray × ByteArray)) (j : Nat) : Prop := place n v xs = (place n v (xs.drop j)).map (· + j)
theorem Scan.start {n v : ByteArray} {xs : List (ByteArray × ByteArray)} : Scan n v xs 0 := by
  unfold Scan
  rw [List.drop_zero]
  cases place n v xs <;> rfl
theorem Scan.next {n v : ByteArray} {xs : List (ByteArray × ByteArray)} {j : Nat} (h : Scan n v xs j) (hj : j < xs.length) (hne : ¬ (xs[j].1 = n ∧ xs[j].2 = v)) : Scan n v xs (j + 1) := by
  unfold Scan at h ⊢
  rw [h, drop_next hj, place, if_neg hne, Option.map_map]
  congr 1
  funext i
  simp only [Function.comp]
  omega
theorem Scan.hit {n v al : ByteArray} {xs : List (ByteArray × ByteArray)} {j : Nat} (h : Scan n v xs j) (hj : j < xs.length) (he : xs[j].1 = n ∧ xs[j].2 = v) : answer xs n v al = (named al n, j, 0) := by
  unfold Scan at h
  rw [drop_next hj, place, if_pos he] at h
  unfold answer
  rw [h]
  simp
theorem Scan.none_ {n v al : ByteArray} {xs : List (ByteArray × ByteArray)} {j : Nat} (h : Scan n v xs j) (hj : xs.length ≤ j) : answer xs n v al = (E0, 0, 1) := by
  unfold Scan at h
  rw [List.drop_eq_nil_of_le hj] at h
  unfold answer
  rw [h]
  rfl
def kA : ByteArray := ⟨#[97]⟩
def kV : ByteArray := ⟨#[49, 46, 48, 46, 48]⟩
theorem fixed_plain : ∃ k, impl_plain.f k kV = some true := ⟨20, by kernel_rfl⟩
theorem fixed_answer : answer [(kA, kV)] kA kV E0 = (kA, 0, 0) := by
  simp [answer, place, named]
theorem alias_fixed (w : World) : Calls Try.prog 10 #[.slice (some ⟨w.heap.size, 0, none⟩) 1 1, .agg #[.string ⟨#[97]⟩, .string ⟨#[49, 46, 48, 46, 48]⟩, .string E0, .string E0, .slice none 0 0, .bool false, .slice none 0 0]] (w.alloc (.cells (chCells (kA, kV)).toArray 42)) fun e w' => e = .returned (.tuple #[.string ⟨#[97]⟩, .int .i64 0, .int .i64 0]) ∧ Below w.heap.size w w' := by
  obtain ⟨k, hk⟩ := fixed_plain
  refine (alias_dep1 (some ⟨w.heap.size, 0, none⟩) 1 [(kA, kV)] kA kV E0 E0 none 0 false none 0 [] [] k _ (C_one (HSchema.blk_at _ rfl) rfl) (fun j hj => ?_) (by decide) hk (by decide) (by decide) (Kd.C_nil _ _) (by decide) (Kd.C_nil _ _) (by decide)).mono ?_
  · have e : j = 0 := by simpa using hj
    subst e
    exact ⟨k, hk⟩
  · rintro e w' ⟨rfl, hb⟩
    refine ⟨?_, below_step (below_alloc (Below.refl _ _) _) hb⟩
    rw [fixed_answer]
    rfl
theorem alias_named (A : Option Addr) (c : Nat) (xs : List (ByteArray × ByteArray)) (n v cnd al : ByteArray) (A4 : Option Addr) (c4 : Nat) (en : Bool) (A6 : Option Addr) (c6 : Nat) (l4 : List ByteArray) (l6 : List S60) (k : Nat) (w : World)
    (hA : Kd.C kCh w A xs.length xs) (hv : ∀ (j : Nat) (h : j < xs.length), ∃ k, impl_plain.f k xs[j].2 = some true) (hl : xs.length ≤ 1000)
    (hk : impl_plain.f k v = some true) (h6 : l6.length ≤ 20) (h4 : l4.length ≤ 1000000)
    (hr4 : Kd.C Kd.string w A4 l4.length l4) (hc4 : l4.length ≤ c4) (hr6 : Kd.C k60 w A6 l6.length l6) (hc6 : l6.length ≤ c6) (rn : ByteArray) (ri rf : Nat) (hr : answer xs n v al = (rn, ri, rf)) :
    Calls Try.prog 10 #[.slice A xs.length c, .agg (wcells n v cnd al A4 l4 c4 en A6 l6 c6)] w fun e w' => e = .returned (.tuple #[.string rn, .int .i64 ri, .int .i64 rf]) ∧ Below w.heap.size w w' := by
  refine (alias_dep1 A c xs n v cnd al A4 c4 en A6 c6 l4 l6 k w hA hv hl hk h6 h4 hr4 hc4 hr6 hc6).mono ?_
  rintro e w' ⟨rfl, hb⟩
  rw [hr]
  exact ⟨rfl, hb⟩
end Go.Proofs.Ytmjecafddklbjaa.HAlias
