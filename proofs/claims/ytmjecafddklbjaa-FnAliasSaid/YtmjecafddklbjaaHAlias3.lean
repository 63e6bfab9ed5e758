/- Kinds of elements: charts as data (a name and a version), pointers, values of any type; wants as AliasDependency takes them. -/
import Derived.Test.YtmjecafddklbjaaHAlias2
namespace Go.Proofs.Ytmjecafddklbjaa.HAlias
open Go.RowKit Go.WideMaps Go.Maps Go.Proofs.YtmjecafddklbjaaW.PrintWords Go.Proofs.Ytmjecafddklbjaa.HMapI Go.Proofs.Ytmjecafddklbjaa.HSchema Go.Proofs.Ytmjecafddklbjaa.Plain Go.Proofs.Ytmjecafddklbjaa.GWants

/-- The cells of a chart of a name and a version. -/
abbrev chCells (x : ByteArray × ByteArray) : List Value := [.string x.1, .string x.2, .int .i64 0, .bool false, .int .i64 0, .float .f64 0, .string E0, .slice none 0 0, .slice none 0 0, .slice none 0 0, .slice none 0 0]
def kCh : Kd (ByteArray × ByteArray) where
  sz := 11
  E := []
  K := fun _ x cs => cs = chCells x
  M := fun _ _ _ x cs => cs = chCells x
  K_len := by
    rintro w x cs rfl
    rfl
  K_one := by
    rintro w x cs rfl u hu
    simp only [chCells, List.mem_cons, List.mem_nil_iff, or_false] at hu
    rcases hu with rfl | rfl | rfl | rfl | rfl | rfl | rfl | rfl | rfl | rfl | rfl <;> rfl
  K_below := fun _ h => h
  K_of_M := fun h => h
  M_mono := fun _ h => h
  M_bound := fun h => h
  M_move := fun _ h => h
  M_lower := fun _ h => h
/-- A pointer to a block. -/
def kPtr : Kd Nat where
  sz := 1
  E := []
  K := fun _ b cs => cs = [.pointer (some ⟨b, 0, none⟩)]
  M := fun _ _ _ b cs => cs = [.pointer (some ⟨b, 0, none⟩)]
  K_len := by
    rintro w x cs rfl
    rfl
  K_one := by
    rintro w x cs rfl u hu
    rw [List.mem_singleton] at hu
    subst hu
    rfl
  K_below := fun _ h => h
  K_of_M := fun h => h
  M_mono := fun _ h => h
  M_bound := fun h => h
  M_move := fun _ h => h
  M_lower := fun _ h => h
/-- A value of an interface, of which nothing is told. -/
def kAny : Kd Value where
  sz := 1
  E := []
  K := fun _ v cs => cs = [v] ∧ v.oneCell' = true
  M := fun _ _ _ v cs => cs = [v] ∧ v.oneCell' = true
  K_len := by
    rintro w x cs ⟨rfl, _⟩
    rfl
  K_one := by
    rintro w x cs ⟨rfl, h⟩ u hu
    rw [List.mem_singleton] at hu
    subst hu
    exact h
  K_below := fun _ h => h
  K_of_M := fun h => h
  M_mono := fun _ h => h
  M_bound := fun h => h
  M_move := fun _ h => h
  M_lower := fun _ h => h

theorem at_Ch {w : World} {A : Option Addr} {n : Nat} {xs : List (ByteArray × ByteArray)} (h : Kd.C kCh w A n xs) (j : Nat) (hn : j < n) (hj : j < xs.length) : ∃ ad, A = some ad ∧ ∀ i u, (chCells xs[j])[i]? = some u → w.cell? (ad.add (j * 11 + i)) = some u := by
  obtain ⟨ad, c, e, _, hK, hc0⟩ := Kd.C_get h (E0, E0) (j : Int) (Int.natCast_nonneg j) (Int.ofNat_lt.2 hn)
  refine ⟨ad, e, fun i u hu => ?_⟩
  have e2 : (xs.getD ((j : Int)).toNat (E0, E0)) = xs[j] := by
    rw [Int.toNat_natCast, List.getD_eq_getElem?_getD, List.getElem?_eq_getElem hj]; rfl
  have hK' : c = chCells xs[j] := by rw [← e2]; exact hK
  subst hK'
  have := hc0 i u hu
  rwa [Int.toNat_natCast] at this
theorem at_Ptr {w : World} {A : Option Addr} {n : Nat} {xs : List Nat} (h : Kd.C kPtr w A n xs) (j : Nat) (hn : j < n) (hj : j < xs.length) : ∃ ad, A = some ad ∧ w.cell? (ad.add j) = some (.pointer (some ⟨xs[j], 0, none⟩)) := by
  obtain ⟨ad, c, e, _, hK, hc0⟩ := Kd.C_get h 0 (j : Int) (Int.natCast_nonneg j) (Int.ofNat_lt.2 hn)
  refine ⟨ad, e, ?_⟩
  have e2 : (xs.getD ((j : Int)).toNat 0) = xs[j] := by
    rw [Int.toNat_natCast, List.getD_eq_getElem?_getD, List.getElem?_eq_getElem hj]; rfl
  have hK' : c = [.pointer (some ⟨xs[j], 0, none⟩)] := by rw [← e2]; exact hK
  subst hK'
  have := hc0 0 _ rfl
  simpa [show kPtr.sz = 1 from rfl] using this
/-- Charts whose pointers a slice holds, as getAliasDependency takes them. -/
theorem charts_at {w : World} {A : Option Addr} {cs : List Ch} (h : Kd.C kPtr w A cs.length (cs.map (·.q))) (hin : ∀ x ∈ cs, x.In w) : ChartsAt w A cs := by
  intro j hj
  refine ⟨hin _ (List.getElem_mem hj), ?_⟩
  obtain ⟨ad, e, hx⟩ := at_Ptr h j hj (by rw [List.length_map]; exact hj)
  refine ⟨ad, e, ?_⟩
  rw [Int.toNat_natCast, hx, List.getElem_map]
end Go.Proofs.Ytmjecafddklbjaa.HAlias
