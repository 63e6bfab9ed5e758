/- The forms of a path's parts: brackets, numbers, the star. -/
import Derived.Test.YtgdffbjkafbkcaaDoorHKyDig
import Derived.Test.YtgdffbjkafbkcaaDoorPIsListIndexx
import Derived.Test.YtgdffbjkafbkcaaDoorPKyListIndexx
import Derived.Test.YtgdffbjkafbkcaaDoorPIsWildcardx
import Derived.Test.YtgdffbjkafbkcaaDoorHShelflaysC172
import Derived.Deep.DeepMust
namespace Go.Proofs.YtgdffbjkafbkcaaDoor.HDig
open Go.RowKit Go.Proofs.YtgdffbjkafbkcaaDoorW.PrintWords Go.Proofs.YtgdffbjkafbkcaaDoorW.PrintLast Go.Proofs.YtgdffbjkafbkcaaDoorW.PrintMore Go.Proofs.YtgdffbjkafbkcaaDoor.Plain

def B (l : List UInt8) : ByteArray := ⟨l.toArray⟩
theorem B_size (l : List UInt8) : (B l).size = l.length := rfl
theorem B_toList (l : List UInt8) : (B l).toList = l := by rw [ByteArray.toList_eq]; rfl
theorem B_data (s : ByteArray) : B s.data.toList = s := rfl
theorem B_extract (l : List UInt8) (i j : Nat) : (B l).extract i j = B ((l.drop i).take (j - i)) := by
  apply toList_inj.1
  rw [B_toList, ByteArray.toList_eq, ByteArray.data_extract]
  simp [B]
theorem B_bt (l : List UInt8) (i : Nat) (h : i < l.length) : bt (B l) (i : Int) = (l[i].toNat : Int) := by
  have : (i : Int).toNat < (B l).size := by simpa [B_size] using h
  rw [← bt_at _ _ this]
  rfl
/-- In brackets. -/
def li (l : List UInt8) : Bool := match l with
  | [] => false
  | c :: r => c.toNat == 91 && ((c :: r).getLast (by simp)).toNat == 93
theorem one_eq (c : UInt8) (n : Nat) (hn : n < 256) : ([c] == [UInt8.ofNat n]) = (c.toNat == n) := by
  rw [Bool.eq_iff_iff]
  simp only [beq_iff_eq, List.cons.injEq, and_true]
  constructor
  · intro h; rw [h]; simp; omega
  · intro h; rw [← h]; simp
theorem ky_li (l : List UInt8) (hl : l.length ≤ 1000) : PKyListIndex.spec_KyListIndex.f (B l) = some (li l) := by
  unfold PKyListIndex.spec_KyListIndex.f
  rw [B_toList, B_size]
  cases l with
  | nil => rfl
  | cons c r =>
    have hw : wrap64 (((c :: r).length : Int) - 1) = ((r.length : Nat) : Int) := by
      simp only [List.length_cons] at *
      unfold wrap64
      omega
    rw [hw, if_neg (by simp), if_pos (by simp)]
    have e0 : bt (B (c :: r)) 0 = (c.toNat : Int) := B_bt (c :: r) 0 (by simp)
    have e1 : bt (B (c :: r)) (r.length : Int) = (((c :: r)[r.length]'(by simp)).toNat : Int) := B_bt (c :: r) r.length (by simp)
    rw [e0, e1]
    have e2 : (c :: r)[r.length]'(by simp) = (c :: r).getLast (by simp) := by rw [List.getLast_eq_getElem]; simp
    rw [e2]
    simp only [li]
    by_cases hc : (c.toNat : Int) = 91
    · rw [if_pos hc, if_pos (by omega), if_pos (by simp; omega)]
      have : (c.toNat == 91) = true := by simp; omega
      rw [this, Bool.true_and]
      congr 1
      rw [Bool.eq_iff_iff]
      simp only [beq_iff_eq]
      omega
    · rw [if_neg hc]
      have : (c.toNat == 91) = false := by simp; omega
      rw [this, Bool.false_and]
theorem is_li (l : List UInt8) (hl : l.length ≤ 1000) : PIsListIndex.yaml_IsListIndex.f (B l) = some (li l) := by
  unfold PIsListIndex.yaml_IsListIndex.f PIsListIndex.strings_HasPrefix.f PIsListIndex.strings_HasSuffix.f PIsListIndex.stringslite_HasPrefix.f PIsListIndex.stringslite_HasSuffix.f
  have z1 : (⟨#[91]⟩ : ByteArray) = B [91] := rfl
  have z2 : (⟨#[93]⟩ : ByteArray) = B [93] := rfl
  rw [z1, z2, B_size, B_size, B_size, B_toList, B_toList]
  cases l with
  | nil => rfl
  | cons c r =>
    have hw : wrap64 (((c :: r).length : Int) - (([93] : List UInt8).length : Int)) = ((r.length : Nat) : Int) := by
      simp only [List.length_cons, List.length_nil] at *
      unfold wrap64
      omega
    rw [hw]
    have hlen : (c :: r).length = r.length + 1 := rfl
    rw [if_pos (by simp; omega), if_pos (by simp), if_pos (by simp; omega)]
    have e1 : ((B (c :: r)).extract 0 (((([91] : List UInt8).length : Int) : Int).toNat)).toList = [c] := by rw [B_extract, B_toList]; rfl
    have e2 : ((B (c :: r)).extract (((r.length : Nat) : Int) : Int).toNat (c :: r).length).toList = [(c :: r).getLast (by simp)] := by
      rw [B_extract, B_toList, Int.toNat_natCast, hlen, List.getLast_eq_getElem]
      rw [List.drop_eq_getElem_cons (by simp)]
      simp
    rw [e1, e2]
    have f1 : (([c] : List UInt8) == [91]) = (c.toNat == 91) := one_eq c 91 (by omega)
    have f2 : (([(c :: r).getLast (by simp)] : List UInt8) == [93]) = (((c :: r).getLast (by simp)).toNat == 93) := one_eq _ 93 (by omega)
    rw [f1, f2]
    simp only [Option.bind_some, li]
    by_cases hc : (c.toNat == 91) = true
    · rw [if_pos hc, hc, if_pos (by simp; omega), if_pos (by omega), if_pos (by simp; omega), Bool.true_and]
      rfl
    · rw [if_neg hc, Bool.eq_false_iff.2 hc, Bool.false_and]

/-- The two errors lie where they lay at the start. -/
def Errs (w : World) : Prop := ∃ t0 p0 t1 p1, w.cell? ⟨0, 0, none⟩ = some (.iface t0 p0) ∧ w.cell? ⟨1, 0, none⟩ = some (.iface t1 p1)
theorem Errs.below {w w' : World} (h : Errs w) (hb : Below w.heap.size w w') : Errs w' := by
  obtain ⟨t0, p0, t1, p1, h0, h1⟩ := h
  exact ⟨t0, p0, t1, p1, pw_cell_below hb h0, pw_cell_below hb h1⟩
theorem atoi_err (l : List UInt8) (w : World) (hl : l.length ≤ 1000) (h : ∀ v, Lib.atoiAll l ≠ .ok v) (he : Errs w) : Calls Tryd.prog 26 #[.string (B l)] w fun e w' => ∃ (i : Int) (N : Nat), e = .returned (.tuple #[.int .i64 i, .iface 68 (.pointer (some ⟨N, 0, none⟩))]) ∧ Below w.heap.size w w' := by
  obtain ⟨t0, p0, t1, p1, h0, h1⟩ := he
  have hs : (B l).size ≤ 1000 := hl
  cases h2 : Lib.atoiAll l
  case ok v => exact absurd h2 (h v)
  case range =>
    refine (Any.strconv_Atoi_range Tryd.laysC172 (B l) (by omega) h2 _ w h1 (.inr ⟨_, _, rfl⟩)).mono ?_
    rintro e w' ⟨N, rfl, -, -, hb⟩
    exact ⟨_, N, rfl, hb⟩
  all_goals
    refine (Any.strconv_Atoi_syntax Tryd.laysC172 (B l) (by omega) h2 _ w h0 (.inr ⟨_, _, rfl⟩)).mono ?_
    rintro e w' ⟨N, rfl, -, -, hb⟩
    exact ⟨_, N, rfl, hb⟩
theorem atoi_fine (l : List UInt8) (w : World) (hl : l.length ≤ 1000) {v : Int} (h : Lib.atoiAll l = .ok v) : Calls Tryd.prog 26 #[.string (B l)] w fun e w' => e = .returned (.tuple #[.int .i64 v, .nilIface]) ∧ (w' = w ∨ ∃ t, w' = Lib.bytesWorld w 5 t) := by
  have hs : (B l).size ≤ 1000 := hl
  exact Any.strconv_Atoi_ok Tryd.laysC172 (B l) (by omega) v h w
set_option maxHeartbeats 1000000 in
theorem idx_calls (l : List UInt8) (w : World) (hl : l.length ≤ 1000) (he : Errs w) : Calls Tryd.prog 17 #[.string (B l)] w fun e w' => e = .returned (.bool (nb l)) ∧ Below w.heap.size w w' := by
  by_cases h : ∃ v, Lib.atoiAll l = .ok v
  · obtain ⟨v, h⟩ := h
    have hn : nb l = decide (0 ≤ v) := by unfold nb; rw [h]
    rw [hn]
    have HC := Aside0.mk (atoi_fine l w hl h)
    clear h hn he
    go_enter Tryd.func17, Tryd.ntmps17
    go_wp2_with (go_at_call 26; refine HC.out.mono ?_; rintro e w' ⟨rfl, hw⟩)
    go_ret
    refine ⟨rfl, ?_⟩
    rcases hw with rfl | ⟨t, rfl⟩
    · exact Below.refl _ _
    · exact Lib.bytesWorld_below _ _ _
  · have h2 : ∀ v, Lib.atoiAll l ≠ .ok v := fun v e => h ⟨v, e⟩
    have hn : nb l = false := by
      unfold nb
      cases h3 : Lib.atoiAll l
      case ok v => exact absurd h3 (h2 v)
      all_goals rfl
    rw [hn]
    have HC := Aside0.mk (atoi_err l w hl h2 he)
    clear h h2 hn he
    go_enter Tryd.func17, Tryd.ntmps17
    go_wp2_with (go_at_call 26; refine HC.out.mono ?_; rintro e w' ⟨i, N, rfl, hb⟩)
    go_ret
    exact ⟨rfl, hb⟩

end Go.Proofs.YtgdffbjkafbkcaaDoor.HDig
