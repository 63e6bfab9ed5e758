/- What sliceutil.Remove and impl.RemoveText come to: the list without the first one of a text; for lists of at most a million texts. -/
import Derived.Test.YtefejcggkkmhaaaProg
import Derived.Test.YtefejcggkkmhaaaWMore
import Derived.Deep.LoopGhost
import Derived.Deep.DeepCutAuto
import Derived.Laws.OwnMore
import Derived.OwnWalk
import Derived.WalkKit
import Derived.Test.YtefejcggkkmhaaaPlain
import Derived.Deep.RegionLaw
import Derived.Outline
namespace Go.Proofs.Ytefejcggkkmhaaa.HRemove
open Go.RowKit Go.Proofs.YtefejcggkkmhaaaW.PrintWords Go.Proofs.YtefejcggkkmhaaaW.PrintLast Go.Proofs.YtefejcggkkmhaaaW.PrintMore Go.Proofs.Ytefejcggkkmhaaa.Plain

def removed (a : ByteArray) : List ByteArray → List ByteArray
  | [] => []
  | x :: r => if x = a then r else x :: removed a r
theorem removed_none {a : ByteArray} : ∀ {l : List ByteArray}, has a l = false → removed a l = l
  | [], _ => rfl
  | x :: r, h => by
    rw [has_cons, Bool.or_eq_false_iff] at h
    rw [removed, if_neg (of_decide_eq_false h.1), removed_none h.2]
theorem removed_at {a : ByteArray} : ∀ {l : List ByteArray} {j : Nat} (hj : j < l.length), has a (l.take j) = false → l[j] = a → removed a l = l.eraseIdx j
  | x :: r, 0, _, _, h => by
    have h' : x = a := h
    rw [removed, if_pos h']; rfl
  | x :: r, j + 1, hj, hn, h => by
    rw [List.take_succ_cons, has_cons, Bool.or_eq_false_iff] at hn
    rw [removed, if_neg (of_decide_eq_false hn.1), removed_at (by simpa using hj) hn.2 (by simpa using h)]
    rfl

set_option maxHeartbeats 400000 in
theorem remove_calls (l : List ByteArray) (a : ByteArray) (v : Value) (w0 w : World) (P : Nat → Prop) (hB : Below w0.heap.size w0 w) (ho : Kd.R Kd.string 9 w w0.heap.size P v l) (hl : l.length ≤ 1000000) :
    Calls Try.prog 18 #[v, .string a] w fun e w' => ∃ v' : Value, e = .returned v' ∧ Kd.R Kd.string 9 w' w0.heap.size P v' (removed a l) ∧ Below w0.heap.size w0 w' := by
  obtain ⟨A, c, rfl⟩ := Kd.R_slice ho
  have HO := Aside0.mk ho
  clear ho
  have HB := Aside0.mk hB
  clear hB
  go_enter Try.func18, Try.ntmps18
  go_wp2
  go_loop [9] (fun i => ∃ j : Nat, j ≤ l.length ∧ i = .int .i64 j ∧ Aside0 (has a (l.take j) = false)) (fun i => l.length - (intOf i).toNat)
  case atStart => exact ⟨0, Nat.zero_le _, rfl, ⟨rfl⟩⟩
  case round =>
    obtain ⟨j, hj, rfl, HN⟩ := hrel
    by_cases hlt : j < l.length
    · obtain ⟨ad, e0, hc⟩ := Kd.at_string (Kd.R_reads' HO.out).2.2 (j : Int) (by omega) (by omega)
      cases e0
      rw [rdOf_nat _ _ _ hlt, Int.toNat_natCast] at hc
      by_cases hs : l[j] = a
      · have hs1 : (l[j].toList == a.toList) = true := by rw [beq_toList]; simp [hs]
        have hown : ∃ g, ad = ⟨g, 0, none⟩ := by
          obtain ⟨inner, hi⟩ := Kd.R_own HO.out
          obtain ⟨g, cap, e1, _⟩ := hi.form (by omega)
          injection e1 with e2
          injection e2 with e3
          exact ⟨g, e3⟩
        obtain ⟨g, rfl⟩ := hown
        rw [add_plain] at hc
        have hw : IntKind.i64.wrap ((j : Int) + 1) = (j : Int) + 1 := by rw [IntKind.wrap_i64]; omega
        have hc1 : l.length ≤ c := (Kd.R_reads' HO.out).2.1
        have hk0 : 0 ≤ (j : Int) := by omega
        have hk1 : (j : Int) ≤ (c : Int) := by omega
        have hk2 : 0 ≤ (j : Int) + 1 := by omega
        have hk3 : (j : Int) + 1 ≤ (l.length : Int) := by omega
        have hk4 : (l.length : Int) ≤ (c : Int) := by omega
        have hk5 : ((j : Int) + 1).toNat = j + 1 := by omega
        have HR := Aside0.mk (removed_at hlt HN.out hs)
        obtain ⟨A', hA'⟩ : ∃ A', (if c = j + 1 then some (⟨g, 0, none⟩ : Addr) else some ⟨g, j + 1, none⟩) = A' := ⟨_, rfl⟩
        have HA := Aside0.mk (show A' = if c = j + 1 then some (⟨g, 0, none⟩ : Addr) else (some (⟨g, 0, none⟩ : Addr)).map (·.add ((j + 1) * Kd.string.sz)) by
          rw [← hA']
          show _ = if c = j + 1 then _ else some ((⟨g, 0, none⟩ : Addr).add ((j + 1) * 1))
          rw [Nat.mul_one, add_plain])
        go_wp2
        go_region_law ((refine Kd.R_delete_step Kd.string (w0 := w0) w0.heap.size (by rfl) (.tmp 19) (.tmp 23) 22 9 rfl Try.underlying22 (by kernel_rfl) (g := g) (n := l.length) (c := c) (k := j) (A := A') (m := l.length - (j + 1)) (c2 := c - (j + 1)) (by simp [Act.eval, Act.put]) (by simp [Act.eval, Act.put]) HA.out rfl (Kd.R_drew HO.out) hlt (below_drew1 HB.out) HB.out.size ?_; intro w1 ho1 hb1 _))
        go_wp2
        go_ret
        refine ⟨_, rfl, ?_, hb1⟩
        rw [HR.out]
        exact ho1
      · have hs1 : (l[j].toList == a.toList) = false := by rw [beq_toList]; simp [hs]
        have hw : wrap64 ((j : Int) + 1) = ((j + 1 : Nat) : Int) := wrap_nat (by omega)
        go_wp2
        go_round
        case rel => exact ⟨j + 1, by omega, by first | rfl | go_num, ⟨by rw [take_next hlt, has_snoc, HN.out]; simp [hs]⟩⟩
        case measure => simp [intOf]; omega
    · go_wp2
      go_ret
      have e : j = l.length := by omega
      refine ⟨_, rfl, ?_, HB.out⟩
      have := HN.out
      rw [e, List.take_length] at this
      rw [removed_none this]
      exact HO.out

theorem info9 : (Try.prog.info? 9).map (fun i => (i.zero, i.size, i.bytes)) = some (some (.string ⟨#[]⟩), 1, 16) := by kernel_rfl

set_option maxHeartbeats 400000 in
theorem impl_calls (l : List ByteArray) (a : ByteArray) (A : Option Addr) (c : Nat) (w : World) (hr : Kd.C Kd.string w A l.length l) (hl : l.length ≤ 1000000) :
    Calls Try.prog 10 #[.slice A l.length c, .string a] w fun e w' => ∃ v' : Value, e = .returned v' ∧ Kd.R Kd.string 9 w' w.heap.size (fun _ => True) v' (removed a l) ∧ Below w.heap.size w w' := by
  have HR := Aside0.mk hr
  clear hr
  go_enter Try.func10, Try.ntmps10
  go_wp2_with (first
    | (refine gate_dst (N := 5) rfl ?_; refine Kd.R_lit Kd.string w.heap.size 9 rfl (N := 5) rfl (xs := ([] : List ByteArray)) (inner := []) (ok := fun _ => True) (okp := fun _ => True) ?hr (Reps.none _ _) (fun _ hk => hk) trivial (Below.refl _ _) (Nat.le_refl _) (by simp) ?_; (case hr => first | (go_simp; done) | (go_simp; rfl)); intro v1 w1 ho1 hb1 _ _; have HO1 := Aside0.mk ho1; have HB1 := Aside0.mk hb1; clear ho1 hb1)
    | (refine gate_builtin (b := .append) (xs := #[.tmp 5, .tmp 6]) rfl ?_; at_builtin; refine Kd.R_append_rows Kd.string (w0 := w) w.heap.size rfl (.tmp 5) (.tmp 6) 22 9 (.string ⟨#[]⟩) 16 rfl Try.underlying22 info9 rfl (by decide) (by omega) v1 [] l _ _ _ (fun _ => True) (fun _ => False) rfl rfl HO1.out ?aR (fun _ _ h => h) (fun _ h => h.elim) (fun _ _ => trivial) HB1.out HB1.out.size ?aL ?_; (case aR => exact Kd.C_below HR.out HB1.out); (case aL => simp only [List.length_nil]; omega); intro v2 w2 ho2 hb2 _ _; have HO2 := Aside0.mk ho2; have HB2 := Aside0.mk hb2; clear ho2 hb2)
    | (go_at_call 18; refine (remove_calls l a _ w _ _ HB2.out (Kd.R_mono HO2.out (fun _ h => h)) hl).mono ?_; rintro e w3 ⟨v3, rfl, ho3, hb3⟩))
  go_ret
  exact ⟨_, rfl, ho3, hb3⟩

end Go.Proofs.Ytefejcggkkmhaaa.HRemove
