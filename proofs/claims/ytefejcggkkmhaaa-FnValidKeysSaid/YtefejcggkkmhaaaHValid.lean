/- What walk's inner function validateKeys comes to. -/
import Derived.Test.YtefejcggkkmhaaaHSets
import Derived.Test.YtefejcggkkmhaaaPlain
import Derived.Deep.QuietTactic
import Derived.BigQuiet
namespace Go.Proofs.Ytefejcggkkmhaaa.HSets
open Go.RowKit Go.WideMaps Go.Maps Go.Proofs.YtefejcggkkmhaaaW.PrintWords Go.Proofs.YtefejcggkkmhaaaW.PrintLast Go.Proofs.YtefejcggkkmhaaaW.PrintMore Go.Proofs.Ytefejcggkkmhaaa.Plain

/-- A list of texts that can be read. -/
def Rd (w : World) (v : Value) (l : List ByteArray) : Prop := ∃ A c, v = .slice A l.length c ∧ l.length ≤ c ∧ Kd.C Kd.string w A l.length l
theorem Rd.below {w w' : World} {v : Value} {l : List ByteArray} (h : Rd w v l) (hb : Below w.heap.size w w') : Rd w' v l := by
  obtain ⟨A, c, e, hc, hr⟩ := h
  exact ⟨A, c, e, hc, Kd.C_below hr hb⟩
theorem rd_of_R {w : World} {e base : Nat} {ok : Nat → Prop} {v : Value} {l : List ByteArray} (h : Kd.R Kd.string e w base ok v l) : Rd w v l := Kd.R_reads h
/-- The keys of a list's elements that are not empty, for its first elements; of the first lists; the keys, the values that count, of the first ones. -/
def mk (l keys : List ByteArray) : Nat → List ByteArray
  | 0 => []
  | i + 1 => mk l keys i ++ if (l.getD i ByteArray.empty).size = 0 then [] else [keys.getD i ByteArray.empty]
def mks (ll : List (List ByteArray)) (keys : List ByteArray) : Nat → List ByteArray
  | 0 => []
  | j + 1 => mks ll keys j ++ mk (ll.getD j []) keys keys.length
def kp (S keys : List ByteArray) : Nat → List ByteArray
  | 0 => []
  | i + 1 => kp S keys i ++ if inS S (keys.getD i ByteArray.empty) = true then [keys.getD i ByteArray.empty] else []
def kv (S values keys : List ByteArray) : Nat → List ByteArray
  | 0 => []
  | i + 1 => kv S values keys i ++ if (values.getD i ByteArray.empty).size = 0 ∧ inS S (keys.getD i ByteArray.empty) = false then [] else [values.getD i ByteArray.empty]
/-- The keys and values that count. -/
def valid (ll : List (List ByteArray)) (values keys : List ByteArray) : List ByteArray × List ByteArray :=
  if mks ll keys ll.length = [] then (keys, values) else (kp (mks ll keys ll.length) keys keys.length, kv (mks ll keys ll.length) values keys values.length)
theorem getD_in {l : List ByteArray} {i : Nat} (h : i < l.length) : l.getD i ByteArray.empty = l[i] := by rw [List.getD_eq_getElem?_getD, List.getElem?_eq_getElem h, Option.getD_some]
theorem mk_len (l keys : List ByteArray) : ∀ i, (mk l keys i).length ≤ i
  | 0 => Nat.le_refl _
  | i + 1 => by
    have := mk_len l keys i
    simp only [mk, List.length_append]
    split <;> simp <;> omega
theorem mks_len (ll : List (List ByteArray)) (keys : List ByteArray) : ∀ j, (mks ll keys j).length ≤ j * keys.length
  | 0 => by simp [mks]
  | j + 1 => by
    have := mks_len ll keys j
    have h2 := mk_len (ll.getD j []) keys keys.length
    simp only [mks, List.length_append]
    rw [Nat.add_mul]
    omega
theorem kp_len (S keys : List ByteArray) : ∀ i, (kp S keys i).length ≤ i
  | 0 => Nat.le_refl _
  | i + 1 => by
    have := kp_len S keys i
    simp only [kp, List.length_append]
    split <;> simp <;> omega
theorem kv_len (S values keys : List ByteArray) : ∀ i, (kv S values keys i).length ≤ i
  | 0 => Nat.le_refl _
  | i + 1 => by
    have := kv_len S values keys i
    simp only [kv, List.length_append]
    split <;> simp <;> omega


theorem make0 (w : World) : (Instr.makeSlice 22 (.int .i64 0) (.int .i64 0)).run Try.prog w = .ok (.slice (some ⟨w.heap.size, 0, none⟩) 0 0) (w.alloc (.cells #[] 9)) := by kernel_rfl
theorem made_R {W : World} {base b : Nat} {cap : Nat} (h : W.heap[b]? = some (.cells #[] 9 (0, 0))) (hb : base ≤ b) (hc : cap = 0) : Kd.R Kd.string 9 W base (fun _ => True) (.slice (some ⟨b, 0, none⟩) 0 cap) [] := by
  subst hc
  exact Kd.R_of_own (enc := Value.string) (h1 := fun _ => rfl) ⟨rfl, .inr ⟨b, 0, #[], rfl, hb, h, Nat.le_refl _, Nat.zero_le _, rfl, rfl⟩⟩ (fun _ _ => trivial)
theorem row_at {w : World} {A : Option Addr} {ll : List (List ByteArray)} (h : Kd.C (Kd.slice 9 Kd.string) w A ll.length ll) (j : Nat) (hj : j < ll.length) : ∃ ad B c, A = some ad ∧ w.cell? (ad.add j) = some (.slice B ll[j].length c) ∧ ll[j].length ≤ c ∧ Kd.C Kd.string w B ll[j].length ll[j] := by
  obtain ⟨ad, cs, e, _, ⟨B, c, rfl, hl, hr⟩, hc⟩ := Kd.C_get h [] (j : Int) (Int.natCast_nonneg j) (by omega)
  have e2 : ll.getD (j : Int).toNat [] = ll[j] := by rw [Int.toNat_natCast, List.getD_eq_getElem?_getD, List.getElem?_eq_getElem hj, Option.getD_some]
  rw [e2] at hl hr hc
  refine ⟨ad, B, c, e, ?_, hl, hr⟩
  have := hc 0 _ rfl
  simpa [Kd.slice] using this
theorem str_at {w : World} {A : Option Addr} {l : List ByteArray} (h : Kd.C Kd.string w A l.length l) (j : Nat) (hj : j < l.length) : ∃ ad, A = some ad ∧ w.cell? (ad.add j) = some (.string l[j]) := by
  obtain ⟨ad, e, hx⟩ := Kd.at_string h (j : Int) (Int.natCast_nonneg j) (by omega)
  rw [rdOf_nat _ _ _ hj, Int.toNat_natCast] at hx
  exact ⟨ad, e, hx⟩
theorem empty_list {s : ByteArray} (h : s.size = 0) : s.toList = [] := by
  rw [ByteArray.toList_eq]
  exact List.eq_nil_of_length_eq_zero (by rw [Array.length_toList]; exact h)
theorem some_list {s : ByteArray} (h : s.size ≠ 0) : s.toList.isEmpty = false := by
  rw [Bool.eq_false_iff]
  intro e
  have e := List.isEmpty_iff.1 e
  rw [ByteArray.toList_eq] at e
  have := congrArg List.length e
  rw [Array.length_toList] at this
  exact h this
theorem mk_skip {l keys : List ByteArray} {i : Nat} (h : i < l.length) (hs : l[i].size = 0) : mk l keys (i + 1) = mk l keys i := by simp only [mk, getD_in h, if_pos hs, List.append_nil]
theorem mk_take {l keys : List ByteArray} {i : Nat} (h : i < l.length) (hk : i < keys.length) (hs : l[i].size ≠ 0) : mk l keys (i + 1) = mk l keys i ++ [keys[i]] := by simp only [mk, getD_in h, getD_in hk, if_neg hs]
theorem mks_next {ll : List (List ByteArray)} {keys : List ByteArray} {j : Nat} (h : j < ll.length) : mks ll keys (j + 1) = mks ll keys j ++ mk ll[j] keys keys.length := by
  simp only [mks]
  rw [List.getD_eq_getElem?_getD, List.getElem?_eq_getElem h, Option.getD_some]

/-- What the sets' rounds keep. -/
structure VI (w : World) (mb : Nat) (S : List ByteArray) (v8 v9 : Value) (wr : World) : Prop where
  set : SetAt wr mb S
  r8 : Kd.R Kd.string 9 wr w.heap.size (fun _ => True) v8 []
  r9 : Kd.R Kd.string 9 wr w.heap.size (fun _ => True) v9 []
  below : Below w.heap.size w wr
theorem own_ne_map {w : World} {mb : Nat} {S : List ByteArray} (h : SetAt w mb S) {base : Nat} {v : Value} {l : List ByteArray} (hr : Kd.R Kd.string 9 w base (fun _ => True) v l) : Kd.R Kd.string 9 w base (fun k => k ≠ mb) v l := by
  obtain ⟨D, ⟨es, clock, hh, _⟩, _⟩ := h
  exact Kd.R_mono (Kd.R_bound hr) fun k hk e => by
    obtain ⟨_, _, _, q, _, cells, hc⟩ := hk
    rw [e, hh] at hc
    cases hc
theorem VI.next {w : World} {mb : Nat} {S S' : List ByteArray} {v8 v9 : Value} {wr wr' : World} (h : VI w mb S v8 v9 wr) {o : Obj} (hmb : w.heap.size ≤ mb) (hs : SetAt wr' mb S') (hg : (wr.alloc o).grownBy wr' (some mb)) : VI w mb S' v8 v9 wr' := by
  have sz := hg.size
  rw [World.size_alloc] at sz
  have keep : ∀ k, k ≠ mb → k < wr.heap.size → wr'.heap[k]? = wr.heap[k]? := fun k hk hlt => (hg.block k (by rw [World.size_alloc]; omega) (by simpa using hk)).trans (Below.heap_alloc wr o k hlt)
  refine ⟨hs, Kd.R_mono (Kd.R_step (own_ne_map h.set h.r8) keep) fun _ _ => trivial, Kd.R_mono (Kd.R_step (own_ne_map h.set h.r9) keep) fun _ _ => trivial, hg.os.trans h.below.os, hg.tape.trans h.below.tape, hg.output.trans h.below.output, by have := h.below.size; omega, fun k hk => ?_⟩
  exact (keep k (by omega) (by have := h.below.size; omega)).trans (h.below.block k hk)
theorem vi_start (w : World) : VI w (w.heap.size + 1 + 1) [] (.slice (some ⟨w.heap.size, 0, none⟩) 0 0) (.slice (some ⟨w.heap.size + 1, 0, none⟩) 0 0) (((w.alloc (.cells #[] 9)).alloc (.cells #[] 9)).alloc (.map #[] 0)) := by
  have h := SetAt.made ((w.alloc (.cells #[] 9)).alloc (.cells #[] 9))
  simp only [World.size_alloc] at h
  refine ⟨h, made_R (blk_alloc (blk_alloc (blk_new w _) _) _) (Nat.le_refl _) rfl, made_R (b := w.heap.size + 1) ?_ (by omega) rfl, below_alloc (below_alloc (below_alloc (Below.refl _ _) _) _) _⟩
  have := blk_new (w.alloc (.cells #[] 9)) (.cells #[] 9)
  rw [World.size_alloc] at this
  exact blk_alloc this _

theorem meas {L j : Nat} (h : j < L) (hL : L ≤ 10) : L - (intOf (.int .i64 ((j : Int) + 1))).toNat < L - (intOf (.int .i64 (j : Int))).toNat := by
  simp only [intOf]
  omega

/-- What the rounds behind keep. -/
structure VJ (w : World) (mb : Nat) (S : List ByteArray) (P8 : Nat → Prop) (v8 : Value) (l8 : List ByteArray) (P9 : Nat → Prop) (v9 : Value) (l9 : List ByteArray) (wr : World) : Prop where
  set : SetAt wr mb S
  r8 : Kd.R Kd.string 9 wr w.heap.size P8 v8 l8
  r9 : Kd.R Kd.string 9 wr w.heap.size P9 v9 l9
  below : Below w.heap.size w wr
theorem map_ne {w : World} {mb : Nat} {S : List ByteArray} (h : SetAt w mb S) {base : Nat} {v : Value} {l : List ByteArray} {P : Nat → Prop} (hr : Kd.R Kd.string 9 w base P v l) : some mb ≠ v.ownBlock := fun e => by
  obtain ⟨D, ⟨es, clock, hh, _⟩, _⟩ := h
  obtain ⟨inner, ho⟩ := Kd.R_own hr
  obtain ⟨cells, hc⟩ := own_typed ho mb e.symm
  rw [hh] at hc
  cases hc
section
variable {w : World} {mb : Nat} {S : List ByteArray} {P8 : Nat → Prop} {v8 : Value} {l8 : List ByteArray} {P9 : Nat → Prop} {v9 : Value} {l9 : List ByteArray} {wr : World}
theorem VJ.next8 (h : VJ w mb S P8 v8 l8 P9 v9 l9 wr) (hd : ∀ k, P8 k → P9 k → False) {w3 : World} {v3 : Value} {l : List ByteArray} (hR : Kd.R Kd.string 9 w3 w.heap.size P8 v3 l) (hb : Below w.heap.size w w3) (hg : wr.grownBy w3 v8.ownBlock) : VJ w mb S P8 v3 l P9 v9 l9 w3 :=
  ⟨h.set.same (hg.block mb h.set.lt (map_ne h.set h.r8)), hR, Kd.R_grown h.r9 hg fun k hk e => hd k (h.r8.1 k e.symm) hk, hb⟩
theorem VJ.next9 (h : VJ w mb S P8 v8 l8 P9 v9 l9 wr) (hd : ∀ k, P8 k → P9 k → False) {w3 : World} {v3 : Value} {l : List ByteArray} (hR : Kd.R Kd.string 9 w3 w.heap.size P9 v3 l) (hb : Below w.heap.size w w3) (hg : wr.grownBy w3 v9.ownBlock) : VJ w mb S P8 v8 l8 P9 v3 l w3 :=
  ⟨h.set.same (hg.block mb h.set.lt (map_ne h.set h.r9)), Kd.R_grown h.r8 hg fun k hk e => hd k hk (h.r9.1 k e.symm), hR, hb⟩
theorem VJ.turn (h : VJ w mb S (fun k => k ≠ w.heap.size + 1) v8 l8 (fun k => k = w.heap.size + 1) v9 l9 wr) : VJ w mb S (fun k => some k = v8.ownBlock) v8 l8 (fun k => some k ≠ v8.ownBlock) v9 l9 wr := by
  refine ⟨h.set, ?_, Kd.R_mono h.r9 fun k hk e => h.r8.1 k e.symm hk, h.below⟩
  obtain ⟨inner, ho⟩ := Kd.R_own h.r8
  have ho : wr.ownsRow w.heap.size 9 1 v8 l8.length (encs Value.string l8) := Kd.own_of_R h.r8
  exact Kd.R_of_own (enc := Value.string) (h1 := fun _ => rfl) ho (fun k hk => hk.symm)
end
theorem VI.turn {w : World} {mb : Nat} {S : List ByteArray} {wr : World} {c8 c9 : Nat} (h : VI w mb S (.slice (some ⟨w.heap.size, 0, none⟩) 0 c8) (.slice (some ⟨w.heap.size + 1, 0, none⟩) 0 c9) wr) :
    VJ w mb S (fun k => k ≠ w.heap.size + 1) (.slice (some ⟨w.heap.size, 0, none⟩) 0 c8) [] (fun k => k = w.heap.size + 1) (.slice (some ⟨w.heap.size + 1, 0, none⟩) 0 c9) [] wr :=
  ⟨h.set, Kd.R_of_own (enc := Value.string) (h1 := fun _ => rfl) (Kd.own_of_R h.r8) (fun k hk => by simp [Value.ownBlock] at hk; omega), Kd.R_of_own (enc := Value.string) (h1 := fun _ => rfl) (Kd.own_of_R h.r9) (fun k hk => by simp [Value.ownBlock] at hk; omega), h.below⟩
theorem fresh9 {w wr : World} {v8 : Value} {l8 : List ByteArray} {P : Nat → Prop} (h : Kd.R Kd.string 9 wr w.heap.size P v8 l8) (k : Nat) (hk : wr.heap.size ≤ k) : some k ≠ v8.ownBlock := fun e => by
  obtain ⟨inner, ho⟩ := Kd.R_own h
  have := own_lt ho k e.symm
  omega
theorem kp_take {S keys : List ByteArray} {q : Nat} (h : q < keys.length) (hs : inS S keys[q] = true) : kp S keys (q + 1) = kp S keys q ++ [keys[q]] := by simp only [kp, getD_in h, if_pos hs]
theorem kp_skip {S keys : List ByteArray} {q : Nat} (h : q < keys.length) (hs : inS S keys[q] = false) : kp S keys (q + 1) = kp S keys q := by simp only [kp, getD_in h, hs, Bool.false_eq_true, if_false, List.append_nil]
theorem kv_full {S values keys : List ByteArray} {q : Nat} (h : q < values.length) (hs : values[q].size ≠ 0) : kv S values keys (q + 1) = kv S values keys q ++ [values[q]] := by
  simp only [kv, getD_in h]
  rw [if_neg fun e => hs e.1]
theorem kv_take {S values keys : List ByteArray} {q : Nat} (h : q < values.length) (hk : q < keys.length) (hs : inS S keys[q] = true) : kv S values keys (q + 1) = kv S values keys q ++ [values[q]] := by
  simp only [kv, getD_in h, getD_in hk, hs]
  rw [if_neg fun e => by cases e.2]
theorem kv_skip {S values keys : List ByteArray} {q : Nat} (h : q < values.length) (hk : q < keys.length) (h0 : values[q].size = 0) (hs : inS S keys[q] = false) : kv S values keys (q + 1) = kv S values keys q := by
  simp only [kv, getD_in h, getD_in hk, hs]
  rw [if_pos ⟨h0, trivial⟩, List.append_nil]
theorem lenok {a q L : Nat} (h : a ≤ q) (hq : q < L) (hL : L ≤ 10) : (a + 1) * 16 ≤ 140737488355328 := by omega
theorem info9 : (Try.prog.info? 9).map (fun i => (i.zero, i.size, i.bytes)) = some (some (.string ⟨#[]⟩), 1, 16) := by kernel_rfl
theorem nz {n : Nat} (h : n ≠ 0) : ((n : Int) == 0) = false := by simp [h]

set_option maxHeartbeats 4000000 in
theorem valid_calls (A B K : Option Addr) (ca cb ck : Nat) (ll : List (List ByteArray)) (values keys : List ByteArray) (w : World) (hr : Kd.C (Kd.slice 9 Kd.string) w A ll.length ll) (hv : Kd.C Kd.string w B values.length values) (hk : Kd.C Kd.string w K keys.length keys)
    (hl : ∀ l ∈ ll, l.length = keys.length) (hlv : values.length = keys.length) (hll : ll.length ≤ 10) (hkl : keys.length ≤ 10) (hsz : ∀ s ∈ keys, s.size ≤ 1000) (hcb : values.length ≤ cb) (hck : keys.length ≤ ck) :
    Calls Try.prog 24 #[.slice A ll.length ca, .slice B values.length cb, .slice K keys.length ck] w fun e w' => ∃ v1 v2, e = .returned (.tuple #[v1, v2]) ∧ Rd w' v1 (valid ll values keys).1 ∧ Rd w' v2 (valid ll values keys).2 ∧ Below w.heap.size w w' := by
  have HR := Aside0.mk hr
  have HV := Aside0.mk hv
  have HK := Aside0.mk hk
  have HL := Aside0.mk hl
  have HLV := Aside0.mk hlv
  have HSZ := Aside0.mk hsz
  have hmk := make0
  have hmm := @run_makeMap Try.prog
  clear hr hv hk hl hlv hsz
  go_enter Try.func24, Try.ntmps24
  go_wp2_with fail
  go_loopw [24] (fun i wr => ∃ j : Nat, j ≤ ll.length ∧ i = .int .i64 j ∧ Aside0 (VI w (w.heap.size + 1 + 1) (mks ll keys j) (.slice (some ⟨w.heap.size, 0, none⟩) 0 0) (.slice (some ⟨w.heap.size + 1, 0, none⟩) 0 0) wr)) (fun i _ => ll.length - (intOf i).toNat)
  case atStart => exact ⟨0, Nat.zero_le _, rfl, ⟨vi_start w⟩⟩
  case round =>
    obtain ⟨j, hj, rfl, HI⟩ := hrel
    by_cases hlt : j < ll.length
    · have HLT := Aside0.mk hlt
      obtain ⟨ad, B1, c1, e0, hcell0, hcap, hrow⟩ := row_at HR.out j hlt
      cases e0
      have hcell := pw_cell_below HI.out.below hcell0
      have HROW := Aside0.mk hrow
      have HLJ := Aside0.mk (HL.out _ (List.getElem_mem hlt))
      have hl10 : ll[j].length ≤ 10 := by rw [HLJ.out]; exact hkl
      clear hrow hcell0
      go_wp2_with fail
      go_loopw [30] (fun i wr2 => ∃ q : Nat, q ≤ ll[j].length ∧ i = .int .i64 q ∧ Aside0 (VI w (w.heap.size + 1 + 1) (mks ll keys j ++ mk ll[j] keys q) (.slice (some ⟨w.heap.size, 0, none⟩) 0 0) (.slice (some ⟨w.heap.size + 1, 0, none⟩) 0 0) wr2)) (fun i _ => ll[j].length - (intOf i).toNat)
      case atStart => exact ⟨0, Nat.zero_le _, rfl, ⟨by simpa [mk] using HI.out⟩⟩
      case round =>
        obtain ⟨q, hq, rfl, HI2⟩ := hrel
        by_cases hqlt : q < ll[j].length
        · have HQ := Aside0.mk hqlt
          have hqk : q < keys.length := by rw [← HLJ.out]; exact hqlt
          obtain ⟨ad1, e1, hx⟩ := str_at (Kd.C_below HROW.out HI2.out.below) q hqlt
          cases e1
          obtain ⟨ad2, e2, hy⟩ := str_at (Kd.C_below HK.out HI2.out.below) q hqk
          cases e2
          by_cases hs : ll[j][q].size = 0
          · have HS2 := Aside0.mk (mk_skip (keys := keys) hqlt hs)
            have h2 : ll[j][q].toList = [] := empty_list hs
            clear hs
            go_wp2_with fail
            go_roundw
            case rel => exact ⟨q + 1, HQ.out, rfl, ⟨by rw [HS2.out]; exact HI2.out⟩⟩
            case measure => exact meas HQ.out hl10
          · have HS2 := Aside0.mk (mk_take (keys := keys) hqlt hqk hs)
            have h2 : ll[j][q].toList.isEmpty = false := some_list hs
            have hn : (mks ll keys j ++ mk ll[j] keys q).length < maxLen := by
              have a1 := mks_len ll keys j
              have a2 := mk_len ll[j] keys q
              have a3 : j * keys.length ≤ 10 * 10 := Nat.mul_le_mul (by omega) hkl
              rw [List.length_append]
              unfold maxLen
              omega
            have HN := Aside0.mk hn
            have HKZ := Aside0.mk (HSZ.out _ (List.getElem_mem hqk))
            clear hs hn
            go_wp2_with (go_at_call 25; refine (insert_calls (w.heap.size + 1 + 1) _ (mks ll keys j ++ mk ll[j] keys q) keys[q] _ (HI2.out.set.same (Below.heap_alloc _ _ _ HI2.out.set.lt)) (blk_new _ _) (by have := HKZ.out; unfold maxLen; omega) HN.out).mono ?_; rintro e W2 ⟨rfl, hset, hg⟩; have HG := Aside0.mk (HI2.out.next (by omega) hset hg); clear hset hg)
            go_roundw
            case rel => exact ⟨q + 1, HQ.out, rfl, ⟨by rw [HS2.out, ← List.append_assoc]; exact HG.out⟩⟩
            case measure => exact meas HQ.out hl10
        · have e : q = ll[j].length := by omega
          subst e
          have HM := Aside0.mk (mks_next (keys := keys) hlt)
          go_wp2_with fail
          go_roundw
          case rel => exact ⟨j + 1, HLT.out, rfl, ⟨by rw [HM.out, ← HLJ.out]; exact HI2.out⟩⟩
          case measure => exact meas HLT.out hll
    · have e : j = ll.length := by omega
      subst e
      go_wp2_with fail
      go_at_call 26
      refine (len_calls _ _ _ HI.out.set).mono ?_
      rintro e W2 ⟨n, rfl, hn, rfl⟩
      by_cases hS : mks ll keys ll.length = []
      · obtain rfl := hn.2 hS
        have HS := Aside0.mk hS
        clear hn hS
        go_wp2
        go_ret2
        refine ⟨_, _, rfl, ?_, ?_, HI.out.below⟩
        · rw [valid, if_pos HS.out]; exact ⟨K, ck, rfl, hck, Kd.C_below HK.out HI.out.below⟩
        · rw [valid, if_pos HS.out]; exact ⟨B, cb, rfl, hcb, Kd.C_below HV.out HI.out.below⟩
      · have hn0 := nz (fun e => hS (hn.1 e))
        have HS := Aside0.mk hS
        have HJ := Aside0.mk HI.out.turn
        clear hn hS HI
        go_wp2_with fail
        go_loopw [8, 53] (fun v i wr => ∃ q : Nat, q ≤ keys.length ∧ i = .int .i64 q ∧ Aside0 (VJ w (w.heap.size + 1 + 1) (mks ll keys ll.length) (fun k => k ≠ w.heap.size + 1) v (kp (mks ll keys ll.length) keys q) (fun k => k = w.heap.size + 1) (.slice (some ⟨w.heap.size + 1, 0, none⟩) 0 0) [] wr)) (fun _ i _ => keys.length - (intOf i).toNat)
        case atStart => exact ⟨0, Nat.zero_le _, rfl, ⟨HJ.out⟩⟩
        case round =>
          obtain ⟨q, hq, rfl, HI⟩ := hrel
          clear HJ
          by_cases hqlt : q < keys.length
          · have HQ := Aside0.mk hqlt
            obtain ⟨ad2, e2, hy⟩ := str_at (Kd.C_below HK.out HI.out.below) q hqlt
            cases e2
            have HKZ := Aside0.mk (HSZ.out _ (List.getElem_mem hqlt))
            have HC := Aside0.mk (has_calls (w.heap.size + 1 + 1) (mks ll keys ll.length) keys[q] _ HI.out.set (by have := HKZ.out; unfold maxLen; omega))
            cases hin : inS (mks ll keys ll.length) keys[q] with
            | true =>
              have HT := Aside0.mk (kp_take hqlt hin)
              rw [hin] at HC
              clear hin
              go_wp2_with (first
                | (go_at_call 27; refine HC.out.mono ?_; rintro e W2 ⟨rfl, rfl⟩)
                | (refine gate_builtin (b := .append) (xs := #[.tmp 60, .tmp 62]) rfl ?_; at_builtin; refine Kd.R_append Kd.string (w0 := w) w.heap.size rfl (.tmp 60) (.tmp 62) 22 9 (.string ⟨#[]⟩) 16 rfl Try.underlying22 info9 rfl (by decide) (by omega) _ (kp (mks ll keys ll.length) keys q) keys[q] [.string keys[q]] (fun k => k ≠ w.heap.size + 1) (fun _ => False) rfl rfl rfl (fun _ h => h.elim) (fun k hk => by have := HI.out.below.size; have := HI.out.set.lt; omega) HI.out.r8 HI.out.below HI.out.below.size (lenok (kp_len _ _ _) HQ.out hkl) ?_; intro v3 w3 ho3 hb3 hg3 _))
              go_roundw
              case rel => exact ⟨q + 1, HQ.out, rfl, ⟨by rw [HT.out]; exact HI.out.next8 (fun k h1 h2 => h1 h2) ho3 hb3 hg3⟩⟩
              case measure => exact meas HQ.out hkl
            | false =>
              have HT := Aside0.mk (kp_skip hqlt hin)
              rw [hin] at HC
              clear hin
              go_wp2_with (go_at_call 27; refine HC.out.mono ?_; rintro e W2 ⟨rfl, rfl⟩)
              go_roundw
              case rel => exact ⟨q + 1, HQ.out, rfl, ⟨by rw [HT.out]; exact HI.out⟩⟩
              case measure => exact meas HQ.out hkl
          · have e : q = keys.length := by omega
            subst e
            have HJ := Aside0.mk HI.out.turn
            clear HI
            go_wp2_with fail
            go_loopw [9, 67] (fun v i wr => ∃ q : Nat, q ≤ values.length ∧ i = .int .i64 q ∧ Aside0 (VJ w (w.heap.size + 1 + 1) (mks ll keys ll.length) (fun k => some k = u8.ownBlock) u8 (kp (mks ll keys ll.length) keys keys.length) (fun k => some k ≠ u8.ownBlock) v (kv (mks ll keys ll.length) values keys q) wr)) (fun _ i _ => values.length - (intOf i).toNat)
            case atStart => exact ⟨0, Nat.zero_le _, rfl, ⟨HJ.out⟩⟩
            case round =>
              obtain ⟨q, hq, rfl, HI⟩ := hrel
              clear HJ
              by_cases hqlt : q < values.length
              · have HQ := Aside0.mk hqlt
                have hvl : values.length ≤ 10 := by rw [HLV.out]; exact hkl
                have hqk : q < keys.length := by rw [← HLV.out]; exact hqlt
                obtain ⟨ad1, e1, hx⟩ := str_at (Kd.C_below HV.out HI.out.below) q hqlt
                cases e1
                have HAP := Aside0.mk (lenok (kv_len (mks ll keys ll.length) values keys q) HQ.out hvl)
                by_cases hs : values[q].size = 0
                · have h2 : values[q].toList = [] := empty_list hs
                  obtain ⟨ad2, e2, hy⟩ := str_at (Kd.C_below HK.out HI.out.below) q hqk
                  cases e2
                  have HKZ := Aside0.mk (HSZ.out _ (List.getElem_mem hqk))
                  have HC := Aside0.mk (has_calls (w.heap.size + 1 + 1) (mks ll keys ll.length) keys[q] _ HI.out.set (by have := HKZ.out; unfold maxLen; omega))
                  cases hin : inS (mks ll keys ll.length) keys[q] with
                  | true =>
                    have HT := Aside0.mk (kv_take hqlt hqk hin)
                    rw [hin] at HC
                    clear hin hs
                    go_wp2_with (first
                      | (go_at_call 27; refine HC.out.mono ?_; rintro e W2 ⟨rfl, rfl⟩)
                      | (refine gate_builtin (b := .append) (xs := #[.tmp 82, .tmp 84]) rfl ?_; at_builtin; refine Kd.R_append Kd.string (w0 := w) w.heap.size rfl (.tmp 82) (.tmp 84) 22 9 (.string ⟨#[]⟩) 16 rfl Try.underlying22 info9 rfl (by decide) (by omega) _ (kv (mks ll keys ll.length) values keys q) values[q] [.string values[q]] (fun k => some k ≠ u8.ownBlock) (fun _ => False) rfl rfl rfl (fun _ h => h.elim) (fresh9 HI.out.r8) HI.out.r9 HI.out.below HI.out.below.size HAP.out ?_; intro v3 w3 ho3 hb3 hg3 _))
                    go_roundw
                    case rel => exact ⟨q + 1, HQ.out, rfl, ⟨by rw [HT.out]; exact HI.out.next9 (fun k h1 h2 => h2 h1) ho3 hb3 hg3⟩⟩
                    case measure => exact meas HQ.out hvl
                  | false =>
                    have HT := Aside0.mk (kv_skip hqlt hqk hs hin)
                    rw [hin] at HC
                    clear hin hs
                    go_wp2_with (go_at_call 27; refine HC.out.mono ?_; rintro e W2 ⟨rfl, rfl⟩)
                    go_roundw
                    case rel => exact ⟨q + 1, HQ.out, rfl, ⟨by rw [HT.out]; exact HI.out⟩⟩
                    case measure => exact meas HQ.out hvl
                · have HT := Aside0.mk (kv_full (S := mks ll keys ll.length) (keys := keys) hqlt hs)
                  have h2 : values[q].toList.isEmpty = false := some_list hs
                  clear hs
                  go_wp2_with (refine gate_builtin (b := .append) (xs := #[.tmp 82, .tmp 84]) rfl ?_; at_builtin; refine Kd.R_append Kd.string (w0 := w) w.heap.size rfl (.tmp 82) (.tmp 84) 22 9 (.string ⟨#[]⟩) 16 rfl Try.underlying22 info9 rfl (by decide) (by omega) _ (kv (mks ll keys ll.length) values keys q) values[q] [.string values[q]] (fun k => some k ≠ u8.ownBlock) (fun _ => False) rfl rfl rfl (fun _ h => h.elim) (fresh9 HI.out.r8) HI.out.r9 HI.out.below HI.out.below.size HAP.out ?_; intro v3 w3 ho3 hb3 hg3 _)
                  go_roundw
                  case rel => exact ⟨q + 1, HQ.out, rfl, ⟨by rw [HT.out]; exact HI.out.next9 (fun k h1 h2 => h2 h1) ho3 hb3 hg3⟩⟩
                  case measure => exact meas HQ.out hvl
              · have e : q = values.length := by omega
                subst e
                go_wp2_with fail
                go_ret2
                refine ⟨_, _, rfl, ?_, ?_, HI.out.below⟩
                · rw [valid, if_neg HS.out]; exact rd_of_R HI.out.r8
                · rw [valid, if_neg HS.out]; exact rd_of_R HI.out.r9

end Go.Proofs.Ytefejcggkkmhaaa.HSets
