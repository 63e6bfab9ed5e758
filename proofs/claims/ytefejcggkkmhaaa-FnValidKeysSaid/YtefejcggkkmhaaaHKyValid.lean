/- What the reference's KyValid comes to: the same keys and values. -/
import Derived.Test.YtefejcggkkmhaaaHValid
namespace Go.Proofs.Ytefejcggkkmhaaa.HSets
open Go.RowKit Go.WideMaps Go.Maps Go.Proofs.YtefejcggkkmhaaaW.PrintWords Go.Proofs.YtefejcggkkmhaaaW.PrintLast Go.Proofs.YtefejcggkkmhaaaW.PrintMore Go.Proofs.Ytefejcggkkmhaaa.Plain

def bs (l : List Bool) : Array Value := (l.map Value.bool).toArray
theorem makeB (n : Nat) (h : n ≤ 10) (w : World) : (Instr.makeSlice 40 (.int .i64 (n : Int)) (.int .i64 (n : Int))).run Try.prog w = .ok (.slice (some ⟨w.heap.size, 0, none⟩) n n) (w.alloc (.cells (bs (List.replicate n false)) 4)) := by
  have e : bs (List.replicate n false) = madeCells #[.bool false] n := by
    apply Array.ext
    · simp [bs, madeCells]
    · intro i h1 h2
      simp [bs, madeCells, Nat.mod_one]
  rw [e]
  exact run_make_row' 40 4 (.bool false) 1 Try.underlying40 (by kernel_rfl) rfl .i64 .i64 n (by omega) (by omega) w
/-- The flags so far: of the first keys with one text more. -/
def upd (S keys : List ByteArray) (s : ByteArray) (c : Nat) : List Bool := (keys.take c).map (inS (S ++ [s])) ++ (keys.drop c).map (inS S)
theorem inS_snoc (S : List ByteArray) (s t : ByteArray) : inS (S ++ [s]) t = (inS S t || decide (s = t)) := by simp [inS]
theorem upd_zero (S keys : List ByteArray) (s : ByteArray) : upd S keys s 0 = keys.map (inS S) := by simp [upd]
theorem upd_all (S keys : List ByteArray) (s : ByteArray) : upd S keys s keys.length = keys.map (inS (S ++ [s])) := by simp [upd]
theorem upd_len (S keys : List ByteArray) (s : ByteArray) (c : Nat) : (upd S keys s c).length = keys.length := by simp [upd]; omega
theorem upd_same {S keys : List ByteArray} {s : ByteArray} {c : Nat} (h : c < keys.length) (hs : keys[c] ≠ s) : upd S keys s (c + 1) = upd S keys s c := by
  unfold upd
  rw [take_next h, drop_next h]
  simp only [List.map_append, List.map_cons, List.map_nil, List.append_assoc, List.cons_append, List.nil_append]
  rw [inS_snoc S s keys[c], decide_eq_false (Ne.symm hs), Bool.or_false]
theorem upd_set {S keys : List ByteArray} {s : ByteArray} {c : Nat} (h : c < keys.length) (hs : keys[c] = s) : upd S keys s (c + 1) = (upd S keys s c).set c true := by
  unfold upd
  rw [take_next h, drop_next h, List.set_append]
  have e : ((keys.take c).map (inS (S ++ [s]))).length = c := by simp; omega
  rw [if_neg (by omega), e]
  simp [inS_snoc, hs]
def fl (S keys : List ByteArray) (s : ByteArray) (c : Nat) : Bool := !S.isEmpty || (keys.take c).any fun t => decide (t = s)
theorem fl_zero (S keys : List ByteArray) (s : ByteArray) : fl S keys s 0 = !S.isEmpty := by simp [fl]
theorem fl_set {S keys : List ByteArray} {s : ByteArray} {c : Nat} (h : c < keys.length) (hs : keys[c] = s) : fl S keys s (c + 1) = true := by
  unfold fl
  rw [take_next h]
  simp [hs]
theorem fl_same {S keys : List ByteArray} {s : ByteArray} {c : Nat} (h : c < keys.length) (hs : keys[c] ≠ s) : fl S keys s (c + 1) = fl S keys s c := by
  unfold fl
  rw [take_next h, List.any_append]
  simp only [List.any_cons, List.any_nil, Bool.or_false, decide_eq_false hs]
theorem fl_all {S keys : List ByteArray} {q : Nat} (h : q < keys.length) : fl S keys keys[q] keys.length = !(S ++ [keys[q]]).isEmpty := by
  unfold fl
  rw [List.take_length]
  have : (keys.any fun t => decide (t = keys[q])) = true := List.any_eq_true.2 ⟨keys[q], List.getElem_mem h, by simp⟩
  rw [this]
  simp

structure KI (w : World) (l : List Bool) (wr : World) : Prop where
  box : wr.heap[w.heap.size]? = some (.cells (bs l) 4 (0, 0))
  below : Below w.heap.size w wr
theorem ki_start (w : World) (keys : List ByteArray) : KI w (keys.map (inS [])) (w.alloc (.cells (bs (List.replicate keys.length false)) 4)) := by
  refine ⟨?_, below_alloc (Below.refl _ _) _⟩
  rw [blk_new]
  have : keys.map (inS []) = List.replicate keys.length false := by
    rw [List.eq_replicate_iff]
    simp [inS]
  rw [this]
theorem KI.drewN {w wr : World} {l : List Bool} (h : KI w l wr) (n : Nat) : KI w l (wr.drewN n) := ⟨blk_drewN h.box n, pw_below_drewN h.below n⟩
theorem KI.set {w wr : World} {l : List Bool} (h : KI w l wr) (c : Nat) : KI w (l.set c true) (wr.setCell ⟨w.heap.size, c, none⟩ (.bool true)) := by
  refine ⟨blk_put h.box c (.bool true) ?_, h.below.setCell (p := ⟨w.heap.size, c, none⟩) (by simp) _⟩
  unfold bs
  apply Array.ext
  · simp
  · intro i h1 h2
    simp only [List.getElem_toArray, List.getElem_map, List.getElem_set] at *
    split <;> simp_all
theorem KI.at {w wr : World} {l : List Bool} (h : KI w l wr) (c : Nat) (hc : c < l.length) : wr.cell? ⟨w.heap.size, c, none⟩ = some (.bool l[c]) := by
  rw [blk_cell h.box c]
  unfold bs
  simp [hc]


structure KJ (w : World) (l : List Bool) (P6 : Nat → Prop) (v6 : Value) (l6 : List ByteArray) (P7 : Nat → Prop) (v7 : Value) (l7 : List ByteArray) (wr : World) : Prop where
  box : wr.heap[w.heap.size]? = some (.cells (bs l) 4 (0, 0))
  r6 : Kd.R Kd.string 9 wr w.heap.size P6 v6 l6
  r7 : Kd.R Kd.string 9 wr w.heap.size P7 v7 l7
  below : Below w.heap.size w wr
section
variable {w : World} {l : List Bool} {P6 : Nat → Prop} {v6 : Value} {l6 : List ByteArray} {P7 : Nat → Prop} {v7 : Value} {l7 : List ByteArray} {wr : World}
theorem KJ.next6 (h : KJ w l P6 v6 l6 P7 v7 l7 wr) (hd : ∀ k, P6 k → P7 k → False) {w3 : World} {v3 : Value} {x : List ByteArray} (hR : Kd.R Kd.string 9 w3 w.heap.size P6 v3 x) (hb : Below w.heap.size w w3) (hg : wr.grownBy w3 v6.ownBlock) : KJ w l P6 v3 x P7 v7 l7 w3 :=
  ⟨(hg.block _ (blk_lt h.box) (Kd.R_ne h.r6 h.box (by decide))).trans h.box, hR, Kd.R_grown h.r7 hg fun k hk e => hd k (h.r6.1 k e.symm) hk, hb⟩
theorem KJ.next7 (h : KJ w l P6 v6 l6 P7 v7 l7 wr) (hd : ∀ k, P6 k → P7 k → False) {w3 : World} {v3 : Value} {x : List ByteArray} (hR : Kd.R Kd.string 9 w3 w.heap.size P7 v3 x) (hb : Below w.heap.size w w3) (hg : wr.grownBy w3 v7.ownBlock) : KJ w l P6 v6 l6 P7 v3 x w3 :=
  ⟨(hg.block _ (blk_lt h.box) (Kd.R_ne h.r7 h.box (by decide))).trans h.box, Kd.R_grown h.r6 hg fun k hk e => hd k hk (h.r7.1 k e.symm), hR, hb⟩
theorem KJ.turn (h : KJ w l (fun _ => True) v6 l6 (fun _ => False) (.slice none 0 0) [] wr) : KJ w l (fun k => some k = v6.ownBlock) v6 l6 (fun k => some k ≠ v6.ownBlock) (.slice none 0 0) [] wr :=
  ⟨h.box, Kd.R_of_own (enc := Value.string) (h1 := fun _ => rfl) (Kd.own_of_R h.r6) (fun _ hk => hk.symm), Kd.R_nil _ _ _ _ _, h.below⟩
theorem KJ.at (h : KJ w l P6 v6 l6 P7 v7 l7 wr) (c : Nat) (hc : c < l.length) : wr.cell? ⟨w.heap.size, c, none⟩ = some (.bool l[c]) := KI.at (w := w) ⟨h.box, h.below⟩ c hc
end

set_option maxHeartbeats 4000000 in
theorem ky_calls (A B K : Option Addr) (ca cb ck : Nat) (ll : List (List ByteArray)) (values keys : List ByteArray) (w : World) (hr : Kd.C (Kd.slice 9 Kd.string) w A ll.length ll) (hv : Kd.C Kd.string w B values.length values) (hk : Kd.C Kd.string w K keys.length keys)
    (hl : ∀ l ∈ ll, l.length = keys.length) (hlv : values.length = keys.length) (hll : ll.length ≤ 10) (hkl : keys.length ≤ 10) (hcb : values.length ≤ cb) (hck : keys.length ≤ ck) :
    Calls Try.prog 17 #[.slice A ll.length ca, .slice B values.length cb, .slice K keys.length ck] w fun e w' => ∃ v1 v2, e = .returned (.tuple #[v1, v2]) ∧ Rd w' v1 (valid ll values keys).1 ∧ Rd w' v2 (valid ll values keys).2 ∧ Below w.heap.size w w' := by
  have HR := Aside0.mk hr
  have HV := Aside0.mk hv
  have HK := Aside0.mk hk
  have HL := Aside0.mk hl
  have HLV := Aside0.mk hlv
  have hmk := makeB keys.length hkl
  clear hr hv hk hl hlv
  go_enter Try.func17, Try.ntmps17
  go_wp2_with fail
  go_loopw [9, 24] (fun f i wr => ∃ j : Nat, j ≤ ll.length ∧ i = .int .i64 j ∧ f = .bool (!(mks ll keys j).isEmpty) ∧ Aside0 (KI w (keys.map (inS (mks ll keys j))) wr)) (fun _ i _ => ll.length - (intOf i).toNat)
  case atStart => exact ⟨0, Nat.zero_le _, rfl, rfl, ⟨ki_start w keys⟩⟩
  case round =>
    obtain ⟨j, hj, rfl, rfl, HI⟩ := hrel
    by_cases hlt : j < ll.length
    · have HLT := Aside0.mk hlt
      obtain ⟨ad, B1, c1, e0, hcell0, hcap, hrow⟩ := row_at HR.out j hlt
      cases e0
      have hcell := pw_cell_below HI.out.below hcell0
      have HROW := Aside0.mk hrow
      have HLJ := Aside0.mk (HL.out _ (List.getElem_mem hlt))
      have hl10 : ll[j].length ≤ 10 := by rw [HLJ.out]; exact hkl
      clear hrow hcell0
      go_wp2_with fail
      go_loopw [9, 30] (fun f i wr => ∃ q : Nat, q ≤ ll[j].length ∧ i = .int .i64 q ∧ f = .bool (!(mks ll keys j ++ mk ll[j] keys q).isEmpty) ∧ Aside0 (KI w (keys.map (inS (mks ll keys j ++ mk ll[j] keys q))) wr)) (fun _ i _ => ll[j].length - (intOf i).toNat)
      case atStart => exact ⟨0, Nat.zero_le _, rfl, by simp [mk], ⟨by simpa [mk] using HI.out⟩⟩
      case round =>
        obtain ⟨q, hq, rfl, rfl, HI2⟩ := hrel
        by_cases hqlt : q < ll[j].length
        · have HQ := Aside0.mk hqlt
          have hqk : q < keys.length := by rw [← HLJ.out]; exact hqlt
          obtain ⟨ad1, e1, hx⟩ := str_at (Kd.C_below HROW.out HI2.out.below) q hqlt
          cases e1
          generalize hS0 : mks ll keys j ++ mk ll[j] keys q = S0 at HI2 ⊢
          have HS0 := Aside0.mk hS0
          clear hS0
          by_cases hs : ll[j][q].size = 0
          · have HS2 := Aside0.mk (mk_skip (keys := keys) hqlt hs)
            have h2 : ll[j][q].toList = [] := empty_list hs
            clear hs
            go_wp2_with fail
            go_loopw [9, 37] (fun f i wr => ∃ c : Nat, c ≤ keys.length ∧ i = .int .i64 c ∧ f = .bool (!S0.isEmpty) ∧ Aside0 (KI w (keys.map (inS S0)) wr)) (fun _ i _ => keys.length - (intOf i).toNat)
            case atStart => exact ⟨0, Nat.zero_le _, rfl, rfl, HI2⟩
            case round =>
              obtain ⟨c, hc, rfl, rfl, HI3⟩ := hrel
              by_cases hclt : c < keys.length
              · have HC := Aside0.mk hclt
                go_wp2_with fail
                go_quiet (fail)
                go_wp2_with fail
                go_roundw
                case rel => exact ⟨c + 1, HC.out, rfl, rfl, ⟨HI3.out.drewN _⟩⟩
                case measure => exact meas HC.out hkl
              · go_wp2_with fail
                go_roundw
                case rel => exact ⟨q + 1, HQ.out, rfl, by rw [HS2.out, HS0.out], ⟨by rw [HS2.out, HS0.out]; exact HI3.out⟩⟩
                case measure => exact meas HQ.out hl10
          · have HS2 := Aside0.mk (mk_take (keys := keys) hqlt hqk hs)
            have h2 : ll[j][q].toList.isEmpty = false := some_list hs
            clear hs
            go_wp2_with fail
            go_loopw [9, 37] (fun f i wr => ∃ c : Nat, c ≤ keys.length ∧ i = .int .i64 c ∧ f = .bool (fl S0 keys keys[q] c) ∧ Aside0 (KI w (upd S0 keys keys[q] c) wr)) (fun _ i _ => keys.length - (intOf i).toNat)
            case atStart => exact ⟨0, Nat.zero_le _, rfl, by rw [fl_zero], ⟨by rw [upd_zero]; exact HI2.out⟩⟩
            case round =>
              obtain ⟨c, hc, rfl, rfl, HI3⟩ := hrel
              by_cases hclt : c < keys.length
              · have HC := Aside0.mk hclt
                obtain ⟨ad2, e2, hy⟩ := str_at (Kd.C_below HK.out HI3.out.below) c hclt
                cases e2
                obtain ⟨ad3, e3, hz⟩ := str_at (Kd.C_below HK.out HI3.out.below) q hqk
                cases e3
                by_cases heq : keys[c] = keys[q]
                · have HE := Aside0.mk (upd_set (S := S0) hclt heq)
                  have HF := Aside0.mk (fl_set (S := S0) hclt heq)
                  have h3 : (keys[c].toList == keys[q].toList) = true := by rw [heq]; simp
                  have hbx := HI3.out.at c (by rw [upd_len]; exact hclt)
                  have hfz := blk_frozen HI3.out.box c
                  clear heq
                  go_wp2_with fail
                  go_quiet (fail)
                  go_wp2_with fail
                  go_roundw
                  case rel => exact ⟨c + 1, HC.out, rfl, by rw [HF.out], ⟨by rw [HE.out]; exact (HI3.out.drewN _).set c⟩⟩
                  case measure => exact meas HC.out hkl
                · have HE := Aside0.mk (upd_same (S := S0) hclt heq)
                  have HF := Aside0.mk (fl_same (S := S0) hclt heq)
                  have h3 : (keys[c].toList == keys[q].toList) = false := by rw [beq_toList]; simp [heq]
                  clear heq
                  go_wp2_with fail
                  go_quiet (fail)
                  go_wp2_with fail
                  go_roundw
                  case rel => exact ⟨c + 1, HC.out, rfl, by rw [HF.out], ⟨by rw [HE.out]; exact HI3.out.drewN _⟩⟩
                  case measure => exact meas HC.out hkl
              · have e : c = keys.length := by omega
                subst e
                have HF := Aside0.mk (fl_all (S := S0) hqk)
                go_wp2_with fail
                go_roundw
                case rel => exact ⟨q + 1, HQ.out, rfl, by rw [HS2.out, ← List.append_assoc, HS0.out, HF.out], ⟨by rw [HS2.out, ← List.append_assoc, HS0.out, ← upd_all]; exact HI3.out⟩⟩
                case measure => exact meas HQ.out hl10
        · have e : q = ll[j].length := by omega
          subst e
          have HM := Aside0.mk (mks_next (keys := keys) hlt)
          go_wp2_with fail
          go_roundw
          case rel => exact ⟨j + 1, HLT.out, rfl, by rw [HM.out, ← HLJ.out], ⟨by rw [HM.out, ← HLJ.out]; exact HI2.out⟩⟩
          case measure => exact meas HLT.out hll
    · have e : j = ll.length := by omega
      subst e
      by_cases hS : mks ll keys ll.length = []
      · have HS := Aside0.mk hS
        rw [hS]
        clear hS
        go_wp2_with fail
        go_ret2
        refine ⟨_, _, rfl, ?_, ?_, HI.out.below⟩
        · rw [valid, if_pos HS.out]; exact ⟨K, ck, rfl, hck, Kd.C_below HK.out HI.out.below⟩
        · rw [valid, if_pos HS.out]; exact ⟨B, cb, rfl, hcb, Kd.C_below HV.out HI.out.below⟩
      · have HS := Aside0.mk hS
        have he : (!(mks ll keys ll.length).isEmpty) = true := by simpa using hS
        rw [he]
        have HJ : Aside0 (KJ w (keys.map (inS (mks ll keys ll.length))) (fun _ => True) (.slice none 0 0) (kp (mks ll keys ll.length) keys 0) (fun _ => False) (.slice none 0 0) [] wr) := ⟨⟨HI.out.box, Kd.R_nil _ _ _ _ _, Kd.R_nil _ _ _ _ _, HI.out.below⟩⟩
        clear hS he HI
        go_wp2_with fail
        go_loopw [6, 65] (fun v i wr => ∃ q : Nat, q ≤ keys.length ∧ i = .int .i64 q ∧ Aside0 (KJ w (keys.map (inS (mks ll keys ll.length))) (fun _ => True) v (kp (mks ll keys ll.length) keys q) (fun _ => False) (.slice none 0 0) [] wr)) (fun _ i _ => keys.length - (intOf i).toNat)
        case atStart => exact ⟨0, Nat.zero_le _, rfl, HJ⟩
        case round =>
          obtain ⟨q, hq, rfl, HI⟩ := hrel
          clear HJ
          by_cases hqlt : q < keys.length
          · have HQ := Aside0.mk hqlt
            obtain ⟨ad2, e2, hy⟩ := str_at (Kd.C_below HK.out HI.out.below) q hqlt
            cases e2
            have hbx := HI.out.at q (by rw [List.length_map]; exact hqlt)
            rw [List.getElem_map] at hbx
            cases hin : inS (mks ll keys ll.length) keys[q] with
            | true =>
              have HT := Aside0.mk (kp_take hqlt hin)
              rw [hin] at hbx
              clear hin
              go_wp2_with (refine gate_builtin (b := .append) (xs := #[.tmp 74, .tmp 76]) rfl ?_; at_builtin; refine Kd.R_append Kd.string (w0 := w) w.heap.size rfl (.tmp 74) (.tmp 76) 22 9 (.string ⟨#[]⟩) 16 rfl Try.underlying22 info9 rfl (by decide) (by omega) _ (kp (mks ll keys ll.length) keys q) keys[q] [.string keys[q]] (fun _ => True) (fun _ => False) rfl rfl rfl (fun _ h => h.elim) (fun _ _ => trivial) HI.out.r6 HI.out.below HI.out.below.size (lenok (kp_len _ _ _) HQ.out hkl) ?_; intro v3 w3 ho3 hb3 hg3 _)
              go_roundw
              case rel => exact ⟨q + 1, HQ.out, rfl, ⟨by rw [HT.out]; exact HI.out.next6 (fun k _ h2 => h2) ho3 hb3 hg3⟩⟩
              case measure => exact meas HQ.out hkl
            | false =>
              have HT := Aside0.mk (kp_skip hqlt hin)
              rw [hin] at hbx
              clear hin
              go_wp2_with fail
              go_roundw
              case rel => exact ⟨q + 1, HQ.out, rfl, ⟨by rw [HT.out]; exact HI.out⟩⟩
              case measure => exact meas HQ.out hkl
          · have e : q = keys.length := by omega
            subst e
            have HJ := Aside0.mk HI.out.turn
            clear HI
            go_wp2_with fail
            go_loopw [7, 81] (fun v i wr => ∃ q : Nat, q ≤ values.length ∧ i = .int .i64 q ∧ Aside0 (KJ w (keys.map (inS (mks ll keys ll.length))) (fun k => some k = u6.ownBlock) u6 (kp (mks ll keys ll.length) keys keys.length) (fun k => some k ≠ u6.ownBlock) v (kv (mks ll keys ll.length) values keys q) wr)) (fun _ i _ => values.length - (intOf i).toNat)
            case atStart => exact ⟨0, Nat.zero_le _, rfl, HJ⟩
            case round =>
              obtain ⟨q, hq, rfl, HI⟩ := hrel
              clear HJ
              by_cases hqlt : q < values.length
              · have HQ := Aside0.mk hqlt
                have hvl : values.length ≤ 10 := by rw [HLV.out]; exact hkl
                have hqk : q < keys.length := by rw [← HLV.out]; exact hqlt
                obtain ⟨ad1, e1, hx⟩ := str_at (Kd.C_below HV.out HI.out.below) q hqlt
                cases e1
                have HAP := Aside0.mk (lenok (kv_len (mks ll keys ll.length) values keys q) HQ.out hvl)
                by_cases hs : values[q].size = 0
                · have h2 : values[q].toList = [] := empty_list hs
                  have hbx := HI.out.at q (by rw [List.length_map]; exact hqk)
                  rw [List.getElem_map] at hbx
                  cases hin : inS (mks ll keys ll.length) keys[q] with
                  | true =>
                    have HT := Aside0.mk (kv_take hqlt hqk hin)
                    rw [hin] at hbx
                    clear hin hs
                    go_wp2_with (refine gate_builtin (b := .append) (xs := #[.tmp 94, .tmp 96]) rfl ?_; at_builtin; refine Kd.R_append Kd.string (w0 := w) w.heap.size rfl (.tmp 94) (.tmp 96) 22 9 (.string ⟨#[]⟩) 16 rfl Try.underlying22 info9 rfl (by decide) (by omega) _ (kv (mks ll keys ll.length) values keys q) values[q] [.string values[q]] (fun k => some k ≠ u6.ownBlock) (fun _ => False) rfl rfl rfl (fun _ h => h.elim) (fresh9 HI.out.r6) HI.out.r7 HI.out.below HI.out.below.size HAP.out ?_; intro v3 w3 ho3 hb3 hg3 _)
                    go_roundw
                    case rel => exact ⟨q + 1, HQ.out, rfl, ⟨by rw [HT.out]; exact HI.out.next7 (fun k h1 h2 => h2 h1) ho3 hb3 hg3⟩⟩
                    case measure => exact meas HQ.out hvl
                  | false =>
                    have HT := Aside0.mk (kv_skip hqlt hqk hs hin)
                    rw [hin] at hbx
                    clear hin hs
                    go_wp2_with fail
                    go_roundw
                    case rel => exact ⟨q + 1, HQ.out, rfl, ⟨by rw [HT.out]; exact HI.out⟩⟩
                    case measure => exact meas HQ.out hvl
                · have HT := Aside0.mk (kv_full (S := mks ll keys ll.length) (keys := keys) hqlt hs)
                  have h2 : values[q].toList.isEmpty = false := some_list hs
                  clear hs
                  go_wp2_with (refine gate_builtin (b := .append) (xs := #[.tmp 94, .tmp 96]) rfl ?_; at_builtin; refine Kd.R_append Kd.string (w0 := w) w.heap.size rfl (.tmp 94) (.tmp 96) 22 9 (.string ⟨#[]⟩) 16 rfl Try.underlying22 info9 rfl (by decide) (by omega) _ (kv (mks ll keys ll.length) values keys q) values[q] [.string values[q]] (fun k => some k ≠ u6.ownBlock) (fun _ => False) rfl rfl rfl (fun _ h => h.elim) (fresh9 HI.out.r6) HI.out.r7 HI.out.below HI.out.below.size HAP.out ?_; intro v3 w3 ho3 hb3 hg3 _)
                  go_roundw
                  case rel => exact ⟨q + 1, HQ.out, rfl, ⟨by rw [HT.out]; exact HI.out.next7 (fun k h1 h2 => h2 h1) ho3 hb3 hg3⟩⟩
                  case measure => exact meas HQ.out hvl
              · have e : q = values.length := by omega
                subst e
                go_wp2_with fail
                go_ret2
                refine ⟨_, _, rfl, ?_, ?_, HI.out.below⟩
                · rw [valid, if_neg HS.out]; exact rd_of_R HI.out.r6
                · rw [valid, if_neg HS.out]; exact rd_of_R HI.out.r7

end Go.Proofs.Ytefejcggkkmhaaa.HSets
