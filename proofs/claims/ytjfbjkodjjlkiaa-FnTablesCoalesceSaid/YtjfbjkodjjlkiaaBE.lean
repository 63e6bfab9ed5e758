/- Bytes, and what is split of them by one sign: the packages' search and split. What chartutil's zzSplit comes to at a point: the names of a path. Looking up a name in a map; what tableLookup and Table come to. What tableLookup comes to. Tables found name by name: what tableLookup, parsePath and Table come to. Names joined with points between, and split again: joinPath; pure laws of it. -/
import Derived.Test.YtjfbjkodjjlkiaaPzzSplitx1
import Derived.Test.YtjfbjkodjjlkiaaPlain
import Derived.Test.YtjfbjkodjjlkiaaBD
import Derived.Test.YtjfbjkodjjlkiaaBA
import Derived.Test.YtjfbjkodjjlkiaaHShelfstringsJoin
/-! Bytes, and what is split of them by one sign: the packages' search and split. -/
namespace Go.Proofs.Ytjfbjkodjjlkiaa.HBytes
open Go.RowKit Go.Proofs.YtjfbjkodjjlkiaaW.PrintWords Go.Proofs.Ytjfbjkodjjlkiaa.Plain

/-- Bytes as a text. -/
def B (l : List UInt8) : ByteArray := ⟨l.toArray⟩
theorem B_size (l : List UInt8) : (B l).size = l.length := rfl
theorem B_toList (l : List UInt8) : (B l).toList = l := by rw [ByteArray.toList_eq]; rfl
theorem B_inj {l m : List UInt8} : B l = B m ↔ l = m := by rw [← toList_inj, B_toList, B_toList]
theorem B_data (s : ByteArray) : B s.data.toList = s := rfl
theorem B_append (l m : List UInt8) : B l ++ B m = B (l ++ m) := by
  apply toList_inj.1
  rw [B_toList, ByteArray.toList_eq, ByteArray.data_append]
  simp [B]
theorem B_extract (l : List UInt8) (i j : Nat) : (B l).extract i j = B ((l.drop i).take (j - i)) := by
  apply toList_inj.1
  rw [B_toList, ByteArray.toList_eq, ByteArray.data_extract]
  simp [B]

def spA (d : UInt8) (cur : List UInt8) : List UInt8 → List (List UInt8)
  | [] => [cur]
  | c :: r => if c = d then cur :: spA d [] r else spA d (cur ++ [c]) r
theorem spA_cons (d : UInt8) : ∀ (t cur : List UInt8), ∃ x xs, spA d cur t = (cur ++ x) :: xs
  | [], cur => ⟨[], [], by simp [spA]⟩
  | c :: r, cur => by
    rw [spA]
    split
    · exact ⟨[], _, by simp; rfl⟩
    · obtain ⟨x, xs, h⟩ := spA_cons d r (cur ++ [c])
      exact ⟨c :: x, xs, by rw [h]; simp⟩

/-! ### what the printed functions come to -/
def idx (d : UInt8) (j : Nat) : List UInt8 → Option Nat
  | [] => none
  | c :: r => if c = d then some j else idx d (j + 1) r
theorem idx_none {d : UInt8} : ∀ {l : List UInt8} {j : Nat} (cur : List UInt8), idx d j l = none → spA d cur l = [cur ++ l]
  | [], _, cur, _ => by simp [spA]
  | c :: r, j, cur, h => by
    rw [idx] at h
    split at h
    · cases h
    · rename_i hc
      rw [spA, if_neg hc, idx_none (cur ++ [c]) h]; simp
theorem idx_some {d : UInt8} : ∀ {l : List UInt8} {j n : Nat} (cur : List UInt8), idx d j l = some n → j ≤ n ∧ n - j < l.length ∧ spA d cur l = (cur ++ l.take (n - j)) :: spA d [] (l.drop (n - j + 1))
  | [], _, _, cur, h => by simp [idx] at h
  | c :: r, j, n, cur, h => by
    rw [idx] at h
    split at h
    · rename_i hc
      injection h with h
      subst h
      refine ⟨Nat.le_refl _, by simp, ?_⟩
      rw [spA, if_pos hc]; simp
    · rename_i hc
      obtain ⟨h1, h2, h3⟩ := idx_some (cur ++ [c]) h
      have e : n - j = (n - (j + 1)) + 1 := by omega
      refine ⟨by omega, by simp; omega, ?_⟩
      rw [spA, if_neg hc, h3, e]; simp

def idxI : Option Nat → Int
  | none => -1
  | some n => n

open Go.Proofs.Ytjfbjkodjjlkiaa.PzzSplit in
theorem index_ev (d : UInt8) (l : List UInt8) (hl : l.length ≤ 1000000) : ∀ (r pre : List UInt8), pre ++ r = l → Ev (fun k => chartutil_zzIndex.l0 k (B l) (B [d]) (pre.length : Int)) (idxI (idx d pre.length r))
  | [], pre, h => by
    have hlen := congrArg List.length h
    rw [List.append_nil] at hlen
    have hw : wrap64 ((pre.length : Int) + ((B [d]).size : Int)) = ((pre.length + 1 : Nat) : Int) := wrap_nat (by omega)
    refine Ev.step (fun k => chartutil_zzIndex.l0.eq_2 ..) ?_
    rw [hw, B_size]
    exact Ev.neg (by omega) (Ev.now _)
  | c :: r, pre, h => by
    have hlen := congrArg List.length h
    rw [List.length_append, List.length_cons] at hlen
    have hw : wrap64 ((pre.length : Int) + ((B [d]).size : Int)) = ((pre.length + 1 : Nat) : Int) := wrap_nat (by omega)
    have hw2 : wrap64 ((pre.length : Int) + 1) = ((pre.length + 1 : Nat) : Int) := wrap_nat (by omega)
    refine Ev.step (fun k => chartutil_zzIndex.l0.eq_2 ..) ?_
    rw [hw, hw2, B_size]
    refine Ev.pos (by omega) (Ev.pos (by omega) (Ev.pos (by omega) ?_))
    have ec : ((B l).extract ((pre.length : Int)).toNat (((pre.length + 1 : Nat) : Int)).toNat).toList = [c] := by
      rw [Int.toNat_natCast, Int.toNat_natCast, B_extract, B_toList, ← h]
      simp
    rw [ec, B_toList, idx]
    by_cases hc : c = d
    · rw [if_pos hc]
      exact Ev.pos (by rw [hc]) (Ev.now _)
    · rw [if_neg hc]
      refine Ev.neg (by simpa using hc) ?_
      have := index_ev d l hl r (pre ++ [c]) (by rw [← h]; simp)
      rw [List.length_append] at this
      exact this
end Go.Proofs.Ytjfbjkodjjlkiaa.HBytes
/-! What chartutil's zzSplit comes to at a point: the names of a path. -/
namespace Go.Proofs.Ytjfbjkodjjlkiaa.HVal
open Go.RowKit Go.Proofs.YtjfbjkodjjlkiaaW.PrintWords Go.Proofs.YtjfbjkodjjlkiaaW.PrintLast Go.Proofs.YtjfbjkodjjlkiaaW.PrintMore Go.Proofs.Ytjfbjkodjjlkiaa.Plain Go.Proofs.Ytjfbjkodjjlkiaa.GTab Go.Proofs.Ytjfbjkodjjlkiaa.HBytes Go.Proofs.Ytjfbjkodjjlkiaa.PzzSplit

/-- The names of a path. -/
def namesB (s : ByteArray) : List ByteArray := (spA 46 [] s.data.toList).map B
abbrev dot : ByteArray := ⟨#[46]⟩
theorem idx_of (l : List UInt8) (hl : l.length ≤ 1000000) : ∃ k, chartutil_zzIndex.f k (B l) dot = some (idxI (idx 46 0 l)) := (index_ev 46 l hl l [] rfl).rounds
structure PI (w : World) (s : ByteArray) (rest : List UInt8) (done : List ByteArray) (A : Option Addr) (c : Nat) (wr : World) : Prop where
  row : Kd.R Kd.string 9 wr w.heap.size (fun _ => True) (.slice A done.length c) done
  all : done ++ (spA 46 [] rest).map B = namesB s
  small : done.length + rest.length ≤ 200000
  below : Below w.heap.size w wr
def NamesPost (w : World) (s : ByteArray) (e : Ending) (w' : World) : Prop := ∃ v, e = .returned v ∧ Kd.R Kd.string 9 w' w.heap.size (fun _ => True) v (namesB s) ∧ Below w.heap.size w w'
theorem PI.drewN {w : World} {s : ByteArray} {rest : List UInt8} {done : List ByteArray} {A : Option Addr} {c : Nat} {wr W : World} (h : PI w s rest done A c wr) (hd : Drawn0 wr W) : PI w s rest done A c W := by
  obtain ⟨n, rfl⟩ := hd.out
  exact ⟨Kd.R_drewN h.row n, h.all, h.small, pw_below_drewN h.below n⟩
theorem info9p : (Try.prog.info? 9).map (fun i => (i.zero, i.size, i.bytes)) = some (some (.string ⟨#[]⟩), 1, 16) := by kernel_rfl
theorem PI.last {w : World} {s : ByteArray} {rest : List UInt8} {done : List ByteArray} {A : Option Addr} {c : Nat} {wr W : World} {v : Value} (h : PI w s rest done A c wr) (hi : idx 46 0 rest = none) (hR : Kd.R Kd.string 9 W w.heap.size (fun _ => True) v (done ++ [B rest])) (hb : Below w.heap.size w W) : NamesPost w s (.returned v) W := by
  refine ⟨v, rfl, ?_, hb⟩
  rw [← h.all, idx_none [] hi]
  exact hR
theorem PI.next {w : World} {s : ByteArray} {rest : List UInt8} {done : List ByteArray} {A A1 : Option Addr} {c c1 n : Nat} {wr W : World} (h : PI w s rest done A c wr) (hi : idx 46 0 rest = some n) (hR : Kd.R Kd.string 9 W w.heap.size (fun _ => True) (.slice A1 (done ++ [B (rest.take n)]).length c1) (done ++ [B (rest.take n)])) (hb : Below w.heap.size w W) : PI w s (rest.drop (n + 1)) (done ++ [B (rest.take n)]) A1 c1 W := by
  obtain ⟨_, h1, h2⟩ := idx_some [] hi
  have hs := h.small
  refine ⟨hR, ?_, ?_, hb⟩
  · rw [← h.all, h2]
    simp
  · simp only [List.length_append, List.length_singleton, List.length_drop]
    simp only [Nat.sub_zero] at h1
    omega
theorem idx_lt {rest : List UInt8} {n : Nat} (hi : idx 46 0 rest = some n) : n < rest.length := by
  obtain ⟨_, h1, _⟩ := idx_some [] hi
  simpa using h1
theorem wrap_small {n m L : Nat} (h : m + L ≤ 200000) (hn : n < L) : (wrap64 ((n : Int) + 1)).toNat = n + 1 := by
  rw [wrap_nat (by omega), Int.toNat_natCast]
theorem wrap_bounds {n m : Nat} {l : List UInt8} (h : m + l.length ≤ 200000) (hn : n < l.length) : 0 ≤ wrap64 ((n : Int) + 1) ∧ wrap64 ((n : Int) + 1) ≤ ((B l).size : Int) := by
  rw [wrap_nat (by omega), B_size]
  omega
theorem drop_size {l : List UInt8} {n : Nat} (h : n < l.length) : (B (l.drop (n + 1))).size < (B l).size := by
  rw [B_size, B_size, List.length_drop]
  omega
set_option maxRecDepth 100000 in
set_option maxHeartbeats 4000000 in
theorem split_calls (s : ByteArray) (w : World) (hs : s.size ≤ 100000) : Calls Try.prog 95 #[.string s, .string dot] w (NamesPost w s) := by
  have HS := Aside0.mk (PI.mk (w := w) (s := s) (rest := s.data.toList) (done := []) (A := none) (c := 0) (wr := w) (Kd.R_nil _ _ _ _ _) rfl (by have : s.data.toList.length = s.size := rfl; simp; omega) (Below.refl _ _))
  have HB0 := Aside0.mk (B_data s)
  clear hs
  go_enter Try.func95, Try.ntmps95
  go_wp2
  go_loopw [0, 5] (fun x o wr => ∃ (rest : List UInt8) (done : List ByteArray) (A : Option Addr) (c : Nat), x = .string (B rest) ∧ o = .slice A done.length c ∧ Aside0 (PI w s rest done A c wr)) (fun x _ _ => (match x with | .string z => z.size | _ => 0))
  case atStart => exact ⟨s.data.toList, [], none, 0, rfl, rfl, HS⟩
  case round =>
    obtain ⟨rest, done, A, c, rfl, rfl, HI⟩ := hrel
    clear HS HB0
    obtain ⟨k, hk⟩ := idx_of rest (by have := HI.out.small; omega)
    have HK := Aside0.mk hk
    clear hk
    cases hi : idx 46 0 rest with
    | none =>
      rw [hi] at HK
      have HIX := Aside0.mk hi
      clear hi
      go_wp2_with (first
        | (go_at_call 115; go_must (refine (chartutil_zzIndex.calls k _ _ _ _ HK.out).mono ?_; rintro e w1 ⟨rfl, hd⟩; have HI1 := Aside0.mk (HI.out.drewN hd); clear hd))
        | (refine gate_builtin (b := .append) (xs := #[.tmp 42, .tmp 44]) rfl ?_; at_builtin; go_must (refine Kd.R_append Kd.string (w0 := w) w.heap.size rfl (.tmp 42) (.tmp 44) 23 9 (.string ⟨#[]⟩) 16 rfl Try.underlying23 info9p rfl (by decide) (by decide) _ done (B rest) [.string (B rest)] (fun _ => True) (fun _ => False) rfl rfl rfl (fun _ h => h.elim) (fun _ _ => trivial) HI1.out.row HI1.out.below HI1.out.below.size (by have := HI1.out.small; omega) ?_; intro v3 w3 ho3 hb3 _ _; have HE := Aside0.mk (HI1.out.last HIX.out ho3 hb3); obtain ⟨A2, c2, rfl⟩ := Kd.R_slice ho3; clear ho3 hb3)))
      go_ret
      have h := HE.out
      simp only [List.length_append, List.length_cons, List.length_nil] at h
      exact h
    | some n =>
      rw [hi] at HK
      have HIX := Aside0.mk hi
      have hn := idx_lt hi
      have e1 : (B rest).extract 0 n = B (rest.take n) := by rw [B_extract]; simp
      have e2 : (B rest).extract (n + 1) (B rest).size = B (rest.drop (n + 1)) := by rw [B_extract, B_size, List.take_of_length_le (by simp)]
      have z0 : (n : Int) ≤ ((B rest).size : Int) := by rw [B_size]; omega
      have z1 : (n : Int) + 1 ≤ ((B rest).size : Int) := by rw [B_size]; omega
      have p0 : 0 ≤ (n : Int) := Int.natCast_nonneg n
      have HNN := Aside0.mk hn
      obtain ⟨zb1, zb2⟩ := wrap_bounds HI.out.small hn
      have hx : idxI (some n) = (n : Int) := rfl
      rw [hx] at HK
      clear hi hn hx
      go_wp2_with (first
        | (go_at_call 115; go_must (refine (chartutil_zzIndex.calls k _ _ _ _ HK.out).mono ?_; rintro e w1 ⟨rfl, hd⟩; have HI1 := Aside0.mk (HI.out.drewN hd); clear hd))
        | (refine gate_builtin (b := .append) (xs := #[.tmp 46, .tmp 50]) rfl ?_; at_builtin; go_must (refine Kd.R_append Kd.string (w0 := w) w.heap.size rfl (.tmp 46) (.tmp 50) 23 9 (.string ⟨#[]⟩) 16 rfl Try.underlying23 info9p rfl (by decide) (by decide) _ done (B (rest.take n)) [.string (B (rest.take n))] (fun _ => True) (fun _ => False) rfl rfl rfl (fun _ h => h.elim) (fun _ _ => trivial) HI1.out.row HI1.out.below HI1.out.below.size (by have := HI1.out.small; omega) ?_; intro v3 w3 ho3 hb3 _ _; obtain ⟨A2, c2, rfl⟩ := Kd.R_slice ho3; have HE := Aside0.mk (HI1.out.next HIX.out ho3 hb3); clear ho3 hb3)))
      have e3 : (B rest).extract (wrap64 ((n : Int) + 1)).toNat (B rest).size = B (rest.drop (n + 1)) := by rw [wrap_small HI.out.small HNN.out]; exact e2
      refine ⟨⟨rest.drop (n + 1), done ++ [B (rest.take n)], A2, c2, congrArg Value.string e3, by rw [List.length_append]; rfl, HE⟩, ?_⟩
      rw [e3]
      exact drop_size HNN.out
end Go.Proofs.Ytjfbjkodjjlkiaa.HVal
/-! Looking up a name in a map; what tableLookup and Table come to. -/
namespace Go.Proofs.Ytjfbjkodjjlkiaa.HVal
open Go.RowKit Go.WideMaps Go.Maps Go.Proofs.YtjfbjkodjjlkiaaW.PrintWords Go.Proofs.YtjfbjkodjjlkiaaW.PrintLast Go.Proofs.YtjfbjkodjjlkiaaW.PrintMore Go.Proofs.Ytjfbjkodjjlkiaa.Plain Go.Proofs.Ytjfbjkodjjlkiaa.GTab Go.Proofs.Ytjfbjkodjjlkiaa.HBytes

/-- The value under a name. -/
def find : List ByteArray → List S26 → ByteArray → Option S26
  | k :: ks, x :: xs, s => if k = s then some x else find ks xs s
  | _, _, _ => none
theorem find_look {n : Nat} {w : World} {s : ByteArray} {vs : List Value} {xs : List S26} {ps : List (List Nat)} (h : All3 (Rep n w) vs xs ps) : ∀ ks : List ByteArray, ks.length = xs.length →
    (look (ks.zip vs) s = none ∧ find ks xs s = none) ∨ ∃ v y p, look (ks.zip vs) s = some v ∧ find ks xs s = some y ∧ p ∈ ps ∧ y ∈ xs ∧ Rep n w v y p := by
  induction h with
  | nil => intro ks hk; cases ks with
    | nil => exact .inl ⟨rfl, rfl⟩
    | cons k ks => simp at hk
  | @cons v x p vs xs ps hv _ ih =>
    intro ks hk
    cases ks with
    | nil => simp at hk
    | cons k ks =>
      by_cases e : k = s
      · exact .inr ⟨v, x, p, by simp [look, e], by simp [find, e], List.mem_cons_self, List.mem_cons_self, hv⟩
      · rcases ih ks (by simpa using hk) with ⟨h1, h2⟩ | ⟨v', y, p', h1, h2, h3, h4, h5⟩
        · exact .inl ⟨by simp [look, e, h1], by simp [find, e, h2]⟩
        · exact .inr ⟨v', y, p', by simp [look, e, h1], by simp [find, e, h2], List.mem_cons_of_mem _ h3, List.mem_cons_of_mem _ h4, h5⟩
/-- What a look-up in the map tells. -/
theorem map_look {w : World} {b : Nat} {kv : List (ByteArray × Value)} (h : MapAt w b kv) {s : ByteArray} (hs : s.size ≤ maxLen) (o : Option Value) (ho : look kv s = o) {W : World} (hW : W.heap[b]? = w.heap[b]?) :
    (Instr.lookup 70 (.map (some b)) (.string s) true).run Try.prog W = .ok (.tuple #[o.getD .nilIface, .bool o.isSome]) W ∧ (Instr.lookup 70 (.map (some b)) (.string s) false).run Try.prog W = .ok (o.getD .nilIface) W := by
  obtain ⟨D, hown, _, hlook⟩ := h.same hW
  have hz : (zeroValue 20).run Try.prog W = .ok .nilIface W := by kernel_rfl
  have ht : Try.prog.underlying 70 = some (.map 9 20) := by kernel_rfl
  have hv0 : ∀ v ps, hR v = some (D.atKey (keyS s) (.held .nilIface), ps) → v = o.getD .nilIface := by
    intro v ps hv
    cases o with
    | none =>
      have hh := (hlook s).1
      rw [ho] at hh
      rw [atKey_of_not_has hh] at hv
      exact hR_inv hv
    | some v0 =>
      rw [(hlook s).2 v0 ho] at hv
      exact hR_inv hv
  constructor
  · obtain ⟨v, ps, hrun, hv⟩ := hown.look_ok law9 ht hz (zd := .held .nilIface) (zp := []) rfl (keyS_ok hs)
    rw [hrun, hv0 v ps hv, (hlook s).1, ho]
  · obtain ⟨v, ps, hrun, hv⟩ := hown.lookup law9 ht hz (zd := .held .nilIface) (zp := []) rfl (keyS_ok hs)
    rw [hrun, hv0 v ps hv]
theorem istable_calls {n : Nat} {w0 w : World} {v : Value} {y : S26} {fp : List Nat} (h : Rep n w0 v y fp) : Calls Try.prog 75 #[v] w fun e w' => e = .returned (.bool (decide (y.f0 = 7))) ∧ w' = w := by
  have t1 := as58_nil
  have t2 := as58_bool
  have t3 := as58_int
  have t4 := as58_flt
  have t5 := as58_str
  have t6 := as58_list
  have t7 := as58_map
  rcases h.kind with ⟨hx, rfl⟩ | ⟨hx, rfl⟩ | ⟨hx, rfl⟩ | ⟨hx, rfl⟩ | ⟨hx, rfl⟩ | ⟨hx, s, rfl⟩ | ⟨hx, b, rfl⟩
  all_goals
    rw [hx]
    go_enter Try.func75, Try.ntmps75
    go_wp2
    go_ret
    exact ⟨rfl, rfl⟩
end Go.Proofs.Ytjfbjkodjjlkiaa.HVal
/-! What tableLookup comes to. -/
namespace Go.Proofs.Ytjfbjkodjjlkiaa.HVal
open Go.RowKit Go.WideMaps Go.Maps Go.Proofs.YtjfbjkodjjlkiaaW.PrintWords Go.Proofs.YtjfbjkodjjlkiaaW.PrintLast Go.Proofs.YtjfbjkodjjlkiaaW.PrintMore Go.Proofs.Ytjfbjkodjjlkiaa.Plain Go.Proofs.Ytjfbjkodjjlkiaa.GTab Go.Proofs.Ytjfbjkodjjlkiaa.HBytes

theorem vs70_nil (w : World) : (Instr.typeAssert .nilIface 20 70 true).run Try.prog w = .ok (.tuple #[.map none, .bool false]) w := by kernel_rfl
theorem vs70_bool (b : Bool) (w : World) : (Instr.typeAssert (.iface 4 (.bool b)) 20 70 true).run Try.prog w = .ok (.tuple #[.map none, .bool false]) w := by kernel_rfl
theorem vs70_int (i : Int) (w : World) : (Instr.typeAssert (.iface 2 (.int .i64 i)) 20 70 true).run Try.prog w = .ok (.tuple #[.map none, .bool false]) w := by kernel_rfl
theorem vs70_flt (f : Nat) (w : World) : (Instr.typeAssert (.iface 22 (.float .f64 f)) 20 70 true).run Try.prog w = .ok (.tuple #[.map none, .bool false]) w := by kernel_rfl
theorem vs70_str (s : ByteArray) (w : World) : (Instr.typeAssert (.iface 9 (.string s)) 20 70 true).run Try.prog w = .ok (.tuple #[.map none, .bool false]) w := by kernel_rfl
theorem vs70_list (v : Value) (w : World) : (Instr.typeAssert (.iface 85 v) 20 70 true).run Try.prog w = .ok (.tuple #[.map none, .bool false]) w := by kernel_rfl
/-- No table: an error. -/
def NoTab (w : World) (e : Ending) (w' : World) : Prop := (∃ m t u, e = .returned (.tuple #[.map m, .iface t u])) ∧ Below w.heap.size w w'
set_option maxRecDepth 100000 in
set_option maxHeartbeats 4000000 in
theorem tl_none {w W : World} {b : Nat} {kv : List (ByteArray × Value)} (h : MapAt w b kv) (hW : W.heap[b]? = w.heap[b]?) {s : ByteArray} (hs : s.size ≤ maxLen) (ho : look kv s = none) : Calls Try.prog 80 #[.map (some b), .string s] W (NoTab W) := by
  have l1 := (map_look h hs none ho hW).1
  have HW := Aside0.mk hW
  clear h hW hs ho
  go_enter Try.func80, Try.ntmps80
  go_wp2
  go_ret2
  exact ⟨⟨_, _, _, rfl⟩, Below.refl _ _⟩
set_option maxRecDepth 100000 in
set_option maxHeartbeats 4000000 in
theorem tl_some {n : Nat} {w W : World} {b : Nat} {kv : List (ByteArray × Value)} {v : Value} {y : S26} {fp : List Nat} (h : MapAt w b kv) (hW : W.heap[b]? = w.heap[b]?) {s : ByteArray} (hs : s.size ≤ maxLen) (ho : look kv s = some v) (hr : Rep n w v y fp) (h7 : y.f0 ≠ 7) : Calls Try.prog 80 #[.map (some b), .string s] W (NoTab W) := by
  have l1 := (map_look h hs (some v) ho hW).1
  have hk := hr.kind
  clear h hW hs ho hr
  have t1 := as58_nil
  have t2 := as58_bool
  have t3 := as58_int
  have t4 := as58_flt
  have t5 := as58_str
  have t6 := as58_list
  have u1 := vs70_nil
  have u2 := vs70_bool
  have u3 := vs70_int
  have u4 := vs70_flt
  have u5 := vs70_str
  have u6 := vs70_list
  have hmm := @run_makeMap Try.prog
  rcases hk with ⟨hx, rfl⟩ | ⟨hx, rfl⟩ | ⟨hx, rfl⟩ | ⟨hx, rfl⟩ | ⟨hx, rfl⟩ | ⟨hx, z, rfl⟩ | ⟨hx, z, rfl⟩
  all_goals try exact absurd hx h7
  all_goals
    clear hx h7
    go_enter Try.func80, Try.ntmps80
    go_wp2
    go_ret2
    exact ⟨⟨_, _, _, rfl⟩, below_alloc (Below.refl _ _) _⟩
set_option maxRecDepth 100000 in
set_option maxHeartbeats 4000000 in
theorem tl_table {w W : World} {b b2 : Nat} {kv : List (ByteArray × Value)} (h : MapAt w b kv) (hW : W.heap[b]? = w.heap[b]?) {s : ByteArray} (hs : s.size ≤ maxLen) (ho : look kv s = some (.iface 58 (.map (some b2)))) : Calls Try.prog 80 #[.map (some b), .string s] W fun e w' => e = .returned (.tuple #[.map (some b2), .nilIface]) ∧ w' = W := by
  have l1 := (map_look h hs _ ho hW).1
  clear h hW hs ho
  have t7 := as58_map
  go_enter Try.func80, Try.ntmps80
  go_wp2
  go_ret2
  exact ⟨rfl, rfl⟩
end Go.Proofs.Ytjfbjkodjjlkiaa.HVal
/-! Tables found name by name: what tableLookup, parsePath and Table come to. -/
namespace Go.Proofs.Ytjfbjkodjjlkiaa.HVal
open Go.RowKit Go.WideMaps Go.Maps Go.Proofs.YtjfbjkodjjlkiaaW.PrintWords Go.Proofs.YtjfbjkodjjlkiaaW.PrintLast Go.Proofs.YtjfbjkodjjlkiaaW.PrintMore Go.Proofs.Ytjfbjkodjjlkiaa.Plain Go.Proofs.Ytjfbjkodjjlkiaa.GTab Go.Proofs.Ytjfbjkodjjlkiaa.HBytes

/-- The table under a name. -/
def hop (x : S26) (s : ByteArray) : Option S26 := match find x.f5 x.f6 s with | some y => if y.f0 = 7 then some y else none | none => none
/-- The table at a road of names. -/
def road : S26 → List ByteArray → Option S26
  | x, [] => some x
  | x, k :: ks => match hop x k with | some y => road y ks | none => none
/-- A real value, below base, with all that is known of the plain one. -/
def TV (n : Nat) (w : World) (base : Nat) (v : Value) (x : S26) : Prop := ∃ fp, Rep n w v x fp ∧ Rt n x ∧ Sm n x ∧ cnt n x ≤ 2000 ∧ ∀ k ∈ fp, k < base
theorem TV.move {n : Nat} {w w' : World} {base : Nat} {v : Value} {x : S26} (h : TV n w base v x) (hb : Below base w w') : TV n w' base v x := by
  obtain ⟨fp, h1, h2, h3, h4, h5⟩ := h
  exact ⟨fp, h1.move n fun k hk => hb.block k (h5 k hk), h2, h3, h4, h5⟩
theorem cnt_mem {n : Nat} {y : S26} : ∀ {l : List S26}, y ∈ l → cnt n y ≤ (l.map (cnt n)).sum
  | z :: l, h => by
    rw [List.map_cons, List.sum_cons]
    rcases List.mem_cons.1 h with rfl | h
    · omega
    · have := cnt_mem (n := n) h
      omega
theorem TV.open_ {n : Nat} {w : World} {base b : Nat} {x : S26} (h : TV n w base (.iface 58 (.map (some b))) x) (s : ByteArray) :
    b < base ∧ ∃ kv, MapAt w b kv ∧ ((look kv s = none ∧ find x.f5 x.f6 s = none) ∨ ∃ n' v y, look kv s = some v ∧ find x.f5 x.f6 s = some y ∧ TV n' w base v y) := by
  obtain ⟨fp, h1, h2, h3, h4, h5⟩ := h
  cases n with
  | zero => exact h1.elim
  | succ n =>
    unfold Rep at h1
    rcases h1 with ⟨_, e, _⟩ | ⟨_, e, _⟩ | ⟨_, e, _⟩ | ⟨_, e, _⟩ | ⟨_, e, _⟩ | ⟨_, _, _, _, e, _⟩ | ⟨h0, b', vs, fps, e, hl, hm, ha, rfl⟩
    all_goals try cases e
    refine ⟨h5 b List.mem_cons_self, _, hm, ?_⟩
    rcases find_look (s := s) ha x.f5 hl with h | ⟨v, y, p, e1, e2, hp, hy, hr⟩
    · exact .inl h
    · refine .inr ⟨n, v, y, e1, e2, p, hr, ?_, h3.2 y hy, ?_, fun k hk => h5 k (List.mem_cons_of_mem _ (List.mem_flatten.2 ⟨p, hp, hk⟩))⟩
      · unfold Rt at h2
        rcases h2 with ⟨h, _⟩ | ⟨h, _⟩ | ⟨h, _⟩ | ⟨_, _, _, h⟩
        · omega
        · omega
        · omega
        · exact h y hy
      · have : cnt n y ≤ (x.f6.map (cnt n)).sum := cnt_mem hy
        unfold cnt at h4
        omega
theorem TV.f0 {n : Nat} {w : World} {base : Nat} {m : Option Nat} {x : S26} (h : TV n w base (.iface 58 (.map m)) x) : x.f0 = 7 := by
  obtain ⟨fp, h1, _⟩ := h
  rcases h1.kind with ⟨_, e⟩ | ⟨_, e⟩ | ⟨_, e⟩ | ⟨_, e⟩ | ⟨_, e⟩ | ⟨_, _, e⟩ | ⟨h0, _⟩
  all_goals try cases e
  exact h0
theorem hop_some {n : Nat} {W : World} {base b : Nat} {x y : S26} {s : ByteArray} (h : TV n W base (.iface 58 (.map (some b))) x) (hs : s.size ≤ maxLen) (ho : hop x s = some y) :
    ∃ b2 n2, TV n2 W base (.iface 58 (.map (some b2))) y ∧ Calls Try.prog 80 #[.map (some b), .string s] W fun e w' => e = .returned (.tuple #[.map (some b2), .nilIface]) ∧ w' = W := by
  obtain ⟨_, kv, hm, hc⟩ := h.open_ s
  unfold hop at ho
  rcases hc with ⟨_, e⟩ | ⟨n', v, y', e1, e2, hv⟩
  · rw [e] at ho
    cases ho
  · rw [e2] at ho
    simp only at ho
    split at ho
    · rename_i h7
      cases ho
      have hk : ∃ b2, v = .iface 58 (.map (some b2)) := by
        obtain ⟨fp, hr, _⟩ := hv
        rcases hr.kind with ⟨h, _⟩ | ⟨h, _⟩ | ⟨h, _⟩ | ⟨h, _⟩ | ⟨h, _⟩ | ⟨h, _⟩ | ⟨_, h⟩
        all_goals first | exact h | omega
      obtain ⟨b2, rfl⟩ := hk
      exact ⟨b2, n', hv, tl_table hm rfl hs e1⟩
    · cases ho
theorem hop_none {n : Nat} {W : World} {base b : Nat} {x : S26} {s : ByteArray} (h : TV n W base (.iface 58 (.map (some b))) x) (hs : s.size ≤ maxLen) (ho : hop x s = none) :
    Calls Try.prog 80 #[.map (some b), .string s] W (NoTab W) := by
  obtain ⟨_, kv, hm, hc⟩ := h.open_ s
  unfold hop at ho
  rcases hc with ⟨e, _⟩ | ⟨n', v, y', e1, e2, hv⟩
  · exact tl_none hm rfl hs e
  · rw [e2] at ho
    simp only at ho
    split at ho
    · cases ho
    · rename_i h7
      obtain ⟨fp, hr, _⟩ := hv
      exact tl_some hm rfl hs e1 hr h7

/-! ### the names of a path -/
theorem spA_size (d : UInt8) : ∀ (l cur : List UInt8), ∀ t ∈ spA d cur l, t.length ≤ cur.length + l.length
  | [], cur, t, h => by
    rw [spA, List.mem_singleton] at h
    rw [h]
    omega
  | c :: r, cur, t, h => by
    rw [spA] at h
    split at h
    · rcases List.mem_cons.1 h with rfl | h
      · omega
      · have := spA_size d r [] t h
        simp only [List.length_nil, List.length_cons] at *
        omega
    · have := spA_size d r (cur ++ [c]) t h
      simp only [List.length_append, List.length_cons, List.length_nil] at *
      omega
theorem names_size {s t : ByteArray} (h : t ∈ namesB s) : t.size ≤ s.size := by
  unfold namesB at h
  obtain ⟨l, hl, rfl⟩ := List.mem_map.1 h
  have := spA_size 46 s.data.toList [] l hl
  rw [B_size]
  simpa using this
theorem names_cell {W : World} {A : Option Addr} {l : List ByteArray} (h : Kd.string.C W A l.length l) {j : Nat} (hj : j < l.length) : ∃ ad, A = some ad ∧ W.cell? (ad.add j) = some (.string l[j]) := by
  obtain ⟨ad, e, hx⟩ := Kd.at_string h (j : Int) (Int.natCast_nonneg j) (by omega)
  rw [rdOf_nat _ _ _ hj, Int.toNat_natCast] at hx
  exact ⟨ad, e, hx⟩
set_option maxRecDepth 100000 in
set_option maxHeartbeats 4000000 in
theorem parse_calls (s : ByteArray) (w : World) (hs : s.size ≤ 100000) : Calls Try.prog 79 #[.string s] w (NamesPost w s) := by
  have HC := Aside0.mk (split_calls s w hs)
  clear hs
  go_enter Try.func79, Try.ntmps79
  go_wp2_with (go_at_call 95; go_must (refine HC.out.mono ?_; rintro e w1 ⟨v, rfl, hR, hb⟩; have HR := Aside0.mk hR; have HB := Aside0.mk hb; clear hR hb HC))
  go_ret
  exact ⟨_, rfl, HR.out, HB.out⟩

/-! ### Table -/
def RoadPost (w : World) (x : S26) (l : List ByteArray) (e : Ending) (w' : World) : Prop :=
  Below w.heap.size w w' ∧ ((∃ b y n, road x l = some y ∧ e = .returned (.tuple #[.map (some b), .nilIface]) ∧ TV n w' w.heap.size (.iface 58 (.map (some b))) y) ∨
    (road x l = none ∧ ∃ m t u, e = .returned (.tuple #[.map m, .iface t u])))
theorem road_next {x y : S26} {l : List ByteArray} {j : Nat} (hj : j < l.length) (h : hop x l[j] = some y) : road x (l.drop j) = road y (l.drop (j + 1)) := by
  rw [List.drop_eq_getElem_cons hj, road, h]
theorem road_stop {x : S26} {l : List ByteArray} {j : Nat} (hj : j < l.length) (h : hop x l[j] = none) : road x (l.drop j) = none := by
  rw [List.drop_eq_getElem_cons hj, road, h]
set_option maxRecDepth 100000 in
set_option maxHeartbeats 4000000 in
theorem table_road (n b : Nat) (x : S26) (s : ByteArray) (w : World) (hs : s.size ≤ 100000) (h : TV n w w.heap.size (.iface 58 (.map (some b))) x) :
    Calls Try.prog 58 #[.map (some b), .string s] w (RoadPost w x (namesB s)) := by
  have HN := Aside0.mk (fun t (ht : t ∈ namesB s) => Nat.le_trans (names_size ht) (Nat.le_trans hs (by decide : 100000 ≤ maxLen)))
  have HP := Aside0.mk (parse_calls s w hs)
  have HT := Aside0.mk h
  clear hs h
  go_enter Try.func58, Try.ntmps58
  obtain ⟨l, hl⟩ : ∃ l, namesB s = l := ⟨_, rfl⟩
  have HL := Aside0.mk hl
  rw [hl] at HN
  rw [hl]
  clear hl
  go_wp2_with (go_at_call 79; go_must (refine HP.out.mono ?_; rintro e w1 ⟨v, rfl, hR, hb⟩; rw [HL.out] at hR; obtain ⟨A, c, rfl, hc, hC⟩ := Kd.R_reads hR; have HC := Aside0.mk hC; have HB := Aside0.mk hb; have HT1 := Aside0.mk (HT.out.move hb); have HLEN := Aside0.mk (Kd.F_max (Kd.R_F hR)); clear hR hb hC hc HT HP HL))
  go_loopw [6, 7, 9, 14] (fun m e _ i wr => ∃ (j b' n' : Nat) (x' : S26), j ≤ l.length ∧ m = .map (some b') ∧ e = .nilIface ∧ i = .int .i64 j ∧ wr = w1 ∧ Aside0 (road x l = road x' (l.drop j)) ∧ Aside0 (TV n' w1 w.heap.size (.iface 58 (.map (some b'))) x')) (fun _ _ _ i _ => l.length - (intOf i).toNat)
  case atStart => exact ⟨0, b, n, x, Nat.zero_le _, rfl, rfl, rfl, rfl, ⟨rfl⟩, HT1⟩
  case round =>
    obtain ⟨j, b', n', x', hj, rfl, rfl, rfl, rfl, HR, HV⟩ := hrel
    clear HT1
    by_cases hlt : j < l.length
    · have HJ := Aside0.mk hlt
      obtain ⟨ad, hA, z0⟩ := names_cell HC.out hlt
      subst hA
      have p0 : 0 ≤ (j : Int) := Int.natCast_nonneg j
      have q0 : (j : Int) < (l.length : Int) := Int.ofNat_lt.2 hlt
      have hsz := HN.out _ (List.getElem_mem hlt)
      have hn0 := fun (h : hop x' l[j] = none) => HR.out.trans (road_stop hlt h)
      have hn1 := fun y (h : hop x' l[j] = some y) => HR.out.trans (road_next hlt h)
      obtain ⟨t, ht⟩ : ∃ t, l[j] = t := ⟨_, rfl⟩
      rw [ht] at z0 hsz hn0 hn1
      cases ho : hop x' t with
      | none =>
        have HC8 := Aside0.mk (hop_none HV.out hsz ho)
        have HE := Aside0.mk (hn0 ho)
        clear ho hsz hlt hj ht hn0 hn1
        go_wp2_with (go_at_call 80; go_must (refine HC8.out.mono ?_; rintro e w2 ⟨⟨m, t, u, rfl⟩, hb⟩; have HB2 := Aside0.mk (below_step HB.out hb); clear hb))
        go_ret2
        exact ⟨HB2.out, .inr ⟨HE.out, _, _, _, rfl⟩⟩
      | some y =>
        obtain ⟨b2, n2, hv2, hc8⟩ := hop_some HV.out hsz ho
        have HC8 := Aside0.mk hc8
        have HV2 := Aside0.mk hv2
        have HE := Aside0.mk (hn1 y ho)
        clear ho hsz hlt hj hc8 hv2 ht hn0 hn1
        go_wp2_with (go_at_call 80; go_must (refine HC8.out.mono ?_; rintro e w2 ⟨rfl, rfl⟩))
        go_roundw
        case rel => exact ⟨j + 1, b2, n2, y, HJ.out, rfl, rfl, congrArg (Value.int IntKind.i64) (next63 HJ.out HLEN.out), trivial, HE, HV2⟩
        case measure => exact meas26 HJ.out HLEN.out
    · have e : j = l.length := Nat.le_antisymm hj (Nat.not_lt.1 hlt)
      subst e
      have q1 : ¬ (l.length : Int) < (l.length : Int) := Int.lt_irrefl _
      have HE := Aside0.mk (show road x l = some x' by rw [HR.out, List.drop_length]; rfl)
      clear hlt hj
      go_wp2
      go_ret2
      exact ⟨HB.out, .inl ⟨_, _, _, HE.out, rfl, HV.out⟩⟩
end Go.Proofs.Ytjfbjkodjjlkiaa.HVal
/-! Names joined with points between, and split again: joinPath; pure laws of it. -/
namespace Go.Proofs.Ytjfbjkodjjlkiaa.HVal
open Go.RowKit Go.WideMaps Go.Maps Go.Proofs.YtjfbjkodjjlkiaaW.PrintWords Go.Proofs.YtjfbjkodjjlkiaaW.PrintLast Go.Proofs.YtjfbjkodjjlkiaaW.PrintMore Go.Proofs.Ytjfbjkodjjlkiaa.Plain Go.Proofs.Ytjfbjkodjjlkiaa.GTab Go.Proofs.Ytjfbjkodjjlkiaa.HBytes

def joinB (l : List ByteArray) (s : ByteArray) : ByteArray := ⟨(Lib.join (l.map (·.data.toList)) s.data.toList).toArray⟩
theorem join_calls (A : Option Addr) (c : Nat) (l : List ByteArray) (s : ByteArray) (w : World) (hr : Kd.C Kd.string w A l.length l) (hc : l.length ≤ c) (h1 : l.length ≤ 1000000) (h2 : (joinB l s).size ≤ 1000000) :
    Calls Try.prog 116 #[.slice A l.length c, .string s] w fun e w' => e = .returned (.string (joinB l s)) ∧ Below w.heap.size w w' := by
  cases l with
  | nil =>
    refine (Try.strings_Join_none A c s w).mono ?_
    rintro e w' ⟨rfl, rfl⟩
    exact ⟨rfl, Below.refl _ _⟩
  | cons x xs =>
    have cell : ∀ (j : Nat) (hj : j < (x :: xs).length), ∃ ad, A = some ad ∧ w.cell? (ad.add j) = some (.string (x :: xs)[j]) := fun j hj => names_cell hr hj
    obtain ⟨ad, rfl, h0⟩ := cell 0 (by simp)
    obtain ⟨b, o, spot⟩ := ad
    have hb : spot = none ∧ b < w.heap.size := by
      simp only [Addr.add, if_true] at h0
      unfold World.cell? at h0
      split at h0
      · rename_i hq
        have := (Array.getElem?_eq_some_iff.1 hq).1
        cases spot with
        | none => exact ⟨rfl, this⟩
        | some z => simp at h0
      · cases h0
    obtain ⟨rfl, hb⟩ := hb
    have hlen : (Lib.join ((x :: xs).map (·.data.toList)) s.data.toList).length ≤ 140737488355328 := by
      have e : (joinB (x :: xs) s).size = (Lib.join ((x :: xs).map (·.data.toList)) s.data.toList).length := by simp [joinB, ByteArray.size]
      omega
    refine Try.strings_Join b o c (x :: xs) s w (fun j y hy => ?_) hb (by omega) hc hlen
    obtain ⟨hj, rfl⟩ := List.getElem?_eq_some_iff.1 hy
    obtain ⟨ad, e1, h3⟩ := cell j hj
    cases e1
    rw [← h3]
    congr 1
    unfold Addr.add
    split
    · rename_i e; subst e; rfl
    · rfl
set_option maxRecDepth 100000 in
set_option maxHeartbeats 4000000 in
theorem joinPath_calls (A : Option Addr) (c : Nat) (l : List ByteArray) (w : World) (hr : Kd.C Kd.string w A l.length l) (hc : l.length ≤ c) (h1 : l.length ≤ 1000000) (h2 : (joinB l dot).size ≤ 1000000) :
    Calls Try.prog 96 #[.slice A l.length c] w fun e w' => e = .returned (.string (joinB l dot)) ∧ Below w.heap.size w w' := by
  have HC := Aside0.mk (join_calls A c l dot w hr hc h1 h2)
  clear hr hc h1 h2
  go_enter Try.func96, Try.ntmps96
  go_wp2_with (go_at_call 116; go_must (refine HC.out.mono ?_; rintro e w1 ⟨rfl, hb⟩; have HB := Aside0.mk hb; clear hb HC))
  go_ret
  exact ⟨rfl, HB.out⟩

/-! ### joined and split -/
theorem spA_free {d : UInt8} : ∀ (x cur rest : List UInt8), d ∉ x → spA d cur (x ++ rest) = spA d (cur ++ x) rest
  | [], cur, rest, _ => by simp
  | c :: x, cur, rest, h => by
    rw [List.mem_cons, not_or] at h
    rw [List.cons_append, spA, if_neg (Ne.symm h.1), spA_free x _ rest h.2]
    simp
theorem spA_join {d : UInt8} : ∀ (r : List (List UInt8)) (x cur : List UInt8), d ∉ x → (∀ y ∈ r, d ∉ y) → spA d cur (x ++ Lib.joinTail [d] r) = (cur ++ x) :: r
  | [], x, cur, hx, _ => by
    rw [spA_free x cur _ hx]
    rfl
  | y :: r, x, cur, hx, hr => by
    rw [spA_free x cur _ hx]
    have e : Lib.joinTail [d] (y :: r) = d :: (y ++ Lib.joinTail [d] r) := by simp [Lib.joinTail]
    rw [e, spA, if_pos rfl, spA_join r y [] (hr y List.mem_cons_self) (fun z hz => hr z (List.mem_cons_of_mem _ hz))]
    simp
theorem spA_apart {d : UInt8} : ∀ (l cur : List UInt8), d ∉ cur → ∀ t ∈ spA d cur l, d ∉ t
  | [], cur, h, t, ht => by
    rw [spA, List.mem_singleton] at ht
    rw [ht]
    exact h
  | c :: r, cur, h, t, ht => by
    rw [spA] at ht
    split at ht
    · rcases List.mem_cons.1 ht with rfl | ht
      · exact h
      · exact spA_apart r [] (by simp) t ht
    · rename_i hc
      exact spA_apart r (cur ++ [c]) (by simp only [List.mem_append, List.mem_singleton, not_or]; exact ⟨h, Ne.symm hc⟩) t ht
theorem names_join {l : List ByteArray} (h : l ≠ []) (hd : ∀ t ∈ l, (46 : UInt8) ∉ t.data.toList) : namesB (joinB l dot) = l := by
  cases l with
  | nil => exact absurd rfl h
  | cons x r =>
    have e : (joinB (x :: r) dot).data.toList = x.data.toList ++ Lib.joinTail [46] (r.map (·.data.toList)) := by
      simp only [joinB, List.map_cons, Lib.join_cons]
    unfold namesB
    rw [e, spA_join _ _ [] (hd x List.mem_cons_self) (fun y hy => by
      obtain ⟨t, ht, rfl⟩ := List.mem_map.1 hy
      exact hd t (List.mem_cons_of_mem _ ht))]
    simp only [List.nil_append, List.map_cons, List.map_map]
    have : (B ∘ fun x : ByteArray => x.data.toList) = id := funext fun s => B_data s
    rw [this, List.map_id, B_data]
theorem namesB_free {s t : ByteArray} (h : t ∈ namesB s) : (46 : UInt8) ∉ t.data.toList := by
  unfold namesB at h
  obtain ⟨l, hl, rfl⟩ := List.mem_map.1 h
  exact spA_apart _ [] (by simp) l hl
theorem spA_sum (d : UInt8) : ∀ (l cur : List UInt8), ((spA d cur l).map (fun t => t.length + 1)).sum = cur.length + l.length + 1
  | [], cur => by simp [spA]
  | c :: r, cur => by
    rw [spA]
    split
    · rw [List.map_cons, List.sum_cons, spA_sum d r []]
      simp only [List.length_nil, List.length_cons]
      omega
    · rw [spA_sum d r]
      simp only [List.length_append, List.length_cons, List.length_nil]
      omega
theorem tail_len (d : UInt8) : ∀ (r : List (List UInt8)), (Lib.joinTail [d] r).length = (r.map (fun t => t.length + 1)).sum
  | [] => rfl
  | y :: r => by
    have e : Lib.joinTail [d] (y :: r) = d :: (y ++ Lib.joinTail [d] r) := by simp [Lib.joinTail]
    rw [e, List.map_cons, List.sum_cons, ← tail_len d r]
    simp only [List.length_cons, List.length_append]
    omega
theorem names_sum (s : ByteArray) : ((namesB s).map (fun t => t.size + 1)).sum = s.size + 1 := by
  unfold namesB
  rw [List.map_map]
  have : ((fun t : ByteArray => t.size + 1) ∘ B) = fun t => t.length + 1 := rfl
  rw [this, spA_sum]
  simp
theorem join_size (l : List ByteArray) : (joinB l dot).size ≤ (l.map (fun t => t.size + 1)).sum := by
  have e : (joinB l dot).size = (Lib.join (l.map (·.data.toList)) [46]).length := by simp [joinB, ByteArray.size]
  rw [e]
  cases l with
  | nil => rw [List.map_nil, Lib.join_nil]; simp
  | cons x r =>
    rw [List.map_cons, Lib.join_cons, List.length_append, tail_len, List.map_map, List.map_cons, List.sum_cons]
    have e1 : ((fun t : List UInt8 => t.length + 1) ∘ fun x : ByteArray => x.data.toList) = fun t => t.size + 1 := rfl
    have e2 : x.data.toList.length = x.size := rfl
    rw [e1, e2]
    omega
theorem sum_dropLast : ∀ (l : List Nat), l.dropLast.sum ≤ l.sum
  | [] => by simp
  | [_] => by simp
  | x :: y :: r => by
    have := sum_dropLast (y :: r)
    simp only [List.dropLast, List.sum_cons] at *
    omega
theorem length_le_sum : ∀ (l : List ByteArray), l.length ≤ (l.map (fun t => t.size + 1)).sum
  | [] => by simp
  | x :: r => by
    have := length_le_sum r
    simp only [List.map_cons, List.sum_cons, List.length_cons]
    omega
theorem names_init {s : ByteArray} : (joinB (namesB s).dropLast dot).size ≤ s.size + 1 ∧ (namesB s).length ≤ s.size + 1 := by
  have h1 := join_size (namesB s).dropLast
  have h2 := sum_dropLast ((namesB s).map (fun t => t.size + 1))
  have h3 := names_sum s
  have h4 := length_le_sum (namesB s)
  rw [← List.map_dropLast] at h2
  omega
theorem namesB_ne (s : ByteArray) : namesB s ≠ [] := by
  obtain ⟨x, xs, h⟩ := spA_cons 46 s.data.toList []
  unfold namesB
  rw [h]
  simp
end Go.Proofs.Ytjfbjkodjjlkiaa.HVal
