/- What coalesceTablesFullKey comes to: the walk. What chartutil.CoalesceTables, MergeTables and impl's two come to. What impl.CoalesceTables and impl.MergeTables come to: all that they give is new. -/
import Derived.Test.YtjfbjkodjjlkiaaCD
import Derived.Deep.DeepMust
/-! What coalesceTablesFullKey comes to: the walk. -/
namespace Go.Proofs.Ytjfbjkodjjlkiaa.HVal
open Go.RowKit Go.WideMaps Go.Maps Go.Proofs.YtjfbjkodjjlkiaaW.PrintWords Go.Proofs.YtjfbjkodjjlkiaaW.PrintLast Go.Proofs.YtjfbjkodjjlkiaaW.PrintMore Go.Proofs.Ytjfbjkodjjlkiaa.Plain Go.Proofs.Ytjfbjkodjjlkiaa.GTab Go.Proofs.Ytjfbjkodjjlkiaa.Opens
attribute [local go_sem] run_store_flt

theorem nil_ne2 (w : World) : (binOp .neq 20 .nilIface .nilIface).run Try.prog w = .ok (.bool false) w := by kernel_rfl
theorem nil_neq (t : TypeId) (u : Value) (w : World) : (binOp .neq 20 (.iface t u) .nilIface).run Try.prog w = .ok (.bool true) w := by kernel_rfl
theorem map_eqf (b : Nat) (w : World) : (binOp .eql 58 (.map (some b)) (.map none)).run Try.prog w = .ok (.bool false) w := by kernel_rfl
theorem rep_nil {n : Nat} {W : World} {x : S26} {fp : List Nat} (h : Rep n W .nilIface x fp) : x.f0 = 0 := by
  rcases h.kind with ⟨a, _⟩ | ⟨_, e⟩ | ⟨_, e⟩ | ⟨_, e⟩ | ⟨_, e⟩ | ⟨_, _, e⟩ | ⟨_, _, e⟩
  · exact a
  all_goals cases e
theorem rep_iface {n : Nat} {W : World} {t : TypeId} {u : Value} {x : S26} {fp : List Nat} (h : Rep n W (.iface t u) x fp) : x.f0 ≠ 0 := by
  rcases h.kind with ⟨_, e⟩ | ⟨a, _⟩ | ⟨a, _⟩ | ⟨a, _⟩ | ⟨a, _⟩ | ⟨a, _⟩ | ⟨a, _⟩
  · cases e
  all_goals omega
theorem rep_7 {n : Nat} {W : World} {v : Value} {x : S26} {fp : List Nat} (h : Rep n W v x fp) (h7 : x.f0 = 7) : ∃ b, v = .iface 58 (.map (some b)) := by
  rcases h.kind with ⟨a, _⟩ | ⟨a, _⟩ | ⟨a, _⟩ | ⟨a, _⟩ | ⟨a, _⟩ | ⟨a, _⟩ | ⟨_, b, e⟩
  · omega
  · omega
  · omega
  · omega
  · omega
  · omega
  · exact ⟨b, e⟩
theorem nn_nil {G : EMap} {s : ByteArray} {e : En} (he : G s = some e) {n : Nat} {W : World} (hr : Rep n W e.v e.x e.fp) (hv : e.v = .nilIface) : nnE G s = false ∧ nulE G s = true := by
  rw [hv] at hr
  have h0 := rep_nil hr
  unfold nnE nulE
  rw [he]
  exact ⟨decide_eq_false (by simpa using h0), decide_eq_true h0⟩
theorem nn_iface {G : EMap} {s : ByteArray} {e : En} (he : G s = some e) {n : Nat} {W : World} (hr : Rep n W e.v e.x e.fp) {t : TypeId} {u : Value} (hv : e.v = .iface t u) : nnE G s = true ∧ nulE G s = false := by
  rw [hv] at hr
  have h0 := rep_iface hr
  unfold nnE nulE
  rw [he]
  exact ⟨decide_eq_true h0, decide_eq_false h0⟩
/-- The entry that has come. -/
theorem ent_come {D : DataW Value} {G : EMap} {s : ByteArray} {v : Value} {left : Lit → Bool} (hsub : ∀ t, left (keyS t) = true → (G t).isSome = true) (hval : ∀ t e, G t = some e → ∀ z, D.atKey (keyS t) z = .held e.v) (hl : left (keyS s) = true) (hat : ∀ z, D.atKey (keyS s) z = .held v) : ∃ e, G s = some e ∧ e.v = v := by
  obtain ⟨e, he⟩ := Option.isSome_iff_exists.1 (hsub s hl)
  have h1 := hval s e he .nil
  rw [hat] at h1
  cases h1
  exact ⟨e, he, rfl⟩
theorem sub_next {G : EMap} {s : ByteArray} {left : Lit → Bool} (hsub : ∀ t, left (keyS t) = true → (G t).isSome = true) : ∀ t, (fun z : Lit => left z && !z.sameKey (keyS s)) (keyS t) = true → (G t).isSome = true := fun t ht => hsub t (Bool.and_eq_true _ _ ▸ ht).1

theorem g1_keys {V : Env} {t : ByteArray} {e : En} (hV : V.Ok) (h : V.G1 t = some e) : t ∈ V.ks := by
  unfold Env.G1 over at h
  split at h
  · rename_i hc
    obtain ⟨e, he, _⟩ := nul_some (Bool.and_eq_true _ _ ▸ hc).1
    exact List.mem_append_left _ (xo_keys hV.ed (by rw [he]; rfl))
  · exact List.mem_append_right _ (xo_keys hV.es (by rw [h]; rfl))
theorem fk_le {a b c n m : Nat} (h1 : a ≤ b + 1 + c) (h2 : c ≤ 140737488351232) (h3 : b + (n + 1) * 140737488351233 ≤ 9223372036854775807) (h4 : n = m + 1) : a + (m + 1) * 140737488351233 ≤ 9223372036854775807 := by
  subst h4
  omega
theorem C3.inP {V : Env} {r : Nat} {left : Lit → Bool} {Dd : DataW Value} {Gd : EMap} {W : World} {s : ByteArray} {f e : En} (h : C3 V r left Dd Gd W) (hl : left (keyS s) = true) (hd : V.Gd s = some f) (he : V.G1 s = some e) : (f.fp ++ e.fp).Nodup ∧ ∀ k, (k ∈ f.fp ∨ k ∈ e.fp) → k < W.heap.size ∧ V.P r k := by
  have hft := h.restr_eq hl
  rw [hd, he] at hft
  have hn := h.foot.nodup s
  have hlt := h.foot.lt s
  rw [hft] at hn hlt
  exact ⟨hn, fun k hk => hlt k (List.mem_append.2 hk)⟩
theorem call_rec {V : Env} {r n' : Nat} {left : Lit → Bool} {Dd : DataW Value} {Gd : EMap} {W W2 : World} {s fk : ByteArray} {f e : En} {mg : Bool} {b2 b3 : Nat} (hn : V.n = n' + 1) (h : C3 V r left Dd Gd W) (hl : left (keyS s) = true) (hd : V.Gd s = some f) (he : V.G1 s = some e) (hf : Rep V.n W (.iface 58 (.map (some b2))) f.x f.fp) (hee : Rep V.n W (.iface 58 (.map (some b3))) e.x e.fp)
    (kd : Rt V.n f.x ∧ Sq V.n f.x ∧ cnt V.n f.x ≤ 2000) (ks : Rt V.n e.x ∧ Sq V.n e.x ∧ cnt V.n e.x ≤ 2000) (ih : CoalC n') (hW : Chg (fun _ => False) W W2) (hfk : fk.size + (n' + 1) * 140737488351233 ≤ 9223372036854775807) :
    Calls Try.prog 76 #[.func (.func 77) #[] #[], .map (some b2), .map (some b3), .string fk, .bool mg] W2 (CoalPost n' mg f.x e.x b2 f.fp e.fp W2) := by
  obtain ⟨hnd, hlt⟩ := h.inP hl hd he
  rw [hn] at hf hee kd ks
  refine ih mg f.x e.x b2 b3 f.fp e.fp fk W2 (hf.move _ fun k hk => hW.block k (hlt k (.inl hk)).1 id) (hee.move _ fun k hk => hW.block k (hlt k (.inr hk)).1 id) kd.1 ks.1 kd.2.1 ks.2.1 kd.2.2 ks.2.2 hnd (fun k hk => Nat.lt_of_lt_of_le (hlt k (List.mem_append.1 hk)).1 hW.size) hfk
theorem after_rec {V : Env} {r n' NR cn : Nat} {left left2 : Lit → Bool} {Dd Ds : DataW Value} {Gd : EMap} {W W2 W3 : World} {s : ByteArray} {f e : En} {mg : Bool} {b2 : Nat} {en : Ending} (hV : V.Ok) (hm : V.mg = mg) (hn : V.n = n' + 1) (h : C3 V r left Dd Gd W) (hl : left (keyS s) = true) (hd : V.Gd s = some f) (he : V.G1 s = some e) (hfv : f.v = .iface 58 (.map (some b2))) (h7 : f.x.f0 = 7) (k7 : e.x.f0 = 7)
    (hW : Chg (fun _ => False) W W2) (hrg : W.ranges Try.prog 9 hR V.bs r NR Ds left2 cn) (hp : CoalPost n' mg f.x e.x b2 f.fp e.fp W2 en W3) : en = .returned (.map (some b2)) ∧ W3.ranges Try.prog 9 hR V.bs r NR Ds left2 cn ∧ ∃ Gd2, C3 V r (fun z => left z && !z.sameKey (keyS s)) Dd Gd2 W3 := by
  obtain ⟨hnd, hlt⟩ := h.inP hl hd he
  obtain ⟨rfl, hch, fp, hrep, hnf, hf⟩ := hp
  have hc2 : Chg (fun k => k ∈ f.fp ∨ k ∈ e.fp) W W3 := (hW.mono (fun _ q => q.elim)).step hch fun k q => .inl q
  refine ⟨rfl, ranges_same hrg (hc2.block _ hrg.owns.lt fun q => (hlt _ q).2.2.2.1 rfl) (hc2.block _ hrg.lt fun q => (hlt _ q).2.2.2.2.2 rfl), h.into hV hl hd he h7 k7 hc2 ?_ hnf fun k hk => ?_⟩
  · rw [hfv, hn, hm]
    exact hrep
  · rcases hf k hk with q | q | q
    · exact .inl q
    · exact .inr (.inl q)
    · exact .inr (.inr ⟨Nat.le_trans hW.size q.1, q.2⟩)
theorem own_same {W W2 : World} {b N : Nat} {D : DataW Value} (h : W.ownsMap Try.prog 9 hR b N D) (hb : W2.heap[b]? = W.heap[b]?) : W2.ownsMap Try.prog 9 hR b N D := by
  obtain ⟨es, clock, q1, q2⟩ := h
  exact ⟨es, clock, hb.trans q1, q2⟩
set_option maxRecDepth 100000 in
set_option maxHeartbeats 8000000 in
theorem coal_walk (V : Env) (mg : Bool) (pre : ByteArray) (Dd Ds : DataW Value) (ND NS : Nat) (hm : V.mg = mg) (hV : V.Ok) (hgw : V.g = V.w.heap.size) (od : V.w.ownsMap Try.prog 9 hR V.bd ND Dd) (md : Ms V.n V.w Dd V.Gd) (os : V.w.ownsMap Try.prog 9 hR V.bs NS Ds) (ms : Ms V.n V.w Ds V.Gs) (hud : Up V.Ed) (hM : V.M ≤ 4000) (hK : V.K ≤ 4000) (hq : ∀ t ∈ V.ks, t.size ≤ 140737488351232)
    (hkd : ∀ t f, V.Gd t = some f → Rt V.n f.x ∧ Sq V.n f.x ∧ cnt V.n f.x ≤ 2000) (hks : ∀ t f, V.Gs t = some f → Rt V.n f.x ∧ Sq V.n f.x ∧ cnt V.n f.x ≤ 2000) (hpre : pre.size + (V.n + 1) * 140737488351233 ≤ 9223372036854775807) (ih : ∀ n', V.n = n' + 1 → CoalC n') :
    Calls Try.prog 76 #[.func (.func 77) #[] #[], .map (some V.bd), .map (some V.bs), .string pre, .bool mg] V.w fun e w' => e = .returned (.map (some V.bd)) ∧ Chg V.F V.w w' ∧ ∃ fp, Rep (V.n + 1) w' (.iface 58 (.map (some V.bd))) (tabE (coalE V.mg (coal V.n V.mg) V.Ed V.Es)) (V.bd :: fp) ∧ (V.bd :: fp).Nodup ∧ ∀ k ∈ fp, k < w'.heap.size ∧ (k ∈ V.ps ∨ V.w.heap.size ≤ k) := by
  have hmm := @run_makeMap Try.prog
  have e1 := nil_eq
  have e2 := nil_ne
  have e3 := as58_sure
  have e4 := nil_ne2
  have e5 := nil_neq
  have e6 := map_eqf
  have HM := Aside0.mk hm
  have HV := Aside0.mk hV
  have HGW := Aside0.mk hgw
  have OD := Aside0.mk od
  have MD := Aside0.mk md
  have OS := Aside0.mk os
  have OS1 := Aside0.mk (os.alloc (.map #[] 0))
  have MS := Aside0.mk ms
  have HUD := Aside0.mk hud
  have HMM := Aside0.mk hM
  have HKK := Aside0.mk hK
  have HQ := Aside0.mk hq
  have HKD := Aside0.mk hkd
  have HKS := Aside0.mk hks
  have HP := Aside0.mk hpre
  have IH := Aside0.mk ih
  clear hm hV hgw od md os ms hud hM hK hq hkd hks hpre ih
  go_enter Try.func76, Try.ntmps76
  go_wp2_with (at_range; go_must (refine wpList_range_own _ rfl _ 58 rfl 9 20 law9 Try.underlying58 hR V.bs NS Ds rfl OS1.out ?_; intro w0 hrg0 hg0 hs0))
  go_frame
  simp only [World.size_alloc] at hrg0 ⊢
  rw [← HGW.out] at hrg0 ⊢
  have HRG := Aside0.mk hrg0
  have H1 := Aside0.mk (C1.start HV.out HGW.out (fun t => (MS.out.has t).symm) hg0)
  have HS0 := Aside0.mk (show ∀ t, Maps.has Ds (keyS t) = true → (V.Gs t).isSome = true from fun t ht => by rw [← MS.out.has]; exact ht)
  have HGR := Aside0.mk (show V.w.heap.size ≤ V.g + 1 by have := HGW.out; omega)
  clear hrg0 hg0 hs0 OS1
  go_loopw [12, 13] (fun _k _v wr => ∃ (left : Lit → Bool) (cn : Nat), Aside0 (wr.ranges Try.prog 9 hR V.bs (V.g + 1) NS Ds left cn) ∧ Aside0 (∀ t, left (keyS t) = true → (V.Gs t).isSome = true) ∧ Aside0 (C1 V left wr)) (fun _ _ wr => wr.rangeLeft V.bs (V.g + 1))
  case atStart => exact ⟨_, _, HRG, HS0, H1⟩
  case round =>
    obtain ⟨left, cn, HG, HS, HI⟩ := hrel
    clear HRG H1 HS0
    go_wp2_with (at_next; go_must (refine wpList_next_ranges _ rfl _ rfl 9 law9 hR (fun s : ByteArray => Value.string s) (fun v => v) (fun key kl hk => by obtain ⟨s, h, _⟩ := keyOf_inv hk; exact ⟨s, h⟩) (fun v y _ => ⟨v, rfl⟩) V.bs (V.g + 1) _ _ _ _ rfl HG.out ?_ ?_))
    · intro hc0 hl0
      have HL0 := Aside0.mk hl0
      have HOD := Aside0.mk (own_same OD.out (HI.out.below.block _ HV.out.bd))
      clear hc0 hl0
      go_wp2_with (at_range; go_must (refine wpList_range_own _ rfl _ 58 rfl 9 20 law9 Try.underlying58 hR V.bd ND Dd rfl HOD.out ?_; intro w5 hrg5 hg5 hs5))
      go_frame
      obtain ⟨r2, hr2⟩ : ∃ r, wr.heap.size = r := ⟨_, rfl⟩
      have HR2 := Aside0.mk (show V.w.heap.size ≤ r2 ∧ r2 ≠ V.g by
        obtain ⟨_, hb⟩ := HI.out.bools
        have h1 := HI.out.below.size
        have h2 := hb.own.lt
        exact ⟨by omega, by omega⟩)
      have H2 := Aside0.mk (C2.start HV.out HI.out HL0.out OS.out MS.out (left2 := Maps.has Dd) (fun t => (MD.out.has t).symm) hg5)
      have HS0 := Aside0.mk (show ∀ t, Maps.has Dd (keyS t) = true → (V.Gd t).isSome = true from fun t ht => by rw [← MD.out.has]; exact ht)
      rw [hr2] at hrg5 ⊢
      have HRG := Aside0.mk hrg5
      clear hrg5 hg5 hs5 HG HS HI HL0 HOD hr2
      go_loopw [14, 15] (fun _k _v wr => ∃ (left : Lit → Bool) (cn : Nat) (Ds2 : DataW Value), Aside0 (wr.ranges Try.prog 9 hR V.bd r2 ND Dd left cn) ∧ Aside0 (∀ t, left (keyS t) = true → (V.Gd t).isSome = true) ∧ Aside0 (C2 V left Ds2 wr)) (fun _ _ wr => wr.rangeLeft V.bd r2)
      case atStart => exact ⟨_, _, _, HRG, HS0, H2⟩
      case round =>
        obtain ⟨left, cn, Ds2, HG, HS, HI⟩ := hrel
        clear HRG H2 HS0
        go_wp2_with (at_next; go_must (refine wpList_next_ranges _ rfl _ rfl 9 law9 hR (fun s : ByteArray => Value.string s) (fun v => v) (fun key kl hk => by obtain ⟨s, h, _⟩ := keyOf_inv hk; exact ⟨s, h⟩) (fun v y _ => ⟨v, rfl⟩) V.bd r2 _ _ _ _ rfl HG.out ?_ ?_))
        · intro hc0 hl0
          have HL0 := Aside0.mk hl0
          clear hc0 hl0
          go_wp2_with (at_range; go_must (refine wpList_range_own _ rfl _ 58 rfl 9 20 law9 Try.underlying58 hR V.bs V.M Ds2 rfl HI.out.own ?_; intro w7 hrg7 hg7 hs7))
          go_frame
          obtain ⟨r3, hr3⟩ : ∃ r, wr.heap.size = r := ⟨_, rfl⟩
          have hst := C3.start HV.out HI.out HL0.out OD.out MD.out hg7 hs7
          rw [hr3] at hst hrg7 ⊢
          have H3 := Aside0.mk hst.1
          have HVAL := Aside0.mk hst.2
          have HRG := Aside0.mk hrg7
          clear hrg7 hg7 hs7 HG HS HI HL0 hr3 hst
          go_loopw [16, 17, 18, 19, 20] (fun _ _ _ _ _ wr => ∃ (left : Lit → Bool) (cn : Nat) (Dd2 : DataW Value) (Gd2 : EMap), Aside0 (wr.ranges Try.prog 9 hR V.bs r3 V.M Ds2 left cn) ∧ Aside0 (C3 V r3 left Dd2 Gd2 wr)) (fun _ _ _ _ _ wr => wr.rangeLeft V.bs r3)
          case atStart => exact ⟨_, _, _, _, HRG, H3⟩
          case round =>
            obtain ⟨left, cn, Dd2, Gd2, HG, HI⟩ := hrel
            clear HRG H3
            go_wp2_with (at_next; go_must (refine wpList_next_ranges _ rfl _ rfl 9 law9 hR (fun s : ByteArray => Value.string s) (fun v => v) (fun key kl hk => by obtain ⟨s, h, _⟩ := keyOf_inv hk; exact ⟨s, h⟩) (fun v y _ => ⟨v, rfl⟩) V.bs r3 _ _ _ _ rfl HG.out ?_ ?_))
            · intro hc0 hl0
              have HL0 := Aside0.mk hl0
              clear hc0 hl0
              go_wp2
              go_ret
              exact ⟨rfl, HI.out.chg, HI.out.finish HUD.out HL0.out⟩
            · intro s v kl yd yp w3 cnt1 hkey hleft hRv hat hrg1 hcl hg1 hs1 hen
              obtain ⟨s', e1', e2', hsz⟩ := keyOf_inv hkey
              cases e1'
              subst e2'
              simp only [hR, Option.some.injEq, Prod.mk.injEq] at hRv
              obtain ⟨rfl, rfl⟩ := hRv
              have HRG1 := Aside0.mk hrg1
              have HCL := Aside0.mk hcl
              have HSZ := Aside0.mk hsz
              have HLF := Aside0.mk hleft
              obtain ⟨e, he, hev⟩ := ent_come HI.out.sub HVAL.out hleft hat
              have HI1 := Aside0.mk (HI.out.move HV.out hg1)
              have hrp := HI1.out.src s e hleft he
              have HE := Aside0.mk he
              have HRE := Aside0.mk hrp
              have HEV := Aside0.mk hev
              have hqs := HQ.out s (g1_keys HV.out he)
              have HQS := Aside0.mk hqs
              have HP1 := Aside0.mk (show pre.size + 1 + s.size ≤ 9223372036854775807 by have := HP.out; omega)
              have hl58 := look58 HI1.out.own HI1.out.md hsz
              have htd := HI1.out.todo s hleft
              rw [htd] at hl58
              have VF := hrp.form
              rw [hev] at VF
              clear hkey hleft hat hrg1 hcl hg1 hs1 hsz he hev hrp hqs HI
              obtain ⟨o, ho⟩ : ∃ o, V.Gd s = o := ⟨_, rfl⟩
              have HOO := Aside0.mk ho
              rw [ho] at hl58 htd
              have HTD := Aside0.mk htd
              clear ho htd
              cases o with
              | none =>
                simp only [Option.map, Option.getD, Option.isSome] at hl58
                go_wp2_with (first
                  | (go_at_call 93; go_must (refine (prefix_calls pre s _ HP1.out).mono ?_; rintro e9 w9 ⟨⟨fk, rfl, hfk⟩, rfl⟩; have HFK := Aside0.mk hfk; clear hfk))
                  | (at_mapUpdate; refine wpList_mapUpdate_own _ rfl _ _ _ 58 rfl 9 20 law9 Try.underlying58 hR V.bd V.M Dd2 rfl HI1.out.own ?_ _ _ _ rfl rfl (keyS_ok HSZ.out) (.held v) [] rfl ?_; (have := HMM.out; unfold maxLen; omega); intro W4 hown hg4; have HX := Aside0.mk hown; have HX2 := Aside0.mk hg4; have HW := Aside0.mk (HRG1.out.kept hg4 (fun e => HV.out.ne (Option.some.inj e).symm) (fun e => by have := Option.some.inj e; have := HV.out.bd; have := HI1.out.r.1; omega)); clear hown hg4))
                obtain ⟨Gd3, hN⟩ := HI1.out.put HV.out HLF.out HOO.out HE.out (by rw [HEV.out]; exact HX.out) HX2.out
                rw [HEV.out] at hN
                have HN := Aside0.mk hN
                clear hN
                go_roundw
                case rel => exact ⟨_, _, _, _, _, _, _, _, _, _, _, _, _, _, _, _, _, _, _, _, _, _, _, _, _, _, _, _, _, _, _, _, _, _, _, _, _, _, _, _, _, _, _, _, _, _, _, _, _, _, _, _, _, _, _, _, _, _, _, _, _, _, _, _, _, _, _, _, _, _, ⟨_, cnt1, _, _, HW, HN⟩, rfl⟩
                case measure => rw [HW.out.left_eq, HG.out.left_eq]; exact HCL.out
              | some f =>
                have hrf := (HI1.out.md.val s f HTD.out).2
                have HRF := Aside0.mk hrf
                have VFf := hrf.form
                obtain ⟨Dg, hbl⟩ := HI1.out.bools
                have hl114 := hbl.look HSZ.out
                obtain ⟨fv, hfv⟩ : ∃ u, f.v = u := ⟨_, rfl⟩
                have HFV := Aside0.mk hfv
                simp only [Option.map, Option.getD, Option.isSome] at hl58
                rw [hfv] at VFf hl58
                clear hrf hbl hfv
                rcases VFf with rfl | ⟨fT, fU, rfl⟩
                · have H0 := Aside0.mk (rep_nil (HFV.out ▸ HRF.out))
                  have hnl := g1_of_nul HOO.out H0.out HE.out
                  have hvn : v = .nilIface := by rw [← HEV.out, hnl]; rfl
                  subst hvn
                  have HEN := Aside0.mk hnl
                  clear VF hnl
                  obtain ⟨q, hq⟩ : ∃ q, nnE V.Gs s = q := ⟨_, rfl⟩
                  rw [hq] at hl114
                  have HNQ := Aside0.mk hq
                  clear hq
                  cases mg with
                  | true =>
                    have HN := Aside0.mk (HI1.out.skip HV.out HLF.out HOO.out HE.out (fun h => by rw [HM.out] at h; exact absurd h.1 (by decide)) (fun h => by have := H0.out; omega))
                    go_wp2_with (first
                      | (go_at_call 93; go_must (refine (prefix_calls pre s _ HP1.out).mono ?_; rintro e9 w9 ⟨⟨fk, rfl, hfk⟩, rfl⟩; have HFK := Aside0.mk hfk; clear hfk))
                      | (go_at_call 75; go_must (refine (istable_calls (n := 1) (w0 := V.w) (y := z26) (fp := []) (Rep.mk (.inl ⟨rfl, rfl, rfl⟩))).mono ?_; rintro e9 w9 ⟨rfl, rfl⟩; rw [show decide (z26.f0 = 7) = false from rfl])))
                    go_roundw
                    case rel => exact ⟨_, cnt1, _, _, HRG1, HN⟩
                    case measure => rw [HRG1.out.left_eq, HG.out.left_eq]; exact HCL.out
                  | false =>
                    cases q with
                    | true =>
                      go_wp2_with (first
                        | (go_at_call 93; go_must (refine (prefix_calls pre s _ HP1.out).mono ?_; rintro e9 w9 ⟨⟨fk, rfl, hfk⟩, rfl⟩; have HFK := Aside0.mk hfk; clear hfk))
                        | (at_delete; refine wpList_delete_own _ rfl _ _ 58 9 rfl 20 law9 Try.underlying58 hR V.bd V.M Dd2 rfl HI1.out.own _ _ rfl (keyS_ok HSZ.out) ?_; intro W4 hown hturn; have hg4 := turned_grown hturn; have HX := Aside0.mk hown; have HX2 := Aside0.mk hg4; have HW := Aside0.mk (HRG1.out.kept hg4 (fun e => HV.out.ne (Option.some.inj e).symm) (fun e => by have := Option.some.inj e; have := HV.out.bd; have := HI1.out.r.1; omega)); clear hown hg4 hturn))
                      obtain ⟨Gd3, hN⟩ := HI1.out.del HV.out HLF.out HOO.out H0.out HM.out HNQ.out HX.out HX2.out
                      have HN := Aside0.mk hN
                      clear hN
                      go_roundw
                      case rel => exact ⟨_, _, _, _, _, _, _, _, _, _, _, _, _, _, _, _, _, _, _, _, _, _, _, _, _, _, _, _, _, _, _, _, _, _, _, _, _, _, _, _, _, _, _, _, _, _, _, _, _, _, _, _, _, _, _, _, _, _, _, _, _, _, _, _, _, _, _, _, _, _, ⟨_, cnt1, _, _, HW, HN⟩, rfl⟩
                      case measure => rw [HW.out.left_eq, HG.out.left_eq]; exact HCL.out
                    | false =>
                      have HN := Aside0.mk (HI1.out.skip HV.out HLF.out HOO.out HE.out (fun h => by rw [HNQ.out] at h; exact absurd h.2.2 (by decide)) (fun h => by have := H0.out; omega))
                      go_wp2_with (first
                        | (go_at_call 93; go_must (refine (prefix_calls pre s _ HP1.out).mono ?_; rintro e9 w9 ⟨⟨fk, rfl, hfk⟩, rfl⟩; have HFK := Aside0.mk hfk; clear hfk))
                        | (go_at_call 75; go_must (refine (istable_calls (n := 1) (w0 := V.w) (y := z26) (fp := []) (Rep.mk (.inl ⟨rfl, rfl, rfl⟩))).mono ?_; rintro e9 w9 ⟨rfl, rfl⟩; rw [show decide (z26.f0 = 7) = false from rfl])))
                      go_roundw
                      case rel => exact ⟨_, cnt1, _, _, HRG1, HN⟩
                      case measure => rw [HRG1.out.left_eq, HG.out.left_eq]; exact HCL.out
                · have HF0 := Aside0.mk (rep_iface (HFV.out ▸ HRF.out))
                  have HFF := Aside0.mk (HFV.out ▸ HRF.out)
                  have HEE := Aside0.mk (HEV.out ▸ HRE.out)
                  have HFT := Aside0.mk HTD.out
                  clear HTD
                  obtain ⟨q7, hq7⟩ : ∃ q, decide (f.x.f0 = 7) = q := ⟨_, rfl⟩
                  obtain ⟨p7, hp7⟩ : ∃ q, decide (e.x.f0 = 7) = q := ⟨_, rfl⟩
                  have HQ7 := Aside0.mk hq7
                  have HP7 := Aside0.mk hp7
                  clear hq7 hp7
                  cases p7 with
                  | false =>
                    have HN := Aside0.mk (HI1.out.skip HV.out HLF.out HOO.out HE.out (fun h => HF0.out h.2.1) (fun h => of_decide_eq_false HP7.out h.2))
                    rcases VF with rfl | ⟨vT, vU, rfl⟩
                    · cases q7
                      all_goals cases mg
                      all_goals
                        go_wp2_with (first
                          | (go_at_call 93; go_must (refine (prefix_calls pre s _ HP1.out).mono ?_; rintro e9 w9 ⟨⟨fk, rfl, hfk⟩, rfl⟩; have HFK := Aside0.mk hfk; clear hfk))
                          | (go_at_call_of 75 fU; (refine (istable_calls HFF.out).mono ?_; rintro e9 w9 ⟨rfl, rfl⟩; rw [HQ7.out]))
                          | (go_at_call 75; go_must (refine (istable_calls HEE.out).mono ?_; rintro e9 w9 ⟨rfl, rfl⟩; rw [HP7.out])))
                        go_roundw
                        case rel => exact ⟨_, cnt1, _, _, HRG1, HN⟩
                        case measure => rw [HRG1.out.left_eq, HG.out.left_eq]; exact HCL.out
                    · cases q7 with
                      | false =>
                        cases mg
                        all_goals
                          go_wp2_with (first
                            | (go_at_call 93; go_must (refine (prefix_calls pre s _ HP1.out).mono ?_; rintro e9 w9 ⟨⟨fk, rfl, hfk⟩, rfl⟩; have HFK := Aside0.mk hfk; clear hfk))
                            | (go_at_call_of 75 fU; (refine (istable_calls HFF.out).mono ?_; rintro e9 w9 ⟨rfl, rfl⟩; rw [HQ7.out]))
                            | (go_at_call_of 75 vU; (refine (istable_calls HEE.out).mono ?_; rintro e9 w9 ⟨rfl, rfl⟩; rw [HP7.out])))
                          go_roundw
                          case rel => exact ⟨_, cnt1, _, _, HRG1, HN⟩
                          case measure => rw [HRG1.out.left_eq, HG.out.left_eq]; exact HCL.out
                      | true =>
                        cases mg
                        all_goals
                          go_wp2_with (first
                            | (go_at_call 93; go_must (refine (prefix_calls pre s _ HP1.out).mono ?_; rintro e9 w9 ⟨⟨fk, rfl, hfk⟩, rfl⟩; have HFK := Aside0.mk hfk; clear hfk))
                            | (go_at_call_of 75 fU; (refine (istable_calls HFF.out).mono ?_; rintro e9 w9 ⟨rfl, rfl⟩; rw [HQ7.out]))
                            | (go_at_call_of 75 vU; (refine (istable_calls HEE.out).mono ?_; rintro e9 w9 ⟨rfl, rfl⟩; rw [HP7.out]))
                            | (go_at_call 77; go_must (refine (printf_calls _ _ _).mono ?_; rintro e9 w9 ⟨rfl, rfl⟩)))
                          have HW := Aside0.mk (HRG1.out.alloc (.cells #[.iface 9 (.string fk), .iface vT vU] 20))
                          have HN2 := Aside0.mk (HN.out.move HV.out (World.grownBy_alloc _ (.cells #[.iface 9 (.string fk), .iface vT vU] 20) (some r3)))
                          exact ⟨⟨_, _, _, _, HW, HN2⟩, by rw [HW.out.left_eq, HG.out.left_eq]; exact HCL.out⟩
                  | true =>
                    obtain ⟨b3, hb3⟩ := rep_7 HEE.out (of_decide_eq_true HP7.out)
                    subst hb3
                    clear VF
                    cases q7 with
                    | false =>
                      have HN := Aside0.mk (HI1.out.skip HV.out HLF.out HOO.out HE.out (fun h => HF0.out h.2.1) (fun h => of_decide_eq_false HQ7.out h.1))
                      cases mg
                      all_goals
                        go_wp2_with (first
                          | (go_at_call 93; go_must (refine (prefix_calls pre s _ HP1.out).mono ?_; rintro e9 w9 ⟨⟨fk, rfl, hfk⟩, rfl⟩; have HFK := Aside0.mk hfk; clear hfk))
                          | (go_at_call_of 75 fU; (refine (istable_calls HFF.out).mono ?_; rintro e9 w9 ⟨rfl, rfl⟩; rw [HQ7.out]))
                          | (go_at_call_of 75 b3; (refine (istable_calls HEE.out).mono ?_; rintro e9 w9 ⟨rfl, rfl⟩; rw [HP7.out]))
                          | (go_at_call 77; go_must (refine (printf_calls _ _ _).mono ?_; rintro e9 w9 ⟨rfl, rfl⟩)))
                        have HW := Aside0.mk (HRG1.out.alloc (.cells #[.iface 9 (.string fk), .iface 58 (.map (some b3))] 20))
                        have HN2 := Aside0.mk (HN.out.move HV.out (World.grownBy_alloc _ (.cells #[.iface 9 (.string fk), .iface 58 (.map (some b3))] 20) (some r3)))
                        exact ⟨⟨_, _, _, _, HW, HN2⟩, by rw [HW.out.left_eq, HG.out.left_eq]; exact HCL.out⟩
                    | true =>
                      obtain ⟨b2, hb2⟩ := rep_7 HFF.out (of_decide_eq_true HQ7.out)
                      cases hb2
                      obtain ⟨n', hn'⟩ : ∃ n', V.n = n' + 1 := by
                        have h1 := HFF.out
                        cases hm : V.n with
                        | zero => rw [hm] at h1; exact h1.elim
                        | succ m => exact ⟨m, rfl⟩
                      have HNN := Aside0.mk hn'
                      have HKE := Aside0.mk (HKS.out s e (g1_of_some HOO.out HF0.out HE.out))
                      clear hn'
                      cases mg
                      all_goals
                        go_wp2_with (first
                          | (go_at_call 93; go_must (refine (prefix_calls pre s _ HP1.out).mono ?_; rintro e9 w9 ⟨⟨fk, rfl, hfk⟩, rfl⟩; have HFK := Aside0.mk hfk; clear hfk))
                          | (go_at_call_of 75 b2; (refine (istable_calls HFF.out).mono ?_; rintro e9 w9 ⟨rfl, rfl⟩; rw [HQ7.out]))
                          | (go_at_call_of 75 b3; (refine (istable_calls HEE.out).mono ?_; rintro e9 w9 ⟨rfl, rfl⟩; rw [HP7.out])))
                        go_region_with (go_at_call 76; go_must (
                          refine (call_rec HNN.out HI1.out HLF.out HOO.out HE.out HFF.out HEE.out (HKD.out s f HOO.out) HKE.out (IH.out n' HNN.out) (by exact ⟨rfl, rfl, rfl, Nat.le_refl _, fun _ _ _ => rfl⟩) (fk_le HFK.out HQS.out HP.out HNN.out)).mono ?_
                          intro e9 w10 hpo
                          obtain ⟨rfl, hrg, Gd3, hN⟩ := after_rec HV.out HM.out HNN.out HI1.out HLF.out HOO.out HE.out HFV.out (of_decide_eq_true HQ7.out) (of_decide_eq_true HP7.out) (by exact ⟨rfl, rfl, rfl, Nat.le_refl _, fun _ _ _ => rfl⟩) HRG1.out hpo
                          have HW := Aside0.mk hrg
                          have HN := Aside0.mk hN
                          clear hpo hrg hN))
                        all_goals go_wp2
                        all_goals exact ⟨⟨_, _, _, _, HW, HN⟩, by rw [HW.out.left_eq, HG.out.left_eq]; exact HCL.out⟩
        · intro s v kl yd yp w3 cnt1 hkey hleft hRv hat hrg1 hcl hg1 hs1 hen
          obtain ⟨s', e1', e2', hsz⟩ := keyOf_inv hkey
          cases e1'
          subst e2'
          simp only [hR, Option.some.injEq, Prod.mk.injEq] at hRv
          obtain ⟨rfl, rfl⟩ := hRv
          have HRG1 := Aside0.mk hrg1
          have HCL := Aside0.mk hcl
          have HSZ := Aside0.mk hsz
          have HLF := Aside0.mk hleft
          obtain ⟨e, he, hev⟩ := ent_come HS.out (fun t e he => (MD.out.val t e he).1) hleft hat
          have hrp := (MD.out.val s e he).2
          have HI1 := Aside0.mk (HI.out.move HV.out hg1 HR2.out.1 HR2.out.2)
          have HS1 := Aside0.mk (sub_next (s := s) HS.out)
          have HNN := Aside0.mk (nn_nil he hrp)
          have HNI := Aside0.mk (fun t u => nn_iface he hrp (t := t) (u := u))
          have VF := hrp.form
          rw [hev] at VF
          have HEV := Aside0.mk hev
          clear hkey hleft hat hrg1 hcl hg1 hs1 hsz he hev hrp HI
          rcases VF with rfl | ⟨vt, vu, rfl⟩
          · have HNT := Aside0.mk (HNN.out HEV.out).2
            go_wp2_with (at_mapUpdate; refine wpList_mapUpdate_own _ rfl _ _ _ 58 rfl 9 20 law9 Try.underlying58 hR V.bs V.M Ds2 rfl HI1.out.own ?_ _ _ _ rfl rfl (keyS_ok HSZ.out) (.held .nilIface) [] rfl ?_; (have := HMM.out; unfold maxLen; omega); intro W4 hown hg4; have HN := Aside0.mk (HI1.out.put HV.out HLF.out HNT.out hown hg4); have HW := Aside0.mk (HRG1.out.kept hg4 (fun e => HV.out.ne (Option.some.inj e)) (fun e => by have := Option.some.inj e; have := HV.out.bs; have := HR2.out.1; omega)); clear hown hg4)
            exact ⟨⟨_, ⟨_, HW⟩, HS1, ⟨_, HN⟩⟩, by rw [HW.out.left_eq, HG.out.left_eq]; exact HCL.out⟩
          · have HN := Aside0.mk (HI1.out.skip HLF.out (HNI.out _ _ HEV.out).2)
            go_wp2
            exact ⟨⟨_, cnt1, _, HRG1, HS1, HN⟩, by rw [HRG1.out.left_eq, HG.out.left_eq]; exact HCL.out⟩
    · intro s v kl yd yp w3 cnt1 hkey hleft hRv hat hrg1 hcl hg1 hs1 hen
      obtain ⟨s', e1', e2', hsz⟩ := keyOf_inv hkey
      cases e1'
      subst e2'
      simp only [hR, Option.some.injEq, Prod.mk.injEq] at hRv
      obtain ⟨rfl, rfl⟩ := hRv
      have HRG1 := Aside0.mk hrg1
      have HCL := Aside0.mk hcl
      have HSZ := Aside0.mk hsz
      have HLF := Aside0.mk hleft
      obtain ⟨e, he, hev⟩ := ent_come HS.out (fun t e he => (MS.out.val t e he).1) hleft hat
      have hrp := (MS.out.val s e he).2
      have HI1 := Aside0.mk (HI.out.move hg1 HGR.out (Nat.succ_ne_self _))
      have HS1 := Aside0.mk (sub_next (s := s) HS.out)
      have HNN := Aside0.mk (nn_nil he hrp)
      have HNI := Aside0.mk (fun t u => nn_iface he hrp (t := t) (u := u))
      have VF := hrp.form
      rw [hev] at VF
      have HEV := Aside0.mk hev
      clear hkey hleft hat hrg1 hcl hg1 hs1 hsz he hev hrp HI
      rcases VF with rfl | ⟨vt, vu, rfl⟩
      · have HN := Aside0.mk (HI1.out.skip (HNN.out HEV.out).1)
        go_wp2
        exact ⟨⟨_, _, HRG1, HS1, HN⟩, by rw [HRG1.out.left_eq, HG.out.left_eq]; exact HCL.out⟩
      · obtain ⟨Dg, hbl⟩ := HI1.out.bools
        have HBL := Aside0.mk hbl
        have HNT := Aside0.mk (HNI.out _ _ HEV.out).1
        clear hbl
        go_wp2_with (at_mapUpdate; refine wpList_mapUpdate_own _ rfl _ _ _ 114 rfl 9 4 law9 Try.underlying114 hR V.g V.K Dg rfl HBL.out.own ?_ _ _ _ rfl rfl (keyS_ok HSZ.out) (.held (.bool true)) [] rfl ?_; (have := HKK.out; unfold maxLen; omega); intro W4 hown hg4; have HN := Aside0.mk (HI1.out.put HV.out HNT.out HBL.out hown hg4); have HW := Aside0.mk (HRG1.out.kept hg4 (fun e => by have := Option.some.inj e; have := HV.out.bs; have := HV.out.g; omega) (fun e => by have := Option.some.inj e; omega)); clear hown hg4)
        exact ⟨⟨_, ⟨_, HW⟩, HS1, HN⟩, by rw [HW.out.left_eq, HG.out.left_eq]; exact HCL.out⟩
theorem cnt_mem2 {n : Nat} {x y : S26} (h : cnt (n + 1) x ≤ 2000) (hy : y ∈ x.f6) : cnt n y ≤ 2000 := by
  obtain ⟨j, hj, rfl⟩ := List.getElem_of_mem hy
  have h1 := sum_le n x.f6 j hj
  unfold HVal.cnt at h
  omega
theorem coal_step (n : Nat) (ih : ∀ n', n = n' + 1 → CoalC n') : CoalC n := fun mg d s bd bs fpd fps pre w hd hs rd rs qd qs cd cs hn hlt hpre => by
  obtain ⟨Dd, Ds, Gd, Gs, pd, ps, rfl, rfl, hV, od, md, os, ms, d7, s7, ud, kd, ks⟩ := env_of (mg := mg) hd hs rd rs hn hlt
  have ld : d.f5.length ≤ 2000 := by
    have h1 := len_le (rt_kids rd)
    have h2 := (rt_rise rd d7).2
    unfold HVal.cnt at cd
    omega
  have ls : s.f5.length ≤ 2000 := by
    have h1 := len_le (rt_kids rs)
    have h2 := (rt_rise rs s7).2
    unfold HVal.cnt at cs
    omega
  have qd' := qd
  have qs' := qs
  unfold Sq at qd' qs'
  refine (coal_walk (mkEnv n mg d s bd bs (pd ++ ps) Gd Gs w) mg pre Dd Ds _ _ rfl hV rfl od md os ms ud (show d.f5.length + s.f5.length ≤ 4000 by omega) (show s.f5.length ≤ 4000 by omega) (fun t ht => ?_) (fun t f hf => ?_) (fun t f hf => ?_) hpre ih).mono ?_
  · have ht' : t ∈ (entE d).map (·.1) ++ (entE s).map (·.1) := ht
    rw [ent_keys (rt_rise rd d7).2, ent_keys (rt_rise rs s7).2] at ht'
    rcases List.mem_append.1 ht' with q | q
    · exact qd'.1 t q
    · exact qs'.1 t q
  · have hm := (kd t f hf).1
    exact ⟨rt_kids rd _ hm, qd'.2 _ hm, cnt_mem2 cd hm⟩
  · have hm := (ks t f hf).1
    exact ⟨rt_kids rs _ hm, qs'.2 _ hm, cnt_mem2 cs hm⟩
  · rintro e w' ⟨rfl, hch, fp, hrep, hnd, hf⟩
    refine ⟨rfl, hch.mono fun k hk => ?_, bd :: fp, hrep, hnd, fun k hk => ?_⟩
    · have hk' : k ∈ pd ++ ps ∨ k = bd ∨ k = bs := hk
      rcases hk' with q | rfl | rfl
      · rcases List.mem_append.1 q with q | q
        · exact .inl (List.mem_cons_of_mem _ q)
        · exact .inr (List.mem_cons_of_mem _ q)
      · exact .inl List.mem_cons_self
      · exact .inr List.mem_cons_self
    · rcases List.mem_cons.1 hk with rfl | hk
      · exact .inl List.mem_cons_self
      · obtain ⟨h1, h2⟩ := hf k hk
        have h2' : k ∈ pd ++ ps ∨ w.heap.size ≤ k := h2
        rcases h2' with q | q
        · rcases List.mem_append.1 q with q | q
          · exact .inl (List.mem_cons_of_mem _ q)
          · exact .inr (.inl (List.mem_cons_of_mem _ q))
        · exact .inr (.inr ⟨q, h1⟩)
theorem coal_of : ∀ n, CoalC n
  | 0 => coal_step 0 fun n' h => by omega
  | n + 1 => coal_step (n + 1) fun n' h => by
    have e : n' = n := by omega
    subst e
    exact coal_of n'
end Go.Proofs.Ytjfbjkodjjlkiaa.HVal
/-! What chartutil.CoalesceTables, MergeTables and impl's two come to. -/
namespace Go.Proofs.Ytjfbjkodjjlkiaa.HVal
open Go.RowKit Go.WideMaps Go.Maps Go.Proofs.YtjfbjkodjjlkiaaW.PrintWords Go.Proofs.YtjfbjkodjjlkiaaW.PrintLast Go.Proofs.YtjfbjkodjjlkiaaW.PrintMore Go.Proofs.Ytjfbjkodjjlkiaa.Plain Go.Proofs.Ytjfbjkodjjlkiaa.GTab Go.Proofs.Ytjfbjkodjjlkiaa.Opens
attribute [local go_sem] run_store_flt

abbrev box26 (x : S26) (A5 : Option Addr) (c5 : Nat) (A6 : Option Addr) (c6 : Nat) : Obj := .cells #[.int .i64 x.f0, .bool x.f1, .int .i64 x.f2, .float .f64 x.f3, .string x.f4, .slice A5 x.f5.length c5, .slice A6 x.f6.length c6] 26 (0, 0)
/-- Two tables' boxes, and those of the results. -/
structure R2 (w : World) (x : S26) (A5 : Option Addr) (c5 : Nat) (A6 : Option Addr) (c6 : Nat) (y : S26) (B5 : Option Addr) (d5 : Nat) (B6 : Option Addr) (d6 : Nat) (W : World) : Prop where
  res : Res w (w.heap.size + 2) W
  bx : W.heap[w.heap.size]? = some (box26 x A5 c5 A6 c6)
  by_ : W.heap[w.heap.size + 1]? = some (box26 y B5 d5 B6 d6)
theorem R2.later {w W W2 : World} {x y : S26} {A5 A6 B5 B6 : Option Addr} {c5 c6 d5 d6 : Nat} (h : R2 w x A5 c5 A6 c6 y B5 d5 B6 d6 W) (hb : Below W.heap.size W W2) : R2 w x A5 c5 A6 c6 y B5 d5 B6 d6 W2 := ⟨h.res.later hb, blk_below h.bx hb, blk_below h.by_ hb⟩
theorem R2.start (w : World) (x : S26) (A5 : Option Addr) (c5 : Nat) (A6 : Option Addr) (c6 : Nat) (y : S26) (B5 : Option Addr) (d5 : Nat) (B6 : Option Addr) (d6 : Nat) :
    R2 w x A5 c5 A6 c6 y B5 d5 B6 d6 ((((w.alloc (.cells #[.int .i64 x.f0, .bool x.f1, .int .i64 x.f2, .float .f64 x.f3, .string x.f4, .slice A5 x.f5.length c5, .slice A6 x.f6.length c6] 26)).alloc (.cells #[.int .i64 y.f0, .bool y.f1, .int .i64 y.f2, .float .f64 y.f3, .string y.f4, .slice B5 y.f5.length d5, .slice B6 y.f6.length d6] 26)).alloc (.cells #[.int .i64 0, .bool false, .int .i64 0, .float .f64 0, .string ⟨#[]⟩, .slice none 0 0, .slice none 0 0] 26)).alloc (.cells #[.int .i64 0] 3)) :=
  ⟨⟨blk_alloc (blk_at _ (by simp)) _, blk_at _ (by simp), below_alloc (below_alloc (below_alloc (below_alloc (Below.refl _ _) _) _) _) _⟩, blk_alloc (blk_alloc (blk_alloc (blk_new w _) _) _) _, blk_alloc (blk_alloc (blk_at _ (by simp)) _) _⟩
/-- A table that is made, all of whose blocks are new. -/
theorem table_new (x : S26) (A5 : Option Addr) (c5 : Nat) (A6 : Option Addr) (c6 : Nat) (P : Nat → Prop) (w : World) (h7 : x.f0 = 7) (hr : Rt 50 x) (hsm : Sm 50 x) (hv : KV w P x A5 c5 A6 c6) (hP : ∀ k, P k → k < w.heap.size) (hc : cnt 50 x ≤ 2000) :
    Calls Try.prog 45 #[agg26 x A5 c5 A6 c6] w fun e w' => ∃ b fp, e = .returned (.tuple #[.map (some b), .bool true]) ∧ Rep 50 w' (.iface 58 (.map (some b))) x fp ∧ fp.Nodup ∧ (∀ k ∈ fp, w.heap.size ≤ k ∧ k < w'.heap.size) ∧ Below w.heap.size w w' := by
  refine (table_calls 50 x A5 c5 A6 c6 P w hr hsm hv hP (by decide) hc).mono ?_
  rintro e w' ⟨m, rfl, hb, _, h⟩
  obtain ⟨fp, hrep, hn, hlt⟩ := h h7
  obtain ⟨b, hb2⟩ := rep_7 hrep h7
  cases hb2
  exact ⟨b, fp, by rw [decide_eq_true h7, Bool.true_or], hrep, hn, hlt, hb⟩
theorem chg_new {F : Nat → Prop} {w W W2 : World} (hb : Below w.heap.size w W) (hc : Chg F W W2) (hF : ∀ k, F k → w.heap.size ≤ k) : Below w.heap.size w W2 := ⟨hc.os.trans hb.os, hc.tape.trans hb.tape, hc.output.trans hb.output, Nat.le_trans hb.size hc.size, fun k hk => (hc.block k (Nat.lt_of_lt_of_le hk hb.size) (fun q => by have := hF k q; omega)).trans (hb.block k hk)⟩
/-- The boxes stay where they are while blocks behind them change. -/
theorem R2.chg {F : Nat → Prop} {w W W2 : World} {x y : S26} {A5 A6 B5 B6 : Option Addr} {c5 c6 d5 d6 : Nat} (h : R2 w x A5 c5 A6 c6 y B5 d5 B6 d6 W) (hc : Chg F W W2) (hF : ∀ k, F k → w.heap.size + 4 ≤ k) : R2 w x A5 c5 A6 c6 y B5 d5 B6 d6 W2 := by
  have hl := blk_lt h.res.b2
  have fr : ∀ k, k < w.heap.size + 4 → W2.heap[k]? = W.heap[k]? := fun k hk => hc.block k (by omega) fun q => by have := hF k q; omega
  exact ⟨⟨(fr _ (by omega)).trans h.res.b1, (fr _ (by omega)).trans h.res.b2, chg_new h.res.below hc fun k q => by have := hF k q; omega⟩, (fr _ (by omega)).trans h.bx, (fr _ (by omega)).trans h.by_⟩

set_option maxHeartbeats 4000000 in
theorem cto_calls (d s : S26) (bd bs : Nat) (fpd fps : List Nat) (w : World) (hd : Rep 50 w (.iface 58 (.map (some bd))) d fpd) (hs : Rep 50 w (.iface 58 (.map (some bs))) s fps) (rd : Rt 50 d) (rs : Rt 50 s) (qd : Sq 50 d) (qs : Sq 50 s) (cd : cnt 50 d ≤ 2000) (cs : cnt 50 s ≤ 2000) (hn : (fpd ++ fps).Nodup) (hlt : ∀ k ∈ fpd ++ fps, k < w.heap.size) :
    Calls Try.prog 51 #[.map (some bd), .map (some bs)] w (CoalPost 49 false d s bd fpd fps w) := by
  have HC := Aside0.mk (coal_of 49 false d s bd bs fpd fps ⟨#[]⟩ w hd hs rd rs qd qs cd cs hn hlt (by decide))
  clear hd hs rd rs qd qs cd cs hn hlt
  go_enter Try.func51, Try.ntmps51
  go_wp2_with (go_at_call 76; go_must (refine HC.out.mono ?_; rintro e w1 ⟨rfl, hch, hfp⟩; have HR := Aside0.mk hch; have HF := Aside0.mk hfp; clear hch hfp))
  go_ret
  exact ⟨rfl, HR.out, HF.out⟩
theorem catch50 (p1 p2 : Value) (w : World) : CallsD Try.prog 50 #[p1, p2] .returning w fun e u' w' => e = .returned (.tuple #[]) ∧ u' = .returning ∧ w' = w := by
  refine callsD_of_wpS Try.func50 rfl fun c₀ cs hu => ?_
  apply wpS_seq
  apply wpS_region
  simp [wpOpsS, go_sem, recoverD, hu, Try.ntmps50, Exit.thenS]
  refine wpS_cond (t := false) (by simp [Act.eval, Array.replicate]) ?_
  simp only [Bool.false_eq_true, if_false]
  refine wpS_of_wp (wp_skip ?_)
  cases c₀
  simp_all [bodyPostS, results, Try.results50]
set_option maxRecDepth 100000 in
set_option maxHeartbeats 4000000 in
theorem cti_calls (x : S26) (A5 : Option Addr) (c5 : Nat) (A6 : Option Addr) (c6 : Nat) (P : Nat → Prop) (y : S26) (B5 : Option Addr) (d5 : Nat) (B6 : Option Addr) (d6 : Nat) (Q : Nat → Prop) (w : World) (x7 : x.f0 = 7) (xr : Rt 50 x) (xq : Sq 50 x) (xv : KV w P x A5 c5 A6 c6) (xP : ∀ k, P k → k < w.heap.size) (xc : cnt 50 x ≤ 1000) (y7 : y.f0 = 7) (yr : Rt 50 y) (yq : Sq 50 y) (yv : KV w Q y B5 d5 B6 d6) (yP : ∀ k, Q k → k < w.heap.size) (yc : cnt 50 y ≤ 1000) :
    Calls Try.prog 17 #[agg26 x A5 c5 A6 c6, agg26 y B5 d5 B6 d6] w (OkPost w (canon 50 (coal 50 false x y))) := by
  have hmf : ∀ (fn : Fn) (first cap : Array Value) (w : World), (Instr.makeFunc fn first cap).run Try.prog w = .ok (.func fn first cap) w := fun _ _ _ _ => rfl
  have X7 := Aside0.mk x7
  have XR := Aside0.mk xr
  have XQ := Aside0.mk xq
  have XV := Aside0.mk xv
  have XP := Aside0.mk xP
  have XC := Aside0.mk xc
  have Y7 := Aside0.mk y7
  have YR := Aside0.mk yr
  have YQ := Aside0.mk yq
  have YV := Aside0.mk yv
  have YP := Aside0.mk yP
  have YC := Aside0.mk yc
  have RTN := Aside0.mk (rt_coal (mg := false) xr yr x7 y7)
  have SMN := Aside0.mk (sm_of_sq (sq_coal (mg := false) xr yr x7 y7 xq yq))
  have CN := Aside0.mk (show cnt 50 (coal 50 false x y) ≤ 2000 from Nat.le_trans (cnt_coal xr yr x7 y7) (by omega))
  clear x7 xr xq xv xP xc y7 yr yq yv yP yc
  go_enter_defers Try.func17, Try.ntmps17
  have HR0 := Aside0.mk (R2.start w x A5 c5 A6 c6 y B5 d5 B6 d6)
  go_wp2_with (first
    | (go_at_call_of 45 x; (
        refine (table_new x A5 c5 A6 c6 P _ X7.out XR.out (sm_of_sq XQ.out) (XV.out.below HR0.out.res.below) (fun k hk => Nat.lt_of_lt_of_le (XP.out k hk) HR0.out.res.below.size) (Nat.le_trans XC.out (by decide))).mono ?_
        rintro e w2 ⟨b, fp, rfl, t1, t2, t3, hb⟩
        have HR2 := Aside0.mk (HR0.out.later hb)
        have HT := Aside0.mk t1
        have HN := Aside0.mk t2
        have HL := Aside0.mk (fun k hk => And.intro (Nat.le_trans (Nat.succ_le_of_lt (blk_lt HR0.out.res.b2)) (t3 k hk).1) (t3 k hk).2)
        obtain ⟨⟨a0, a1, a2, a3, a4, a5, a6⟩, -⟩ := at7 HR2.out.by_
        clear t1 t2 t3 hb))
    | (go_at_call_of 45 y; (
        refine (table_new y B5 d5 B6 d6 Q _ Y7.out YR.out (sm_of_sq YQ.out) (YV.out.below HR2.out.res.below) (fun k hk => Nat.lt_of_lt_of_le (YP.out k hk) HR2.out.res.below.size) (Nat.le_trans YC.out (by decide))).mono ?_
        rintro e w3 ⟨b2, fp2, rfl, t1, t2, t3, hb⟩
        have HR3 := Aside0.mk (HR2.out.later hb)
        have HFF := Aside0.mk (show ∀ k ∈ fp ++ fp2, w.heap.size + 4 ≤ k ∧ k < w3.heap.size from fun k hk => by
          rcases List.mem_append.1 hk with q | q
          · have h1 := HL.out k q; have h2 := hb.size; exact ⟨h1.1, by omega⟩
          · have h1 := t3 k q; have h2 := blk_lt HR2.out.res.b2; exact ⟨by omega, h1.2⟩)
        have HCC := Aside0.mk (cto_calls x y b b2 fp fp2 w3 (HT.out.move 50 fun k hk => hb.block k (HL.out k hk).2) t1 XR.out YR.out XQ.out YQ.out (Nat.le_trans XC.out (by decide)) (Nat.le_trans YC.out (by decide)) (List.nodup_append.2 ⟨HN.out, t2, fun a ha c hc e => by have h1 := (HL.out a ha).2; have h2 := (t3 c hc).1; omega⟩) (fun k hk => (HFF.out k hk).2))
        clear t1 t2 t3 hb a0 a1 a2 a3 a4 a5 a6))
    | (go_at_call 51; go_must (
        refine HCC.out.mono ?_
        rintro e w4 ⟨rfl, hch, fp3, hrp, _, hfp⟩
        have HR4 := Aside0.mk (HR3.out.chg hch fun k hk => (HFF.out k (List.mem_append.2 hk)).1)
        have HRP := Aside0.mk hrp
        have HFP := Aside0.mk (show ∀ k ∈ fp3, k < w4.heap.size from fun k hk => by
          rcases hfp k hk with q | q | q
          · exact Nat.lt_of_lt_of_le (HFF.out k (List.mem_append_left _ q)).2 hch.size
          · exact Nat.lt_of_lt_of_le (HFF.out k (List.mem_append_right _ q)).2 hch.size
          · exact q.2)
        clear hch hrp hfp))
    | (go_at_call 46; go_must (
        refine (val_of 50 (coal 50 false x y) _ fp3 w4 HRP.out RTN.out SMN.out CN.out HFP.out).mono ?_
        intro e w5 hvp
        obtain ⟨M5, m5, M6, m6, R, rfl, hv4, hQ, hb4⟩ := Val26.of hvp
        have HR5 := Aside0.mk (HR4.out.later hb4)
        have HV4 := Aside0.mk hv4
        have HQ := Aside0.mk hQ
        obtain ⟨⟨c0, c1, c2, c3, c4, c5', c6', c7⟩, f0, f1, f2, f3, f4, f5, f6, f7⟩ := HR5.out.res.cells
        clear hvp hv4 hQ hb4)))
  obtain ⟨z, hz⟩ : ∃ z, canon 50 (coal 50 false x y) = z := ⟨_, rfl⟩
  rw [hz] at HV4 ⊢
  have HF := Aside0.mk (finV_all HR5.out.res (Nat.le_add_right _ 2) HV4.out (fun k hk => by
    have h1 := HQ.out k hk
    have h2 := blk_lt HR4.out.res.b2
    omega) 0)
  obtain ⟨W5, hW5⟩ : ∃ W5, finV w5 (w.heap.size + 2) z M5 m5 M6 m6 0 = W5 := ⟨_, rfl⟩
  rw [hW5] at HF
  unfold finV fin26 at hW5
  rw [hW5]
  clear hW5
  refine leaves_cons (f := 50) (args := #[.pointer (some ⟨w.heap.size + 2, 0, none⟩), .pointer (some ⟨w.heap.size + 2 + 1, 0, none⟩)]) (by simp) (by simp [go_sem]) ?_
  refine (catch50 _ _ _).mono ?_
  rintro e u' w6 ⟨rfl, rfl, rfl⟩
  obtain ⟨g0, g1, g2, g3, g4, g5, g6, g7⟩ := HF.out.cells
  simp [Leaves, settle, results, Try.results17, go_sem, g0, g1, g2, g3, g4, g5, g6, g7]
  exact OkPost.of HF.out.below HF.out.val

set_option maxHeartbeats 4000000 in
theorem mto_calls (d s : S26) (bd bs : Nat) (fpd fps : List Nat) (w : World) (hd : Rep 50 w (.iface 58 (.map (some bd))) d fpd) (hs : Rep 50 w (.iface 58 (.map (some bs))) s fps) (rd : Rt 50 d) (rs : Rt 50 s) (qd : Sq 50 d) (qs : Sq 50 s) (cd : cnt 50 d ≤ 2000) (cs : cnt 50 s ≤ 2000) (hn : (fpd ++ fps).Nodup) (hlt : ∀ k ∈ fpd ++ fps, k < w.heap.size) :
    Calls Try.prog 54 #[.map (some bd), .map (some bs)] w (CoalPost 49 true d s bd fpd fps w) := by
  have HC := Aside0.mk (coal_of 49 true d s bd bs fpd fps ⟨#[]⟩ w hd hs rd rs qd qs cd cs hn hlt (by decide))
  clear hd hs rd rs qd qs cd cs hn hlt
  go_enter Try.func54, Try.ntmps54
  go_wp2_with (go_at_call 76; go_must (refine HC.out.mono ?_; rintro e w1 ⟨rfl, hch, hfp⟩; have HR := Aside0.mk hch; have HF := Aside0.mk hfp; clear hch hfp))
  go_ret
  exact ⟨rfl, HR.out, HF.out⟩
theorem catch53 (p1 p2 : Value) (w : World) : CallsD Try.prog 53 #[p1, p2] .returning w fun e u' w' => e = .returned (.tuple #[]) ∧ u' = .returning ∧ w' = w := by
  refine callsD_of_wpS Try.func53 rfl fun c₀ cs hu => ?_
  apply wpS_seq
  apply wpS_region
  simp [wpOpsS, go_sem, recoverD, hu, Try.ntmps53, Exit.thenS]
  refine wpS_cond (t := false) (by simp [Act.eval, Array.replicate]) ?_
  simp only [Bool.false_eq_true, if_false]
  refine wpS_of_wp (wp_skip ?_)
  cases c₀
  simp_all [bodyPostS, results, Try.results53]
set_option maxRecDepth 100000 in
set_option maxHeartbeats 4000000 in
theorem mti_calls (x : S26) (A5 : Option Addr) (c5 : Nat) (A6 : Option Addr) (c6 : Nat) (P : Nat → Prop) (y : S26) (B5 : Option Addr) (d5 : Nat) (B6 : Option Addr) (d6 : Nat) (Q : Nat → Prop) (w : World) (x7 : x.f0 = 7) (xr : Rt 50 x) (xq : Sq 50 x) (xv : KV w P x A5 c5 A6 c6) (xP : ∀ k, P k → k < w.heap.size) (xc : cnt 50 x ≤ 1000) (y7 : y.f0 = 7) (yr : Rt 50 y) (yq : Sq 50 y) (yv : KV w Q y B5 d5 B6 d6) (yP : ∀ k, Q k → k < w.heap.size) (yc : cnt 50 y ≤ 1000) :
    Calls Try.prog 22 #[agg26 x A5 c5 A6 c6, agg26 y B5 d5 B6 d6] w (OkPost w (canon 50 (coal 50 true x y))) := by
  have hmf : ∀ (fn : Fn) (first cap : Array Value) (w : World), (Instr.makeFunc fn first cap).run Try.prog w = .ok (.func fn first cap) w := fun _ _ _ _ => rfl
  have X7 := Aside0.mk x7
  have XR := Aside0.mk xr
  have XQ := Aside0.mk xq
  have XV := Aside0.mk xv
  have XP := Aside0.mk xP
  have XC := Aside0.mk xc
  have Y7 := Aside0.mk y7
  have YR := Aside0.mk yr
  have YQ := Aside0.mk yq
  have YV := Aside0.mk yv
  have YP := Aside0.mk yP
  have YC := Aside0.mk yc
  have RTN := Aside0.mk (rt_coal (mg := true) xr yr x7 y7)
  have SMN := Aside0.mk (sm_of_sq (sq_coal (mg := true) xr yr x7 y7 xq yq))
  have CN := Aside0.mk (show cnt 50 (coal 50 true x y) ≤ 2000 from Nat.le_trans (cnt_coal xr yr x7 y7) (by omega))
  clear x7 xr xq xv xP xc y7 yr yq yv yP yc
  go_enter_defers Try.func22, Try.ntmps22
  have HR0 := Aside0.mk (R2.start w x A5 c5 A6 c6 y B5 d5 B6 d6)
  go_wp2_with (first
    | (go_at_call_of 45 x; (
        refine (table_new x A5 c5 A6 c6 P _ X7.out XR.out (sm_of_sq XQ.out) (XV.out.below HR0.out.res.below) (fun k hk => Nat.lt_of_lt_of_le (XP.out k hk) HR0.out.res.below.size) (Nat.le_trans XC.out (by decide))).mono ?_
        rintro e w2 ⟨b, fp, rfl, t1, t2, t3, hb⟩
        have HR2 := Aside0.mk (HR0.out.later hb)
        have HT := Aside0.mk t1
        have HN := Aside0.mk t2
        have HL := Aside0.mk (fun k hk => And.intro (Nat.le_trans (Nat.succ_le_of_lt (blk_lt HR0.out.res.b2)) (t3 k hk).1) (t3 k hk).2)
        obtain ⟨⟨a0, a1, a2, a3, a4, a5, a6⟩, -⟩ := at7 HR2.out.by_
        clear t1 t2 t3 hb))
    | (go_at_call_of 45 y; (
        refine (table_new y B5 d5 B6 d6 Q _ Y7.out YR.out (sm_of_sq YQ.out) (YV.out.below HR2.out.res.below) (fun k hk => Nat.lt_of_lt_of_le (YP.out k hk) HR2.out.res.below.size) (Nat.le_trans YC.out (by decide))).mono ?_
        rintro e w3 ⟨b2, fp2, rfl, t1, t2, t3, hb⟩
        have HR3 := Aside0.mk (HR2.out.later hb)
        have HFF := Aside0.mk (show ∀ k ∈ fp ++ fp2, w.heap.size + 4 ≤ k ∧ k < w3.heap.size from fun k hk => by
          rcases List.mem_append.1 hk with q | q
          · have h1 := HL.out k q; have h2 := hb.size; exact ⟨h1.1, by omega⟩
          · have h1 := t3 k q; have h2 := blk_lt HR2.out.res.b2; exact ⟨by omega, h1.2⟩)
        have HCC := Aside0.mk (mto_calls x y b b2 fp fp2 w3 (HT.out.move 50 fun k hk => hb.block k (HL.out k hk).2) t1 XR.out YR.out XQ.out YQ.out (Nat.le_trans XC.out (by decide)) (Nat.le_trans YC.out (by decide)) (List.nodup_append.2 ⟨HN.out, t2, fun a ha c hc e => by have h1 := (HL.out a ha).2; have h2 := (t3 c hc).1; omega⟩) (fun k hk => (HFF.out k hk).2))
        clear t1 t2 t3 hb a0 a1 a2 a3 a4 a5 a6))
    | (go_at_call 54; go_must (
        refine HCC.out.mono ?_
        rintro e w4 ⟨rfl, hch, fp3, hrp, _, hfp⟩
        have HR4 := Aside0.mk (HR3.out.chg hch fun k hk => (HFF.out k (List.mem_append.2 hk)).1)
        have HRP := Aside0.mk hrp
        have HFP := Aside0.mk (show ∀ k ∈ fp3, k < w4.heap.size from fun k hk => by
          rcases hfp k hk with q | q | q
          · exact Nat.lt_of_lt_of_le (HFF.out k (List.mem_append_left _ q)).2 hch.size
          · exact Nat.lt_of_lt_of_le (HFF.out k (List.mem_append_right _ q)).2 hch.size
          · exact q.2)
        clear hch hrp hfp))
    | (go_at_call 46; go_must (
        refine (val_of 50 (coal 50 true x y) _ fp3 w4 HRP.out RTN.out SMN.out CN.out HFP.out).mono ?_
        intro e w5 hvp
        obtain ⟨M5, m5, M6, m6, R, rfl, hv4, hQ, hb4⟩ := Val26.of hvp
        have HR5 := Aside0.mk (HR4.out.later hb4)
        have HV4 := Aside0.mk hv4
        have HQ := Aside0.mk hQ
        obtain ⟨⟨c0, c1, c2, c3, c4, c5', c6', c7⟩, f0, f1, f2, f3, f4, f5, f6, f7⟩ := HR5.out.res.cells
        clear hvp hv4 hQ hb4)))
  obtain ⟨z, hz⟩ : ∃ z, canon 50 (coal 50 true x y) = z := ⟨_, rfl⟩
  rw [hz] at HV4 ⊢
  have HF := Aside0.mk (finV_all HR5.out.res (Nat.le_add_right _ 2) HV4.out (fun k hk => by
    have h1 := HQ.out k hk
    have h2 := blk_lt HR4.out.res.b2
    omega) 0)
  obtain ⟨W5, hW5⟩ : ∃ W5, finV w5 (w.heap.size + 2) z M5 m5 M6 m6 0 = W5 := ⟨_, rfl⟩
  rw [hW5] at HF
  unfold finV fin26 at hW5
  rw [hW5]
  clear hW5
  refine leaves_cons (f := 53) (args := #[.pointer (some ⟨w.heap.size + 2, 0, none⟩), .pointer (some ⟨w.heap.size + 2 + 1, 0, none⟩)]) (by simp) (by simp [go_sem]) ?_
  refine (catch53 _ _ _).mono ?_
  rintro e u' w6 ⟨rfl, rfl, rfl⟩
  obtain ⟨g0, g1, g2, g3, g4, g5, g6, g7⟩ := HF.out.cells
  simp [Leaves, settle, results, Try.results22, go_sem, g0, g1, g2, g3, g4, g5, g6, g7]
  exact OkPost.of HF.out.below HF.out.val
end Go.Proofs.Ytjfbjkodjjlkiaa.HVal
/-! What impl.CoalesceTables and impl.MergeTables come to: all that they give is new. -/
namespace Go.Proofs.Ytjfbjkodjjlkiaa.HVal
open Go.RowKit Go.WideMaps Go.Maps Go.Proofs.YtjfbjkodjjlkiaaW.PrintWords Go.Proofs.YtjfbjkodjjlkiaaW.PrintLast Go.Proofs.YtjfbjkodjjlkiaaW.PrintMore Go.Proofs.Ytjfbjkodjjlkiaa.Plain Go.Proofs.Ytjfbjkodjjlkiaa.GTab Go.Proofs.Ytjfbjkodjjlkiaa.Opens
attribute [local go_sem] run_store_flt

/-- A value given back without a fault, whose blocks are new. -/
def OkNew (w : World) (z : S26) (e : Ending) (w' : World) : Prop :=
  Below w.heap.size w w' ∧ ∃ (A5 : Option Addr) (c5 : Nat) (A6 : Option Addr) (c6 : Nat) (P : Nat → Prop), e = .returned (.tuple #[agg26 z A5 c5 A6 c6, .int .i64 0]) ∧ KV w' P z A5 c5 A6 c6 ∧ ∀ k, P k → w.heap.size ≤ k ∧ k < w'.heap.size
set_option maxRecDepth 100000 in
set_option maxHeartbeats 4000000 in
theorem ctn_calls (x : S26) (A5 : Option Addr) (c5 : Nat) (A6 : Option Addr) (c6 : Nat) (P : Nat → Prop) (y : S26) (B5 : Option Addr) (d5 : Nat) (B6 : Option Addr) (d6 : Nat) (Q : Nat → Prop) (w : World) (x7 : x.f0 = 7) (xr : Rt 50 x) (xq : Sq 50 x) (xv : KV w P x A5 c5 A6 c6) (xP : ∀ k, P k → k < w.heap.size) (xc : cnt 50 x ≤ 1000) (y7 : y.f0 = 7) (yr : Rt 50 y) (yq : Sq 50 y) (yv : KV w Q y B5 d5 B6 d6) (yP : ∀ k, Q k → k < w.heap.size) (yc : cnt 50 y ≤ 1000) :
    Calls Try.prog 17 #[agg26 x A5 c5 A6 c6, agg26 y B5 d5 B6 d6] w (OkNew w (canon 50 (coal 50 false x y))) := by
  have hmf : ∀ (fn : Fn) (first cap : Array Value) (w : World), (Instr.makeFunc fn first cap).run Try.prog w = .ok (.func fn first cap) w := fun _ _ _ _ => rfl
  have X7 := Aside0.mk x7
  have XR := Aside0.mk xr
  have XQ := Aside0.mk xq
  have XV := Aside0.mk xv
  have XP := Aside0.mk xP
  have XC := Aside0.mk xc
  have Y7 := Aside0.mk y7
  have YR := Aside0.mk yr
  have YQ := Aside0.mk yq
  have YV := Aside0.mk yv
  have YP := Aside0.mk yP
  have YC := Aside0.mk yc
  have RTN := Aside0.mk (rt_coal (mg := false) xr yr x7 y7)
  have SMN := Aside0.mk (sm_of_sq (sq_coal (mg := false) xr yr x7 y7 xq yq))
  have CN := Aside0.mk (show cnt 50 (coal 50 false x y) ≤ 2000 from Nat.le_trans (cnt_coal xr yr x7 y7) (by omega))
  clear x7 xr xq xv xP xc y7 yr yq yv yP yc
  go_enter_defers Try.func17, Try.ntmps17
  have HR0 := Aside0.mk (R2.start w x A5 c5 A6 c6 y B5 d5 B6 d6)
  go_wp2_with (first
    | (go_at_call_of 45 x; (
        refine (table_new x A5 c5 A6 c6 P _ X7.out XR.out (sm_of_sq XQ.out) (XV.out.below HR0.out.res.below) (fun k hk => Nat.lt_of_lt_of_le (XP.out k hk) HR0.out.res.below.size) (Nat.le_trans XC.out (by decide))).mono ?_
        rintro e w2 ⟨b, fp, rfl, t1, t2, t3, hb⟩
        have HR2 := Aside0.mk (HR0.out.later hb)
        have HT := Aside0.mk t1
        have HN := Aside0.mk t2
        have HL := Aside0.mk (fun k hk => And.intro (Nat.le_trans (Nat.succ_le_of_lt (blk_lt HR0.out.res.b2)) (t3 k hk).1) (t3 k hk).2)
        obtain ⟨⟨a0, a1, a2, a3, a4, a5, a6⟩, -⟩ := at7 HR2.out.by_
        clear t1 t2 t3 hb))
    | (go_at_call_of 45 y; (
        refine (table_new y B5 d5 B6 d6 Q _ Y7.out YR.out (sm_of_sq YQ.out) (YV.out.below HR2.out.res.below) (fun k hk => Nat.lt_of_lt_of_le (YP.out k hk) HR2.out.res.below.size) (Nat.le_trans YC.out (by decide))).mono ?_
        rintro e w3 ⟨b2, fp2, rfl, t1, t2, t3, hb⟩
        have HR3 := Aside0.mk (HR2.out.later hb)
        have HFF := Aside0.mk (show ∀ k ∈ fp ++ fp2, w.heap.size + 4 ≤ k ∧ k < w3.heap.size from fun k hk => by
          rcases List.mem_append.1 hk with q | q
          · have h1 := HL.out k q; have h2 := hb.size; exact ⟨h1.1, by omega⟩
          · have h1 := t3 k q; have h2 := blk_lt HR2.out.res.b2; exact ⟨by omega, h1.2⟩)
        have HCC := Aside0.mk (cto_calls x y b b2 fp fp2 w3 (HT.out.move 50 fun k hk => hb.block k (HL.out k hk).2) t1 XR.out YR.out XQ.out YQ.out (Nat.le_trans XC.out (by decide)) (Nat.le_trans YC.out (by decide)) (List.nodup_append.2 ⟨HN.out, t2, fun a ha c hc e => by have h1 := (HL.out a ha).2; have h2 := (t3 c hc).1; omega⟩) (fun k hk => (HFF.out k hk).2))
        clear t1 t2 t3 hb a0 a1 a2 a3 a4 a5 a6))
    | (go_at_call 51; go_must (
        refine HCC.out.mono ?_
        rintro e w4 ⟨rfl, hch, fp3, hrp, _, hfp⟩
        have HR4 := Aside0.mk (HR3.out.chg hch fun k hk => (HFF.out k (List.mem_append.2 hk)).1)
        have HRP := Aside0.mk hrp
        have HFP := Aside0.mk (show ∀ k ∈ fp3, k < w4.heap.size from fun k hk => by
          rcases hfp k hk with q | q | q
          · exact Nat.lt_of_lt_of_le (HFF.out k (List.mem_append_left _ q)).2 hch.size
          · exact Nat.lt_of_lt_of_le (HFF.out k (List.mem_append_right _ q)).2 hch.size
          · exact q.2)
        clear hch hrp hfp))
    | (go_at_call 46; go_must (
        refine (val_of 50 (coal 50 false x y) _ fp3 w4 HRP.out RTN.out SMN.out CN.out HFP.out).mono ?_
        intro e w5 hvp
        obtain ⟨M5, m5, M6, m6, R, rfl, hv4, hQ, hb4⟩ := Val26.of hvp
        have HR5 := Aside0.mk (HR4.out.later hb4)
        have HV4 := Aside0.mk hv4
        have HQ := Aside0.mk hQ
        obtain ⟨⟨c0, c1, c2, c3, c4, c5', c6', c7⟩, f0, f1, f2, f3, f4, f5, f6, f7⟩ := HR5.out.res.cells
        clear hvp hv4 hQ hb4)))
  obtain ⟨z, hz⟩ : ∃ z, canon 50 (coal 50 false x y) = z := ⟨_, rfl⟩
  rw [hz] at HV4 ⊢
  have HF := Aside0.mk (finV_all HR5.out.res (Nat.le_add_right _ 2) HV4.out (fun k hk => by
    have h1 := HQ.out k hk
    have h2 := blk_lt HR4.out.res.b2
    omega) 0)
  have HK5 := Aside0.mk (HV4.out.step (w1 := finV w5 (w.heap.size + 2) z M5 m5 M6 m6 0) (fun k hk _ => fin26_far (by
    have h1 := HQ.out k hk
    have h2 := blk_lt HR4.out.res.b2
    omega) (by
    have h1 := HQ.out k hk
    have h2 := blk_lt HR4.out.res.b2
    omega) _ _ _ _ _ _ _ _))
  have HS5 := Aside0.mk (fin26_size (W := w5) (b := w.heap.size + 2) (.int .i64 z.f0) (.bool z.f1) (.int .i64 z.f2) (.float .f64 z.f3) (.string z.f4) (.slice M5 z.f5.length m5) (.slice M6 z.f6.length m6) (.int .i64 0))
  have HQ5 := Aside0.mk (show ∀ k, R k → w.heap.size ≤ k ∧ k < w5.heap.size from fun k hk => ⟨Nat.le_trans HR4.out.res.below.size (HQ.out k hk).1, (HQ.out k hk).2⟩)
  obtain ⟨W5, hW5⟩ : ∃ W5, finV w5 (w.heap.size + 2) z M5 m5 M6 m6 0 = W5 := ⟨_, rfl⟩
  rw [hW5] at HF HK5
  have HS6 := Aside0.mk (show W5.heap.size = w5.heap.size from hW5 ▸ HS5.out)
  unfold finV fin26 at hW5
  rw [hW5]
  clear hW5
  refine leaves_cons (f := 50) (args := #[.pointer (some ⟨w.heap.size + 2, 0, none⟩), .pointer (some ⟨w.heap.size + 2 + 1, 0, none⟩)]) (by simp) (by simp [go_sem]) ?_
  refine (catch50 _ _ _).mono ?_
  rintro e u' w6 ⟨rfl, rfl, rfl⟩
  obtain ⟨g0, g1, g2, g3, g4, g5, g6, g7⟩ := HF.out.cells
  simp [Leaves, settle, results, Try.results17, go_sem, g0, g1, g2, g3, g4, g5, g6, g7]
  exact ⟨HF.out.below, M5, m5, M6, m6, R, rfl, HK5.out, fun k hk => ⟨(HQ5.out k hk).1, by rw [HS6.out]; exact (HQ5.out k hk).2⟩⟩
set_option maxRecDepth 100000 in
set_option maxHeartbeats 4000000 in
theorem mtn_calls (x : S26) (A5 : Option Addr) (c5 : Nat) (A6 : Option Addr) (c6 : Nat) (P : Nat → Prop) (y : S26) (B5 : Option Addr) (d5 : Nat) (B6 : Option Addr) (d6 : Nat) (Q : Nat → Prop) (w : World) (x7 : x.f0 = 7) (xr : Rt 50 x) (xq : Sq 50 x) (xv : KV w P x A5 c5 A6 c6) (xP : ∀ k, P k → k < w.heap.size) (xc : cnt 50 x ≤ 1000) (y7 : y.f0 = 7) (yr : Rt 50 y) (yq : Sq 50 y) (yv : KV w Q y B5 d5 B6 d6) (yP : ∀ k, Q k → k < w.heap.size) (yc : cnt 50 y ≤ 1000) :
    Calls Try.prog 22 #[agg26 x A5 c5 A6 c6, agg26 y B5 d5 B6 d6] w (OkNew w (canon 50 (coal 50 true x y))) := by
  have hmf : ∀ (fn : Fn) (first cap : Array Value) (w : World), (Instr.makeFunc fn first cap).run Try.prog w = .ok (.func fn first cap) w := fun _ _ _ _ => rfl
  have X7 := Aside0.mk x7
  have XR := Aside0.mk xr
  have XQ := Aside0.mk xq
  have XV := Aside0.mk xv
  have XP := Aside0.mk xP
  have XC := Aside0.mk xc
  have Y7 := Aside0.mk y7
  have YR := Aside0.mk yr
  have YQ := Aside0.mk yq
  have YV := Aside0.mk yv
  have YP := Aside0.mk yP
  have YC := Aside0.mk yc
  have RTN := Aside0.mk (rt_coal (mg := true) xr yr x7 y7)
  have SMN := Aside0.mk (sm_of_sq (sq_coal (mg := true) xr yr x7 y7 xq yq))
  have CN := Aside0.mk (show cnt 50 (coal 50 true x y) ≤ 2000 from Nat.le_trans (cnt_coal xr yr x7 y7) (by omega))
  clear x7 xr xq xv xP xc y7 yr yq yv yP yc
  go_enter_defers Try.func22, Try.ntmps22
  have HR0 := Aside0.mk (R2.start w x A5 c5 A6 c6 y B5 d5 B6 d6)
  go_wp2_with (first
    | (go_at_call_of 45 x; (
        refine (table_new x A5 c5 A6 c6 P _ X7.out XR.out (sm_of_sq XQ.out) (XV.out.below HR0.out.res.below) (fun k hk => Nat.lt_of_lt_of_le (XP.out k hk) HR0.out.res.below.size) (Nat.le_trans XC.out (by decide))).mono ?_
        rintro e w2 ⟨b, fp, rfl, t1, t2, t3, hb⟩
        have HR2 := Aside0.mk (HR0.out.later hb)
        have HT := Aside0.mk t1
        have HN := Aside0.mk t2
        have HL := Aside0.mk (fun k hk => And.intro (Nat.le_trans (Nat.succ_le_of_lt (blk_lt HR0.out.res.b2)) (t3 k hk).1) (t3 k hk).2)
        obtain ⟨⟨a0, a1, a2, a3, a4, a5, a6⟩, -⟩ := at7 HR2.out.by_
        clear t1 t2 t3 hb))
    | (go_at_call_of 45 y; (
        refine (table_new y B5 d5 B6 d6 Q _ Y7.out YR.out (sm_of_sq YQ.out) (YV.out.below HR2.out.res.below) (fun k hk => Nat.lt_of_lt_of_le (YP.out k hk) HR2.out.res.below.size) (Nat.le_trans YC.out (by decide))).mono ?_
        rintro e w3 ⟨b2, fp2, rfl, t1, t2, t3, hb⟩
        have HR3 := Aside0.mk (HR2.out.later hb)
        have HFF := Aside0.mk (show ∀ k ∈ fp ++ fp2, w.heap.size + 4 ≤ k ∧ k < w3.heap.size from fun k hk => by
          rcases List.mem_append.1 hk with q | q
          · have h1 := HL.out k q; have h2 := hb.size; exact ⟨h1.1, by omega⟩
          · have h1 := t3 k q; have h2 := blk_lt HR2.out.res.b2; exact ⟨by omega, h1.2⟩)
        have HCC := Aside0.mk (mto_calls x y b b2 fp fp2 w3 (HT.out.move 50 fun k hk => hb.block k (HL.out k hk).2) t1 XR.out YR.out XQ.out YQ.out (Nat.le_trans XC.out (by decide)) (Nat.le_trans YC.out (by decide)) (List.nodup_append.2 ⟨HN.out, t2, fun a ha c hc e => by have h1 := (HL.out a ha).2; have h2 := (t3 c hc).1; omega⟩) (fun k hk => (HFF.out k hk).2))
        clear t1 t2 t3 hb a0 a1 a2 a3 a4 a5 a6))
    | (go_at_call 54; go_must (
        refine HCC.out.mono ?_
        rintro e w4 ⟨rfl, hch, fp3, hrp, _, hfp⟩
        have HR4 := Aside0.mk (HR3.out.chg hch fun k hk => (HFF.out k (List.mem_append.2 hk)).1)
        have HRP := Aside0.mk hrp
        have HFP := Aside0.mk (show ∀ k ∈ fp3, k < w4.heap.size from fun k hk => by
          rcases hfp k hk with q | q | q
          · exact Nat.lt_of_lt_of_le (HFF.out k (List.mem_append_left _ q)).2 hch.size
          · exact Nat.lt_of_lt_of_le (HFF.out k (List.mem_append_right _ q)).2 hch.size
          · exact q.2)
        clear hch hrp hfp))
    | (go_at_call 46; go_must (
        refine (val_of 50 (coal 50 true x y) _ fp3 w4 HRP.out RTN.out SMN.out CN.out HFP.out).mono ?_
        intro e w5 hvp
        obtain ⟨M5, m5, M6, m6, R, rfl, hv4, hQ, hb4⟩ := Val26.of hvp
        have HR5 := Aside0.mk (HR4.out.later hb4)
        have HV4 := Aside0.mk hv4
        have HQ := Aside0.mk hQ
        obtain ⟨⟨c0, c1, c2, c3, c4, c5', c6', c7⟩, f0, f1, f2, f3, f4, f5, f6, f7⟩ := HR5.out.res.cells
        clear hvp hv4 hQ hb4)))
  obtain ⟨z, hz⟩ : ∃ z, canon 50 (coal 50 true x y) = z := ⟨_, rfl⟩
  rw [hz] at HV4 ⊢
  have HF := Aside0.mk (finV_all HR5.out.res (Nat.le_add_right _ 2) HV4.out (fun k hk => by
    have h1 := HQ.out k hk
    have h2 := blk_lt HR4.out.res.b2
    omega) 0)
  have HK5 := Aside0.mk (HV4.out.step (w1 := finV w5 (w.heap.size + 2) z M5 m5 M6 m6 0) (fun k hk _ => fin26_far (by
    have h1 := HQ.out k hk
    have h2 := blk_lt HR4.out.res.b2
    omega) (by
    have h1 := HQ.out k hk
    have h2 := blk_lt HR4.out.res.b2
    omega) _ _ _ _ _ _ _ _))
  have HS5 := Aside0.mk (fin26_size (W := w5) (b := w.heap.size + 2) (.int .i64 z.f0) (.bool z.f1) (.int .i64 z.f2) (.float .f64 z.f3) (.string z.f4) (.slice M5 z.f5.length m5) (.slice M6 z.f6.length m6) (.int .i64 0))
  have HQ5 := Aside0.mk (show ∀ k, R k → w.heap.size ≤ k ∧ k < w5.heap.size from fun k hk => ⟨Nat.le_trans HR4.out.res.below.size (HQ.out k hk).1, (HQ.out k hk).2⟩)
  obtain ⟨W5, hW5⟩ : ∃ W5, finV w5 (w.heap.size + 2) z M5 m5 M6 m6 0 = W5 := ⟨_, rfl⟩
  rw [hW5] at HF HK5
  have HS6 := Aside0.mk (show W5.heap.size = w5.heap.size from hW5 ▸ HS5.out)
  unfold finV fin26 at hW5
  rw [hW5]
  clear hW5
  refine leaves_cons (f := 53) (args := #[.pointer (some ⟨w.heap.size + 2, 0, none⟩), .pointer (some ⟨w.heap.size + 2 + 1, 0, none⟩)]) (by simp) (by simp [go_sem]) ?_
  refine (catch53 _ _ _).mono ?_
  rintro e u' w6 ⟨rfl, rfl, rfl⟩
  obtain ⟨g0, g1, g2, g3, g4, g5, g6, g7⟩ := HF.out.cells
  simp [Leaves, settle, results, Try.results22, go_sem, g0, g1, g2, g3, g4, g5, g6, g7]
  exact ⟨HF.out.below, M5, m5, M6, m6, R, rfl, HK5.out, fun k hk => ⟨(HQ5.out k hk).1, by rw [HS6.out]; exact (HQ5.out k hk).2⟩⟩
end Go.Proofs.Ytjfbjkodjjlkiaa.HVal
