/- FnAlias: the ways out ahead of the charts. -/
import Derived.Test.YtmjecafddklbjaaHLaw0
namespace Go.Proofs.Ytmjecafddklbjaa.HAlias
open Go.RowKit Go.WideMaps Go.Maps Go.Proofs.YtmjecafddklbjaaW.PrintWords Go.Proofs.YtmjecafddklbjaaW.PrintLast Go.Proofs.YtmjecafddklbjaaW.PrintMore Go.Proofs.Ytmjecafddklbjaa.HMapI Go.Proofs.Ytmjecafddklbjaa.HSchema Go.Proofs.Ytmjecafddklbjaa.Plain Go.Proofs.Ytmjecafddklbjaa.GWants Go.Proofs.Ytmjecafddklbjaa.HFits

theorem below_drawn {w W : World} (h : Drawn0 w W) : Below w.heap.size w W := by
  obtain ⟨nd, rfl⟩ := h.out
  exact pw_below_drewN (Below.refl _ _) nd
/-- The law's call answers true, and changes nothing that was there. -/
def True3 (w : World) (e : Ending) (w' : World) : Prop := e = .returned (.bool true) ∧ Below w.heap.size w w'
set_option maxRecDepth 100000 in
set_option maxHeartbeats 2000000 in
theorem out0 (A0 A1 A4 A6 : Option Addr) (c0 c1 c4 c6 : Nat) (l0 l1 l4 : List ByteArray) (l6 : List S60) (n v cnd al : ByteArray) (en : Bool) (w : World) (k0 : Nat)
    (hr0 : Kd.C Kd.string w A0 l0.length l0) (hc0 : l0.length ≤ c0) (h0 : laws_zzFits4.f k0 l0 = some false) :
    Calls Try.prog 4 #[.slice A0 l0.length c0, .slice A1 l1.length c1, .agg (wcells n v cnd al A4 l4 c4 en A6 l6 c6)] w (True3 w) := by
  have HR0 := Aside0.mk hr0
  have HC0 := Aside0.mk hc0
  have H0 := Aside0.mk h0
  clear hr0 hc0 h0
  go_enter Try.func4, Try.ntmps4
  go_wp2_with (go_at_call 6; go_must (refine (laws_zzFits4.calls k0 A0 c0 l0 false _ (Kd.C_below HR0.out (below_alloc (Below.refl _ _) _)) HC0.out H0.out).mono ?_; rintro e w1 ⟨rfl, hd⟩; have HB := Aside0.mk (below_step (below_alloc (Below.refl w.heap.size w) _) (below_drawn hd)); clear hd))
  go_ret
  exact ⟨rfl, HB.out⟩
set_option maxRecDepth 100000 in
set_option maxHeartbeats 2000000 in
theorem out1 (A0 A1 A4 A6 : Option Addr) (c0 c1 c4 c6 : Nat) (l0 l1 l4 : List ByteArray) (l6 : List S60) (n v cnd al : ByteArray) (en : Bool) (w : World) (k0 k1 : Nat)
    (hr0 : Kd.C Kd.string w A0 l0.length l0) (hc0 : l0.length ≤ c0) (h0 : laws_zzFits4.f k0 l0 = some true)
    (hr1 : Kd.C Kd.string w A1 l1.length l1) (hc1 : l1.length ≤ c1) (h1 : laws_zzFits4.f k1 l1 = some false) :
    Calls Try.prog 4 #[.slice A0 l0.length c0, .slice A1 l1.length c1, .agg (wcells n v cnd al A4 l4 c4 en A6 l6 c6)] w (True3 w) := by
  have HR0 := Aside0.mk hr0
  have HC0 := Aside0.mk hc0
  have H0 := Aside0.mk h0
  have HR1 := Aside0.mk hr1
  have HC1 := Aside0.mk hc1
  have H1 := Aside0.mk h1
  have tok : Aside0 (0 = 0) := ⟨rfl⟩
  clear hr0 hc0 h0 hr1 hc1 h1
  go_enter Try.func4, Try.ntmps4
  go_wp2_with (first
    | (go_at_call 6; clear tok; refine (laws_zzFits4.calls k0 A0 c0 l0 true _ (Kd.C_below HR0.out (below_alloc (Below.refl _ _) _)) HC0.out H0.out).mono ?_; rintro e w1 ⟨rfl, hd⟩; have HB := Aside0.mk (below_step (below_alloc (Below.refl w.heap.size w) _) (below_drawn hd)); clear hd)
    | (go_at_call 6; refine (laws_zzFits4.calls k1 A1 c1 l1 false _ (Kd.C_below HR1.out HB.out) HC1.out H1.out).mono ?_; rintro e w2 ⟨rfl, hd⟩; have HB2 := Aside0.mk (below_step HB.out (below_drawn hd)); clear hd))
  go_ret
  exact ⟨rfl, HB2.out⟩
set_option maxRecDepth 100000 in
set_option maxHeartbeats 2000000 in
theorem out3 (A0 A1 A4 A6 : Option Addr) (c0 c1 c4 c6 : Nat) (l0 l1 l4 : List ByteArray) (l6 : List S60) (n v cnd al : ByteArray) (en : Bool) (w : World) (k0 k1 k3 : Nat)
    (hr0 : Kd.C Kd.string w A0 l0.length l0) (hc0 : l0.length ≤ c0) (h0 : laws_zzFits4.f k0 l0 = some true)
    (hr1 : Kd.C Kd.string w A1 l1.length l1) (hc1 : l1.length ≤ c1) (h1 : laws_zzFits4.f k1 l1 = some true)
    (hr4 : Kd.C Kd.string w A4 l4.length l4) (hc4 : l4.length ≤ c4) (hr6 : Kd.C k60 w A6 l6.length l6) (hc6 : l6.length ≤ c6) (h3 : laws_zzFits3.f k3 n v cnd al l4 en l6 = some false) :
    Calls Try.prog 4 #[.slice A0 l0.length c0, .slice A1 l1.length c1, .agg (wcells n v cnd al A4 l4 c4 en A6 l6 c6)] w (True3 w) := by
  have HR0 := Aside0.mk hr0
  have HC0 := Aside0.mk hc0
  have H0 := Aside0.mk h0
  have HR1 := Aside0.mk hr1
  have HC1 := Aside0.mk hc1
  have H1 := Aside0.mk h1
  have HR4 := Aside0.mk hr4
  have HC4 := Aside0.mk hc4
  have HR6 := Aside0.mk hr6
  have HC6 := Aside0.mk hc6
  have H3 := Aside0.mk h3
  have tok : Aside0 (0 = 0) := ⟨rfl⟩
  clear hr0 hc0 h0 hr1 hc1 h1 hr4 hc4 hr6 hc6 h3
  go_enter Try.func4, Try.ntmps4
  go_wp2_with (first
    | (go_at_call 6; clear tok; refine (laws_zzFits4.calls k0 A0 c0 l0 true _ (Kd.C_below HR0.out (below_alloc (Below.refl _ _) _)) HC0.out H0.out).mono ?_; rintro e w1 ⟨rfl, hd⟩; have HW := Aside0.mk (Lw.start.later (below_drawn hd)); have HB := Aside0.mk HW.out.below; clear hd)
    | (go_at_call 6; refine (laws_zzFits4.calls k1 A1 c1 l1 true _ (Kd.C_below HR1.out HB.out) HC1.out H1.out).mono ?_; rintro e w2 ⟨rfl, hd⟩; have HB2 := Aside0.mk (below_step HB.out (below_drawn hd)); have HW2 := Aside0.mk (HW.out.later (below_drawn hd)); obtain ⟨d0, d1, d2, d3, d4, d5, d6⟩ := HW2.out.cells; clear hd)
    | (go_at_call 7; refine (laws_zzFits3.calls k3 n v cnd al A4 c4 l4 en A6 c6 l6 false _ (Kd.C_below HR4.out HB2.out) HC4.out (Kd.C_below HR6.out HB2.out) HC6.out H3.out).mono ?_; rintro e w3 ⟨rfl, hb⟩; have HB3 := Aside0.mk (below_step HB2.out hb); clear hb))
  go_ret
  exact ⟨rfl, HB3.out⟩
end Go.Proofs.Ytmjecafddklbjaa.HAlias
