/- What PatchStrategyAndKey comes to, for a schema whose extensions are a map of texts. -/
import Derived.Test.YtmjecafddklbjaaHMapI
import Derived.Test.YtmjecafddklbjaaProg
import Derived.Test.YtmjecafddklbjaaWWords
import Derived.Deep.QuietTactic
import Derived.BigQuiet
import Derived.RegionTactic
namespace Go.Proofs.Ytmjecafddklbjaa.HSchema
open Go.RowKit Go.WideMaps Go.Maps Go.Proofs.YtmjecafddklbjaaW.PrintWords Go.Proofs.Ytmjecafddklbjaa.HMapI

theorem law : Keyed Try.prog 9 := string_keyed Try.underlying9
theorem zero20 (w : World) : (zeroValue 20).run Try.prog w = .ok .nilIface w := by kernel_rfl
abbrev kS : ByteArray := ⟨#[120, 45, 107, 117, 98, 101, 114, 110, 101, 116, 101, 115, 45, 112, 97, 116, 99, 104, 45, 115, 116, 114, 97, 116, 101, 103, 121]⟩
abbrev kK : ByteArray := ⟨#[120, 45, 107, 117, 98, 101, 114, 110, 101, 116, 101, 115, 45, 112, 97, 116, 99, 104, 45, 109, 101, 114, 103, 101, 45, 107, 101, 121]⟩
theorem keyS : keyOf Try.prog 9 (.string kS) = some (.string kS.data.toList) := keyOf_string_mk Try.underlying9 (by decide)
theorem keyK : keyOf Try.prog 9 (.string kK) = some (.string kK.data.toList) := keyOf_string_mk Try.underlying9 (by decide)

theorem as_text (s : ByteArray) (w : World) : (Instr.typeAssert (.iface 9 (.string s)) 20 9 false).run Try.prog w = .ok (.string s) w := by kernel_rfl

set_option maxHeartbeats 2000000 in
/-- Both are there. -/
theorem both_calls (pb qb B n : Nat) (D : DataW Unit) (s k : ByteArray) (w : World) (h0 : w.cell? ⟨pb, 0, none⟩ = some (.pointer (some ⟨qb, 0, none⟩))) (h4 : w.cell? ⟨qb, 4, none⟩ = some (.map (some B)))
    (hown : w.ownsMap Try.prog 9 (ifR 9) B n D) (hs : D.atKey (.string kS.data.toList) .nil = .lit (.string s.data.toList)) (hS : has D (.string kS.data.toList) = true) (hk : D.atKey (.string kK.data.toList) .nil = .lit (.string k.data.toList)) (hK : has D (.string kK.data.toList) = true) :
    Calls Try.prog 14 #[.pointer (some ⟨pb, 0, none⟩)] w fun e w' => e = .returned (.tuple #[.string s, .string k]) ∧ Below w.heap.size w w' := by
  have HO := Aside0.mk hown
  have HS1 := Aside0.mk hs
  have HS2 := Aside0.mk hS
  have HK1 := Aside0.mk hk
  have HK2 := Aside0.mk hK
  clear hown hs hS hk hK
  have tok := Aside0.mk trivial
  have ta := as_text
  go_enter Try.func14, Try.ntmps14
  go_wp2_with (first
    | (at_lookup; clear tok; refine wpList_lookup_own_ok _ rfl _ _ 65 rfl 9 20 law Try.underlying65 (ifR 9) (zero20 _) .nil [] (ifR_nil 9) B n D rfl HO.out _ _ rfl keyS ?_; rw [HS1.out, HS2.out]; intro v ps hv; obtain rfl := ifR_inv_text hv; clear hv)
    | (at_lookup; refine wpList_lookup_own_ok _ rfl _ _ 65 rfl 9 20 law Try.underlying65 (ifR 9) (zero20 _) .nil [] (ifR_nil 9) B n D rfl HO.out _ _ rfl keyK ?_; rw [HK1.out, HK2.out]; intro v ps hv; obtain rfl := ifR_inv_text hv; clear hv))
  go_region
  all_goals go_wp2
  all_goals go_ret2
  all_goals exact ⟨rfl, below_drew (Below.refl _ _)⟩

set_option maxHeartbeats 2000000 in
/-- The strategy alone. -/
theorem one_calls (pb qb B n : Nat) (D : DataW Unit) (s : ByteArray) (w : World) (h0 : w.cell? ⟨pb, 0, none⟩ = some (.pointer (some ⟨qb, 0, none⟩))) (h4 : w.cell? ⟨qb, 4, none⟩ = some (.map (some B)))
    (hown : w.ownsMap Try.prog 9 (ifR 9) B n D) (hs : D.atKey (.string kS.data.toList) .nil = .lit (.string s.data.toList)) (hS : has D (.string kS.data.toList) = true) (hk : D.atKey (.string kK.data.toList) .nil = .nil) (hK : has D (.string kK.data.toList) = false) :
    Calls Try.prog 14 #[.pointer (some ⟨pb, 0, none⟩)] w fun e w' => e = .returned (.tuple #[.string s, .string ⟨#[]⟩]) ∧ Below w.heap.size w w' := by
  have HO := Aside0.mk hown
  have HS1 := Aside0.mk hs
  have HS2 := Aside0.mk hS
  have HK1 := Aside0.mk hk
  have HK2 := Aside0.mk hK
  clear hown hs hS hk hK
  have tok := Aside0.mk trivial
  have ta := as_text
  go_enter Try.func14, Try.ntmps14
  go_wp2_with (first
    | (at_lookup; clear tok; refine wpList_lookup_own_ok _ rfl _ _ 65 rfl 9 20 law Try.underlying65 (ifR 9) (zero20 _) .nil [] (ifR_nil 9) B n D rfl HO.out _ _ rfl keyS ?_; rw [HS1.out, HS2.out]; intro v ps hv; obtain rfl := ifR_inv_text hv; clear hv)
    | (at_lookup; refine wpList_lookup_own_ok _ rfl _ _ 65 rfl 9 20 law Try.underlying65 (ifR 9) (zero20 _) .nil [] (ifR_nil 9) B n D rfl HO.out _ _ rfl keyK ?_; rw [HK1.out, HK2.out]; intro v ps hv; obtain rfl := ifR_inv_nil hv; clear hv))
  go_region
  all_goals go_wp2
  all_goals go_ret2
  all_goals exact ⟨rfl, below_drew (Below.refl _ _)⟩

set_option maxHeartbeats 2000000 in
/-- No strategy. -/
theorem none_calls (pb qb B n : Nat) (D : DataW Unit) (w : World) (h0 : w.cell? ⟨pb, 0, none⟩ = some (.pointer (some ⟨qb, 0, none⟩))) (h4 : w.cell? ⟨qb, 4, none⟩ = some (.map (some B)))
    (hown : w.ownsMap Try.prog 9 (ifR 9) B n D) (hs : D.atKey (.string kS.data.toList) .nil = .nil) (hS : has D (.string kS.data.toList) = false) :
    Calls Try.prog 14 #[.pointer (some ⟨pb, 0, none⟩)] w fun e w' => e = .returned (.tuple #[.string ⟨#[]⟩, .string ⟨#[]⟩]) ∧ Below w.heap.size w w' := by
  have HO := Aside0.mk hown
  have HS1 := Aside0.mk hs
  have HS2 := Aside0.mk hS
  clear hown hs hS
  go_enter Try.func14, Try.ntmps14
  go_wp2_with (at_lookup; refine wpList_lookup_own_ok _ rfl _ _ 65 rfl 9 20 law Try.underlying65 (ifR 9) (zero20 _) .nil [] (ifR_nil 9) B n D rfl HO.out _ _ rfl keyS ?_; rw [HS1.out, HS2.out]; intro v ps hv; obtain rfl := ifR_inv_nil hv; clear hv)
  go_ret2
  exact ⟨rfl, Below.refl _ _⟩

set_option maxHeartbeats 2000000 in
/-- A nil map. -/
theorem nil_calls (pb qb : Nat) (w : World) (h0 : w.cell? ⟨pb, 0, none⟩ = some (.pointer (some ⟨qb, 0, none⟩))) (h4 : w.cell? ⟨qb, 4, none⟩ = some (.map none)) :
    Calls Try.prog 14 #[.pointer (some ⟨pb, 0, none⟩)] w fun e w' => e = .returned (.tuple #[.string ⟨#[]⟩, .string ⟨#[]⟩]) ∧ Below w.heap.size w w' := by
  have hl : ∀ w : World, (Instr.lookup 65 (.map none) (.string kS) true).run Try.prog w = .ok (.tuple #[.nilIface, .bool false]) w := fun w => Maps.look_nil true law Try.underlying65 (zero20 w) keyS
  go_enter Try.func14, Try.ntmps14
  go_wp2
  go_ret2
  exact ⟨rfl, Below.refl _ _⟩

abbrev kL : ByteArray := ⟨#[120, 45, 107, 117, 98, 101, 114, 110, 101, 116, 101, 115, 45, 108, 105, 115, 116, 45, 109, 97, 112, 45, 107, 101, 121, 115]⟩
theorem keyL : keyOf Try.prog 9 (.string kL) = some (.string kL.data.toList) := keyOf_string_mk Try.underlying9 (by decide)
/-- A text, and some slice. -/
def TextAnd (w : World) (s : ByteArray) (e : Ending) (w' : World) : Prop := ∃ (A : Option Addr) (n c : Nat), e = .returned (.tuple #[.string s, .slice A n c]) ∧ Below w.heap.size w w'

set_option maxHeartbeats 2000000 in
theorem list_both (pb qb B n : Nat) (D : DataW Unit) (s k : ByteArray) (w : World) (h0 : w.cell? ⟨pb, 0, none⟩ = some (.pointer (some ⟨qb, 0, none⟩))) (h4 : w.cell? ⟨qb, 4, none⟩ = some (.map (some B)))
    (hown : w.ownsMap Try.prog 9 (ifR 9) B n D) (hs : D.atKey (.string kS.data.toList) .nil = .lit (.string s.data.toList)) (hS : has D (.string kS.data.toList) = true) (hl : D.atKey (.string kL.data.toList) .nil = .nil) (hL : has D (.string kL.data.toList) = false) (hk : D.atKey (.string kK.data.toList) .nil = .lit (.string k.data.toList)) (hK : has D (.string kK.data.toList) = true) :
    Calls Try.prog 13 #[.pointer (some ⟨pb, 0, none⟩)] w (TextAnd w s) := by
  have HO := Aside0.mk hown
  have HS1 := Aside0.mk hs
  have HS2 := Aside0.mk hS
  have HL1 := Aside0.mk hl
  have HL2 := Aside0.mk hL
  have HK1 := Aside0.mk hk
  have HK2 := Aside0.mk hK
  clear hown hs hS hk hK hl hL
  have tok := Aside0.mk trivial
  have tok2 := Aside0.mk trivial
  have ta := as_text
  go_enter Try.func13, Try.ntmps13
  go_wp2_with (first
    | (at_lookup; clear tok; refine wpList_lookup_own_ok _ rfl _ _ 65 rfl 9 20 law Try.underlying65 (ifR 9) (zero20 _) .nil [] (ifR_nil 9) B n D rfl HO.out _ _ rfl keyS ?_; rw [HS1.out, HS2.out]; intro v ps hv; obtain rfl := ifR_inv_text hv; clear hv)
    | (at_lookup; clear tok2; refine wpList_lookup_own_ok _ rfl _ _ 65 rfl 9 20 law Try.underlying65 (ifR 9) (zero20 _) .nil [] (ifR_nil 9) B n D rfl HO.out _ _ rfl keyL ?_; rw [HL1.out, HL2.out]; intro v ps hv; obtain rfl := ifR_inv_nil hv; clear hv)
    | (at_lookup; refine wpList_lookup_own_ok _ rfl _ _ 65 rfl 9 20 law Try.underlying65 (ifR 9) (zero20 _) .nil [] (ifR_nil 9) B n D rfl HO.out _ _ rfl keyK ?_; rw [HK1.out, HK2.out]; intro v ps hv; obtain rfl := ifR_inv_text hv; clear hv))
  go_region
  all_goals go_wp2
  all_goals go_ret2
  all_goals exact ⟨_, _, _, rfl, by repeat (first | exact Below.refl _ _ | apply below_alloc | apply below_drew)⟩

set_option maxHeartbeats 2000000 in
theorem list_one (pb qb B n : Nat) (D : DataW Unit) (s : ByteArray) (w : World) (h0 : w.cell? ⟨pb, 0, none⟩ = some (.pointer (some ⟨qb, 0, none⟩))) (h4 : w.cell? ⟨qb, 4, none⟩ = some (.map (some B)))
    (hown : w.ownsMap Try.prog 9 (ifR 9) B n D) (hs : D.atKey (.string kS.data.toList) .nil = .lit (.string s.data.toList)) (hS : has D (.string kS.data.toList) = true) (hl : D.atKey (.string kL.data.toList) .nil = .nil) (hL : has D (.string kL.data.toList) = false) (hk : D.atKey (.string kK.data.toList) .nil = .nil) (hK : has D (.string kK.data.toList) = false) :
    Calls Try.prog 13 #[.pointer (some ⟨pb, 0, none⟩)] w (TextAnd w s) := by
  have HO := Aside0.mk hown
  have HS1 := Aside0.mk hs
  have HS2 := Aside0.mk hS
  have HL1 := Aside0.mk hl
  have HL2 := Aside0.mk hL
  have HK1 := Aside0.mk hk
  have HK2 := Aside0.mk hK
  clear hown hs hS hk hK hl hL
  have tok := Aside0.mk trivial
  have tok2 := Aside0.mk trivial
  have ta := as_text
  go_enter Try.func13, Try.ntmps13
  go_wp2_with (first
    | (at_lookup; clear tok; refine wpList_lookup_own_ok _ rfl _ _ 65 rfl 9 20 law Try.underlying65 (ifR 9) (zero20 _) .nil [] (ifR_nil 9) B n D rfl HO.out _ _ rfl keyS ?_; rw [HS1.out, HS2.out]; intro v ps hv; obtain rfl := ifR_inv_text hv; clear hv)
    | (at_lookup; clear tok2; refine wpList_lookup_own_ok _ rfl _ _ 65 rfl 9 20 law Try.underlying65 (ifR 9) (zero20 _) .nil [] (ifR_nil 9) B n D rfl HO.out _ _ rfl keyL ?_; rw [HL1.out, HL2.out]; intro v ps hv; obtain rfl := ifR_inv_nil hv; clear hv)
    | (at_lookup; refine wpList_lookup_own_ok _ rfl _ _ 65 rfl 9 20 law Try.underlying65 (ifR 9) (zero20 _) .nil [] (ifR_nil 9) B n D rfl HO.out _ _ rfl keyK ?_; rw [HK1.out, HK2.out]; intro v ps hv; obtain rfl := ifR_inv_nil hv; clear hv))
  all_goals go_ret2
  all_goals exact ⟨_, _, _, rfl, by repeat (first | exact Below.refl _ _ | apply below_alloc | apply below_drew)⟩

set_option maxHeartbeats 2000000 in
theorem list_none (pb qb B n : Nat) (D : DataW Unit) (w : World) (h0 : w.cell? ⟨pb, 0, none⟩ = some (.pointer (some ⟨qb, 0, none⟩))) (h4 : w.cell? ⟨qb, 4, none⟩ = some (.map (some B)))
    (hown : w.ownsMap Try.prog 9 (ifR 9) B n D) (hs : D.atKey (.string kS.data.toList) .nil = .nil) (hS : has D (.string kS.data.toList) = false) :
    Calls Try.prog 13 #[.pointer (some ⟨pb, 0, none⟩)] w (TextAnd w ⟨#[]⟩) := by
  have HO := Aside0.mk hown
  have HS1 := Aside0.mk hs
  have HS2 := Aside0.mk hS
  clear hown hs hS
  go_enter Try.func13, Try.ntmps13
  go_wp2_with (at_lookup; refine wpList_lookup_own_ok _ rfl _ _ 65 rfl 9 20 law Try.underlying65 (ifR 9) (zero20 _) .nil [] (ifR_nil 9) B n D rfl HO.out _ _ rfl keyS ?_; rw [HS1.out, HS2.out]; intro v ps hv; obtain rfl := ifR_inv_nil hv; clear hv)
  go_ret2
  exact ⟨_, _, _, rfl, by repeat (first | exact Below.refl _ _ | apply below_alloc | apply below_drew)⟩

set_option maxHeartbeats 2000000 in
theorem list_nil (pb qb : Nat) (w : World) (h0 : w.cell? ⟨pb, 0, none⟩ = some (.pointer (some ⟨qb, 0, none⟩))) (h4 : w.cell? ⟨qb, 4, none⟩ = some (.map none)) :
    Calls Try.prog 13 #[.pointer (some ⟨pb, 0, none⟩)] w (TextAnd w ⟨#[]⟩) := by
  have hl : ∀ w : World, (Instr.lookup 65 (.map none) (.string kS) true).run Try.prog w = .ok (.tuple #[.nilIface, .bool false]) w := fun w => Maps.look_nil true law Try.underlying65 (zero20 w) keyS
  go_enter Try.func13, Try.ntmps13
  go_wp2
  go_ret2
  exact ⟨_, _, _, rfl, by repeat (first | exact Below.refl _ _ | apply below_alloc | apply below_drew)⟩

end Go.Proofs.Ytmjecafddklbjaa.HSchema
