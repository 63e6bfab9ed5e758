/- What kyId comes to, for parts within the size bound: parts of letters, digits and dashes, with .io and .x behind some, Zz ahead of a kind. -/
import Derived.Test.YtfdgbgjbncakfaaDoorHkyId
import Derived.Test.YtfdgbgjbncakfaaDoorQkyPlain
namespace Go.Proofs.YtfdgbgjbncakfaaDoor.HId
open Go.RowKit Go.Proofs.YtfdgbgjbncakfaaDoorW.PrintWords Go.Proofs.YtfdgbgjbncakfaaDoor.Plain Go.Proofs.YtfdgbgjbncakfaaDoor.QkyPlain Go.Proofs.YtfdgbgjbncakfaaDoor.PkyId Go.Proofs.YtfdgbgjbncakfaaDoor.HkyId

structure IdOk (g v k n s : ByteArray) : Prop where
  g : ∃ u, word 12 u ∧ (g = u ∨ g = u ++ ⟨#[46, 105, 111]⟩)
  v : word 12 v
  k : k = ⟨#[]⟩ ∨ ∃ u, word 12 u ∧ k = ⟨#[90, 122]⟩ ++ u
  n : ∃ u, word 12 u ∧ (n = u ∨ n = u ++ ⟨#[46, 120]⟩)
  s : word 12 s

theorem plain_id (s : ByteArray) (hs : s.size ≤ 140737488351232) : ∃ r, word 12 r ∧ Ev (fun k => laws_kyPlain.f k s) r := by
  obtain ⟨r, hr, he⟩ := plain_main s hs s.size 0 [] (by omega) (by omega) (by simp) (fun x hx => by cases hx)
  exact ⟨r, hr, he⟩

theorem end_ev (a0 a1 a2 a3 a4 g v k n s : ByteArray) (hg : word 12 g) (hv : word 12 v) (hk : k = ⟨#[]⟩ ∨ ∃ u, word 12 u ∧ k = ⟨#[90, 122]⟩ ++ u) (hn : word 12 n) (hs : word 12 s) :
    ∃ g' n', IdOk g' v k n' s ∧ Ev (fun q => laws_kyId.j0 q a0 a1 a2 a3 a4 g v k n s) (g', v, k, n', s) := by
  have h1 := hg.1
  have h2 := hn.1
  by_cases c1 : (a0.size : Int) > 3
  · by_cases c2 : (a3.size : Int) > 3
    · exact ⟨_, _, ⟨⟨g, hg, .inr rfl⟩, hv, hk, ⟨n, hn, .inr rfl⟩, hs⟩, Ev.step (fun k => laws_kyId.j0.eq_2 ..) (Ev.pos c1 (Ev.pos (by omega) (Ev.pos c2 (Ev.pos (by omega) (Ev.now _)))))⟩
    · exact ⟨_, _, ⟨⟨g, hg, .inr rfl⟩, hv, hk, ⟨n, hn, .inl rfl⟩, hs⟩, Ev.step (fun k => laws_kyId.j0.eq_2 ..) (Ev.pos c1 (Ev.pos (by omega) (Ev.neg c2 (Ev.now _))))⟩
  · by_cases c2 : (a3.size : Int) > 3
    · exact ⟨_, _, ⟨⟨g, hg, .inl rfl⟩, hv, hk, ⟨n, hn, .inr rfl⟩, hs⟩, Ev.step (fun k => laws_kyId.j0.eq_2 ..) (Ev.neg c1 (Ev.pos c2 (Ev.pos (by omega) (Ev.now _))))⟩
    · exact ⟨_, _, ⟨⟨g, hg, .inl rfl⟩, hv, hk, ⟨n, hn, .inl rfl⟩, hs⟩, Ev.step (fun k => laws_kyId.j0.eq_2 ..) (Ev.neg c1 (Ev.neg c2 (Ev.now _)))⟩

theorem id_ev (a0 a1 a2 a3 a4 : ByteArray) (h0 : a0.size ≤ 140737488351232) (h1 : a1.size ≤ 140737488351232) (h2 : a2.size ≤ 140737488351232) (h3 : a3.size ≤ 140737488351232) (h4 : a4.size ≤ 140737488351232) :
    ∃ g v k n s, IdOk g v k n s ∧ Ev (fun q => laws_kyId.f q a0 a1 a2 a3 a4) (g, v, k, n, s) := by
  obtain ⟨g, hg, eg⟩ := plain_id a0 h0
  obtain ⟨v, hv, ev⟩ := plain_id a1 h1
  obtain ⟨n, hn, en⟩ := plain_id a3 h3
  obtain ⟨s, hs, es⟩ := plain_id a4 h4
  by_cases c : a2.toList = ([] : List UInt8)
  · obtain ⟨g', n', hok, he⟩ := end_ev a0 a1 a2 a3 a4 g v ⟨#[]⟩ n s hg hv (.inl rfl) hn hs
    refine ⟨g', v, _, n', s, hok, ?_⟩
    unfold laws_kyId.f
    exact Ev.bind (f := fun q t => (laws_kyPlain.f q a1).bind _) eg (Ev.bind (f := fun q t => (laws_kyPlain.f q a3).bind _) ev (Ev.bind (f := fun q t => (laws_kyPlain.f q a4).bind _) en (Ev.bind (f := fun q t => if a2.toList = ([] : List UInt8) then _ else _) es (Ev.pos c he))))
  · obtain ⟨u, hu, eu⟩ := plain_id a2 h2
    obtain ⟨g', n', hok, he⟩ := end_ev a0 a1 a2 a3 a4 g v (⟨#[90, 122]⟩ ++ u) n s hg hv (.inr ⟨u, hu, rfl⟩) hn hs
    refine ⟨g', v, _, n', s, hok, ?_⟩
    have := hu.1
    unfold laws_kyId.f
    exact Ev.bind (f := fun q t => (laws_kyPlain.f q a1).bind _) eg (Ev.bind (f := fun q t => (laws_kyPlain.f q a3).bind _) ev (Ev.bind (f := fun q t => (laws_kyPlain.f q a4).bind _) en (Ev.bind (f := fun q t => if a2.toList = ([] : List UInt8) then _ else _) es (Ev.neg c (Ev.bind (f := fun q (t153 : ByteArray) => if 2 + t153.size ≤ 9223372036854775807 then _ else _) eu (Ev.pos (by omega) he))))))

end Go.Proofs.YtfdgbgjbncakfaaDoor.HId
