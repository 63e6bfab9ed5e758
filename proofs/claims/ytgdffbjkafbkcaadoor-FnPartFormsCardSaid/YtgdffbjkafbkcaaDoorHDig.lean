/- Texts of digits: what strconv.Atoi and the reference say of them is the same, for texts of at most 15 digits. -/
import Derived.Lib.AtoiAll
namespace Go.Proofs.YtgdffbjkafbkcaaDoor.HDig
open Go.Lib

def body : List UInt8 → List UInt8
  | [] => []
  | c :: r => if c.toNat = 43 ∨ c.toNat = 45 then r else c :: r
def neg : List UInt8 → Bool
  | [] => false
  | c :: _ => decide (c.toNat = 45)
def Dig (c : UInt8) : Prop := 48 ≤ c.toNat ∧ c.toNat ≤ 57
instance (c : UInt8) : Decidable (Dig c) := inferInstanceAs (Decidable (_ ∧ _))
def one (a : Nat) (c : UInt8) : Nat := a * 10 + (c.toNat - 48)
def num (acc : Nat) (l : List UInt8) : Nat := l.foldl one acc
theorem num_cons (acc : Nat) (c : UInt8) (r : List UInt8) : num acc (c :: r) = num (acc * 10 + (c.toNat - 48)) r := by unfold num; rw [List.foldl_cons]; rfl
def val (l : List UInt8) : Int := if neg l then -(num 0 (body l) : Int) else num 0 (body l)
/-- What the reference says. -/
def kd (l : List UInt8) : Int × Bool := if (∀ c ∈ body l, Dig c) ∧ (body l).length ≤ 15 then (val l, decide (body l ≠ [])) else (0, false)
/-- Whether Atoi finds a number from 0 on. -/
def nb (l : List UInt8) : Bool := match atoiAll l with
  | .ok v => decide (0 ≤ v)
  | _ => false

theorem body_cons (c : UInt8) (r : List UInt8) : body (c :: r) = if c.toNat = 43 ∨ c.toNat = 45 then r else c :: r := rfl
theorem uint_dig : ∀ (l : List UInt8) (acc u : Nat), parseUint10 acc l = .ok u → ∀ c ∈ l, Dig c
  | [], _, _, _, c, hc => by cases hc
  | b :: r, acc, u, h, c, hc => by
    simp only [parseUint10] at h
    split at h
    · rename_i hb
      split at h
      · cases h
      · split at h
        · cases h
        · rcases List.mem_cons.1 hc with rfl | hc
          · exact hb
          · exact uint_dig r _ u h c hc
    · cases h
theorem p14 {k : Nat} (h : k ≤ 14) : 10 ^ k ≤ 100000000000000 := Nat.le_trans (Nat.pow_le_pow_right (by decide) h) (by decide)
theorem step_lt {acc k d : Nat} (ha : acc < 10 ^ k) (hd : d ≤ 9) : acc * 10 + d < 10 ^ (k + 1) := by rw [Nat.pow_succ]; omega
theorem uint_num (l : List UInt8) : ∀ (acc k : Nat), acc < 10 ^ k → l.length + k ≤ 15 → (∀ c ∈ l, Dig c) → parseUint10 acc l = .ok (num acc l) := by
  induction l with
  | nil => intro acc k _ _ _; rfl
  | cons c r ih =>
    intro acc k ha hl hd
    simp only [List.length_cons] at hl
    have hp := p14 (k := k) (by omega)
    have hc : 48 ≤ c.toNat ∧ c.toNat ≤ 57 := hd c List.mem_cons_self
    have e := ih (acc * 10 + (c.toNat - 48)) (k + 1) (step_lt ha (by omega)) (by omega) fun x hx => hd x (List.mem_cons_of_mem _ hx)
    clear ih hd
    rw [num_cons]
    simp only [parseUint10, if_pos hc]
    rw [if_neg (by omega), if_neg (by omega)]
    exact e
theorem num_lt (l : List UInt8) : ∀ (acc k : Nat), acc < 10 ^ k → (∀ c ∈ l, Dig c) → num acc l < 10 ^ (k + l.length) := by
  induction l with
  | nil => intro acc k ha _; exact ha
  | cons c r ih =>
    intro acc k ha hd
    have hc : 48 ≤ c.toNat ∧ c.toNat ≤ 57 := hd c List.mem_cons_self
    have h := ih (acc * 10 + (c.toNat - 48)) (k + 1) (step_lt ha (by omega)) fun x hx => hd x (List.mem_cons_of_mem _ hx)
    have e : k + (c :: r).length = k + 1 + r.length := by simp only [List.length_cons]; omega
    rw [e]
    rw [num_cons]
    exact h
theorem atoi_ok (c : UInt8) (r : List UInt8) {u : Nat} (h : parseMag (body (c :: r)) = .ok u) : atoiAll (c :: r) = if ¬ c.toNat = 45 ∧ 9223372036854775808 ≤ u then .range else if c.toNat = 45 ∧ 9223372036854775808 < u then .range else .ok (if c.toNat = 45 then -(u : Int) else u) := by
  simp only [atoiAll]
  rw [← body_cons, h]
theorem atoi_dig {l : List UInt8} {v : Int} (h : atoiAll l = .ok v) : body l ≠ [] ∧ ∀ c ∈ body l, Dig c := by
  cases l with
  | nil => cases h
  | cons c r =>
    simp only [atoiAll] at h
    rw [← body_cons] at h
    cases hm : parseMag (body (c :: r))
    case ok u =>
      unfold parseMag at hm
      split at hm
      · cases hm
      · rename_i hne
        exact ⟨hne, uint_dig _ _ _ hm⟩
    all_goals (rw [hm] at h; cases h)
theorem atoi_num {l : List UInt8} (h0 : body l ≠ []) (hd : ∀ c ∈ body l, Dig c) (hl : (body l).length ≤ 15) : atoiAll l = .ok (val l) := by
  cases l with
  | nil => exact absurd rfl h0
  | cons c r =>
    have h1 := uint_num (body (c :: r)) 0 0 (by decide) (by omega) hd
    have h2 := num_lt (body (c :: r)) 0 0 (by decide) hd
    have hp : 10 ^ (0 + (body (c :: r)).length) ≤ 10 ^ 15 := Nat.pow_le_pow_right (by decide) (by omega)
    have e15 : (10 : Nat) ^ 15 = 1000000000000000 := by decide
    have hm : parseMag (body (c :: r)) = .ok (num 0 (body (c :: r))) := by unfold parseMag; rw [if_neg h0, h1]
    rw [atoi_ok c r hm]
    rw [if_neg (by omega), if_neg (by omega)]
    unfold val neg
    by_cases hc : c.toNat = 45 <;> simp [hc]

/-- A text that has no digit from the 15th place on, or is cut. -/
theorem nb_kd {q : List UInt8} (h : (kd q).2 = true ∨ ∀ i (h : i < q.length), 13 < i → ¬ Dig q[i]) : nb q = ((kd q).2 && decide (0 ≤ (kd q).1)) := by
  by_cases hk : (∀ c ∈ body q, Dig c) ∧ (body q).length ≤ 15
  · unfold kd nb
    rw [if_pos hk]
    by_cases h0 : body q = []
    · cases ha : atoiAll q
      case ok v => exact absurd h0 (atoi_dig ha).1
      all_goals simp [h0]
    · rw [atoi_num h0 hk.1 hk.2]
      simp [h0]
  · have e : kd q = (0, false) := by unfold kd; rw [if_neg hk]
    rw [e]
    rcases h with h | h
    · rw [e] at h; cases h
    · unfold nb
      cases ha : atoiAll q
      case range => rfl
      case ok v =>
        exfalso
        obtain ⟨_, hd⟩ := atoi_dig ha
        have hl : 15 < (body q).length := by
          rcases Nat.lt_or_ge 15 (body q).length with h | h
          · exact h
          · exact absurd ⟨hd, h⟩ hk
        have hb : ∀ x, (hx : x ∈ q.getLast?) → x ∈ body q := by
          intro x hx
          cases q with
          | nil => cases hl
          | cons c r =>
            rw [body_cons] at hl ⊢
            split
            · rename_i hs
              rw [if_pos hs] at hl
              cases r with
              | nil => cases hl
              | cons d s =>
                have : x ∈ (d :: s).getLast? := by simpa using hx
                exact List.mem_of_getLast? this
            · exact List.mem_of_getLast? hx
        have hq : (body q).length ≤ q.length := by
          cases q with
          | nil => simp [body]
          | cons c r =>
            rw [body_cons]
            split <;> simp
        have hx : q[q.length - 1]'(by omega) ∈ q.getLast? := by
          rw [List.getLast?_eq_getElem?, List.getElem?_eq_getElem (by omega)]
          rfl
        exact h (q.length - 1) (by omega) (by omega) (hd _ (hb _ hx))
      all_goals rfl

end Go.Proofs.YtgdffbjkafbkcaaDoor.HDig
