import PyProof.Rows.All
import Wide.All
import OpenK.AllK
import Wide.FinOn
import PySem.Challenge.RW_kn0007_01
open PySem PySem.W PySem.Calls PyProof.Rows PySem.Spec
set_option Elab.async false

namespace SqLaw

/-- the nearest root, by counting -/
def nearN : Nat → Nat
  | 0 => 1
  | n + 1 => if n + 1 ≤ nearN n * (nearN n + 1) then nearN n else nearN n + 1
def near (n : Int) : Int := (nearN n.toNat : Int)

theorem nearN_spec : ∀ n : Nat, 0 < n → 0 < nearN n ∧ nearN n * (nearN n - 1) < n ∧ n ≤ nearN n * (nearN n + 1) := by
  have h : ∀ n : Nat, 0 < nearN n ∧ nearN n * (nearN n - 1) ≤ n ∧ (0 < n → nearN n * (nearN n - 1) < n) ∧ n ≤ nearN n * (nearN n + 1) := by
    intro n
    induction n with
    | zero => simp [nearN]
    | succ n ih =>
      obtain ⟨h0, h1, h2, h3⟩ := ih
      unfold nearN
      split
      · rename_i hle
        exact ⟨h0, by omega, fun _ => by omega, hle⟩
      · rename_i hgt
        have e : n = nearN n * (nearN n + 1) := by omega
        refine ⟨by omega, ?_, fun _ => ?_, ?_⟩
        · rw [Nat.add_sub_cancel, Nat.mul_comm]; omega
        · rw [Nat.add_sub_cancel, Nat.mul_comm]; omega
        · have e2 : (nearN n + 1) * (nearN n + 1 + 1) = nearN n * (nearN n + 1) + 2 * (nearN n + 1) := by rw [← Nat.add_mul, Nat.mul_comm]
          omega
  intro n hn
  obtain ⟨h0, _, h2, h3⟩ := h n
  exact ⟨h0, h2 hn, h3⟩

theorem near_spec {n : Int} (h : 0 < n) : 0 < near n ∧ near n * (near n - 1) < n ∧ n ≤ near n * (near n + 1) := by
  have hs := nearN_spec n.toNat (by omega)
  unfold near
  generalize nearN n.toNat = r at *
  obtain ⟨h0, h1, h2⟩ := hs
  refine ⟨by omega, ?_, ?_⟩
  · have e : ((r : Int) * ((r : Int) - 1)) = ((r * (r - 1) : Nat) : Int) := by
      rw [Int.natCast_mul, Int.natCast_sub (by omega)]; rfl
    rw [e]; omega
  · have e : ((r : Int) * ((r : Int) + 1)) = ((r * (r + 1) : Nat) : Int) := by
      rw [Int.natCast_mul]; rfl
    rw [e]; omega

/-- a product of two that are not below nought is not below nought -/
theorem mul_pos' {a b : Int} (ha : 0 ≤ a) (hb : 0 ≤ b) : 0 ≤ a * b := Int.mul_nonneg ha hb

theorem near_lt {r q n : Int} (h0 : 0 < r) (h1 : n ≤ r * (r + 1)) (h2 : q * (q - 1) < n) (hq : 0 < q) : q ≤ r := by
  refine Int.not_lt.mp fun h => ?_
  have h3 := mul_pos' (a := q - (r + 1)) (b := q + r) (by omega) (by omega)
  have e : (q - (r + 1)) * (q + r) = q * (q - 1) - r * (r + 1) := by grind
  omega

theorem near_unique {r n : Int} (h0 : 0 < r) (h1 : r * (r - 1) < n) (h2 : n ≤ r * (r + 1)) : r = near n := by
  have hn : 0 < n := Int.lt_of_le_of_lt (mul_pos' (by omega) (by omega)) h1
  obtain ⟨k0, k1, k2⟩ := near_spec hn
  have a := near_lt h0 h2 k1 k0
  have b := near_lt k0 k2 h1 h0
  omega

/-- one turn of the loop -/
abbrev step (n a : Int) : Int := (a - (-n).fdiv a).fdiv (2 ^ Int.toNat 1)

theorem step_facts {n a : Int} (ha : 0 < a) : ∃ c, (c - 1) * a < n ∧ n ≤ c * a ∧ 2 * step n a ≤ a + c ∧ a + c < 2 * step n a + 2 := by
  have e0 : step n a = (a - (-n) / a) / 2 := by
    show (a - (-n).fdiv a).fdiv 2 = _
    rw [Int.fdiv_eq_ediv_of_nonneg _ (Int.le_of_lt ha), Int.fdiv_eq_ediv_of_nonneg _ (by decide)]
  rw [e0]
  have h1 := Int.lt_ediv_add_one_mul_self (-n) ha
  have h2 := Int.ediv_mul_le (-n) (Int.ne_of_gt ha)
  generalize (-n) / a = d at *
  refine ⟨-d, ?_, ?_, ?_, ?_⟩
  · have e : (-d - 1) * a = -((d + 1) * a) := by grind
    rw [e]; omega
  · have e : -d * a = -(d * a) := Int.neg_mul ..
    rw [e]; omega
  · omega
  · omega

theorem step_ge {n a : Int} (hn : 0 < n) (ha : 0 < a) : near n ≤ step n a := by
  obtain ⟨c, h1, h2, h3, h4⟩ := step_facts (n := n) ha
  obtain ⟨k0, k1, k2⟩ := near_spec hn
  generalize near n = r at *
  generalize step n a = f at *
  refine Int.not_lt.mp fun h => ?_
  -- a + c ≤ 2 r - 1
  have hc : 0 < c := Int.not_le.mp fun hc => by
    have := mul_pos' (a := -c) (b := a) (by omega) (by omega)
    have e : -c * a = -(c * a) := Int.neg_mul ..
    omega
  have h5 := mul_pos' (a := (2 * r - 1) - (a + c)) (b := (2 * r - 1) + (a + c)) (by omega) (by omega)
  have e5 : ((2 * r - 1) - (a + c)) * ((2 * r - 1) + (a + c)) = 4 * (r * (r - 1)) + 1 - 4 * (c * a) - (a - c) * (a - c) := by grind
  have h6 : 0 ≤ (a - c) * (a - c) := by
    rcases Int.le_total 0 (a - c) with h | h
    · exact mul_pos' h h
    · have := mul_pos' (a := -(a - c)) (b := -(a - c)) (by omega) (by omega)
      rwa [Int.neg_mul_neg] at this
  omega

theorem step_le {n a : Int} (hn : 0 < n) (ha : near n ≤ a) : step n a ≤ a := by
  obtain ⟨k0, k1, k2⟩ := near_spec hn
  obtain ⟨c, h1, h2, h3, h4⟩ := step_facts (n := n) (a := a) (by omega)
  generalize near n = r at *
  generalize step n a = f at *
  have hc : c ≤ a + 1 := by
    refine Int.not_lt.mp fun h => ?_
    have h5 := mul_pos' (a := c - 1 - (a + 1)) (b := a) (by omega) (by omega)
    have e5 : (c - 1 - (a + 1)) * a = (c - 1) * a - a * (a + 1) := by grind
    have h6 := mul_pos' (a := a - r) (b := a + r + 1) (by omega) (by omega)
    have e6 : (a - r) * (a + r + 1) = a * (a + 1) - r * (r + 1) := by grind
    omega
  omega

theorem step_fix {n a : Int} (ha : 0 < a) (h : step n a = a) : a = near n := by
  obtain ⟨c, h1, h2, h3, h4⟩ := step_facts (n := n) ha
  generalize step n a = f at *
  subst h
  have h5 := mul_pos' (a := c - f) (b := f) (by omega) (by omega)
  have e5 : (c - f) * f = c * f - f * f := Int.sub_mul ..
  have h6 := mul_pos' (a := f + 1 - c) (b := f) (by omega) (by omega)
  have e6 : (f + 1 - c) * f = (f * (f + 1)) - c * f := by grind
  refine near_unique ha ?_ ?_
  · have e7 : f * (f - 1) = f * f - f := by grind
    have e8 : (c - 1) * f = c * f - f := by grind
    omega
  · omega

theorem step_pos {n a : Int} (hn : 0 < n) (ha : 0 < a) : 0 < step n a := Int.lt_of_lt_of_le (near_spec hn).1 (step_ge hn ha)

/-- what holds between two turns of the loop; what falls -/
def Inv (n a b : Int) : Prop := 0 < n ∧ 0 < a ∧ (b = 0 ∨ (0 < b ∧ a = step n b))
def mu (n a b : Int) : Nat := if b = 0 then (step n a).toNat + 2 else a.toNat + (if a = b then 0 else 1)

theorem inv_start {n a : Int} (hn : 0 < n) (ha : 0 < a) : Inv n a 0 := by
  unfold Inv
  exact ⟨hn, ha, .inl rfl⟩
theorem inv_step {n a b : Int} (h : Inv n a b) : Inv n (step n a) a := by
  unfold Inv at *
  exact ⟨h.1, step_pos h.1 h.2.1, .inr ⟨h.2.1, rfl⟩⟩
theorem inv_pos {n a b : Int} (h : Inv n a b) : a ≠ 0 := by
  unfold Inv at h
  omega
theorem inv_end {n a b : Int} (h : Inv n a b) (e : a = b) : a = near n := by
  unfold Inv at h
  obtain ⟨h1, h2, h3⟩ := h
  subst e
  rcases h3 with h3 | ⟨_, h3⟩
  · omega
  · exact step_fix h2 h3.symm
theorem mu_step {n a b : Int} (h : Inv n a b) (e : a ≠ b) : mu n (step n a) a < mu n a b := by
  unfold Inv at h
  obtain ⟨h1, h2, h3⟩ := h
  unfold mu
  have hp := step_pos h1 h2
  rw [if_neg (Int.ne_of_gt h2)]
  rcases h3 with h3 | ⟨h3, h4⟩
  · rw [if_pos h3]
    split <;> omega
  · rw [if_neg (Int.ne_of_gt h3), if_neg e]
    have hge : near n ≤ a := h4 ▸ step_ge h1 h3
    have hle := step_le h1 hge
    split
    · rename_i h5; omega
    · rename_i h5; omega
end SqLaw

namespace SqLaw

abbrev absI (x : Int) : Int := if x < 0 then -x else x
abbrev ring (x y : Int) : Int := if absI y > absI x then absI y else absI x
/-- the cell's number on the spiral -/
def num (x y : Int) : Int :=
  if x = ring x y ∧ -ring x y < y then 4 * ring x y * ring x y - 3 * ring x y + y
  else if y = ring x y then 4 * ring x y * ring x y - ring x y - x
  else if x = -ring x y then 4 * ring x y * ring x y + ring x y - y
  else 4 * ring x y * ring x y + 3 * ring x y + x

section
variable {x y : Int}
theorem num_a (h1 : x = ring x y) (h2 : -ring x y < y) : 4 * ring x y * ring x y - 3 * ring x y + y = num x y := by
  unfold num
  rw [if_pos ⟨h1, h2⟩]
theorem num_b1 (h1 : x ≠ ring x y) (h2 : y = ring x y) : 4 * ring x y * ring x y - ring x y - x = num x y := by
  unfold num
  rw [if_neg fun h => h1 h.1, if_pos h2]
theorem num_b2 (h1 : ¬ -ring x y < y) (h2 : y = ring x y) : 4 * ring x y * ring x y - ring x y - x = num x y := by
  unfold num
  rw [if_neg fun h => h1 h.2, if_pos h2]
theorem num_c1 (h1 : x ≠ ring x y) (h2 : y ≠ ring x y) (h3 : x = -ring x y) : 4 * ring x y * ring x y + ring x y - y = num x y := by
  unfold num
  rw [if_neg fun h => h1 h.1, if_neg h2, if_pos h3]
theorem num_c2 (h1 : ¬ -ring x y < y) (h2 : y ≠ ring x y) (h3 : x = -ring x y) : 4 * ring x y * ring x y + ring x y - y = num x y := by
  unfold num
  rw [if_neg fun h => h1 h.2, if_neg h2, if_pos h3]
theorem num_d1 (h1 : x ≠ ring x y) (h2 : y ≠ ring x y) (h3 : x ≠ -ring x y) : 4 * ring x y * ring x y + 3 * ring x y + x = num x y := by
  unfold num
  rw [if_neg fun h => h1 h.1, if_neg h2, if_neg h3]
theorem num_d2 (h1 : ¬ -ring x y < y) (h2 : y ≠ ring x y) (h3 : x ≠ -ring x y) : 4 * ring x y * ring x y + 3 * ring x y + x = num x y := by
  unfold num
  rw [if_neg fun h => h1 h.2, if_neg h2, if_neg h3]

theorem ring_facts (x y : Int) : x ≤ ring x y ∧ -x ≤ ring x y ∧ y ≤ ring x y ∧ -y ≤ ring x y ∧ (ring x y = x ∨ ring x y = -x ∨ ring x y = y ∨ ring x y = -y) := by
  unfold ring absI
  (repeat' split) <;> omega

/-- the four sides: the leg and the place on it -/
theorem sides (x y : Int) : num x y = 0 ∨ (∃ R, num x y = 4 * (R * R) - 3 * R + y ∧ x = R ∧ -R < y ∧ y ≤ R) ∨ (∃ R, num x y = 4 * (R * R) - R - x ∧ y = R ∧ -R ≤ x ∧ x < R ∧ 0 < R) ∨
    (∃ R, num x y = 4 * (R * R) + R - y ∧ x = -R ∧ -R ≤ y ∧ y < R) ∨ (∃ R, num x y = 4 * (R * R) + 3 * R + x ∧ y = -R ∧ -R < x ∧ x ≤ R) := by
  obtain ⟨h1, h2, h3, h4, h5⟩ := ring_facts x y
  unfold num
  generalize ring x y = R at *
  have e : 4 * R * R = 4 * (R * R) := Int.mul_assoc ..
  rw [e]
  split
  · rename_i h
    exact .inr (.inl ⟨R, rfl, h.1, h.2, h3⟩)
  · rename_i h
    split
    · rename_i h6
      by_cases h0 : R = 0
      · refine .inl ?_
        subst h0
        simp only [Int.mul_zero, Int.sub_zero]
        omega
      · have h7 : x ≠ R := fun h7 => h ⟨h7, by omega⟩
        exact .inr (.inr (.inl ⟨R, rfl, h6, by omega, by omega, by omega⟩))
    · rename_i h6
      split
      · rename_i h7
        exact .inr (.inr (.inr (.inl ⟨R, rfl, h7, by omega, by omega⟩)))
      · rename_i h7
        have h8 : y = -R := by
          by_cases h9 : x = R
          · have : ¬ -R < y := fun h10 => h ⟨h9, h10⟩
            omega
          · omega
        exact .inr (.inr (.inr (.inr ⟨R, rfl, h8, by omega, h1⟩)))

/-- what _law_cell gives back -/
def cellX (leg gone : Int) : Int := if leg.fmod 2 = 1 then -1 * leg.fdiv 2 + 1 * (if leg < gone then leg else gone) else - -1 * leg.fdiv 2 + -1 * (if leg < gone then leg else gone)
def cellY (leg gone : Int) : Int := if leg.fmod 2 = 1 then -1 * leg.fdiv 2 + 1 * (if 0 > gone - leg then 0 else gone - leg) else - -1 * leg.fdiv 2 + -1 * (if 0 > gone - leg then 0 else gone - leg)

theorem cellX_1 {leg gone : Int} (h : leg.fmod 2 = 1) : -1 * leg.fdiv 2 + 1 * (if leg < gone then leg else gone) = cellX leg gone := by unfold cellX; rw [if_pos h]
theorem cellX_2 {leg gone : Int} (h : leg.fmod 2 ≠ 1) : - -1 * leg.fdiv 2 + -1 * (if leg < gone then leg else gone) = cellX leg gone := by unfold cellX; rw [if_neg h]
theorem cellY_1 {leg gone : Int} (h : leg.fmod 2 = 1) : -1 * leg.fdiv 2 + 1 * (if 0 > gone - leg then 0 else gone - leg) = cellY leg gone := by unfold cellY; rw [if_pos h]
theorem cellY_2 {leg gone : Int} (h : leg.fmod 2 ≠ 1) : - -1 * leg.fdiv 2 + -1 * (if 0 > gone - leg then 0 else gone - leg) = cellY leg gone := by unfold cellY; rw [if_neg h]

theorem cell_of (leg gone : Int) : (leg % 2 = 1 → cellX leg gone = -(leg / 2) + (if leg < gone then leg else gone) ∧ cellY leg gone = -(leg / 2) + (if gone < leg then 0 else gone - leg)) ∧
    (leg % 2 = 0 → cellX leg gone = leg / 2 - (if leg < gone then leg else gone) ∧ cellY leg gone = leg / 2 - (if gone < leg then 0 else gone - leg)) := by
  unfold cellX cellY
  rw [Int.fmod_eq_emod_of_nonneg _ (by decide), Int.fdiv_eq_ediv_of_nonneg _ (by decide)]
  refine ⟨fun h => ?_, fun h => ?_⟩
  · rw [if_pos h, if_pos h]
    (repeat' split) <;> omega
  · have h' : ¬ leg % 2 = 1 := by omega
    rw [if_neg h', if_neg h']
    (repeat' split) <;> omega

/-- the way back: the leg, what is gone of it, the cell -/
theorem back (x y : Int) (h : num x y ≠ 0) : 0 < num x y ∧ near (num x y) ≤ 2 * ring x y + 1 ∧ 0 < near (num x y) ∧ 1 ≤ num x y - near (num x y) * (near (num x y) - 1) ∧
    cellX (near (num x y)) (num x y - near (num x y) * (near (num x y) - 1)) = x ∧ cellY (near (num x y)) (num x y - near (num x y) * (near (num x y) - 1)) = y := by
  obtain ⟨r1, r2, r3, r4, _⟩ := ring_facts x y
  have hs := sides x y
  generalize ring x y = R' at *
  generalize num x y = n at *
  have key : ∀ r : Int, 0 < r → r ≤ 2 * R' + 1 → r * (r - 1) < n → n ≤ r * (r + 1) → (cellX r (n - r * (r - 1)) = x ∧ cellY r (n - r * (r - 1)) = y) →
      0 < n ∧ near n ≤ 2 * R' + 1 ∧ 0 < near n ∧ 1 ≤ n - near n * (near n - 1) ∧ cellX (near n) (n - near n * (near n - 1)) = x ∧ cellY (near n) (n - near n * (near n - 1)) = y := by
    intro r h0 h1 h2 h3 h4
    have e := near_unique h0 h2 h3
    have hp : 0 ≤ r * (r - 1) := mul_pos' (by omega) (by omega)
    rw [← e]
    exact ⟨by omega, h1, h0, by omega, h4.1, h4.2⟩
  rcases hs with hs | ⟨R, e, h1, h2, h3⟩ | ⟨R, e, h1, h2, h3, h4⟩ | ⟨R, e, h1, h2, h3⟩ | ⟨R, e, h1, h2, h3⟩
  · exact absurd hs h
  · have e1 : (2 * R - 1) * (2 * R - 1 - 1) = 4 * (R * R) - 6 * R + 2 := by grind
    have e2 : (2 * R - 1) * (2 * R - 1 + 1) = 4 * (R * R) - 2 * R := by grind
    refine key (2 * R - 1) (by omega) (by omega) (by omega) (by omega) ?_
    rw [((cell_of _ _).1 (by omega)).1, ((cell_of _ _).1 (by omega)).2, e1]
    refine ⟨?_, ?_⟩ <;> (split <;> omega)
  · have e1 : 2 * R * (2 * R - 1) = 4 * (R * R) - 2 * R := by grind
    have e2 : 2 * R * (2 * R + 1) = 4 * (R * R) + 2 * R := by grind
    refine key (2 * R) (by omega) (by omega) (by omega) (by omega) ?_
    rw [((cell_of _ _).2 (by omega)).1, ((cell_of _ _).2 (by omega)).2, e1]
    refine ⟨?_, ?_⟩ <;> (split <;> omega)
  · have e1 : 2 * R * (2 * R - 1) = 4 * (R * R) - 2 * R := by grind
    have e2 : 2 * R * (2 * R + 1) = 4 * (R * R) + 2 * R := by grind
    refine key (2 * R) (by omega) (by omega) (by omega) (by omega) ?_
    rw [((cell_of _ _).2 (by omega)).1, ((cell_of _ _).2 (by omega)).2, e1]
    refine ⟨?_, ?_⟩ <;> (split <;> omega)
  · have e1 : (2 * R + 1) * (2 * R + 1 - 1) = 4 * (R * R) + 2 * R := by grind
    have e2 : (2 * R + 1) * (2 * R + 1 + 1) = 4 * (R * R) + 6 * R + 2 := by grind
    refine key (2 * R + 1) (by omega) (by omega) (by omega) (by omega) ?_
    rw [((cell_of _ _).1 (by omega)).1, ((cell_of _ _).1 (by omega)).2, e1]
    refine ⟨?_, ?_⟩ <;> (split <;> omega)

/-- small enough for every product -/
def Small (x : Int) : Prop := x.natAbs < 2 ^ 400
theorem small_of {x : Int} {k : Nat} (h : x.natAbs < 2 ^ k) (hk : k ≤ 2 ^ 20) : Builtin.Int.intBits x ≤ 2 ^ 20 := Nat.le_trans (intBits_le_iff.mpr h) hk

theorem ring_abs {x y : Int} (hx : Small x) (hy : Small y) : 0 ≤ ring x y ∧ (ring x y).natAbs < 2 ^ 400 := by
  unfold Small at hx hy
  obtain ⟨r1, r2, r3, r4, r5⟩ := ring_facts x y
  generalize (2 : Nat) ^ 400 = B at *
  omega
theorem pow_more {a : Nat} (h : a < 2 ^ 400 + 2 ^ 400 + 2 ^ 400 + 2 ^ 400) : a < 2 ^ 402 := by
  have e : (2 : Nat) ^ 402 = 2 ^ 400 + 2 ^ 400 + 2 ^ 400 + 2 ^ 400 := by decide +kernel
  rw [e]; exact h
theorem mul_ring {x y : Int} (hx : Small x) (hy : Small y) : IntMulOk (4 * ring x y) (ring x y) := by
  obtain ⟨h0, h1⟩ := ring_abs hx hy
  refine IntMulOk.of_bits (small_of (pow_more ?_) (by decide)) (small_of h1 (by decide))
  generalize (2 : Nat) ^ 400 = B at *
  omega
theorem mul_leg {x y : Int} (hx : Small x) (hy : Small y) (h : num x y ≠ 0) : IntMulOk (near (num x y)) (near (num x y) - 1) := by
  obtain ⟨h0, h1⟩ := ring_abs hx hy
  obtain ⟨_, b1, b2, _⟩ := back x y h
  refine IntMulOk.of_bits (small_of (pow_more ?_) (by decide)) (small_of (pow_more ?_) (by decide))
  · have : 0 < 2 ^ 400 := Nat.two_pow_pos 400
    generalize (2 : Nat) ^ 400 = B at *
    omega
  · have : 0 < 2 ^ 400 := Nat.two_pow_pos 400
    generalize (2 : Nat) ^ 400 = B at *
    omega
theorem start_pos (p q y : Int) : 0 < 1 + absI p + absI q + (absI y).fmod 1000 := by
  have h := Int.fmod_nonneg_of_pos (absI y) (b := 1000) (by decide)
  unfold absI at *
  split <;> split <;> omega
end
end SqLaw

namespace SqLaw
section
variable {prog : Program} {w : World} {A : Around} {E : Value → Shared → Prop} {s : Shared} {env : Env} {h₀ : Heap} {x : Str} {body : List Stmt} {Q : Flow → Shared → Prop}

theorem size2 {b : Int} (h : 0 ≤ b) : Builtin.Range.rangeSize 0 b 2 = (((b + 1) / 2).toNat : Int) := by
  unfold Builtin.Range.rangeSize
  simp only [show (2 : Int) > 0 by decide, if_true]
  split <;> omega
theorem small2 {b : Int} (h : 0 ≤ b) (hb : b < 2 ^ 62) : Builtin.Range.small 0 b 2 = true := by
  unfold Builtin.Range.small
  rw [size2 h]
  simp only [Builtin.Range.rangeFitsLong, Bool.and_eq_true, Bool.or_eq_true, decide_eq_true_eq, beq_iff_eq, show (2 : Int) > 0 by decide, if_true]
  omega

/-- a loop over range(0, b, 2): each turn stands by itself -/
theorem range2 {r : Addr} {b₀ : Int} {t₀ u₀ v₀ : Tok} {m₀ : Str → Option Value} {news : List (Addr × Obj)} (stored : List Str)
    (hh : A.handled = none) (hr : IsRange s.heap r 0 b₀ 2 t₀ u₀ v₀) (hb0 : 0 ≤ b₀) (hb1 : b₀ < 2 ^ 62)
    (F : Fr h₀ env.locals s.heap m₀) (N : News h₀ env.locals s.heap news)
    (turn : ∀ (k : Int) t (u : Str → Option Value) h tk own, 0 ≤ k → k < b₀ → OwnOff own (news.map (·.1)) →
      Fr h₀ env.locals h (fun y => if y = x then some (.int k t) else if stored.contains y then u y else m₀ y) → News h₀ env.locals h (news ++ own) →
      wpAny (model prog w) A (execs body env) (InvPostN h₀ env.locals (KstS (fun _ : Unit => news) (fun _ => ([] : List (Str × Value))) (fun _ => True) x stored m₀ (fun _ _ => True) []) own (news.map (·.1)) { s with heap := h, toks := tk } Q) E { s with heap := h, toks := tk })
    (done : ∀ (u : Str → Option Value) h tk, Fr h₀ env.locals h (fun y => if y = x then u y else if stored.contains y then u y else m₀ y) → News h₀ env.locals h news → Q .next { s with heap := h, toks := tk }) :
    wpAny (model prog w) A (pyIter (.ref r)) (fun it s₂ => LoopAtV prog w A h₀ env x body Q E it s₂) E s := by
  refine wpAny_pyIter_range hr (small2 hb0 hb1) ?_
  have hn := size2 hb0
  generalize hk : ((b₀ + 1) / 2).toNat = n at hn
  have W : Walks prog w A s.heap.objs.size [s.heap.objs.size] [s.heap.objs.size] n (fun i v => i < n ∧ ∃ t, v = .int (0 + i * 2) t)
      (fun i h => IsRangeIter h s.heap.objs.size (0 + (i : Nat) * 2) ((n : Int) - (i : Nat)) 2) := (Walks.range hh _ 0 2 n).bound
  have hI : ∀ p ∈ news, p.1 ∉ [s.heap.objs.size] := fun p hp h => absurd (Heap.lt_size (N p hp).1) ((List.mem_singleton.mp h) ▸ Nat.lt_irrefl _)
  refine loop_invN (fun _ => KstS (fun _ : Unit => news) (fun _ => ([] : List (Str × Value))) (fun _ => True) x stored m₀ (fun _ _ => True) []) W ?_ ?_ hI hI ?_ (F.push _) (fun p hp => ⟨Heap.get?_push_of_some _ (N p hp).1, (N p hp).2⟩) ⟨(), rfl, trivial, List.forall_mem_nil _, fun _ _ _ _ => rfl, trivial⟩ ?_ ?_
  · exact fun h => absurd F.ns.lt ((List.mem_singleton.mp h) ▸ Nat.lt_irrefl _)
  · intro b hb
    rw [List.mem_singleton.mp hb]
    exact next_is_new F
  · show IsRangeIter _ _ _ _ _
    rw [hn]
    simpa using Heap.get?_push_size _ rfl
  · rintro i v m₁ nx h tk own hi ⟨_, t, rfl⟩ _ hoff ⟨_, rfl, _, h1, h2, _⟩ F₁ N₁
    have e : (0 + (i : Int) * 2) = 2 * (i : Int) := by omega
    rw [e] at F₁
    exact turn _ t m₁ h tk own (by omega) (by omega) hoff (kst_fr h1 h2 F₁) N₁
  · rintro m₁ nx h tk ⟨_, rfl, _, h1, h2, _⟩ F₁ N₁
    exact done m₁ h tk (kst_frOut h1 h2 F₁) N₁

/-- a loop over a list of pairs, the list and the pairs made by the call: each turn stands by itself, one proof for all -/
theorem cells {l : Addr} {vs : List Value} {nn : Nat} {m₀ : Str → Option Value} {news : List (Addr × Obj)} (stored : List Str) (P : Int → Int → Prop)
    (hh : A.handled = none) (hl : (l, listOf vs.toArray nn) ∈ news)
    (hv : ∀ v ∈ vs, ∃ D p tp q tq, v = .ref D ∧ (D, listOf #[.int p tp, .int q tq] 0) ∈ news ∧ P p q)
    (F : Fr h₀ env.locals s.heap m₀) (N : News h₀ env.locals s.heap news)
    (turn : ∀ (D : Addr) (p : Int) (tp : Tok) (q : Int) (tq : Tok) (u : Str → Option Value) h tk own, P p q → OwnOff own (news.map (·.1)) →
      Fr h₀ env.locals h (fun y => if y = x then some (.ref D) else if stored.contains y then u y else m₀ y) → News h₀ env.locals h ((D, listOf #[.int p tp, .int q tq] 0) :: (news ++ own)) →
      wpAny (model prog w) A (execs body env) (InvPostN h₀ env.locals (KstS (fun _ : Unit => news) (fun _ => ([] : List (Str × Value))) (fun _ => True) x stored m₀ (fun _ _ => True) []) own (news.map (·.1)) { s with heap := h, toks := tk } Q) E { s with heap := h, toks := tk })
    (done : ∀ (u : Str → Option Value) h tk, Fr h₀ env.locals h (fun y => if y = x then u y else if stored.contains y then u y else m₀ y) → News h₀ env.locals h news → Q .next { s with heap := h, toks := tk }) :
    wpAny (model prog w) A (pyIter (.ref l)) (fun it s₂ => LoopAtV prog w A h₀ env x body Q E it s₂) E s := by
  have hol : s.heap.get? l = some (listOf vs.toArray nn) := (N _ hl).1
  have hls : s.heap.IsList l vs.toArray := ⟨_, hol, rfl, nn, rfl⟩
  refine wpAny_pyIter_list hls ?_
  have W := Walks.list (prog := prog) (w := w) hh s.heap.objs.size l (Nat.ne_of_lt (Heap.lt_size hol)) vs.toArray
  have hI : ∀ p ∈ news, p.1 ∉ [s.heap.objs.size] := fun p hp h => absurd (Heap.lt_size (N p hp).1) ((List.mem_singleton.mp h) ▸ Nat.lt_irrefl _)
  refine ⟨_, _, _, _, _, _, m₀, news, (fun _ m nx => nx = news ∧ KstS (fun _ : Unit => news) (fun _ => ([] : List (Str × Value))) (fun _ => True) x stored m₀ (fun _ _ => True) [] m nx), rfl, W, ?_, ?_, hI, ⟨⟨_, Heap.get?_push_size _ rfl, rfl, rfl⟩, hls.at fun o e => Heap.get?_push_of_some _ e⟩, F.push _, (fun p hp => ⟨Heap.get?_push_of_some _ (N p hp).1, (N p hp).2⟩), ⟨rfl, (), rfl, trivial, List.forall_mem_nil _, fun _ _ _ _ => rfl, trivial⟩, ?_, ?_⟩
  · intro h
    rcases List.mem_cons.mp h with e | h
    · exact absurd F.ns.lt (e ▸ Nat.lt_irrefl _)
    · exact (N _ hl).2.1 (List.mem_singleton.mp h).symm
  · intro b hb
    rw [List.mem_singleton.mp hb]
    exact next_is_new F
  · rintro i v m₁ nx s₁ own ⟨hh', tk', rfl⟩ hin hP ⟨rfl, _, _, _, h1, h2, _⟩ hoff hown hget _ _ F₁ N₁
    have hmem : v ∈ vs := by
      have hP' : vs[i]? = some v := by simpa using hP
      exact List.mem_of_getElem? hP'
    obtain ⟨D, p, tp, q, tq, rfl, hD, hpq⟩ := hv v hmem
    have N₀ : ∀ p ∈ nx, hh'.get? p.1 = some p.2 ∧ p.1 ≠ env.locals ∧ h₀.get? p.1 = none := fun p hp => N₁ p (List.mem_append.mpr (.inr hp))
    have hsep : OwnOff (own.filter fun p => decide (p.1 = s.heap.objs.size)) (nx.map (·.1)) := by
      intro p hp b hb e
      obtain ⟨q, hq, rfl⟩ := List.mem_map.mp hb
      have h3 : p.1 = s.heap.objs.size := by simpa using (List.mem_filter.mp hp).2
      exact hI q hq (by rw [← e, h3]; exact List.mem_singleton.mpr rfl)
    refine wpAny_mono (turn D p tp q tq m₁ hh' tk' _ hpq hsep (kst_fr h1 h2 F₁) ?_) (fun f s₂ r => ?_) fun _ _ e => e
    · intro z hz
      rcases List.mem_cons.mp hz with rfl | hz
      · exact N₀ _ hD
      · rcases List.mem_append.mp hz with hz | hz
        · exact N₀ _ hz
        · exact N₁ z (List.mem_append.mpr (.inl (List.mem_filter.mp hz).1))
    · have fin : InvEndN h₀ env.locals (KstS (fun _ : Unit => nx) (fun _ => ([] : List (Str × Value))) (fun _ => True) x stored m₀ (fun _ _ => True) []) (own.filter fun p => decide (p.1 = s.heap.objs.size)) (nx.map (·.1)) { s with heap := hh', toks := tk' } s₂ →
          LoopStepU h₀ env.locals [s.heap.objs.size] own (fun m nx' => nx' = nx ∧ KstS (fun _ : Unit => nx) (fun _ => ([] : List (Str × Value))) (fun _ => True) x stored m₀ (fun _ _ => True) [] m nx') { s with heap := hh', toks := tk' } .next s₂ := by
        rintro ⟨h', tk, m', news', nx', e, F', N', hn, ho, _, hS⟩
        obtain ⟨_, rfl, _⟩ := id hS
        refine ⟨rfl, h', tk, m', _, e, F', fun z hz => ?_, hI, rfl, hS⟩
        rcases List.mem_append.mp hz with hz | hz
        · by_cases hz1 : z.1 = s.heap.objs.size
          · exact N' z (ho z (List.mem_filter.mpr ⟨hz, by simpa using hz1⟩))
          · have h3 : z.1 = l := by
              rcases List.mem_cons.mp (hown z hz) with h4 | h4
              · exact absurd h4 hz1
              · exact List.mem_singleton.mp h4
            have h4 : hh'.get? z.1 = some z.2 := hget z hz
            rw [h3, (N₀ _ hl).1] at h4
            have h5 : z = (l, listOf vs.toArray nn) := Prod.ext h3 (Option.some.inj h4).symm
            rw [h5]
            exact N' _ (hn _ hl)
        · exact N' z (hn z hz)
      cases f with
      | ret v => exact .ret r
      | brk => exact .brk r
      | next => exact .next (fin r)
      | cont => exact .cont (fin r)
  · rintro h' tk m' news' F' N' _ ⟨rfl, _, _, _, h1, h2, _⟩
    exact done m' h' tk (kst_frOut h1 h2 F') N'

/-- a turn's end -/
theorem stay_end {L : Addr} {news own news' : List (Addr × Obj)} {stored : List Str} {m₀ m' : Str → Option Value} {h' : Heap} {tk : Nat} (F : Fr h₀ L h' m') (N : News h₀ L h' news')
    (hn : ∀ p ∈ news, p ∈ news') (ho : ∀ p ∈ own, p ∈ news') (hr : ∀ z, z ≠ x → stored.contains z = false → m' z = m₀ z) :
    InvEndN h₀ L (KstS (fun _ : Unit => news) (fun _ => ([] : List (Str × Value))) (fun _ => True) x stored m₀ (fun _ _ => True) []) own (news.map (·.1)) s { s with heap := h', toks := tk } :=
  kst_end () F N hn ho rfl trivial (List.forall_mem_nil _) (fun z h1 _ h3 => hr z h1 h3) trivial
theorem in_left {α : Type} {p : α} {l r : List α} (h : p ∈ l) : p ∈ l ++ r := List.mem_append_left r h
theorem in_right {α : Type} {p : α} {l r : List α} (h : p ∈ r) : p ∈ l ++ r := List.mem_append_right l h
/-- a goal laid aside -/
def Aside (P : Prop) : Prop := P
theorem aside {P : Prop} (h : Aside P) : P := h
end
end SqLaw

namespace SqLaw
/-- the numbers of the row are small -/
theorem cut_small (z : Int) : Small (if z < 0 then (if z < 0 then -z else z).fmod (10 ^ Int.toNat 100) * -1 else (if z < 0 then -z else z).fmod (10 ^ Int.toNat 100) * 1) := by
  unfold Small
  have hp : (0 : Int) < 10 ^ Int.toNat 100 := by decide +kernel
  have hq : (10 : Int) ^ Int.toNat 100 < 2 ^ 400 := by decide +kernel
  have h1 := Int.fmod_nonneg_of_pos (if z < 0 then -z else z) hp
  have h2 := Int.fmod_lt_of_pos (if z < 0 then -z else z) hp
  have e : ((2 ^ 400 : Nat) : Int) = 2 ^ 400 := by decide +kernel
  generalize (if z < 0 then -z else z).fmod (10 ^ Int.toNat 100) = r at *
  generalize (10 : Int) ^ Int.toNat 100 = B at *
  generalize (2 : Int) ^ 400 = C at *
  generalize (2 : Nat) ^ 400 = D at *
  split <;> omega
theorem row_small {l : List Int} : ∀ n ∈ l.map (fun z : Int => if z < 0 then (if z < 0 then -z else z).fmod (10 ^ Int.toNat 100) * -1 else (if z < 0 then -z else z).fmod (10 ^ Int.toNat 100) * 1), Small n := by
  intro n hn
  obtain ⟨z, _, rfl⟩ := List.mem_map.mp hn
  exact cut_small z
theorem small_neg {x : Int} (h : Small x) : Small (-x) := by
  unfold Small at *
  rw [Int.natAbs_neg]
  exact h
section
variable {prog : Program} {w : World} {A : Around} {E : Value → Shared → Prop} {s : Shared} {h₀ : Heap} {L : Addr} {news : List (Addr × Obj)}
theorem row_item {value slice : PySem.Expr} {l : Addr} {vs : List Value} {nn : Nat} {ns : List Int} {k : Int} {u : Tok} {Q : Value → Shared → Prop} (N : News h₀ L s.heap news) (hm : (l, listOf vs.toArray nn) ∈ news) (hi : IntsAre vs ns) (hsm : ∀ n ∈ ns, Small n)
    (h0 : 0 ≤ k) (h1 : k < ns.length) (hfit : k < 2 ^ 63) (h : ∀ v t, Small v → Q (.int v t) s)
    (hs : subscripted slice false (.ref l) (.int k u) = operate [.ref l, .int k u] (getItem (.ref l) (.int k u)) := by with_unfolding_all rfl) :
    wpAny (model prog w) A (subscriptTail value slice (.ref l) (.int k u)) Q E s := by
  refine item_anyK ⟨_, (N _ hm).1, rfl, nn, rfl⟩ hi h0 h1 hfit (fun t => h _ t (hsm _ ?_)) hs
  have hk : k.toNat < ns.length := by omega
  rw [List.getD_eq_getElem?_getD, List.getElem?_eq_getElem hk]
  exact List.getElem_mem hk
theorem pair0 {value slice : PySem.Expr} {l : Addr} {p q : Int} {tp tq u : Tok} {Q : Value → Shared → Prop} (N : News h₀ L s.heap news) (hm : (l, listOf #[.int p tp, .int q tq] 0) ∈ news) (h : Q (.int p tp) s)
    (hs : subscripted slice false (.ref l) (.int 0 u) = operate [.ref l, .int 0 u] (getItem (.ref l) (.int 0 u)) := by with_unfolding_all rfl) (hg : ∀ r, letTemporaryGo value (.ref l) r = pure () := by intro _; with_unfolding_all rfl) :
    wpAny (model prog w) A (subscriptTail value slice (.ref l) (.int 0 u)) Q E s :=
  kim_list (l := [.int p tp, .int q tq]) N hm rfl rfl (by decide) (by decide) rfl h hs hg
theorem pair1 {value slice : PySem.Expr} {l : Addr} {p q : Int} {tp tq u : Tok} {Q : Value → Shared → Prop} (N : News h₀ L s.heap news) (hm : (l, listOf #[.int p tp, .int q tq] 0) ∈ news) (h : Q (.int q tq) s)
    (hs : subscripted slice false (.ref l) (.int 1 u) = operate [.ref l, .int 1 u] (getItem (.ref l) (.int 1 u)) := by with_unfolding_all rfl) (hg : ∀ r, letTemporaryGo value (.ref l) r = pure () := by intro _; with_unfolding_all rfl) :
    wpAny (model prog w) A (subscriptTail value slice (.ref l) (.int 1 u)) Q E s :=
  kim_list (l := [.int p tp, .int q tq]) N hm rfl rfl (by decide) (by decide) rfl h hs hg
/-- the caught exception's own tuple, laid beside the rest of the ledger -/
theorem got_more {h : Heap} {n₂ : List (Addr × Obj)} {e t : Addr} {cls : Value} {vs : List Value} (N : News h₀ L h n₂) (G : Got n₂ e t cls vs) (N' : News h₀ L h news) :
    ∃ d nt sl, News h₀ L h ((t, { cls := .type "tuple", dict := d, data := .seq vs.toArray nt, slots := sl }) :: news) := by
  obtain ⟨_, ⟨c, d, dt, sl⟩, _, nt, _, m2, _, _, _, c4, c5⟩ := G
  simp only at c4 c5
  subst c4 c5
  refine ⟨d, nt, sl, fun p hp => ?_⟩
  rcases List.mem_cons.mp hp with rfl | hp
  · exact N _ m2
  · exact N' p hp
end
end SqLaw

namespace SqLaw
set_option maxRecDepth 100000 in
set_option maxHeartbeats 8000000 in
open_top hd for PySem.Challenge.rw_kn0007_01
end SqLaw

namespace SqLaw
section
variable {w : World} {mean : ExcName → Option Value} {mg mb : Str → Option Value} {dp un : Nat} {gd : Option (List Code)} {cn : Str} {cs : Scope} {a : Addr} {ccd : Value} {cl : List (Str × Addr)} {outer : List Env} {A₀ : Around} {base h₀ : Heap} {L : Addr} {m : Str → Option Value} {news : List (Addr × Obj)} {s : Shared} {Q E : Value → Shared → Prop}

set_option maxRecDepth 100000 in
set_option maxHeartbeats 4000000 in
theorem sqrt_tells {n : Int} {t : Tok} {i : Int} {u : Tok}
    (B : Below A₀ base outer h₀) (F : Fr h₀ L s.heap m) (X : (hd.heap_39 w.params).In h₀) (N : News h₀ L s.heap news) (T : Top hd.view_39 (looseW hd.view_39 []) mean mg mb h₀) (hk : cs.kind = .function)
    (hd : dp + 200 < recursionLimit) (_hu : un + 100 < cLine) (hn : 0 < n) (hi : 0 < i)
    (hret : ∀ (t : Tok) (h' : Heap) (tk' : Nat), Fr h₀ L h' m → News h₀ L h' news → Q (.int (near n) t) { s with heap := h', toks := tk' }) :
    wpAny (model PySem.Challenge.rw_kn0007_01.row.prog w) (ktrTop dp un gd cn cs L a ccd cl outer) (call (.ref 21) [.int n t, .int i u]) Q E s := by
  k_with_none
  revert X; k_fill; intro X
  refine wpAny_call ?_
  k_dflt cell_enter
  (k_with "exec While Compare cons nil" => k_while_given ["n"] (fun n _ a b => Inv n a b) (fun n _ a b => mu n a b) "a" "b")
  (k_with "state" => first | exact inv_start (by assumption) (by assumption) | exact inv_step (by assumption))
  (k_with "measure" => exact mu_step (by assumption) (by assumption))
  (k_with "binaryOp FloorDiv int int" => (k_here; (with_reducible show wpAny _ _ (binaryOp _ (Value.int _ _) (Value.int _ _)) _ _ _); refine floordiv_int (inv_pos (by assumption)) ?_ (Or.inr (PylongRoom.of (Heap.NoLimit.keeps (Top.nolimit (by assumption)) (Fr.keep (by assumption))) (by (show dp + 1 + 100 < recursionLimit); omega)))))
  k_steps
  all_goals (refine cb_retI hret (inv_end (by assumption) (by assumption)) (by k_asm) (by k_asm))
end
end SqLaw

namespace SqLaw
section
variable {w : World} {mean : ExcName → Option Value} {mg mb : Str → Option Value} {dp un : Nat} {gd : Option (List Code)} {cn : Str} {cs : Scope} {a : Addr} {ccd : Value} {cl : List (Str × Addr)} {outer : List Env} {A₀ : Around} {base h₀ : Heap} {L : Addr} {m : Str → Option Value} {news : List (Addr × Obj)} {s : Shared} {Q E : Value → Shared → Prop}

set_option maxRecDepth 100000 in
set_option maxHeartbeats 4000000 in
theorem num_tells {x : Int} {t : Tok} {y : Int} {u : Tok}
    (B : Below A₀ base outer h₀) (F : Fr h₀ L s.heap m) (X : (hd.heap_39 w.params).In h₀) (N : News h₀ L s.heap news) (T : Top hd.view_39 (looseW hd.view_39 []) mean mg mb h₀) (hk : cs.kind = .function)
    (hd : dp + 200 < recursionLimit) (_hu : un + 100 < cLine) (hx : Small x) (hy : Small y)
    (hret : ∀ (t : Tok) (h' : Heap) (tk' : Nat), Fr h₀ L h' m → News h₀ L h' news → Q (.int (num x y) t) { s with heap := h', toks := tk' }) :
    wpAny (model PySem.Challenge.rw_kn0007_01.row.prog w) (ktrTop dp un gd cn cs L a ccd cl outer) (call (.ref 28) [.int x t, .int y u]) Q E s := by
  k_with_none
  revert X; k_fill; intro X
  refine wpAny_call ?_
  k_dflt cell_enter
  (k_with "binaryOp Mult int int" => (k_here; (with_reducible show wpAny _ _ (binaryOp _ (Value.int _ _) (Value.int _ _)) _ _ _); refine P.mul_int ?_ (mul_ring (by assumption) (by assumption))))
  k_steps
  all_goals (first
    | exact cb_retI hret (num_a (by assumption) (by assumption)) (by k_asm) (by k_asm)
    | exact cb_retI hret (num_b1 (by assumption) (by assumption)) (by k_asm) (by k_asm)
    | exact cb_retI hret (num_b2 (by assumption) (by assumption)) (by k_asm) (by k_asm)
    | exact cb_retI hret (num_c1 (by assumption) (by assumption) (by assumption)) (by k_asm) (by k_asm)
    | exact cb_retI hret (num_c2 (by assumption) (by assumption) (by assumption)) (by k_asm) (by k_asm)
    | exact cb_retI hret (num_d1 (by assumption) (by assumption) (by assumption)) (by k_asm) (by k_asm)
    | exact cb_retI hret (num_d2 (by assumption) (by assumption) (by assumption)) (by k_asm) (by k_asm))
end
end SqLaw

namespace SqLaw
section
variable {w : World} {mean : ExcName → Option Value} {mg mb : Str → Option Value} {dp un : Nat} {gd : Option (List Code)} {cn : Str} {cs : Scope} {a : Addr} {ccd : Value} {cl : List (Str × Addr)} {outer : List Env} {A₀ : Around} {base h₀ : Heap} {L : Addr} {m : Str → Option Value} {news : List (Addr × Obj)} {s : Shared} {Q E : Value → Shared → Prop}

theorem cell_ret2 {h' : Heap} {leg gone p q x y : Int} {D : Addr} {t u : Tok} {tk' : Nat}
    (hret : ∀ (D : Addr) (t u : Tok) (h' : Heap) (tk' : Nat), Fr h₀ L h' m → News h₀ L h' ((D, listOf #[.int x t, .int y u] 0) :: news) → (∀ p ∈ news, p.1 < D) → Q (.ref D) { s with heap := h', toks := tk' })
    (e1 : p = cellX leg gone) (e2 : q = cellY leg gone) (hx : cellX leg gone = x) (hy : cellY leg gone = y)
    (F : Fr h₀ L h' m) (N : News h₀ L h' ((D, listOf #[.int p t, .int q u] 0) :: news)) (hl : ∀ p ∈ news, p.1 < D) : Q (.ref D) { s with heap := h', toks := tk' } := by
  subst hx hy e1 e2
  exact hret D t u h' tk' F N hl

set_option maxRecDepth 100000 in
set_option maxHeartbeats 4000000 in
theorem cell_tells {leg : Int} {t : Tok} {gone : Int} {u : Tok} {x y : Int}
    (B : Below A₀ base outer h₀) (F : Fr h₀ L s.heap m) (X : (hd.heap_39 w.params).In h₀) (N : News h₀ L s.heap news) (T : Top hd.view_39 (looseW hd.view_39 []) mean mg mb h₀) (hk : cs.kind = .function)
    (hd : dp + 200 < recursionLimit) (_hu : un + 100 < cLine) (hx : cellX leg gone = x) (hy : cellY leg gone = y)
    (hret : ∀ (D : Addr) (t u : Tok) (h' : Heap) (tk' : Nat), Fr h₀ L h' m → News h₀ L h' ((D, listOf #[.int x t, .int y u] 0) :: news) → (∀ p ∈ news, p.1 < D) → Q (.ref D) { s with heap := h', toks := tk' }) :
    wpAny (model PySem.Challenge.rw_kn0007_01.row.prog w) (ktrTop dp un gd cn cs L a ccd cl outer) (call (.ref 35) [.int leg t, .int gone u]) Q E s := by
  k_with_none
  revert X; k_fill; intro X
  refine wpAny_call ?_
  k_dflt cell_enter
  k_steps
  all_goals (first
    | exact cell_ret2 hret (cellX_1 (by assumption)) (cellY_1 (by assumption)) hx hy (by k_asm) (by k_asm) (by assumption)
    | exact cell_ret2 hret (cellX_2 (by assumption)) (cellY_2 (by assumption)) hx hy (by k_asm) (by k_asm) (by assumption))
end
end SqLaw

open SqLaw
local macro_rules | `(tactic| walk_at "pyIter ref") => `(tactic| ((with_reducible show wpAny _ _ (pyIter (Value.ref _)) (fun it s₂ => LoopAtV _ _ _ _ _ _ _ _ _ it s₂) _ _); refine aside ?_))
local macro_rules | `(tactic| walk_at "InvEndN") => `(tactic| (refine aside ?_))
local macro_rules | `(tactic| walk_at "getAttr ref") => `(tactic| (k_here; (with_reducible show wpAny _ _ (getAttr (Value.ref _) ("args" : Str) _) _ _ _); (rename News _ _ _ _ => gW); (rename Got _ _ _ _ _ => gG); k_dflt (refine' args_got_builtin PySem.F.attr_ValueError ?N ?G ?_; (case G => exact gG); (case N => assumption); k_whole); (obtain ⟨gd, gn, gs, gN⟩ := got_more (by assumption) gG gW)))
set_option maxRecDepth 100000 in
set_option maxHeartbeats 8000000 in
theorem PySem.Challenge.cw_kn0007_01_holds : PySem.Challenge.rw_kn0007_01.Holds := by
  refine hd ?_
  k_with_none
  (k_go0; (all_goals try k_fold))
  k_steps
  (unfold Aside; k_here); (rename Fr _ _ _ _ => lF'); (rename News _ _ _ _ => lN'); (rename IsRange _ _ _ _ _ _ _ _ => rgX)
  (with_unfolding_all refine' range2 [Str.ofString "x", Str.ofString "y", Str.ofString "cell", Str.ofString "number", Str.ofString "start", Str.ofString "error", Str.ofString "leg", Str.ofString "gone"] (by rfl) (by first | exact rgX | assumption) ?hb0 ?hb1 lF' lN' ?_ ?_)
  (case hb0 => ((simp only [List.length_map, List.length_append, List.length_cons, List.length_nil]); omega))
  (case hb1 => ((simp only [List.length_map, List.length_append, List.length_cons, List.length_nil]); omega))
  (all_goals (try clear lF' lN'))
  (all_goals (have kMark : KstMark := kstMark))
  rotate_left
  · (intro kU kH kTk kFr kNews)
    (all_goals (try k_fold))
    k_steps
  · (intro kN kT kU kH kTk kOwn kLo kHi kOff kFr kNews)
    (try dsimp only at kNews); (try simp only [List.nil_append, List.cons_append] at kNews); (try dsimp only at kOff); (try simp only [List.map_cons, List.map_nil] at kOff)
    (rename IntsAre ys _ => kInts)
    (have kLen : kN + 1 < 2 ^ 62 := by (simp only [List.length_map, List.length_append, List.length_cons, List.length_nil] at kHi; omega))
    (k_with "subscriptTail Name Name ref int" => (with_unfolding_all refine' row_item ?k1 ?k2 ?k3 ?k4 ?k5 ?k6 ?k7 ?_ ?k8; (case k1 => k_asm); (case k2 => k_mem); (case k3 => exact kInts); (case k4 => exact row_small); (case k5 => omega); (case k6 => omega); (case k7 => omega); (case k8 => with_unfolding_all rfl); intro xV xT xSm))
    (k_with "subscriptTail Name BinOp ref int" => (with_unfolding_all refine' row_item ?k1 ?k2 ?k3 ?k4 ?k5 ?k6 ?k7 ?_ ?k8; (case k1 => k_asm); (case k2 => k_mem); (case k3 => exact kInts); (case k4 => exact row_small); (case k5 => omega); (case k6 => omega); (case k7 => omega); (case k8 => with_unfolding_all rfl); intro yV yT ySm))
    (try k_fold)
    k_steps
    k_with_none
    (unfold Aside; k_here); (rename Fr _ _ _ _ => lF'); (rename News _ _ _ _ => lN')
    (with_unfolding_all refine' cells [Str.ofString "number", Str.ofString "start", Str.ofString "error", Str.ofString "leg", Str.ofString "gone"] (fun p q => Small p ∧ Small q) (by rfl) ?hl ?hv lF' lN' ?_ ?_)
    (case hl => k_mem)
    (case hv =>
      intro v hv
      simp only [List.mem_cons, List.not_mem_nil, or_false] at hv
      rcases hv with rfl | rfl | rfl
      · exact ⟨_, _, _, _, _, rfl, by k_mem, xSm, ySm⟩
      · exact ⟨_, _, _, _, _, rfl, by k_mem, xSm, xSm⟩
      · exact ⟨_, _, _, _, _, rfl, by k_mem, xSm, small_neg xSm⟩)
    (all_goals (try clear lF' lN'))
    rotate_left
    · (intro jU jH jTk jFr jNews)
      (all_goals (try k_fold))
      k_steps
      all_goals (unfold Aside; (rename News _ _ _ _ => nE); (refine' stay_end ?sF nE ?sn ?so ?sr); (case sF => k_asm); (case sn => (intro z hz; (repeat (first | exact in_left hz | exact hz | refine List.Mem.tail _ ?_)))); (case so => (intro z hz; (repeat (first | exact hz | exact in_right hz | refine List.Mem.tail _ ?_)))); (case sr => (intro z h2 h3; (have h4 := h3); (simp only [List.contains_cons, List.contains_nil, Bool.or_false, Bool.or_eq_false_iff, beq_eq_false_iff_ne, ne_eq] at h4); (simp only [List.contains_cons, List.contains_nil, Bool.or_false, Bool.or_eq_true, beq_iff_eq, h2, h4, or_self, if_false]))))
    · (intro D p pT q qT jU jH jTk jOwn jSm jOff jFr jNews)
      (try dsimp only at jNews); (try simp only [List.cons_append] at jNews); (try dsimp only at jOff); (try simp only [List.map_cons] at jOff)
      (obtain ⟨pSm, qSm⟩ := jSm)
      (k_with "subscriptTail Name Constant ref int" => (with_unfolding_all first | ((with_reducible show wpAny _ _ (subscriptTail _ _ _ (Value.int 0 _)) _ _ _); refine' pair0 ?k1 ?k2 ?_ ?k3 ?k4; (case k1 => k_asm); (case k2 => exact List.Mem.head _); (case k3 => with_unfolding_all rfl); (case k4 => (intro _; with_unfolding_all rfl))) | ((with_reducible show wpAny _ _ (subscriptTail _ _ _ (Value.int 1 _)) _ _ _); refine' pair1 ?k1 ?k2 ?_ ?k3 ?k4; (case k1 => k_asm); (case k2 => exact List.Mem.head _); (case k3 => with_unfolding_all rfl); (case k4 => (intro _; with_unfolding_all rfl)))))
      (k_with "call ref" => (k_here; (with_reducible show wpAny _ _ (call (Value.ref _) [Value.int _ _, Value.int _ _]) _ _ _); k_dflt (refine' num_tells ?k1 ?k2 ?k3 ?k4 ?k5 ?kK ?kd ?ku ?kx ?ky ?_; (case k1 => k_asm); (case k2 => k_asm); (case k3 => k_asm); (case k4 => k_asm); (case k5 => k_asm); (case kK => rfl); (case kd => ktr_room); (case ku => ktr_units); (case kx => assumption); (case ky => assumption); intro t9 h9 tk9 F9 N9; (try dsimp only); (try k_fold))))
      (k_with "call ref" => (k_here; (with_reducible show wpAny _ _ (call (Value.ref _) [Value.int _ _, Value.int _ _]) _ _ _); (have kB := back p q (by assumption)); k_dflt (refine' sqrt_tells ?k1 ?k2 ?k3 ?k4 ?k5 ?kK ?kd ?ku ?kx ?ky ?_; (case k1 => k_asm); (case k2 => k_asm); (case k3 => k_asm); (case k4 => k_asm); (case k5 => k_asm); (case kK => rfl); (case kd => ktr_room); (case ku => ktr_units); (case kx => exact kB.1); (case ky => exact start_pos _ _ _); (obtain ⟨kB1, kB2, kB3, kB4, kB5, kB6⟩ := kB); intro t9 h9 tk9 F9 N9; (try dsimp only); (try k_fold))))
      (k_with "call ref" => (k_here; (with_reducible show wpAny _ _ (call (Value.ref _) [Value.int _ _, Value.int _ _]) _ _ _); k_dflt (refine' cell_tells ?k1 ?k2 ?k3 ?k4 ?k5 ?kK ?kd ?ku ?kx ?ky ?_; (case k1 => k_asm); (case k2 => k_asm); (case k3 => k_asm); (case k4 => k_asm); (case k5 => k_asm); (case kK => rfl); (case kd => ktr_room); (case ku => ktr_units); (case kx => exact kB5); (case ky => exact kB6); intro D9 t9 u9 h9 tk9 F9 N9 l9; (try k_lt l9); (try dsimp only); (try k_fold))))
      (k_with "binaryOp Mult int int" => (k_here; (with_reducible show wpAny _ _ (binaryOp _ (Value.int _ _) (Value.int _ _)) _ _ _); refine P.mul_int ?_ (mul_leg pSm qSm (by assumption))))
      (try k_fold)
      k_steps
      all_goals (unfold Aside; (rename News _ _ _ _ => nE); (refine' stay_end ?sF nE ?sn ?so ?sr); (case sF => k_asm); (case sn => (intro z hz; (repeat (first | exact in_left hz | exact hz | refine List.Mem.tail _ ?_)))); (case so => (intro z hz; (repeat (first | exact hz | exact in_right hz | refine List.Mem.tail _ ?_)))); (case sr => (intro z h2 h3; (have h4 := h3); (simp only [List.contains_cons, List.contains_nil, Bool.or_false, Bool.or_eq_false_iff, beq_eq_false_iff_ne, ne_eq] at h4); (simp only [List.contains_cons, List.contains_nil, Bool.or_false, Bool.or_eq_true, beq_iff_eq, h2, h4, or_self, if_false]))))
