import PyProof.Rows.All
import Wide.All
import OpenK.AllK
import Wide.FinOn
import PySem.Challenge.RW_fb0049_01
/- part M1 -/
set_option linter.unusedVariables false
namespace Mine

/-- distance on the 4-cycle of corners -/
def cyc (j c : Nat) : Nat := if j = c then 0 else if (j + c) % 2 = 1 then 1 else 2
/-- the own number, in child j, of the corner c of its parent -/
def cmap (j c : Nat) : Nat :=
  if j = 0 then (if c = 1 then 3 else if c = 3 then 1 else c)
  else if j = 3 then (if c = 0 then 2 else if c = 2 then 0 else c)
  else c
def D : Nat → Nat → Nat → Nat
  | 0, _, _ => 0
  | k + 1, c, a => 2 ^ k * cyc (a / 4 ^ k) c + D k (cmap (a / 4 ^ k) c) (a % 4 ^ k)
/-- corner map through all digits -/
def CM : Nat → Nat → Nat → Nat
  | 0, _, c => c
  | k + 1, a, c => CM k (a % 4 ^ k) (cmap (a / 4 ^ k) c)

theorem cmap_lt {j c : Nat} (hc : c < 4) : cmap j c < 4 := by unfold cmap; (repeat' split) <;> omega
theorem cmap_par {j c : Nat} : cmap j c % 2 = c % 2 := by unfold cmap; (repeat' split) <;> omega
theorem cyc_le {j c : Nat} : cyc j c ≤ 2 := by unfold cyc; (repeat' split) <;> omega
theorem four_pow (k : Nat) : 4 ^ k = 2 ^ k * 2 ^ k := by
  rw [show (4:Nat) = 2 * 2 from rfl, Nat.mul_pow]
theorem pos2 (k : Nat) : 0 < 2 ^ k := Nat.two_pow_pos k
theorem pos4 (k : Nat) : 0 < 4 ^ k := Nat.pow_pos (by decide)

theorem digit_lt {k a : Nat} (h : a < 4 ^ (k + 1)) : a / 4 ^ k < 4 := by
  rw [Nat.div_lt_iff_lt_mul (pos4 k)]; rw [Nat.pow_succ] at h; omega
theorem split4 (k a : Nat) : a = 4 ^ k * (a / 4 ^ k) + a % 4 ^ k := (Nat.div_add_mod a (4 ^ k)).symm
theorem mod_lt4 (k a : Nat) : a % 4 ^ k < 4 ^ k := Nat.mod_lt _ (pos4 k)

theorem CM_lt : ∀ (k a c : Nat), c < 4 → CM k a c < 4
  | 0, _, _, h => h
  | k + 1, a, c, h => CM_lt k _ _ (cmap_lt h)
theorem CM_par : ∀ (k a c : Nat), CM k a c % 2 = c % 2
  | 0, _, _ => rfl
  | k + 1, a, c => by rw [CM, CM_par k, cmap_par]

theorem D_le : ∀ (k c a : Nat), D k c a + 2 ≤ 2 * 2 ^ k
  | 0, _, _ => by simp [D]
  | k + 1, c, a => by
    have h1 := D_le k (cmap (a / 4 ^ k) c) (a % 4 ^ k)
    have h2 : cyc (a / 4 ^ k) c ≤ 2 := cyc_le
    have h3 : 2 ^ k * cyc (a / 4 ^ k) c ≤ 2 ^ k * 2 := Nat.mul_le_mul_left _ h2
    rw [D, Nat.pow_succ]; omega

theorem D_split (m : Nat) : ∀ (n c a : Nat), a < 4 ^ (n + m) → D (n + m) c a = 2 ^ m * D n c (a / 4 ^ m) + D m (CM n (a / 4 ^ m) c) (a % 4 ^ m)
  | 0, c, a, h => by
    rw [Nat.zero_add] at *
    rw [Nat.mod_eq_of_lt h]; simp [D, CM]
  | n + 1, c, a, h => by
    have e : n + 1 + m = (n + m) + 1 := by omega
    rw [e, D, D_split m n _ _ (mod_lt4 _ _), D, CM]
    have h1 : a / 4 ^ m / 4 ^ n = a / 4 ^ (n + m) := by
      rw [Nat.div_div_eq_div_mul, Nat.pow_add, Nat.mul_comm]
    have h2 : a % 4 ^ (n + m) / 4 ^ m = a / 4 ^ m % 4 ^ n := by
      rw [Nat.pow_add, Nat.mul_comm, Nat.mod_mul_right_div_self]
    have h3 : a % 4 ^ (n + m) % 4 ^ m = a % 4 ^ m := by
      rw [Nat.pow_add]; exact Nat.mod_mul_left_mod _ _ _
    rw [h1, h2, h3, Nat.pow_add, Nat.mul_add]
    rw [← Nat.mul_assoc, Nat.mul_comm (2 ^ m) (2 ^ n)]
    omega

theorem step4 (k : Nat) : 4 ^ (k + 1) = 4 * 4 ^ k := by rw [Nat.pow_succ]; omega
theorem mul_step (k c j x : Nat) : 2 ^ (k + 1) * (2 ^ k * c + x) = 2 * (c * 4 ^ k) + 2 * (2 ^ k * x) := by
  rw [Nat.pow_succ, four_pow, Nat.mul_add, Nat.mul_comm c]
  have h1 : 2 ^ k * 2 * (2 ^ k * c) = 2 * (2 ^ k * 2 ^ k * c) := by
    rw [Nat.mul_comm (2 ^ k) 2, Nat.mul_assoc, Nat.mul_assoc]
  have h2 : 2 ^ k * 2 * x = 2 * (2 ^ k * x) := by rw [Nat.mul_comm (2 ^ k) 2, Nat.mul_assoc]
  rw [h1, h2]

/-- the induction step of each corner inequality: the digit by cases -/
theorem D_step {k c a : Nat} (h : a < 4 ^ (k + 1)) :
    ∃ j b, j < 4 ∧ b < 4 ^ k ∧ a = j * 4 ^ k + b ∧ 2 ^ (k + 1) * D (k + 1) c a = 2 * (cyc j c * 4 ^ k) + 2 * (2 ^ k * D k (cmap j c) b) := by
  refine ⟨a / 4 ^ k, a % 4 ^ k, digit_lt h, mod_lt4 k a, ?_, ?_⟩
  · have := split4 k a; rw [Nat.mul_comm] at this; exact this
  · rw [D, mul_step k _ (a / 4 ^ k)]

theorem cases4 {j : Nat} (h : j < 4) : j = 0 ∨ j = 1 ∨ j = 2 ∨ j = 3 := by omega

theorem A2 : ∀ (k a : Nat), a < 4 ^ k → 3 * a + 2 ≤ 2 * 4 ^ k + 3 * (2 ^ k * D k 2 a)
  | 0, a, h => by simp [D] at *; omega
  | k + 1, a, h => by
    obtain ⟨j, b, hj, hb, rfl, e⟩ := D_step (c := 2) h
    rw [e, step4]
    have ih := A2 k b hb
    rcases cases4 hj with rfl | rfl | rfl | rfl <;> simp only [cyc, cmap] <;> simp <;> omega
theorem A0 : ∀ (k a : Nat), a < 4 ^ k → 3 * a + 2 ≤ 2 * 4 ^ k + 3 * (2 ^ k * D k 0 a)
  | 0, a, h => by simp [D] at *; omega
  | k + 1, a, h => by
    obtain ⟨j, b, hj, hb, rfl, e⟩ := D_step (c := 0) h
    rw [e, step4]
    have ih := A0 k b hb
    have ih2 := A2 k b hb
    rcases cases4 hj with rfl | rfl | rfl | rfl <;> simp only [cyc, cmap] <;> simp <;> omega
theorem B2 : ∀ (k a : Nat), a < 4 ^ k → 2 * 4 ^ k ≤ 3 * a + 2 + 3 * (2 ^ k * D k 2 a)
  | 0, a, h => by simp [D] at *; 
  | k + 1, a, h => by
    obtain ⟨j, b, hj, hb, rfl, e⟩ := D_step (c := 2) h
    rw [e, step4]
    have ih := B2 k b hb
    rcases cases4 hj with rfl | rfl | rfl | rfl <;> simp only [cyc, cmap] <;> simp <;> omega
theorem A1 : ∀ (k a : Nat), a < 4 ^ k → 3 * a + 1 ≤ 4 ^ k + 3 * (2 ^ k * D k 1 a)
  | 0, a, h => by simp [D] at *; omega
  | k + 1, a, h => by
    obtain ⟨j, b, hj, hb, rfl, e⟩ := D_step (c := 1) h
    rw [e, step4]
    have ih := A1 k b hb
    rcases cases4 hj with rfl | rfl | rfl | rfl <;> simp only [cyc, cmap] <;> simp <;> omega
theorem B1 : ∀ (k a : Nat), a < 4 ^ k → 4 ^ k ≤ 3 * a + 1 + 3 * (2 ^ k * D k 1 a)
  | 0, a, h => by simp [D] at *
  | k + 1, a, h => by
    obtain ⟨j, b, hj, hb, rfl, e⟩ := D_step (c := 1) h
    rw [e, step4]
    have ih := B1 k b hb
    rcases cases4 hj with rfl | rfl | rfl | rfl <;> simp only [cyc, cmap] <;> simp <;> omega
theorem B3 : ∀ (k a : Nat), a < 4 ^ k → 4 ^ k ≤ 3 * a + 1 + 3 * (2 ^ k * D k 3 a)
  | 0, a, h => by simp [D] at *
  | k + 1, a, h => by
    obtain ⟨j, b, hj, hb, rfl, e⟩ := D_step (c := 3) h
    rw [e, step4]
    have ih := B3 k b hb
    have ih1 := B1 k b hb
    rcases cases4 hj with rfl | rfl | rfl | rfl <;> simp only [cyc, cmap] <;> simp <;> omega

/-- opposite corners -/
theorem D_opp : ∀ (k c c' a : Nat), c < 4 → c' < 4 → c' = (c + 2) % 4 → a < 4 ^ k → D k c a + D k c' a + 2 = 2 * 2 ^ k
  | 0, c, c', a, _, _, _, _ => by simp [D]
  | k + 1, c, c', a, hc, hc', e, h => by
    have hj := digit_lt h
    have ih := D_opp k (cmap (a / 4 ^ k) c) (cmap (a / 4 ^ k) c') (a % 4 ^ k) (cmap_lt hc) (cmap_lt hc')
      (by unfold cmap; (repeat' split) <;> omega) (mod_lt4 k a)
    have h2 : cyc (a / 4 ^ k) c + cyc (a / 4 ^ k) c' = 2 := by
      subst e; rcases cases4 hj with q | q | q | q <;> rcases cases4 hc with rfl | rfl | rfl | rfl <;> rw [q] <;> rfl
    have h3 : 2 ^ k * cyc (a / 4 ^ k) c + 2 ^ k * cyc (a / 4 ^ k) c' = 2 ^ k * 2 := by rw [← Nat.mul_add, h2]
    rw [D, D, Nat.pow_succ]
    omega

theorem D_first : ∀ (k c : Nat), c < 4 → D k c 0 + cyc 0 c = 2 ^ k * cyc 0 c
  | 0, c, h => by simp [D]
  | k + 1, c, h => by
    have ih := D_first k (cmap 0 c) (cmap_lt h)
    have e : cyc 0 (cmap 0 c) = cyc 0 c := by rcases cases4 h with rfl | rfl | rfl | rfl <;> rfl
    rw [e] at ih
    rw [D, Nat.zero_div, Nat.zero_mod, Nat.pow_succ, Nat.mul_comm (2 ^ k) 2, Nat.mul_assoc]
    omega
theorem D_last : ∀ (k c : Nat), c < 4 → D k c (4 ^ k - 1) + cyc 3 c = 2 ^ k * cyc 3 c
  | 0, c, h => by simp [D]
  | k + 1, c, h => by
    have ih := D_last k (cmap 3 c) (cmap_lt h)
    have e : cyc 3 (cmap 3 c) = cyc 3 c := by rcases cases4 h with rfl | rfl | rfl | rfl <;> rfl
    rw [e] at ih
    have p := pos4 k
    have e1 : (4 ^ (k + 1) - 1) = 4 ^ k * 3 + (4 ^ k - 1) := by rw [step4]; omega
    have e2 : (4 ^ (k + 1) - 1) / 4 ^ k = 3 := by
      rw [e1, Nat.mul_add_div p, Nat.div_eq_of_lt (by omega)]
    have e3 : (4 ^ (k + 1) - 1) % 4 ^ k = 4 ^ k - 1 := by
      rw [e1, Nat.mul_add_mod, Nat.mod_eq_of_lt (by omega)]
    rw [D, e2, e3, Nat.pow_succ, Nat.mul_comm (2 ^ k) 2, Nat.mul_assoc]
    omega
theorem CM_first1 : ∀ (k c : Nat), c < 4 → (CM k 0 c = 0 ↔ c = 0)
  | 0, c, h => by simp [CM]
  | k + 1, c, h => by
    rw [CM, Nat.zero_div, Nat.zero_mod, CM_first1 k _ (cmap_lt h)]
    rcases cases4 h with rfl | rfl | rfl | rfl <;> simp [cmap]
theorem CM_last1 : ∀ (k c : Nat), c < 4 → (CM k (4 ^ k - 1) c = 1 ↔ c = 1)
  | 0, c, h => by simp [CM]
  | k + 1, c, h => by
    have p := pos4 k
    have e1 : (4 ^ (k + 1) - 1) = 4 ^ k * 3 + (4 ^ k - 1) := by rw [step4]; omega
    have e2 : (4 ^ (k + 1) - 1) / 4 ^ k = 3 := by
      rw [e1, Nat.mul_add_div p, Nat.div_eq_of_lt (by omega)]
    have e3 : (4 ^ (k + 1) - 1) % 4 ^ k = 4 ^ k - 1 := by
      rw [e1, Nat.mul_add_mod, Nat.mod_eq_of_lt (by omega)]
    rw [CM, e2, e3, CM_last1 k _ (cmap_lt h)]
    rcases cases4 h with rfl | rfl | rfl | rfl <;> simp [cmap]

/-- one step along the curve: one step nearer to a corner or one further from it; and what a step nearer forbids -/
theorem D_next : ∀ (k c a : Nat), c < 4 → a + 1 < 4 ^ k →
    (D k c (a + 1) = D k c a + 1 ∨ (D k c (a + 1) + 1 = D k c a ∧ CM k a c ≠ 1 ∧ CM k (a + 1) c ≠ 0))
  | 0, c, a, hc, h => by simp at h
  | k + 1, c, a, hc, h => by
    have p := pos4 k
    by_cases hb : a % 4 ^ k + 1 < 4 ^ k
    · have e1 : (a + 1) / 4 ^ k = a / 4 ^ k := by
        rw [show a + 1 = 4 ^ k * (a / 4 ^ k) + (a % 4 ^ k + 1) by have := split4 k a; omega, Nat.mul_add_div p, Nat.div_eq_of_lt hb]; rfl
      have e2 : (a + 1) % 4 ^ k = a % 4 ^ k + 1 := by
        rw [show a + 1 = 4 ^ k * (a / 4 ^ k) + (a % 4 ^ k + 1) by have := split4 k a; omega, Nat.mul_add_mod, Nat.mod_eq_of_lt hb]
      have ih := D_next k (cmap (a / 4 ^ k) c) (a % 4 ^ k) (cmap_lt hc) hb
      simp only [D, CM, e1, e2]
      rcases ih with ih | ⟨ih, i2, i3⟩
      · left; omega
      · right; exact ⟨by omega, i2, i3⟩
    · have hm := mod_lt4 k a
      have hl : a % 4 ^ k = 4 ^ k - 1 := by omega
      have e0 : a + 1 = 4 ^ k * (a / 4 ^ k + 1) := by have := split4 k a; rw [Nat.mul_add]; omega
      have e1 : (a + 1) / 4 ^ k = a / 4 ^ k + 1 := by rw [e0, Nat.mul_div_cancel_left _ p]
      have e2 : (a + 1) % 4 ^ k = 0 := by rw [e0, Nat.mul_mod_right]
      have hj : a / 4 ^ k + 1 < 4 := by rw [← e1]; exact digit_lt h
      simp only [D, CM, e1, e2, hl]
      generalize hj' : a / 4 ^ k = j at *
      have d1 := D_first k (cmap (j + 1) c) (cmap_lt hc)
      have d2 := D_last k (cmap j c) (cmap_lt hc)
      have m1 := CM_first1 k (cmap (j + 1) c) (cmap_lt hc)
      have m2 := CM_last1 k (cmap j c) (cmap_lt hc)
      have hj3 : j = 0 ∨ j = 1 ∨ j = 2 := by omega
      have p2 := pos2 k
      rw [Ne, Ne, m1, m2]
      clear m1 m2
      rcases hj3 with rfl | rfl | rfl <;> rcases cases4 hc with rfl | rfl | rfl | rfl <;> simp [cyc, cmap] at d1 d2 ⊢ <;> omega
/-- along the curve: a distance changes by at most the number of steps, and falls by all of it only if every step is nearer -/
theorem D_walk (k c : Nat) (hc : c < 4) : ∀ (n a : Nat), a + n < 4 ^ k →
    D k c a ≤ D k c (a + n) + n ∧ D k c (a + n) ≤ D k c a + n ∧ (D k c a + D k c (a + n) + n) % 2 = 0 ∧
    (D k c a = D k c (a + n) + n → 0 < n → CM k a c ≠ 1 ∧ CM k (a + n) c ≠ 0)
  | 0, a, h => by refine ⟨by simp, by simp, by simp; omega, fun _ h => absurd h (by omega)⟩
  | 1, a, h => by
    rcases D_next k c a hc h with e | ⟨e, m1, m2⟩
    · exact ⟨by omega, by omega, by omega, fun q _ => by omega⟩
    · exact ⟨by omega, by omega, by omega, fun _ _ => ⟨m1, m2⟩⟩
  | n + 2, a, h => by
    obtain ⟨i1, i2, i3, i4⟩ := D_walk k c hc (n + 1) a (by omega)
    have e0 : a + (n + 2) = (a + (n + 1)) + 1 := by omega
    rw [e0]
    rcases D_next k c (a + (n + 1)) hc (by omega) with e | ⟨e, m1, m2⟩
    · exact ⟨by omega, by omega, by omega, fun q _ => by omega⟩
    · exact ⟨by omega, by omega, by omega, fun q _ => ⟨(i4 (by omega) (by omega)).1, m2⟩⟩

/-- THE BOUND: at the scale 2^m, whatever corner one looks to -/
theorem D_dil (m n c p q : Nat) (hc : c < 4) (hpq : p < q) (hq : q < 4 ^ (n + m)) :
    2 ^ m * (D (n + m) c p + 2) ≤ 2 ^ m * D (n + m) c q + (q - p) + 2 * 4 ^ m := by
  have hp : p < 4 ^ (n + m) := by omega
  rw [D_split m n c p hp, D_split m n c q hq]
  have sp := split4 m p
  have sq := split4 m q
  have la := mod_lt4 m p
  have lb := mod_lt4 m q
  have hP : p / 4 ^ m < 4 ^ n := by rw [Nat.div_lt_iff_lt_mul (pos4 m), ← Nat.pow_add]; exact hp
  have hQ : q / 4 ^ m < 4 ^ n := by rw [Nat.div_lt_iff_lt_mul (pos4 m), ← Nat.pow_add]; exact hq
  have hPQ : p / 4 ^ m ≤ q / 4 ^ m := Nat.div_le_div_right (by omega)
  have parP := CM_par n (p / 4 ^ m) c
  have parQ := CM_par n (q / 4 ^ m) c
  have cP := CM_lt n (p / 4 ^ m) c hc
  have cQ := CM_lt n (q / 4 ^ m) c hc
  generalize p / 4 ^ m = P at *
  generalize q / 4 ^ m = Q at *
  generalize p % 4 ^ m = a at *
  generalize q % 4 ^ m = b at *
  generalize hcp : CM n P c = u at *
  generalize hcq : CM n Q c = v at *
  have w := D_walk n c hc (Q - P) P (by omega)
  rw [show P + (Q - P) = Q by omega] at w
  obtain ⟨w1, w2, _, w4⟩ := w
  have bu := D_le m u a
  have bv := D_le m v b
  generalize hDP : D n c P = DP at *
  generalize hDQ : D n c Q = DQ at *
  have e4 := four_pow m
  -- the block's part
  have expand : ∀ x y : Nat, 2 ^ m * (2 ^ m * x + y) = 4 ^ m * x + 2 ^ m * y := by
    intro x y; rw [Nat.mul_add, ← Nat.mul_assoc, ← four_pow]
  rw [show 2 ^ m * DP + D m u a + 2 = 2 ^ m * DP + (D m u a + 2) by omega, expand, expand, Nat.mul_add]
  have hbu : 2 ^ m * D m u a + 2 ^ m * 2 ≤ 2 * 4 ^ m := by
    rw [← Nat.mul_add, e4, ← Nat.mul_assoc, Nat.mul_comm 2 (2 ^ m), Nat.mul_assoc]
    exact Nat.mul_le_mul_left _ bu
  by_cases hfull : DP = DQ + (Q - P)
  · -- every step of the blocks is nearer
    by_cases hz : P = Q
    · subst hz
      have : DP = DQ := by omega
      subst this
      have hab : q - p = b - a := by omega
      omega
    · have hlt : 0 < Q - P := by omega
      obtain ⟨n1, n2⟩ := w4 hfull hlt
      rw [hcp] at n1
      rw [hcq] at n2
      have eD : 4 ^ m * DP = 4 ^ m * DQ + (4 ^ m * Q - 4 ^ m * P) := by
        rw [hfull, Nat.mul_add, Nat.mul_sub]
      have hm : 4 ^ m * P ≤ 4 ^ m * Q := Nat.mul_le_mul_left _ hPQ
      by_cases hab : a ≤ b
      · omega
      -- the corners
      have hev : c % 2 = 0 ∨ c % 2 = 1 := by omega
      have opp : ∀ u', u' < 4 → u' = (u + 2) % 4 → 2 ^ m * D m u a + 2 ^ m * D m u' a + 2 ^ m * 2 = 2 * 4 ^ m := by
        intro u' h1 h2
        have := D_opp m u u' a cP h1 h2 la
        rw [← Nat.mul_add, ← Nat.mul_add, this, e4, ← Nat.mul_assoc, Nat.mul_comm _ 2, Nat.mul_assoc]
      rcases hev with hev | hev
      · -- even corners: v = 2; the opposite of u is 0 or 2
        have hv : v = 2 := by omega
        subst hv
        have b2 := B2 m b lb
        have hu : u = 0 ∨ u = 2 := by omega
        rcases hu with rfl | rfl
        · have o := opp 2 (by omega) (by omega)
          have a2 := A2 m a la
          omega
        · have o := opp 0 (by omega) (by omega)
          have a0 := A0 m a la
          omega
      · have hu : u = 3 := by omega
        subst hu
        have o := opp 1 (by omega) (by omega)
        have a1 := A1 m a la
        have hv : v = 1 ∨ v = 3 := by omega
        rcases hv with rfl | rfl
        · have b1 := B1 m b lb
          omega
        · have b3 := B3 m b lb
          omega
  · have hlt : DP + 1 ≤ DQ + (Q - P) := by omega
    have hz : P < Q := by
      by_cases h : P = Q
      · subst h; rw [← hDP, ← hDQ] at hfull; omega
      · omega
    have e1 : 4 ^ m * (DP + 1) ≤ 4 ^ m * (DQ + (Q - P)) := Nat.mul_le_mul_left _ hlt
    rw [Nat.mul_add, Nat.mul_add, Nat.mul_sub] at e1
    have hm : 4 ^ m * P ≤ 4 ^ m * Q := Nat.mul_le_mul_left _ hPQ
    omega
end Mine
/- part M3 -/
set_option maxRecDepth 100000
set_option linter.unusedVariables false
namespace Mine
def pij (o d : Nat) : Nat := (([[0,1,3,2],[0,2,3,1],[3,2,0,1],[3,1,0,2]] : List (List Nat)).getD o []).getD d 0
def ijp (o q : Nat) : Nat := (([[0,1,3,2],[0,3,1,2],[2,3,1,0],[2,1,3,0]] : List (List Nat)).getD o []).getD q 0
def ori (o d : Nat) : Nat := if d = 0 then o ^^^ 1 else if d = 3 then o ^^^ 3 else o
def X : Nat → Nat → Nat → Nat
  | 0, _, _ => 0
  | k + 1, o, a => 2 ^ k * (pij o (a / 4 ^ k) / 2) + X k (ori o (a / 4 ^ k)) (a % 4 ^ k)
def Y : Nat → Nat → Nat → Nat
  | 0, _, _ => 0
  | k + 1, o, a => 2 ^ k * (pij o (a / 4 ^ k) % 2) + Y k (ori o (a / 4 ^ k)) (a % 4 ^ k)
def O : Nat → Nat → Nat → Nat
  | 0, o, _ => o
  | k + 1, o, a => O k (ori o (a / 4 ^ k)) (a % 4 ^ k)
def P : Nat → Nat → Nat → Nat → Nat
  | 0, _, _, _ => 0
  | k + 1, o, i, j => ijp o (2 * (i / 2 ^ k) + j / 2 ^ k) * 4 ^ k + P k (ori o (ijp o (2 * (i / 2 ^ k) + j / 2 ^ k))) (i % 2 ^ k) (j % 2 ^ k)
def OP : Nat → Nat → Nat → Nat → Nat
  | 0, o, _, _ => o
  | k + 1, o, i, j => OP k (ori o (ijp o (2 * (i / 2 ^ k) + j / 2 ^ k))) (i % 2 ^ k) (j % 2 ^ k)
@[irreducible] def tIJ (b : Nat) : Nat := (X 4 (b % 4) (b / 4) * 16 + Y 4 (b % 4) (b / 4)) * 4 + O 4 (b % 4) (b / 4)
@[irreducible] def tPOS (b : Nat) : Nat := P 4 (b % 4) (b / 64) (b / 4 % 16) * 4 + OP 4 (b % 4) (b / 64) (b / 4 % 16)

theorem fin1 : ∀ o < 4, ∀ d < 4, pij o d < 4 ∧ ori o d < 4 ∧ ijp o (pij o d) = d ∧ pij o (ijp o d) = d ∧ ijp o d < 4 := by decide
theorem fin2 : ∀ o < 4, ∀ d < 4, ∀ c < 4, pij (ori o d) (cmap d c) = pij o c ∧ cyc d c = (if pij o d / 2 = pij o c / 2 then 0 else 1) + (if pij o d % 2 = pij o c % 2 then 0 else 1) := by decide
theorem pij_lt {o d : Nat} (ho : o < 4) (hd : d < 4) : pij o d < 4 := (fin1 o ho d hd).1
theorem ori_lt {o d : Nat} (ho : o < 4) (hd : d < 4) : ori o d < 4 := (fin1 o ho d hd).2.1
theorem ijp_pij {o d : Nat} (ho : o < 4) (hd : d < 4) : ijp o (pij o d) = d := (fin1 o ho d hd).2.2.1
theorem pij_ijp {o d : Nat} (ho : o < 4) (hd : d < 4) : pij o (ijp o d) = d := (fin1 o ho d hd).2.2.2.1
theorem ijp_lt {o d : Nat} (ho : o < 4) (hd : d < 4) : ijp o d < 4 := (fin1 o ho d hd).2.2.2.2

theorem X_lt : ∀ (k o a : Nat), o < 4 → a < 4 ^ k → X k o a < 2 ^ k
  | 0, _, _, _, _ => by simp [X]
  | k + 1, o, a, ho, h => by
    have hd := digit_lt h
    have ih := X_lt k (ori o (a / 4 ^ k)) (a % 4 ^ k) (ori_lt ho hd) (mod_lt4 k a)
    have := pij_lt ho hd
    have h2 : 2 ^ k * (pij o (a / 4 ^ k) / 2) ≤ 2 ^ k * 1 := Nat.mul_le_mul_left _ (by omega)
    rw [X, Nat.pow_succ]; omega
theorem Y_lt : ∀ (k o a : Nat), o < 4 → a < 4 ^ k → Y k o a < 2 ^ k
  | 0, _, _, _, _ => by simp [Y]
  | k + 1, o, a, ho, h => by
    have hd := digit_lt h
    have ih := Y_lt k (ori o (a / 4 ^ k)) (a % 4 ^ k) (ori_lt ho hd) (mod_lt4 k a)
    have h2 : 2 ^ k * (pij o (a / 4 ^ k) % 2) ≤ 2 ^ k * 1 := Nat.mul_le_mul_left _ (by omega)
    rw [Y, Nat.pow_succ]; omega
theorem O_lt : ∀ (k o a : Nat), o < 4 → a < 4 ^ k → O k o a < 4
  | 0, _, _, h, _ => h
  | k + 1, o, a, ho, h => O_lt k _ _ (ori_lt ho (digit_lt h)) (mod_lt4 k a)

theorem div_split (m n a : Nat) : a / 4 ^ m / 4 ^ n = a / 4 ^ (n + m) := by
  rw [Nat.div_div_eq_div_mul, Nat.pow_add, Nat.mul_comm]
theorem mod_split (m n a : Nat) : a % 4 ^ (n + m) / 4 ^ m = a / 4 ^ m % 4 ^ n := by
  rw [Nat.pow_add, Nat.mul_comm, Nat.mod_mul_right_div_self]
theorem mod_mod_split (m n a : Nat) : a % 4 ^ (n + m) % 4 ^ m = a % 4 ^ m := by
  rw [Nat.pow_add]; exact Nat.mod_mul_left_mod _ _ _
theorem X_split (m : Nat) : ∀ (n o a : Nat), a < 4 ^ (n + m) → X (n + m) o a = 2 ^ m * X n o (a / 4 ^ m) + X m (O n o (a / 4 ^ m)) (a % 4 ^ m)
  | 0, o, a, h => by
    rw [Nat.zero_add] at *
    rw [Nat.mod_eq_of_lt h]; simp [X, O]
  | n + 1, o, a, h => by
    have e : n + 1 + m = (n + m) + 1 := by omega
    rw [e, X, X_split m n _ _ (mod_lt4 _ _), X, O, div_split, mod_split, mod_mod_split, Nat.pow_add, Nat.mul_add, ← Nat.mul_assoc, Nat.mul_comm (2 ^ m) (2 ^ n)]
    omega
theorem Y_split (m : Nat) : ∀ (n o a : Nat), a < 4 ^ (n + m) → Y (n + m) o a = 2 ^ m * Y n o (a / 4 ^ m) + Y m (O n o (a / 4 ^ m)) (a % 4 ^ m)
  | 0, o, a, h => by
    rw [Nat.zero_add] at *
    rw [Nat.mod_eq_of_lt h]; simp [Y, O]
  | n + 1, o, a, h => by
    have e : n + 1 + m = (n + m) + 1 := by omega
    rw [e, Y, Y_split m n _ _ (mod_lt4 _ _), Y, O, div_split, mod_split, mod_mod_split, Nat.pow_add, Nat.mul_add, ← Nat.mul_assoc, Nat.mul_comm (2 ^ m) (2 ^ n)]
    omega
theorem O_split (m : Nat) : ∀ (n o a : Nat), a < 4 ^ (n + m) → O (n + m) o a = O m (O n o (a / 4 ^ m)) (a % 4 ^ m)
  | 0, o, a, h => by
    rw [Nat.zero_add] at *
    rw [Nat.mod_eq_of_lt h]; simp [O]
  | n + 1, o, a, h => by
    have e : n + 1 + m = (n + m) + 1 := by omega
    rw [e, O, O_split m n _ _ (mod_lt4 _ _), O, div_split, mod_split, mod_mod_split]

theorem fin3 : ∀ o < 2, pij o 0 = 0 ∧ ori o 0 < 2 ∧ ori (ori o 0) 0 = o := by decide
theorem X_lead {k o a : Nat} (ho : o < 2) (h : a < 4 ^ k) : X (k + 2) o a = X k o a ∧ Y (k + 2) o a = Y k o a := by
  obtain ⟨h1, h2, h3⟩ := fin3 o ho
  obtain ⟨g1, _, _⟩ := fin3 (ori o 0) h2
  have hk : a < 4 ^ (k + 1) := Nat.lt_of_lt_of_le h (Nat.pow_le_pow_right (by decide) (by omega))
  have e1 : a / 4 ^ (k + 1) = 0 := Nat.div_eq_of_lt hk
  have e2 : a / 4 ^ k = 0 := Nat.div_eq_of_lt h
  have e3 : a % 4 ^ (k + 1) = a := Nat.mod_eq_of_lt hk
  have e4 : a % 4 ^ k = a := Nat.mod_eq_of_lt h
  constructor
  · rw [X, e1, e3, X, e2, e4, h1, g1, h3]; simp
  · rw [Y, e1, e3, Y, e2, e4, h1, g1, h3]; simp

/-- the distance to a corner, in coordinates -/
theorem D_XY : ∀ (k o c a : Nat), o < 4 → c < 4 → a < 4 ^ k →
    D k c a = (if pij o c / 2 = 1 then 2 ^ k - 1 - X k o a else X k o a) + (if pij o c % 2 = 1 then 2 ^ k - 1 - Y k o a else Y k o a)
  | 0, o, c, a, _, _, _ => by simp [D, X, Y]
  | k + 1, o, c, a, ho, hc, h => by
    have hd := digit_lt h
    have ih := D_XY k (ori o (a / 4 ^ k)) (cmap (a / 4 ^ k) c) (a % 4 ^ k) (ori_lt ho hd) (cmap_lt hc) (mod_lt4 k a)
    obtain ⟨f1, f2⟩ := fin2 o ho _ hd c hc
    rw [f1] at ih
    have x1 := X_lt k (ori o (a / 4 ^ k)) (a % 4 ^ k) (ori_lt ho hd) (mod_lt4 k a)
    have y1 := Y_lt k (ori o (a / 4 ^ k)) (a % 4 ^ k) (ori_lt ho hd) (mod_lt4 k a)
    rw [D, X, Y, ih, f2, Nat.pow_succ]
    have p1 := pij_lt ho hd
    have p2 := pij_lt ho hc
    generalize pij o (a / 4 ^ k) = u at *
    generalize pij o c = v at *
    have hu : u = 0 ∨ u = 1 ∨ u = 2 ∨ u = 3 := by omega
    have hv : v = 0 ∨ v = 1 ∨ v = 2 ∨ v = 3 := by omega
    clear f1 f2 ih
    rcases hu with rfl | rfl | rfl | rfl <;> rcases hv with rfl | rfl | rfl | rfl <;> simp <;> omega

theorem PXY : ∀ (k o a : Nat), o < 4 → a < 4 ^ k → P k o (X k o a) (Y k o a) = a ∧ OP k o (X k o a) (Y k o a) = O k o a
  | 0, o, a, _, h => by simp at h; subst h; simp [P, OP, O]
  | k + 1, o, a, ho, h => by
    have hd := digit_lt h
    have x1 := X_lt k (ori o (a / 4 ^ k)) (a % 4 ^ k) (ori_lt ho hd) (mod_lt4 k a)
    have y1 := Y_lt k (ori o (a / 4 ^ k)) (a % 4 ^ k) (ori_lt ho hd) (mod_lt4 k a)
    have ih := PXY k (ori o (a / 4 ^ k)) (a % 4 ^ k) (ori_lt ho hd) (mod_lt4 k a)
    have p := pos2 k
    have e1 : X (k + 1) o a / 2 ^ k = pij o (a / 4 ^ k) / 2 := by rw [X, Nat.mul_add_div p, Nat.div_eq_of_lt x1]; rfl
    have e2 : X (k + 1) o a % 2 ^ k = X k (ori o (a / 4 ^ k)) (a % 4 ^ k) := by rw [X, Nat.mul_add_mod, Nat.mod_eq_of_lt x1]
    have e3 : Y (k + 1) o a / 2 ^ k = pij o (a / 4 ^ k) % 2 := by rw [Y, Nat.mul_add_div p, Nat.div_eq_of_lt y1]; rfl
    have e4 : Y (k + 1) o a % 2 ^ k = Y k (ori o (a / 4 ^ k)) (a % 4 ^ k) := by rw [Y, Nat.mul_add_mod, Nat.mod_eq_of_lt y1]
    have e5 : 2 * (pij o (a / 4 ^ k) / 2) + pij o (a / 4 ^ k) % 2 = pij o (a / 4 ^ k) := by omega
    rw [P, OP, O, e1, e2, e3, e4, e5, ijp_pij ho hd, ih.1, ih.2]
    refine ⟨?_, rfl⟩
    have := split4 k a
    rw [Nat.mul_comm]; omega
theorem P_lt : ∀ (k o i j : Nat), o < 4 → i < 2 ^ k → j < 2 ^ k → P k o i j < 4 ^ k ∧ OP k o i j < 4
  | 0, _, _, _, ho, _, _ => by simp [P, OP]; exact ho
  | k + 1, o, i, j, ho, hi, hj => by
    rw [Nat.pow_succ] at hi hj
    have p := pos2 k
    have i2 : i / 2 ^ k < 2 := by rw [Nat.div_lt_iff_lt_mul p]; omega
    have j2 : j / 2 ^ k < 2 := by rw [Nat.div_lt_iff_lt_mul p]; omega
    have hq : 2 * (i / 2 ^ k) + j / 2 ^ k < 4 := by omega
    have hd := ijp_lt ho hq
    have ih := P_lt k (ori o (ijp o (2 * (i / 2 ^ k) + j / 2 ^ k))) (i % 2 ^ k) (j % 2 ^ k) (ori_lt ho hd) (Nat.mod_lt _ p) (Nat.mod_lt _ p)
    rw [P, OP, Nat.pow_succ]
    refine ⟨?_, ih.2⟩
    have : ijp o (2 * (i / 2 ^ k) + j / 2 ^ k) * 4 ^ k ≤ 3 * 4 ^ k := Nat.mul_le_mul_right _ (by omega)
    omega
theorem XYP : ∀ (k o i j : Nat), o < 4 → i < 2 ^ k → j < 2 ^ k → X k o (P k o i j) = i ∧ Y k o (P k o i j) = j
  | 0, o, i, j, _, hi, hj => by simp at hi hj; subst hi hj; simp [X, Y]
  | k + 1, o, i, j, ho, hi, hj => by
    rw [Nat.pow_succ] at hi hj
    have p := pos2 k
    have i2 : i / 2 ^ k < 2 := by rw [Nat.div_lt_iff_lt_mul p]; omega
    have j2 : j / 2 ^ k < 2 := by rw [Nat.div_lt_iff_lt_mul p]; omega
    have hq : 2 * (i / 2 ^ k) + j / 2 ^ k < 4 := by omega
    have hd := ijp_lt ho hq
    have pl := P_lt k (ori o (ijp o (2 * (i / 2 ^ k) + j / 2 ^ k))) (i % 2 ^ k) (j % 2 ^ k) (ori_lt ho hd) (Nat.mod_lt _ p) (Nat.mod_lt _ p)
    have ih := XYP k (ori o (ijp o (2 * (i / 2 ^ k) + j / 2 ^ k))) (i % 2 ^ k) (j % 2 ^ k) (ori_lt ho hd) (Nat.mod_lt _ p) (Nat.mod_lt _ p)
    have e1 : P (k + 1) o i j / 4 ^ k = ijp o (2 * (i / 2 ^ k) + j / 2 ^ k) := by
      rw [P, Nat.mul_comm, Nat.mul_add_div (pos4 k), Nat.div_eq_of_lt pl.1]; rfl
    have e2 : P (k + 1) o i j % 4 ^ k = P k (ori o (ijp o (2 * (i / 2 ^ k) + j / 2 ^ k))) (i % 2 ^ k) (j % 2 ^ k) := by
      rw [P, Nat.mul_comm, Nat.mul_add_mod, Nat.mod_eq_of_lt pl.1]
    rw [X, Y, e1, e2, ih.1, ih.2, pij_ijp ho hq]
    have s1 := Nat.div_add_mod i (2 ^ k)
    have s2 := Nat.div_add_mod j (2 ^ k)
    have uv : ∀ u v : Nat, v < 2 → (2 * u + v) / 2 = u ∧ (2 * u + v) % 2 = v := by intro u v h; omega
    rw [(uv _ _ j2).1, (uv _ _ j2).2]
    exact ⟨s1, s2⟩
theorem P_succ (k o i j : Nat) : P (k + 1) o i j = ijp o (2 * (i / 2 ^ k) + j / 2 ^ k) * 4 ^ k + P k (ori o (ijp o (2 * (i / 2 ^ k) + j / 2 ^ k))) (i % 2 ^ k) (j % 2 ^ k) := rfl
theorem OP_succ (k o i j : Nat) : OP (k + 1) o i j = OP k (ori o (ijp o (2 * (i / 2 ^ k) + j / 2 ^ k))) (i % 2 ^ k) (j % 2 ^ k) := rfl
theorem P_split (m : Nat) : ∀ (n o i j : Nat), i < 2 ^ (n + m) → j < 2 ^ (n + m) → P (n + m) o i j = P n o (i / 2 ^ m) (j / 2 ^ m) * 4 ^ m + P m (OP n o (i / 2 ^ m) (j / 2 ^ m)) (i % 2 ^ m) (j % 2 ^ m) ∧ OP (n + m) o i j = OP m (OP n o (i / 2 ^ m) (j / 2 ^ m)) (i % 2 ^ m) (j % 2 ^ m)
  | 0, o, i, j, hi, hj => by
    rw [Nat.zero_add] at *
    rw [Nat.mod_eq_of_lt hi, Nat.mod_eq_of_lt hj]; simp [P, OP]
  | n + 1, o, i, j, hi, hj => by
    have e : n + 1 + m = (n + m) + 1 := by omega
    have d2 : ∀ a, a / 2 ^ m / 2 ^ n = a / 2 ^ (n + m) := by intro a; rw [Nat.div_div_eq_div_mul, Nat.pow_add, Nat.mul_comm]
    have m2 : ∀ a, a % 2 ^ (n + m) / 2 ^ m = a / 2 ^ m % 2 ^ n := by intro a; rw [Nat.pow_add, Nat.mul_comm, Nat.mod_mul_right_div_self]
    have mm2 : ∀ a, a % 2 ^ (n + m) % 2 ^ m = a % 2 ^ m := by intro a; rw [Nat.pow_add]; exact Nat.mod_mul_left_mod _ _ _
    have ih := P_split m n (ori o (ijp o (2 * (i / 2 ^ (n + m)) + j / 2 ^ (n + m)))) (i % 2 ^ (n + m)) (j % 2 ^ (n + m)) (Nat.mod_lt _ (pos2 _)) (Nat.mod_lt _ (pos2 _))
    rw [e, P_succ (n + m), OP_succ (n + m), ih.1, ih.2, P_succ n, OP_succ n]
    simp only [d2, m2, mm2]
    refine ⟨?_, trivial⟩
    rw [Nat.add_mul, Nat.mul_assoc, ← Nat.pow_add]
    omega
end Mine
/- part M4 -/
set_option maxRecDepth 100000
set_option linter.unusedVariables false
namespace Mine
/-- the way from p to q, in sides -/
def way (l o p q : Nat) : Nat := (X l o p - X l o q) + (X l o q - X l o p) + ((Y l o p - Y l o q) + (Y l o q - Y l o p))
/-- the corner towards which q lies from p -/
theorem way_D (l o p q : Nat) (ho : o < 4) (hp : p < 4 ^ l) (hq : q < 4 ^ l) : ∃ c < 4, D l c p = D l c q + way l o p q := by
  have x1 := X_lt l o p ho hp
  have x2 := X_lt l o q ho hq
  have y1 := Y_lt l o p ho hp
  have y2 := Y_lt l o q ho hq
  have key : ∀ u < 4, (u / 2 = 1 ↔ X l o p ≤ X l o q) → (u % 2 = 1 ↔ Y l o p ≤ Y l o q) → ∃ c < 4, D l c p = D l c q + way l o p q := by
    intro u hu h1 h2
    refine ⟨ijp o u, ijp_lt ho hu, ?_⟩
    rw [D_XY l o _ p ho (ijp_lt ho hu) hp, D_XY l o _ q ho (ijp_lt ho hu) hq, pij_ijp ho hu]
    unfold way
    split <;> split <;> omega
  by_cases a : X l o p ≤ X l o q <;> by_cases b : Y l o p ≤ Y l o q
  · exact key 3 (by omega) (by simp [a]) (by simp [b])
  · exact key 2 (by omega) (by simp [a]) (by simp [b])
  · exact key 1 (by omega) (by simp [a]) (by simp [b])
  · exact key 0 (by omega) (by simp [a]) (by simp [b])
theorem way_comm (l o p q : Nat) : way l o p q = way l o q p := by unfold way; omega
theorem way_dil (l o p q m : Nat) (ho : o < 4) (hm : m ≤ l) (hpq : p < q) (hq : q < 4 ^ l) : 2 ^ m * (way l o p q + 2) ≤ (q - p) + 2 * 4 ^ m := by
  obtain ⟨c, hc, e⟩ := way_D l o p q ho (by omega) hq
  have h := D_dil m (l - m) c p q hc hpq (by rw [show l - m + m = l by omega]; exact hq)
  rw [show l - m + m = l by omega, e, Nat.add_assoc, Nat.mul_add] at h
  omega
theorem way_walk (l o p q : Nat) (ho : o < 4) (hpq : p ≤ q) (hq : q < 4 ^ l) : way l o p q ≤ q - p ∧ (way l o p q + (q - p)) % 2 = 0 := by
  obtain ⟨c, hc, e⟩ := way_D l o p q ho (by omega) hq
  have h := D_walk l c hc (q - p) p (by omega)
  rw [show p + (q - p) = q by omega] at h
  omega
theorem way_pos (l o p q : Nat) (ho : o < 4) (hp : p < 4 ^ l) (hq : q < 4 ^ l) (h : way l o p q = 0) : p = q := by
  have h1 := (PXY l o p ho hp).1
  have h2 := (PXY l o q ho hq).1
  unfold way at h
  rw [show X l o p = X l o q by omega, show Y l o p = Y l o q by omega] at h1
  rw [← h1, h2]
theorem scale (n : Nat) (h : 1 ≤ n) : ∀ l, n < 4 ^ l → ∃ m, m < l ∧ 4 ^ m ≤ n ∧ n ≤ 4 * 4 ^ m
  | 0, h' => by simp at h'; omega
  | l + 1, h' => by
    by_cases hl : n < 4 ^ l
    · obtain ⟨m, a, b, c⟩ := scale n h l hl
      exact ⟨m, by omega, b, c⟩
    · refine ⟨l, by omega, by omega, ?_⟩
      rw [Nat.pow_succ] at h'; omega
/-- THE WAY's BOUND -/
theorem way_sq (l o p q : Nat) (ho : o < 4) (hpq : p < q) (hq : q < 4 ^ l) : (way l o p q + 2) * (way l o p q + 2) ≤ 9 * (q - p) := by
  obtain ⟨m, hm, h1, h2⟩ := scale (q - p) (by omega) l (by omega)
  have h := way_dil l o p q m ho (by omega) hpq hq
  generalize way l o p q + 2 = W at *
  generalize q - p = n at *
  have e4 := four_pow m
  have p2 := pos2 m
  generalize 2 ^ m = S at *
  rw [e4] at h h1 h2
  have hS : 0 < S * S := Nat.mul_pos p2 p2
  have sq : (S * W) * (S * W) ≤ (n + 2 * (S * S)) * (n + 2 * (S * S)) := Nat.mul_le_mul h h
  generalize hT : S * S = T at *
  obtain ⟨d, rfl⟩ : ∃ d, n = T + d := ⟨n - T, by omega⟩
  have hd : d ≤ 3 * T := by omega
  have hdd : d * d ≤ 3 * T * d := Nat.mul_le_mul_right _ hd
  have e1 : (S * W) * (S * W) = T * (W * W) := by rw [← hT, Nat.mul_mul_mul_comm]
  have e2 : (T + d + 2 * T) * (T + d + 2 * T) ≤ T * (9 * (T + d)) := by
    have a1 : (T + d + 2 * T) * (T + d + 2 * T) = 9 * (T * T) + 6 * (T * d) + d * d := by
      rw [show T + d + 2 * T = 3 * T + d by omega, Nat.add_mul, Nat.mul_add, Nat.mul_add, Nat.mul_mul_mul_comm, Nat.mul_comm d (3 * T), Nat.mul_assoc 3 T d]
      omega
    have a2 : T * (9 * (T + d)) = 9 * (T * T) + 9 * (T * d) := by
      rw [Nat.mul_left_comm, Nat.mul_add, Nat.mul_add]
    rw [a1, a2]
    rw [Nat.mul_assoc] at hdd
    omega
  rw [e1] at sq
  exact Nat.le_of_mul_le_mul_left (Nat.le_trans sq e2) hS

/-- no digits: the run of the first cells -/
theorem XY0 : ∀ (m o : Nat), o < 4 → X m o 0 = (if o < 2 then 0 else 2 ^ m - 1) ∧ Y m o 0 = (if o < 2 then 0 else 2 ^ m - 1)
  | 0, o, ho => by simp [X, Y]
  | m + 1, o, ho => by
    have ih := XY0 m (ori o 0) (ori_lt ho (by decide))
    have p := pos2 m
    rw [X, Y, Nat.zero_div, Nat.zero_mod, ih.1, ih.2, Nat.pow_succ]
    rcases cases4 ho with rfl | rfl | rfl | rfl <;> simp [ori, pij] <;> omega
/-- the third quarter's first cell -/
theorem XY2 (m o : Nat) (ho : o < 4) : X (m + 1) o (2 * 4 ^ m) = (if o < 2 then 2 ^ m else 2 ^ m - 1) ∧ Y (m + 1) o (2 * 4 ^ m) = (if o < 2 then 2 ^ m else 2 ^ m - 1) := by
  have p := pos4 m
  have e1 : 2 * 4 ^ m / 4 ^ m = 2 := Nat.mul_div_cancel _ p
  have e2 : 2 * 4 ^ m % 4 ^ m = 0 := Nat.mul_mod_left _ _
  have e3 : ori o 2 = o := by simp [ori]
  have z := XY0 m o ho
  rw [X, Y, e1, e2, e3, z.1, z.2]
  rcases cases4 ho with rfl | rfl | rfl | rfl <;> simp [pij]
/-- the leaf that a cell's number names: place q, then a 2 and noughts -/
@[irreducible] def leafOf (q l : Nat) : Nat := if l < 30 then q * 4 ^ (30 - l) + 2 * 4 ^ (29 - l) else q
theorem leafOf_lt (q l : Nat) (hl : l ≤ 30) (hq : q < 4 ^ l) : leafOf q l < 4 ^ 30 := by
  unfold leafOf
  split
  · have e : (4 : Nat) ^ 30 = 4 ^ l * 4 ^ (30 - l) := by rw [← Nat.pow_add]; congr 1; omega
    have e2 : (4 : Nat) ^ (30 - l) = 4 * 4 ^ (29 - l) := by rw [show 30 - l = (29 - l) + 1 by omega, Nat.pow_succ]; omega
    have h1 : (q + 1) * 4 ^ (30 - l) ≤ 4 ^ l * 4 ^ (30 - l) := Nat.mul_le_mul_right _ hq
    have p := pos4 (29 - l)
    rw [Nat.add_mul] at h1
    omega
  · have : l = 30 := by omega
    subst this; exact hq
theorem leaf_XY (o q l : Nat) (ho : o < 4) (hl : l < 30) (hq : q < 4 ^ l) :
    X 30 o (leafOf q l) = 2 ^ (30 - l) * X l o q + (if O l o q < 2 then 2 ^ (29 - l) else 2 ^ (29 - l) - 1) ∧
    Y 30 o (leafOf q l) = 2 ^ (30 - l) * Y l o q + (if O l o q < 2 then 2 ^ (29 - l) else 2 ^ (29 - l) - 1) := by
  have hlt := leafOf_lt q l (by omega) hq
  have h4 : (4 : Nat) ^ (30 - l) = 4 * 4 ^ (29 - l) := by rw [show 30 - l = (29 - l) + 1 by omega, Nat.pow_succ]; omega
  have p := pos4 (29 - l)
  have e1 : leafOf q l / 4 ^ (30 - l) = q := by
    unfold leafOf; rw [if_pos hl, Nat.mul_comm, Nat.mul_add_div (pos4 _), Nat.div_eq_of_lt (by omega)]; rfl
  have e2 : leafOf q l % 4 ^ (30 - l) = 2 * 4 ^ (29 - l) := by
    unfold leafOf; rw [if_pos hl, Nat.mul_comm, Nat.mul_add_mod, Nat.mod_eq_of_lt (by omega)]
  have s1 := X_split (30 - l) l o (leafOf q l) (by rw [show l + (30 - l) = 30 by omega]; exact hlt)
  have s2 := Y_split (30 - l) l o (leafOf q l) (by rw [show l + (30 - l) = 30 by omega]; exact hlt)
  rw [show l + (30 - l) = 30 by omega, e1, e2] at s1 s2
  have t := XY2 (29 - l) (O l o q) (O_lt l o q ho hq)
  rw [show 29 - l + 1 = 30 - l by omega] at t
  rw [s1, s2, t.1, t.2]
  exact ⟨rfl, rfl⟩
end Mine
/- part M2 -/
set_option maxRecDepth 100000
namespace Mine
open PySem PySem.W PyProof.Rows

/-- the number of a cell: face f, place q, level l -/
@[irreducible] def cid (f q l : Nat) : Nat := 4 ^ (30 - l) * (2 * (f * 4 ^ l + q) + 1)

theorem i4 (k : Nat) : ((4 ^ k : Nat) : Int) = (2 : Int) ^ (2 * k) := by
  rw [show (4 : Nat) ^ k = 2 ^ (2 * k) by rw [Nat.pow_mul]]; exact kbt_cast _
theorem i2 (k : Nat) : ((2 ^ k : Nat) : Int) = (2 : Int) ^ k := kbt_cast k
theorem cidI (f q l : Nat) : ((cid f q l : Nat) : Int) = 2 ^ (2 * (30 - l)) * (2 * ((f * 4 ^ l + q : Nat) : Int) + 1) := by
  unfold cid; rw [Int.natCast_mul, i4]; rfl
theorem cid_lsb (f q l : Nat) : Builtin.bitAnd (cid f q l : Int) (-(cid f q l : Int)) = 2 ^ (2 * (30 - l)) := by
  rw [cidI]; exact kbt_low _ _

theorem odd_mod (A : Int) (m : Int) (hm : 0 < m) : (2 * A + 1) % (2 * m) = 2 * (A % m) + 1 := by
  have h1 := Int.emod_nonneg A (show m ≠ 0 by omega)
  have h2 := Int.emod_lt_of_pos A hm
  have h3 := Int.mul_ediv_add_emod A m
  refine (kbt_unique (q := A / m) (by omega) ?_ (by omega) (by omega)).2
  have : 2 * m * (A / m) = 2 * (m * (A / m)) := by rw [Int.mul_assoc]
  omega
theorem low_mask (k : Nat) (hk : k < 32) (A : Int) : ∃ B : Int, Builtin.bitAnd (2 ^ k * (2 * A + 1)) 4294967295 = 2 ^ k * (2 * B + 1) := by
  have e : (4294967295 : Int) = 2 ^ 32 - 1 := by decide
  rw [e, kbt_mask]
  have h1 : (2 : Int) ^ 32 = 2 ^ k * (2 * 2 ^ (31 - k)) := by
    rw [show (32 : Nat) = k + (1 + (31 - k)) by omega, Int.pow_add, Int.pow_add, Int.pow_one]
  rw [h1, Int.mul_emod_mul_of_pos _ _ (kbt_pos k), odd_mod _ _ (kbt_pos _)]
  exact ⟨_, rfl⟩
theorem low_mask_ne (k : Nat) (hk : k < 32) (A : Int) : Builtin.bitAnd (2 ^ k * (2 * A + 1)) 4294967295 ≠ 0 := by
  obtain ⟨B, e⟩ := low_mask k hk A
  rw [e]
  have := kbt_pos k
  intro h
  rcases Int.mul_eq_zero.mp h with h | h <;> omega
theorem low_low (k : Nat) (hk : k < 32) (A : Int) : Builtin.bitAnd (Builtin.bitAnd (2 ^ k * (2 * A + 1)) 4294967295) (-Builtin.bitAnd (2 ^ k * (2 * A + 1)) 4294967295) = 2 ^ k := by
  obtain ⟨B, e⟩ := low_mask k hk A
  rw [e]; exact kbt_low k B

/-- what the four tests of level say of j -/
def Tests (y : Int) (j : Int) : Prop :=
  (Builtin.bitAnd y 21845 = 0 ∧ j / 8 % 2 = 0 ∨ Builtin.bitAnd y 21845 ≠ 0 ∧ j / 8 % 2 = 1) ∧
  (Builtin.bitAnd y 5570645 = 0 ∧ j / 4 % 2 = 0 ∨ Builtin.bitAnd y 5570645 ≠ 0 ∧ j / 4 % 2 = 1) ∧
  (Builtin.bitAnd y 84215045 = 0 ∧ j / 2 % 2 = 0 ∨ Builtin.bitAnd y 84215045 ≠ 0 ∧ j / 2 % 2 = 1) ∧
  (Builtin.bitAnd y 286331153 = 0 ∧ j % 2 = 0 ∨ Builtin.bitAnd y 286331153 ≠ 0 ∧ j % 2 = 1)
theorem tests_pow : ∀ e < 16, Tests (2 ^ (2 * e)) (15 - (e : Nat)) := by unfold Tests; decide +kernel

theorem lvl_hi (f q l : Nat) (h1 : 15 ≤ l) (h2 : l ≤ 29) : Builtin.bitAnd (cid f q l : Int) 4294967295 ≠ 0 ∧
    Tests (Builtin.bitAnd (Builtin.bitAnd (cid f q l : Int) 4294967295) (-Builtin.bitAnd (cid f q l : Int) 4294967295)) ((l : Int) - 15) := by
  rw [cidI]
  refine ⟨low_mask_ne _ (by omega) _, ?_⟩
  rw [low_low _ (by omega)]
  have := tests_pow (30 - l) (by omega)
  rw [show (15 : Int) - ((30 - l : Nat) : Int) = (l : Int) - 15 by omega] at this
  exact this
theorem lvl_lo (f q l : Nat) (h2 : l < 15) : Builtin.bitAnd (cid f q l : Int) 4294967295 = 0 ∧
    Tests (Builtin.bitAnd (Builtin.bitAnd ((cid f q l : Int).fdiv (2 ^ 32)) 4294967295) (-Builtin.bitAnd ((cid f q l : Int).fdiv (2 ^ 32)) 4294967295)) ((l : Int) + 1) := by
  rw [cidI]
  have e : (2 : Int) ^ (2 * (30 - l)) = 2 ^ 32 * 2 ^ (2 * (30 - l) - 32) := by rw [← Int.pow_add]; congr 1; omega
  have e1 : (4294967295 : Int) = 2 ^ 32 - 1 := by decide
  constructor
  · rw [e1, kbt_mask, e, Int.mul_assoc, Int.mul_emod_right]
  · rw [e, Int.mul_assoc, Int.fdiv_eq_ediv_of_nonneg _ (by decide), Int.mul_ediv_cancel_left _ (by decide), low_low _ (by omega)]
    have := tests_pow (14 - l) (by omega)
    rw [show (15 : Int) - ((14 - l : Nat) : Int) = (l : Int) + 1 by omega, show 2 * (14 - l) = 2 * (30 - l) - 32 by omega] at this
    exact this
theorem leaf_no (f q l : Nat) (h : l ≤ 29) : Builtin.bitAnd (cid f q l : Int) 1 = 0 := by
  rw [bitAnd_m1, cidI]
  have e : (2 : Int) ^ (2 * (30 - l)) = 2 * 2 ^ (2 * (30 - l) - 1) := by
    rw [show 2 * (30 - l) = 1 + (2 * (30 - l) - 1) by omega, Int.pow_add, show 1 + (2 * (30 - l) - 1) - 1 = 2 * (30 - l) - 1 by omega]; rfl
  rw [e, Int.mul_assoc, Int.mul_emod_right]
theorem leaf_yes (f q : Nat) : Builtin.bitAnd (cid f q 30 : Int) 1 = 1 := by
  rw [bitAnd_m1, cidI]
  simp only [Nat.sub_self, Nat.mul_zero, Int.pow_zero]
  omega

theorem cid_nat (f q l : Nat) (hl : l ≤ 30) : cid f q l = f * 2 ^ 61 + 4 ^ (30 - l) * (2 * q + 1) := by
  unfold cid
  have e : (4 : Nat) ^ (30 - l) * 4 ^ l = 4 ^ 30 := by rw [← Nat.pow_add]; congr 1; omega
  have : 4 ^ (30 - l) * (2 * (f * 4 ^ l + q) + 1) = 2 * f * (4 ^ (30 - l) * 4 ^ l) + 4 ^ (30 - l) * (2 * q + 1) := by
    rw [Nat.mul_add, Nat.mul_add (4 ^ (30 - l)) (2 * q) 1, Nat.mul_add 2, Nat.mul_add]
    rw [show 4 ^ (30 - l) * (2 * (f * 4 ^ l)) = 2 * f * (4 ^ (30 - l) * 4 ^ l) by
      rw [Nat.mul_left_comm, Nat.mul_assoc 2 f, Nat.mul_left_comm f]]
    omega
  rw [this, e]
  omega
theorem low_lt (q l : Nat) (hl : l ≤ 30) (hq : q < 4 ^ l) : 4 ^ (30 - l) * (2 * q + 1) < 2 ^ 61 := by
  have e : (4 : Nat) ^ (30 - l) * 4 ^ l = 4 ^ 30 := by rw [← Nat.pow_add]; congr 1; omega
  have h1 : 4 ^ (30 - l) * (2 * q + 1) < 4 ^ (30 - l) * (2 * 4 ^ l) := Nat.mul_lt_mul_of_pos_left (by omega) (pos4 _)
  rw [Nat.mul_left_comm, e] at h1
  omega
theorem cid_face (f q l : Nat) (hl : l ≤ 30) (hq : q < 4 ^ l) : (cid f q l : Int).fdiv (2 ^ 61) = f := by
  rw [Int.fdiv_eq_ediv_of_nonneg _ (by decide), cid_nat f q l hl]
  have := low_lt q l hl hq
  omega
theorem cid_lt (f q l : Nat) (hf : f < 6) (hl : l ≤ 30) (hq : q < 4 ^ l) : cid f q l < 13835058055282163712 := by
  rw [cid_nat f q l hl]
  have := low_lt q l hl hq
  omega
theorem cid_pos (f q l : Nat) (hl : l ≤ 30) (hq : q < 4 ^ l) : Builtin.bitAnd (cid f q l : Int) (2 ^ 61 - 1) = ((4 ^ (30 - l) * (2 * q + 1) : Nat) : Int) := by
  rw [kbt_mask, cid_nat f q l hl]
  have := low_lt q l hl hq
  omega
theorem cid_place (q l : Nat) (hl : l ≤ 30) : ((4 ^ (30 - l) * (2 * q + 1) : Nat) : Int).fdiv (2 ^ (61 - 2 * l)) = (q : Int) := by
  rw [Int.fdiv_eq_ediv_of_nonneg _ (Int.le_of_lt (kbt_pos _)), ← i2]
  have e : (2 : Nat) ^ (61 - 2 * l) = 4 ^ (30 - l) * 2 := by
    rw [show 61 - 2 * l = 2 * (30 - l) + 1 by omega, Nat.pow_succ, Nat.pow_mul]
  rw [e, ← Int.natCast_ediv]
  congr 1
  rw [Nat.mul_div_mul_left _ _ (pos4 _)]
  omega
theorem valid_mask : ∀ l < 31, Builtin.bitAnd (2 ^ (2 * (30 - l))) 1537228672809129301 ≠ 0 := by decide +kernel

theorem or_low (x : Int) (e : Nat) : Builtin.bitOr (2 ^ e * x) (2 ^ e) = 2 ^ e * (2 * (x / 2) + 1) := by
  rw [bitOr_and, kbt_bit, Int.mul_ediv_cancel_left _ (Int.ne_of_gt (kbt_pos e))]
  have h : x = 2 * (x / 2) + x % 2 := by omega
  have h1 : x % 2 = 0 ∨ x % 2 = 1 := by omega
  have h2 : 2 ^ e * x = 2 ^ e * (2 * (x / 2) + x % 2) := by rw [← h]
  rw [h2, Int.mul_add, Int.mul_add, Int.mul_one, Int.mul_comm (x % 2)]
  omega
theorem and_neg (v : Int) (e : Nat) : Builtin.bitAnd v (-2 ^ e) = 2 ^ e * (v / 2 ^ e) := by
  have h : Builtin.bitNot (2 ^ e - 1) = -2 ^ e := by rw [kbt_not]; omega
  rw [← h, bitAnd_not, kbt_mask]
  have := Int.mul_ediv_add_emod v (2 ^ e)
  omega
theorem cid_parent (f q l k : Nat) (hl : l ≤ 30) (hk : k ≤ l) (hq : q < 4 ^ l) :
    Builtin.bitOr (Builtin.bitAnd (cid f q l : Int) (-2 ^ (2 * (30 - k)))) (2 ^ (2 * (30 - k))) = (cid f (q / 4 ^ (l - k)) k : Int) := by
  rw [and_neg, or_low, cidI f (q / 4 ^ (l - k)) k]
  congr 2
  rw [Int.ediv_ediv_of_nonneg (Int.le_of_lt (kbt_pos _))]
  have e1 : (2 : Int) ^ (2 * (30 - k)) * 2 = ((4 ^ (30 - l) * (2 * 4 ^ (l - k)) : Nat) : Int) := by
    rw [← i4]
    have : (4 : Nat) ^ (30 - k) = 4 ^ (30 - l) * 4 ^ (l - k) := by rw [← Nat.pow_add]; congr 1; omega
    rw [this]
    have : 4 ^ (30 - l) * (2 * 4 ^ (l - k)) = 4 ^ (30 - l) * 4 ^ (l - k) * 2 := by rw [Nat.mul_comm 2, Nat.mul_assoc]
    rw [this]; rfl
  rw [e1, ← Int.natCast_ediv]
  congr 1
  unfold cid
  rw [Nat.mul_div_mul_left _ _ (pos4 _), ← Nat.div_div_eq_div_mul, show (2 * (f * 4 ^ l + q) + 1) / 2 = f * 4 ^ l + q by omega]
  have : f * 4 ^ l = 4 ^ (l - k) * (f * 4 ^ k) := by
    rw [Nat.mul_left_comm, ← Nat.pow_add, show l - k + k = l by omega]
  rw [this, Nat.mul_add_div (pos4 _)]
theorem par_lt (q l k : Nat) (hk : k ≤ l) (hq : q < 4 ^ l) : q / 4 ^ (l - k) < 4 ^ k := by
  rw [Nat.div_lt_iff_lt_mul (pos4 _), ← Nat.pow_add, show k + (l - k) = l by omega]; exact hq
end Mine
/- part M5 -/
set_option maxRecDepth 100000
set_option linter.unusedVariables false
namespace Mine
open PySem PySem.W PyProof.Rows
theorem tIJ_parts (o c : Nat) (ho : o < 4) (hc : c < 256) : tIJ (o + 4 * c) / 64 = X 4 o c ∧ tIJ (o + 4 * c) / 4 % 16 = Y 4 o c ∧ tIJ (o + 4 * c) % 4 = O 4 o c := by
  have x := X_lt 4 o c ho hc
  have y := Y_lt 4 o c ho hc
  have z := O_lt 4 o c ho hc
  unfold tIJ
  rw [show (o + 4 * c) % 4 = o by omega, show (o + 4 * c) / 4 = c by omega]
  omega
theorem stage (n o A r : Nat) (ho : o < 4) (hA : A < 4 ^ (n + 4)) (e : r = tIJ (O n o (A / 256) + 4 * (A % 256))) :
    16 * X n o (A / 256) + r / 64 = X (n + 4) o A ∧ 16 * Y n o (A / 256) + r / 4 % 16 = Y (n + 4) o A ∧ r % 4 = O (n + 4) o A := by
  have hq : A / 256 < 4 ^ n := by rw [Nat.div_lt_iff_lt_mul (by decide)]; rw [Nat.pow_add] at hA; exact hA
  have p := tIJ_parts (O n o (A / 256)) (A % 256) (O_lt n o _ ho hq) (by omega)
  have s1 := X_split 4 n o A hA
  have s2 := Y_split 4 n o A hA
  have s3 := O_split 4 n o A hA
  subst e
  rw [p.1, p.2.1, p.2.2, s1, s2, s3]
  exact ⟨rfl, rfl, rfl⟩
theorem cid_half (f q l : Nat) (hl : l ≤ 30) : cid f q l / 2 = f * 4 ^ 30 + leafOf q l := by
  rw [cid_nat f q l hl]
  unfold leafOf
  split
  · have e : (4 : Nat) ^ (30 - l) = 4 * 4 ^ (29 - l) := by rw [show 30 - l = (29 - l) + 1 by omega, Nat.pow_succ]; omega
    rw [e, Nat.mul_add, Nat.mul_left_comm]
    rw [show q * (4 * 4 ^ (29 - l)) = 4 * 4 ^ (29 - l) * q by rw [Nat.mul_comm]]
    omega
  · have : l = 30 := by omega
    subst this
    simp only [Nat.sub_self, Nat.pow_zero, Nat.one_mul]
    omega
theorem turn_b (r c k : Nat) : (Builtin.bitAnd (r : Int) 3 + Builtin.bitAnd ((c : Int).fdiv (2 ^ k)) 255 * 4).toNat = r % 4 + 4 * (c / 2 ^ k % 256) := by
  rw [bitAnd_m2, bitAnd_m8, Int.fdiv_eq_ediv_of_nonneg _ (Int.le_of_lt (kbt_pos k)), ← i2, ← Int.natCast_ediv]
  omega
theorem turn_7 (f c k : Nat) : (Builtin.bitAnd (f : Int) 1 + Builtin.bitAnd ((c : Int).fdiv (2 ^ k)) 15 * 4).toNat = f % 2 + 4 * (c / 2 ^ k % 16) := by
  rw [bitAnd_m1, bitAnd_m4, Int.fdiv_eq_ediv_of_nonneg _ (Int.le_of_lt (kbt_pos k)), ← i2, ← Int.natCast_ediv]
  omega
theorem toface {f q l r7 r6 r5 r4 r3 r2 r1 r0 : Nat} (hl : l ≤ 30) (hq : q < 4 ^ l)
    (e7 : r7 = tIJ (Builtin.bitAnd (f : Int) 1 + Builtin.bitAnd ((cid f q l : Int).fdiv (2 ^ 57)) 15 * 4).toNat)
    (e6 : r6 = tIJ (Builtin.bitAnd (r7 : Int) 3 + Builtin.bitAnd ((cid f q l : Int).fdiv (2 ^ 49)) 255 * 4).toNat)
    (e5 : r5 = tIJ (Builtin.bitAnd (r6 : Int) 3 + Builtin.bitAnd ((cid f q l : Int).fdiv (2 ^ 41)) 255 * 4).toNat)
    (e4 : r4 = tIJ (Builtin.bitAnd (r5 : Int) 3 + Builtin.bitAnd ((cid f q l : Int).fdiv (2 ^ 33)) 255 * 4).toNat)
    (e3 : r3 = tIJ (Builtin.bitAnd (r4 : Int) 3 + Builtin.bitAnd ((cid f q l : Int).fdiv (2 ^ 25)) 255 * 4).toNat)
    (e2 : r2 = tIJ (Builtin.bitAnd (r3 : Int) 3 + Builtin.bitAnd ((cid f q l : Int).fdiv (2 ^ 17)) 255 * 4).toNat)
    (e1 : r1 = tIJ (Builtin.bitAnd (r2 : Int) 3 + Builtin.bitAnd ((cid f q l : Int).fdiv (2 ^ 9)) 255 * 4).toNat)
    (e0 : r0 = tIJ (Builtin.bitAnd (r1 : Int) 3 + Builtin.bitAnd ((cid f q l : Int).fdiv (2 ^ 1)) 255 * 4).toNat) :
    0 + (r7 : Int).fdiv (2 ^ 6) * 2 ^ 28 + (r6 : Int).fdiv (2 ^ 6) * 2 ^ 24 + (r5 : Int).fdiv (2 ^ 6) * 2 ^ 20 + (r4 : Int).fdiv (2 ^ 6) * 2 ^ 16 + (r3 : Int).fdiv (2 ^ 6) * 2 ^ 12 + (r2 : Int).fdiv (2 ^ 6) * 2 ^ 8 + (r1 : Int).fdiv (2 ^ 6) * 2 ^ 4 + (r0 : Int).fdiv (2 ^ 6) * 2 ^ 0 = (X 30 (f % 2) (leafOf q l) : Int) ∧
    0 + Builtin.bitAnd ((r7 : Int).fdiv (2 ^ 2)) 15 * 2 ^ 28 + Builtin.bitAnd ((r6 : Int).fdiv (2 ^ 2)) 15 * 2 ^ 24 + Builtin.bitAnd ((r5 : Int).fdiv (2 ^ 2)) 15 * 2 ^ 20 + Builtin.bitAnd ((r4 : Int).fdiv (2 ^ 2)) 15 * 2 ^ 16 + Builtin.bitAnd ((r3 : Int).fdiv (2 ^ 2)) 15 * 2 ^ 12 + Builtin.bitAnd ((r2 : Int).fdiv (2 ^ 2)) 15 * 2 ^ 8 + Builtin.bitAnd ((r1 : Int).fdiv (2 ^ 2)) 15 * 2 ^ 4 + Builtin.bitAnd ((r0 : Int).fdiv (2 ^ 2)) 15 * 2 ^ 0 = (Y 30 (f % 2) (leafOf q l) : Int) := by
  have hlf := leafOf_lt q l hl hq
  have hh := cid_half f q l hl
  rw [turn_7] at e7
  rw [turn_b] at e6 e5 e4 e3 e2 e1 e0
  generalize cid f q l = c at *
  generalize leafOf q l = z at *
  have ho : f % 2 < 4 := by omega
  have ho2 : f % 2 < 2 := by omega
  generalize f % 2 = o at *
  have c7 : c / 2 ^ 57 % 16 = z / 4 ^ 28 := by omega
  have c6 : c / 2 ^ 49 % 256 = z / 4 ^ 24 % 256 := by omega
  have c5 : c / 2 ^ 41 % 256 = z / 4 ^ 20 % 256 := by omega
  have c4 : c / 2 ^ 33 % 256 = z / 4 ^ 16 % 256 := by omega
  have c3 : c / 2 ^ 25 % 256 = z / 4 ^ 12 % 256 := by omega
  have c2 : c / 2 ^ 17 % 256 = z / 4 ^ 8 % 256 := by omega
  have c1 : c / 2 ^ 9 % 256 = z / 4 ^ 4 % 256 := by omega
  have c0 : c / 2 ^ 1 % 256 = z % 256 := by omega
  rw [c7] at e7; rw [c6] at e6; rw [c5] at e5; rw [c4] at e4; rw [c3] at e3; rw [c2] at e2; rw [c1] at e1; rw [c0] at e0
  clear c7 c6 c5 c4 c3 c2 c1 c0 hh
  have t7 := tIJ_parts o (z / 4 ^ 28) ho (by omega)
  rw [← e7] at t7
  have s6 := stage 4 o (z / 4 ^ 24) r6 ho (by omega) (by rw [show z / 4 ^ 24 / 256 = z / 4 ^ 28 by omega, ← t7.2.2]; exact e6)
  have s5 := stage 8 o (z / 4 ^ 20) r5 ho (by omega) (by rw [show z / 4 ^ 20 / 256 = z / 4 ^ 24 by omega, ← s6.2.2]; exact e5)
  have s4 := stage 12 o (z / 4 ^ 16) r4 ho (by omega) (by rw [show z / 4 ^ 16 / 256 = z / 4 ^ 20 by omega, ← s5.2.2]; exact e4)
  have s3 := stage 16 o (z / 4 ^ 12) r3 ho (by omega) (by rw [show z / 4 ^ 12 / 256 = z / 4 ^ 16 by omega, ← s4.2.2]; exact e3)
  have s2 := stage 20 o (z / 4 ^ 8) r2 ho (by omega) (by rw [show z / 4 ^ 8 / 256 = z / 4 ^ 12 by omega, ← s3.2.2]; exact e2)
  have s1 := stage 24 o (z / 4 ^ 4) r1 ho (by omega) (by rw [show z / 4 ^ 4 / 256 = z / 4 ^ 8 by omega, ← s2.2.2]; exact e1)
  have s0 := stage 28 o z r0 ho (by omega) (by rw [show z / 256 = z / 4 ^ 4 by omega, ← s1.2.2]; exact e0)
  rw [show z / 4 ^ 24 / 256 = z / 4 ^ 28 by omega, ← t7.1, ← t7.2.1] at s6
  rw [show z / 4 ^ 20 / 256 = z / 4 ^ 24 by omega] at s5
  rw [show z / 4 ^ 16 / 256 = z / 4 ^ 20 by omega] at s4
  rw [show z / 4 ^ 12 / 256 = z / 4 ^ 16 by omega] at s3
  rw [show z / 4 ^ 8 / 256 = z / 4 ^ 12 by omega] at s2
  rw [show z / 4 ^ 4 / 256 = z / 4 ^ 8 by omega] at s1
  rw [show z / 256 = z / 4 ^ 4 by omega] at s0
  have ld := X_lead (k := 30) ho2 hlf
  rw [← ld.1, ← ld.2, ← s0.1, ← s0.2.1, ← s1.1, ← s1.2.1, ← s2.1, ← s2.2.1, ← s3.1, ← s3.2.1, ← s4.1, ← s4.2.1, ← s5.1, ← s5.2.1, ← s6.1, ← s6.2.1]
  have fd6 : ∀ r : Nat, (r : Int).fdiv (2 ^ 6) = ((r / 64 : Nat) : Int) := by intro r; rw [Int.fdiv_eq_ediv_of_nonneg _ (by decide)]; omega
  have fd2 : ∀ r : Nat, Builtin.bitAnd ((r : Int).fdiv (2 ^ 2)) 15 = ((r / 4 % 16 : Nat) : Int) := by
    intro r; rw [Int.fdiv_eq_ediv_of_nonneg _ (by decide), bitAnd_m4]; omega
  simp only [fd6, fd2]
  clear s6 s5 s4 s3 s2 s1 s0 t7 e7 e6 e5 e4 e3 e2 e1 e0 fd6 fd2 ld
  constructor <;> omega
/-- the leaf's column and row -/
@[irreducible] def LX (f q l : Nat) : Nat := X 30 (f % 2) (leafOf q l)
@[irreducible] def LY (f q l : Nat) : Nat := Y 30 (f % 2) (leafOf q l)
theorem toface' {f q l r7 r6 r5 r4 r3 r2 r1 r0 : Nat} (hl : l ≤ 30) (hq : q < 4 ^ l)
    (e7 : r7 = tIJ (Builtin.bitAnd (f : Int) 1 + Builtin.bitAnd ((cid f q l : Int).fdiv (2 ^ Int.toNat 57)) 15 * 2 ^ Int.toNat 2).toNat)
    (e6 : r6 = tIJ (Builtin.bitAnd (r7 : Int) 3 + Builtin.bitAnd ((cid f q l : Int).fdiv (2 ^ Int.toNat 49)) 255 * 2 ^ Int.toNat 2).toNat)
    (e5 : r5 = tIJ (Builtin.bitAnd (r6 : Int) 3 + Builtin.bitAnd ((cid f q l : Int).fdiv (2 ^ Int.toNat 41)) 255 * 2 ^ Int.toNat 2).toNat)
    (e4 : r4 = tIJ (Builtin.bitAnd (r5 : Int) 3 + Builtin.bitAnd ((cid f q l : Int).fdiv (2 ^ Int.toNat 33)) 255 * 2 ^ Int.toNat 2).toNat)
    (e3 : r3 = tIJ (Builtin.bitAnd (r4 : Int) 3 + Builtin.bitAnd ((cid f q l : Int).fdiv (2 ^ Int.toNat 25)) 255 * 2 ^ Int.toNat 2).toNat)
    (e2 : r2 = tIJ (Builtin.bitAnd (r3 : Int) 3 + Builtin.bitAnd ((cid f q l : Int).fdiv (2 ^ Int.toNat 17)) 255 * 2 ^ Int.toNat 2).toNat)
    (e1 : r1 = tIJ (Builtin.bitAnd (r2 : Int) 3 + Builtin.bitAnd ((cid f q l : Int).fdiv (2 ^ Int.toNat 9)) 255 * 2 ^ Int.toNat 2).toNat)
    (e0 : r0 = tIJ (Builtin.bitAnd (r1 : Int) 3 + Builtin.bitAnd ((cid f q l : Int).fdiv (2 ^ Int.toNat 1)) 255 * 2 ^ Int.toNat 2).toNat) :
    0 + (r7 : Int).fdiv (2 ^ Int.toNat 6) * 2 ^ Int.toNat 28 + (r6 : Int).fdiv (2 ^ Int.toNat 6) * 2 ^ Int.toNat 24 + (r5 : Int).fdiv (2 ^ Int.toNat 6) * 2 ^ Int.toNat 20 + (r4 : Int).fdiv (2 ^ Int.toNat 6) * 2 ^ Int.toNat 16 + (r3 : Int).fdiv (2 ^ Int.toNat 6) * 2 ^ Int.toNat 12 + (r2 : Int).fdiv (2 ^ Int.toNat 6) * 2 ^ Int.toNat 8 + (r1 : Int).fdiv (2 ^ Int.toNat 6) * 2 ^ Int.toNat 4 + (r0 : Int).fdiv (2 ^ Int.toNat 6) * 2 ^ Int.toNat 0 = (LX f q l : Int) ∧
    0 + Builtin.bitAnd ((r7 : Int).fdiv (2 ^ Int.toNat 2)) 15 * 2 ^ Int.toNat 28 + Builtin.bitAnd ((r6 : Int).fdiv (2 ^ Int.toNat 2)) 15 * 2 ^ Int.toNat 24 + Builtin.bitAnd ((r5 : Int).fdiv (2 ^ Int.toNat 2)) 15 * 2 ^ Int.toNat 20 + Builtin.bitAnd ((r4 : Int).fdiv (2 ^ Int.toNat 2)) 15 * 2 ^ Int.toNat 16 + Builtin.bitAnd ((r3 : Int).fdiv (2 ^ Int.toNat 2)) 15 * 2 ^ Int.toNat 12 + Builtin.bitAnd ((r2 : Int).fdiv (2 ^ Int.toNat 2)) 15 * 2 ^ Int.toNat 8 + Builtin.bitAnd ((r1 : Int).fdiv (2 ^ Int.toNat 2)) 15 * 2 ^ Int.toNat 4 + Builtin.bitAnd ((r0 : Int).fdiv (2 ^ Int.toNat 2)) 15 * 2 ^ Int.toNat 0 = (LY f q l : Int) := by
  have h := toface hl hq e7 e6 e5 e4 e3 e2 e1 e0
  unfold LX LY
  exact h
end Mine
/- part M6 -/
set_option maxRecDepth 100000
set_option linter.unusedVariables false
namespace Mine
open PySem PySem.W PyProof.Rows
theorem xor_par (a b : Int) : Builtin.bitAnd (Builtin.bitXor a b) 1 = (a + b) % 2 := by
  rw [bitAnd_m1, bitXor_and]; omega
theorem cid_quarter (f q l : Nat) (hl : l < 30) : ((cid f q l : Int).fdiv (2 ^ Int.toNat 2)) % 2 = (if l = 29 then 1 else 0) := by
  rw [Int.fdiv_eq_ediv_of_nonneg _ (by decide), show (2 : Int) ^ Int.toNat 2 = 4 by decide]
  unfold cid
  split
  · rename_i h; subst h; simp <;> omega
  · have e : (4 : Nat) ^ (30 - l) = 16 * 4 ^ (28 - l) := by rw [show 30 - l = (28 - l) + 2 by omega, Nat.pow_add]; omega
    rw [e, Nat.mul_assoc]
    generalize 4 ^ (28 - l) * (2 * (f * 4 ^ l + q) + 1) = u
    omega
theorem pw (l : Nat) (hl : l < 30) : (2 : Nat) ^ (30 - l) = 2 * 2 ^ (29 - l) := by rw [show 30 - l = (29 - l) + 1 by omega, Nat.pow_succ]; omega
theorem pw1 (l : Nat) (hl : l ≤ 30) : (2 : Nat) ^ (31 - l) = 2 * 2 ^ (30 - l) := by rw [show 31 - l = (30 - l) + 1 by omega, Nat.pow_succ]; omega
theorem pw29 (l : Nat) (hl : l < 30) : (2 : Nat) ^ (29 - l) % 2 = (if l = 29 then 1 else 0) := by
  split
  · rename_i h; subst h; rfl
  · rw [show 29 - l = (28 - l) + 1 by omega, Nat.pow_succ]; omega
/-- the middle, in halves of leaves -/
def mid (l x : Nat) : Nat := 2 ^ (31 - l) * x + 2 ^ (30 - l)
/-- the middle of a cell -/
@[irreducible] def MX (f q l : Nat) : Nat := mid l (X l (f % 2) q)
@[irreducible] def MY (f q l : Nat) : Nat := mid l (Y l (f % 2) q)
theorem center_lo (f q l : Nat) (hl : l < 30) (hq : q < 4 ^ l) (ho : O l (f % 2) q < 2) :
    Builtin.bitAnd (Builtin.bitXor (LX f q l : Int) ((cid f q l : Int).fdiv (2 ^ Int.toNat 2))) 1 = 0 ∧
    2 * (LX f q l : Int) + 0 = (MX f q l : Int) ∧ 2 * (LY f q l : Int) + 0 = (MY f q l : Int) := by
  unfold LX LY MX MY
  have h := leaf_XY (f % 2) q l (by omega) hl hq
  rw [if_pos ho] at h
  have c := cid_quarter f q l hl
  have p1 := pw l hl
  have p2 := pw1 l (by omega)
  have p3 := pw29 l hl
  rw [xor_par, h.1, h.2]
  unfold mid
  rw [p1, p2, p1]
  have e : ∀ x : Nat, 2 * 2 ^ (29 - l) * x = 2 * (2 ^ (29 - l) * x) := fun x => Nat.mul_assoc _ _ _
  have e' : ∀ x : Nat, 2 * (2 * 2 ^ (29 - l)) * x = 4 * (2 ^ (29 - l) * x) := fun x => by rw [← Nat.mul_assoc, Nat.mul_assoc (2 * 2)]
  rw [e, e, e', e']
  split at c <;> split at p3 <;> omega
theorem center_hi (f q l : Nat) (hl : l < 30) (hq : q < 4 ^ l) (ho : ¬ O l (f % 2) q < 2) :
    Builtin.bitAnd (Builtin.bitXor (LX f q l : Int) ((cid f q l : Int).fdiv (2 ^ Int.toNat 2))) 1 = 1 ∧
    2 * (LX f q l : Int) + 2 = (MX f q l : Int) ∧ 2 * (LY f q l : Int) + 2 = (MY f q l : Int) := by
  unfold LX LY MX MY
  have h := leaf_XY (f % 2) q l (by omega) hl hq
  rw [if_neg ho] at h
  have c := cid_quarter f q l hl
  have p1 := pw l hl
  have p2 := pw1 l (by omega)
  have p3 := pw29 l hl
  have p4 := pos2 (29 - l)
  rw [xor_par, h.1, h.2]
  unfold mid
  rw [p1, p2, p1]
  have e : ∀ x : Nat, 2 * 2 ^ (29 - l) * x = 2 * (2 ^ (29 - l) * x) := fun x => Nat.mul_assoc _ _ _
  have e' : ∀ x : Nat, 2 * (2 * 2 ^ (29 - l)) * x = 4 * (2 ^ (29 - l) * x) := fun x => by rw [← Nat.mul_assoc, Nat.mul_assoc (2 * 2)]
  rw [e, e, e', e']
  split at c <;> split at p3 <;> omega
theorem center_leaf (f q : Nat) : 2 * (LX f q 30 : Int) + 1 = (MX f q 30 : Int) ∧ 2 * (LY f q 30 : Int) + 1 = (MY f q 30 : Int) := by
  unfold LX LY MX MY mid leafOf
  simp
theorem L_small (f q l : Nat) (hl : l ≤ 30) (hq : q < 4 ^ l) : LX f q l < 1073741824 ∧ LY f q l < 1073741824 := by
  unfold LX LY
  have h1 := X_lt 30 (f % 2) _ (by omega) (leafOf_lt q l hl hq)
  have h2 := Y_lt 30 (f % 2) _ (by omega) (leafOf_lt q l hl hq)
  omega
theorem X_small (l o q : Nat) (hl : l ≤ 30) (ho : o < 4) (hq : q < 4 ^ l) : X l o q < 1073741824 ∧ Y l o q < 1073741824 := by
  have := X_lt l o q ho hq
  have := Y_lt l o q ho hq
  have h := Nat.pow_le_pow_right (show 0 < 2 by decide) hl
  omega
theorem mid_lt (l x : Nat) (hl : l ≤ 30) (hx : x < 2 ^ l) : mid l x < 2147483648 := by
  unfold mid
  have e : (2 : Nat) ^ (31 - l) * 2 ^ l = 2 ^ 31 := by rw [← Nat.pow_add]; congr 1; omega
  have h1 : 2 ^ (31 - l) * (x + 1) ≤ 2 ^ (31 - l) * 2 ^ l := Nat.mul_le_mul_left _ hx
  rw [Nat.mul_add] at h1
  have p := pw1 l hl
  have p2 := pos2 (30 - l)
  omega
theorem M_lt (f q l : Nat) (hl : l ≤ 30) (hq : q < 4 ^ l) : MX f q l < 2147483648 ∧ MY f q l < 2147483648 := by
  unfold MX MY
  exact ⟨mid_lt l _ hl (X_lt l _ q (by omega) hq), mid_lt l _ hl (Y_lt l _ q (by omega) hq)⟩
/-- the way, as the law reckons it -/
theorem way_mid (l o p q : Nat) (hl : l ≤ 30) :
    (((mid l (X l o p) : Int) - (mid l (X l o q) : Int)).natAbs + ((mid l (Y l o p) : Int) - (mid l (Y l o q) : Int)).natAbs : Int).fdiv (2 ^ (31 - l)) = (way l o p q : Int) := by
  rw [Int.fdiv_eq_ediv_of_nonneg _ (Int.le_of_lt (kbt_pos _)), ← i2]
  have e : ((mid l (X l o p) : Int) - (mid l (X l o q) : Int)).natAbs + ((mid l (Y l o p) : Int) - (mid l (Y l o q) : Int)).natAbs = 2 ^ (31 - l) * way l o p q := by
    unfold mid way
    generalize X l o p = a
    generalize X l o q = b
    generalize Y l o p = c
    generalize Y l o q = d
    have k : ∀ u v : Nat, ((((2 ^ (31 - l) * u + 2 ^ (30 - l) : Nat) : Int) - ((2 ^ (31 - l) * v + 2 ^ (30 - l) : Nat) : Int)).natAbs) = 2 ^ (31 - l) * (u - v + (v - u)) := by
      intro u v
      rcases Nat.le_total u v with h | h
      · have := Nat.mul_le_mul_left (2 ^ (31 - l)) h
        rw [show u - v + (v - u) = v - u by omega, Nat.mul_sub]; omega
      · have := Nat.mul_le_mul_left (2 ^ (31 - l)) h
        rw [show u - v + (v - u) = u - v by omega, Nat.mul_sub]; omega
    rw [k, k, ← Nat.mul_add]
  rw [← Int.natCast_add, e, ← Int.natCast_ediv, Nat.mul_div_cancel_left _ (pos2 _)]
/-- a middle lies half a side from the sides; its cell's number -/
theorem mid_mod (l x : Nat) (hl : l ≤ 30) : mid l x % 2 ^ (31 - l) = 2 ^ (30 - l) ∧ mid l x / 2 ^ (31 - l) = x := by
  have p := pw1 l hl
  have p2 := pos2 (30 - l)
  unfold mid
  constructor
  · rw [Nat.mul_add_mod, Nat.mod_eq_of_lt (by omega)]
  · rw [Nat.mul_add_div (by omega), Nat.div_eq_of_lt (by omega)]; rfl
end Mine
/- part M7 -/
set_option maxRecDepth 100000
set_option linter.unusedVariables false
namespace Mine
open PySem PySem.W PyProof.Rows
theorem bitOr_add (a b k : Nat) (hb : b < 2 ^ k) : Builtin.bitOr ((2 ^ k * a : Nat) : Int) (b : Int) = ((2 ^ k * a + b : Nat) : Int) := by
  rw [bitOr_and, bitAnd_pp (by omega) (by omega)]
  have : (2 ^ k * a) &&& b = 0 := by
    apply Nat.eq_of_testBit_eq
    intro i
    rw [Nat.testBit_and, Nat.testBit_two_pow_mul, Nat.zero_testBit]
    by_cases h : k ≤ i
    · have hb2 : b.testBit i = false := Nat.testBit_lt_two_pow (Nat.lt_of_lt_of_le hb (Nat.pow_le_pow_right (by decide) h))
      rw [hb2, Bool.and_false]
    · simp [h]
  rw [Int.toNat_natCast, Int.toNat_natCast, this]
  omega
theorem tPOS_parts (o i j : Nat) (ho : o < 4) (hi : i < 16) (hj : j < 16) : tPOS (o + 4 * j + 64 * i) / 4 = P 4 o i j ∧ tPOS (o + 4 * j + 64 * i) % 4 = OP 4 o i j ∧ P 4 o i j < 256 := by
  have p := P_lt 4 o i j ho hi hj
  unfold tPOS
  rw [show (o + 4 * j + 64 * i) % 4 = o by omega, show (o + 4 * j + 64 * i) / 64 = i by omega, show (o + 4 * j + 64 * i) / 4 % 16 = j by omega]
  omega
theorem stageP (n o i j r : Nat) (ho : o < 4) (hi : i < 2 ^ (n + 4)) (hj : j < 2 ^ (n + 4)) (e : r = tPOS (OP n o (i / 16) (j / 16) + 4 * (j % 16) + 64 * (i % 16))) :
    256 * P n o (i / 16) (j / 16) + r / 4 = P (n + 4) o i j ∧ r % 4 = OP (n + 4) o i j ∧ r / 4 < 256 := by
  have hi2 : i / 16 < 2 ^ n := by rw [Nat.div_lt_iff_lt_mul (by decide)]; rw [Nat.pow_add] at hi; exact hi
  have hj2 : j / 16 < 2 ^ n := by rw [Nat.div_lt_iff_lt_mul (by decide)]; rw [Nat.pow_add] at hj; exact hj
  have p := tPOS_parts (OP n o (i / 16) (j / 16)) (i % 16) (j % 16) (P_lt n o _ _ ho hi2 hj2).2 (by omega) (by omega)
  have s := P_split 4 n o i j hi hj
  subst e
  rw [p.1, p.2.1, s.1, s.2]
  rw [Nat.mul_comm 256]
  exact ⟨rfl, rfl, p.2.2⟩
theorem fin4 : ∀ o < 2, ijp o 0 = 0 ∧ ori o 0 < 2 ∧ ori (ori o 0) 0 = o := by decide
theorem P_lead {k o i j : Nat} (ho : o < 2) (hi : i < 2 ^ k) (hj : j < 2 ^ k) : P (k + 2) o i j = P k o i j ∧ OP (k + 2) o i j = OP k o i j := by
  obtain ⟨h1, h2, h3⟩ := fin4 o ho
  obtain ⟨g1, _, _⟩ := fin4 (ori o 0) h2
  have l1 : (2 : Nat) ^ k ≤ 2 ^ (k + 1) := Nat.pow_le_pow_right (by decide) (by omega)
  have z : ∀ x, x < 2 ^ k → x / 2 ^ (k + 1) = 0 ∧ x / 2 ^ k = 0 ∧ x % 2 ^ (k + 1) = x ∧ x % 2 ^ k = x := fun x hx =>
    ⟨Nat.div_eq_of_lt (by omega), Nat.div_eq_of_lt hx, Nat.mod_eq_of_lt (by omega), Nat.mod_eq_of_lt hx⟩
  obtain ⟨a1, a2, a3, a4⟩ := z i hi
  obtain ⟨b1, b2, b3, b4⟩ := z j hj
  rw [P_succ (k + 1), OP_succ (k + 1), a1, b1, a3, b3, P_succ k, OP_succ k, a2, b2, a4, b4]
  simp only [Nat.mul_zero, Nat.add_zero, h1, g1, h3, Nat.zero_mul, Nat.zero_add, and_self]
theorem turn_p (r i j k : Nat) : (Builtin.bitAnd (r : Int) 3 + Builtin.bitAnd ((i : Int).fdiv (2 ^ k)) 15 * 64 + Builtin.bitAnd ((j : Int).fdiv (2 ^ k)) 15 * 4).toNat = r % 4 + 4 * (j / 2 ^ k % 16) + 64 * (i / 2 ^ k % 16) := by
  rw [bitAnd_m2, bitAnd_m4, bitAnd_m4, Int.fdiv_eq_ediv_of_nonneg _ (Int.le_of_lt (kbt_pos k)), Int.fdiv_eq_ediv_of_nonneg _ (Int.le_of_lt (kbt_pos k)), ← i2, ← Int.natCast_ediv, ← Int.natCast_ediv]
  omega
theorem turn_p7 (r i j k : Nat) : (Builtin.bitAnd (r : Int) 1 + Builtin.bitAnd ((i : Int).fdiv (2 ^ k)) 15 * 64 + Builtin.bitAnd ((j : Int).fdiv (2 ^ k)) 15 * 4).toNat = r % 2 + 4 * (j / 2 ^ k % 16) + 64 * (i / 2 ^ k % 16) := by
  rw [bitAnd_m1, bitAnd_m4, bitAnd_m4, Int.fdiv_eq_ediv_of_nonneg _ (Int.le_of_lt (kbt_pos k)), Int.fdiv_eq_ediv_of_nonneg _ (Int.le_of_lt (kbt_pos k)), ← i2, ← Int.natCast_ediv, ← Int.natCast_ediv]
  omega
/-- the leaf of a column and row -/
@[irreducible] def PP (f i j : Nat) : Nat := P 30 (f % 2) i j
theorem fromij0 {f i j r7 r6 r5 r4 r3 r2 r1 r0 : Nat} (hi : i < 1073741824) (hj : j < 1073741824)
    (e7 : r7 = tPOS (Builtin.bitAnd (f : Int) 1 + Builtin.bitAnd ((i : Int).fdiv (2 ^ 28)) 15 * 64 + Builtin.bitAnd ((j : Int).fdiv (2 ^ 28)) 15 * 4).toNat)
    (e6 : r6 = tPOS (Builtin.bitAnd (r7 : Int) 3 + Builtin.bitAnd ((i : Int).fdiv (2 ^ 24)) 15 * 64 + Builtin.bitAnd ((j : Int).fdiv (2 ^ 24)) 15 * 4).toNat)
    (e5 : r5 = tPOS (Builtin.bitAnd (r6 : Int) 3 + Builtin.bitAnd ((i : Int).fdiv (2 ^ 20)) 15 * 64 + Builtin.bitAnd ((j : Int).fdiv (2 ^ 20)) 15 * 4).toNat)
    (e4 : r4 = tPOS (Builtin.bitAnd (r5 : Int) 3 + Builtin.bitAnd ((i : Int).fdiv (2 ^ 16)) 15 * 64 + Builtin.bitAnd ((j : Int).fdiv (2 ^ 16)) 15 * 4).toNat)
    (e3 : r3 = tPOS (Builtin.bitAnd (r4 : Int) 3 + Builtin.bitAnd ((i : Int).fdiv (2 ^ 12)) 15 * 64 + Builtin.bitAnd ((j : Int).fdiv (2 ^ 12)) 15 * 4).toNat)
    (e2 : r2 = tPOS (Builtin.bitAnd (r3 : Int) 3 + Builtin.bitAnd ((i : Int).fdiv (2 ^ 8)) 15 * 64 + Builtin.bitAnd ((j : Int).fdiv (2 ^ 8)) 15 * 4).toNat)
    (e1 : r1 = tPOS (Builtin.bitAnd (r2 : Int) 3 + Builtin.bitAnd ((i : Int).fdiv (2 ^ 4)) 15 * 64 + Builtin.bitAnd ((j : Int).fdiv (2 ^ 4)) 15 * 4).toNat)
    (e0 : r0 = tPOS (Builtin.bitAnd (r1 : Int) 3 + Builtin.bitAnd ((i : Int).fdiv (2 ^ 0)) 15 * 64 + Builtin.bitAnd ((j : Int).fdiv (2 ^ 0)) 15 * 4).toNat) :
    Builtin.bitOr (Builtin.bitOr (Builtin.bitOr (Builtin.bitOr (Builtin.bitOr (Builtin.bitOr (Builtin.bitOr (Builtin.bitOr ((f : Int) * 2 ^ 60) ((r7 : Int).fdiv (2 ^ 2) * 2 ^ 56)) ((r6 : Int).fdiv (2 ^ 2) * 2 ^ 48)) ((r5 : Int).fdiv (2 ^ 2) * 2 ^ 40)) ((r4 : Int).fdiv (2 ^ 2) * 2 ^ 32)) ((r3 : Int).fdiv (2 ^ 2) * 2 ^ 24)) ((r2 : Int).fdiv (2 ^ 2) * 2 ^ 16)) ((r1 : Int).fdiv (2 ^ 2) * 2 ^ 8)) ((r0 : Int).fdiv (2 ^ 2) * 2 ^ 0) * 2 + 1 = (cid f (PP f i j) 30 : Int) := by
  rw [turn_p7] at e7
  rw [turn_p] at e6 e5 e4 e3 e2 e1 e0
  have ho : f % 2 < 4 := by omega
  have ho2 : f % 2 < 2 := by omega
  have q7 : i / 2 ^ 28 % 16 = i / 2 ^ 28 ∧ j / 2 ^ 28 % 16 = j / 2 ^ 28 := by omega
  rw [q7.1, q7.2] at e7
  have t7 := tPOS_parts (f % 2) (i / 2 ^ 28) (j / 2 ^ 28) ho (by omega) (by omega)
  rw [← e7] at t7
  have l7 := P_lead (k := 2) ho2 (show i / 2 ^ 28 < 2 ^ 2 by omega) (show j / 2 ^ 28 < 2 ^ 2 by omega)
  have b7 := (P_lt 2 (f % 2) (i / 2 ^ 28) (j / 2 ^ 28) ho (by omega) (by omega)).1
  have s6 := stageP 4 (f % 2) (i / 2 ^ 24) (j / 2 ^ 24) r6 ho (by omega) (by omega) (by rw [show i / 2 ^ 24 / 16 = i / 2 ^ 28 by omega, show j / 2 ^ 24 / 16 = j / 2 ^ 28 by omega, ← t7.2.1]; exact e6)
  have s5 := stageP 8 (f % 2) (i / 2 ^ 20) (j / 2 ^ 20) r5 ho (by omega) (by omega) (by rw [show i / 2 ^ 20 / 16 = i / 2 ^ 24 by omega, show j / 2 ^ 20 / 16 = j / 2 ^ 24 by omega, ← s6.2.1]; exact e5)
  have s4 := stageP 12 (f % 2) (i / 2 ^ 16) (j / 2 ^ 16) r4 ho (by omega) (by omega) (by rw [show i / 2 ^ 16 / 16 = i / 2 ^ 20 by omega, show j / 2 ^ 16 / 16 = j / 2 ^ 20 by omega, ← s5.2.1]; exact e4)
  have s3 := stageP 16 (f % 2) (i / 2 ^ 12) (j / 2 ^ 12) r3 ho (by omega) (by omega) (by rw [show i / 2 ^ 12 / 16 = i / 2 ^ 16 by omega, show j / 2 ^ 12 / 16 = j / 2 ^ 16 by omega, ← s4.2.1]; exact e3)
  have s2 := stageP 20 (f % 2) (i / 2 ^ 8) (j / 2 ^ 8) r2 ho (by omega) (by omega) (by rw [show i / 2 ^ 8 / 16 = i / 2 ^ 12 by omega, show j / 2 ^ 8 / 16 = j / 2 ^ 12 by omega, ← s3.2.1]; exact e2)
  have s1 := stageP 24 (f % 2) (i / 2 ^ 4) (j / 2 ^ 4) r1 ho (by omega) (by omega) (by rw [show i / 2 ^ 4 / 16 = i / 2 ^ 8 by omega, show j / 2 ^ 4 / 16 = j / 2 ^ 8 by omega, ← s2.2.1]; exact e1)
  have s0 := stageP 28 (f % 2) (i / 2 ^ 0) (j / 2 ^ 0) r0 ho (by omega) (by omega) (by rw [show i / 2 ^ 0 / 16 = i / 2 ^ 4 by omega, show j / 2 ^ 0 / 16 = j / 2 ^ 4 by omega, ← s1.2.1]; exact e0)
  rw [show i / 2 ^ 24 / 16 = i / 2 ^ 28 by omega, show j / 2 ^ 24 / 16 = j / 2 ^ 28 by omega, ← t7.1] at s6
  rw [show i / 2 ^ 20 / 16 = i / 2 ^ 24 by omega, show j / 2 ^ 20 / 16 = j / 2 ^ 24 by omega] at s5
  rw [show i / 2 ^ 16 / 16 = i / 2 ^ 20 by omega, show j / 2 ^ 16 / 16 = j / 2 ^ 20 by omega] at s4
  rw [show i / 2 ^ 12 / 16 = i / 2 ^ 16 by omega, show j / 2 ^ 12 / 16 = j / 2 ^ 16 by omega] at s3
  rw [show i / 2 ^ 8 / 16 = i / 2 ^ 12 by omega, show j / 2 ^ 8 / 16 = j / 2 ^ 12 by omega] at s2
  rw [show i / 2 ^ 4 / 16 = i / 2 ^ 8 by omega, show j / 2 ^ 4 / 16 = j / 2 ^ 8 by omega] at s1
  rw [show i / 2 ^ 0 / 16 = i / 2 ^ 4 by omega, show j / 2 ^ 0 / 16 = j / 2 ^ 4 by omega, show i / 2 ^ 0 = i by omega, show j / 2 ^ 0 = j by omega] at s0
  have ld := P_lead (k := 30) ho2 hi hj
  have fd2 : ∀ r : Nat, (r : Int).fdiv (2 ^ 2) = ((r / 4 : Nat) : Int) := by intro r; rw [Int.fdiv_eq_ediv_of_nonneg _ (by decide)]; omega
  simp only [fd2]
  rw [l7.1] at t7
  have c7 : r7 / 4 < 16 := by rw [t7.1]; exact b7
  have c6 := s6.2.2; have c5 := s5.2.2; have c4 := s4.2.2; have c3 := s3.2.2; have c2 := s2.2.2; have c1 := s1.2.2; have c0 := s0.2.2
  have tot : PP f i j = r7 / 4 * 2 ^ 56 + r6 / 4 * 2 ^ 48 + r5 / 4 * 2 ^ 40 + r4 / 4 * 2 ^ 32 + r3 / 4 * 2 ^ 24 + r2 / 4 * 2 ^ 16 + r1 / 4 * 2 ^ 8 + r0 / 4 := by
    unfold PP
    rw [← ld.1, ← s0.1, ← s1.1, ← s2.1, ← s3.1, ← s4.1, ← s5.1, ← s6.1]
    omega
  rw [cid_nat _ _ _ (by omega), tot]
  generalize r7 / 4 = d7 at *; generalize r6 / 4 = d6 at *; generalize r5 / 4 = d5 at *; generalize r4 / 4 = d4 at *
  generalize r3 / 4 = d3 at *; generalize r2 / 4 = d2 at *; generalize r1 / 4 = d1 at *; generalize r0 / 4 = d0 at *
  clear e7 e6 e5 e4 e3 e2 e1 e0 s6 s5 s4 s3 s2 s1 s0 t7 fd2 tot ld l7 b7 q7
  have step : ∀ (A d k : Nat), d < 2 ^ 8 → Builtin.bitOr ((2 ^ (k + 8) * A : Nat) : Int) ((d : Int) * 2 ^ k) = ((2 ^ k * (2 ^ 8 * A + d) : Nat) : Int) := by
    intro A d k hd
    have := bitOr_add A (2 ^ k * d) (k + 8) (by rw [Nat.pow_add]; exact Nat.mul_lt_mul_of_pos_left hd (pos2 k))
    rw [show (d : Int) * 2 ^ k = ((2 ^ k * d : Nat) : Int) by rw [← i2, Nat.mul_comm]; rfl, this, Nat.mul_add, ← Nat.mul_assoc, ← Nat.pow_add]
  have s7 : Builtin.bitOr ((f : Int) * 2 ^ 60) ((d7 : Int) * 2 ^ 56) = ((2 ^ 56 * (16 * f + d7) : Nat) : Int) := by
    have := bitOr_add f (2 ^ 56 * d7) 60 (by omega)
    rw [show (f : Int) * 2 ^ 60 = ((2 ^ 60 * f : Nat) : Int) by omega, show (d7 : Int) * 2 ^ 56 = ((2 ^ 56 * d7 : Nat) : Int) by omega, this]
    omega
  rw [s7, step _ d6 48 c6, step _ d5 40 c5, step _ d4 32 c4, step _ d3 24 c3, step _ d2 16 c2, step _ d1 8 c1, step _ d0 0 c0]
  omega
theorem fromij {f i j r7 r6 r5 r4 r3 r2 r1 r0 : Nat} (hi : i < 1073741824) (hj : j < 1073741824)
    (e7 : r7 = tPOS (Builtin.bitAnd (f : Int) 1 + Builtin.bitAnd ((i : Int).fdiv (2 ^ Int.toNat 28)) 15 * 2 ^ Int.toNat 6 + Builtin.bitAnd ((j : Int).fdiv (2 ^ Int.toNat 28)) 15 * 2 ^ Int.toNat 2).toNat)
    (e6 : r6 = tPOS (Builtin.bitAnd (r7 : Int) 3 + Builtin.bitAnd ((i : Int).fdiv (2 ^ Int.toNat 24)) 15 * 2 ^ Int.toNat 6 + Builtin.bitAnd ((j : Int).fdiv (2 ^ Int.toNat 24)) 15 * 2 ^ Int.toNat 2).toNat)
    (e5 : r5 = tPOS (Builtin.bitAnd (r6 : Int) 3 + Builtin.bitAnd ((i : Int).fdiv (2 ^ Int.toNat 20)) 15 * 2 ^ Int.toNat 6 + Builtin.bitAnd ((j : Int).fdiv (2 ^ Int.toNat 20)) 15 * 2 ^ Int.toNat 2).toNat)
    (e4 : r4 = tPOS (Builtin.bitAnd (r5 : Int) 3 + Builtin.bitAnd ((i : Int).fdiv (2 ^ Int.toNat 16)) 15 * 2 ^ Int.toNat 6 + Builtin.bitAnd ((j : Int).fdiv (2 ^ Int.toNat 16)) 15 * 2 ^ Int.toNat 2).toNat)
    (e3 : r3 = tPOS (Builtin.bitAnd (r4 : Int) 3 + Builtin.bitAnd ((i : Int).fdiv (2 ^ Int.toNat 12)) 15 * 2 ^ Int.toNat 6 + Builtin.bitAnd ((j : Int).fdiv (2 ^ Int.toNat 12)) 15 * 2 ^ Int.toNat 2).toNat)
    (e2 : r2 = tPOS (Builtin.bitAnd (r3 : Int) 3 + Builtin.bitAnd ((i : Int).fdiv (2 ^ Int.toNat 8)) 15 * 2 ^ Int.toNat 6 + Builtin.bitAnd ((j : Int).fdiv (2 ^ Int.toNat 8)) 15 * 2 ^ Int.toNat 2).toNat)
    (e1 : r1 = tPOS (Builtin.bitAnd (r2 : Int) 3 + Builtin.bitAnd ((i : Int).fdiv (2 ^ Int.toNat 4)) 15 * 2 ^ Int.toNat 6 + Builtin.bitAnd ((j : Int).fdiv (2 ^ Int.toNat 4)) 15 * 2 ^ Int.toNat 2).toNat)
    (e0 : r0 = tPOS (Builtin.bitAnd (r1 : Int) 3 + Builtin.bitAnd ((i : Int).fdiv (2 ^ Int.toNat 0)) 15 * 2 ^ Int.toNat 6 + Builtin.bitAnd ((j : Int).fdiv (2 ^ Int.toNat 0)) 15 * 2 ^ Int.toNat 2).toNat) :
    Builtin.bitOr (Builtin.bitOr (Builtin.bitOr (Builtin.bitOr (Builtin.bitOr (Builtin.bitOr (Builtin.bitOr (Builtin.bitOr ((f : Int) * 2 ^ Int.toNat 60) ((r7 : Int).fdiv (2 ^ Int.toNat 2) * 2 ^ Int.toNat 56)) ((r6 : Int).fdiv (2 ^ Int.toNat 2) * 2 ^ Int.toNat 48)) ((r5 : Int).fdiv (2 ^ Int.toNat 2) * 2 ^ Int.toNat 40)) ((r4 : Int).fdiv (2 ^ Int.toNat 2) * 2 ^ Int.toNat 32)) ((r3 : Int).fdiv (2 ^ Int.toNat 2) * 2 ^ Int.toNat 24)) ((r2 : Int).fdiv (2 ^ Int.toNat 2) * 2 ^ Int.toNat 16)) ((r1 : Int).fdiv (2 ^ Int.toNat 2) * 2 ^ Int.toNat 8)) ((r0 : Int).fdiv (2 ^ Int.toNat 2) * 2 ^ Int.toNat 0) * 2 + 1 = (cid f (PP f i j) 30 : Int) := by
  have h := fromij0 hi hj e7 e6 e5 e4 e3 e2 e1 e0
  exact h
end Mine
/- part M8 -/
namespace Mine
theorem P_div (l o i j : Nat) (hl : l ≤ 30) (ho : o < 4) (hi : i < 1073741824) (hj : j < 1073741824) : P 30 o i j / 4 ^ (30 - l) = P l o (i / 2 ^ (30 - l)) (j / 2 ^ (30 - l)) := by
  have e : l + (30 - l) = 30 := by omega
  have hi' : i < 2 ^ (l + (30 - l)) := by rw [e]; exact hi
  have hj' : j < 2 ^ (l + (30 - l)) := by rw [e]; exact hj
  have h := (P_split (30 - l) l o i j hi' hj').1
  rw [e] at h
  have i1 : i / 2 ^ (30 - l) < 2 ^ l := by rw [Nat.div_lt_iff_lt_mul (Nat.two_pow_pos _), ← Nat.pow_add]; exact hi'
  have j1 : j / 2 ^ (30 - l) < 2 ^ l := by rw [Nat.div_lt_iff_lt_mul (Nat.two_pow_pos _), ← Nat.pow_add]; exact hj'
  have lt := (P_lt (30 - l) (OP l o (i / 2 ^ (30 - l)) (j / 2 ^ (30 - l))) (i % 2 ^ (30 - l)) (j % 2 ^ (30 - l)) (P_lt l o _ _ ho i1 j1).2 (Nat.mod_lt _ (Nat.two_pow_pos _)) (Nat.mod_lt _ (Nat.two_pow_pos _))).1
  rw [h, Nat.mul_comm, Nat.mul_add_div (Nat.pow_pos (by decide)), Nat.div_eq_of_lt lt, Nat.add_zero]
theorem LX_div (f q l : Nat) (hl : l ≤ 30) (hq : q < 4 ^ l) : LX f q l / 2 ^ (30 - l) = X l (f % 2) q ∧ LY f q l / 2 ^ (30 - l) = Y l (f % 2) q := by
  unfold LX LY
  by_cases h : l < 30
  · obtain ⟨e1, e2⟩ := leaf_XY (f % 2) q l (by omega) h hq
    have p2 : (2 : Nat) ^ (30 - l) = 2 * 2 ^ (29 - l) := by rw [show 30 - l = (29 - l) + 1 by omega, Nat.pow_succ]; omega
    have pp : 0 < (2 : Nat) ^ (29 - l) := Nat.two_pow_pos _
    rw [e1, e2, Nat.mul_add_div (Nat.two_pow_pos _), Nat.mul_add_div (Nat.two_pow_pos _)]
    have z : (if O l (f % 2) q < 2 then 2 ^ (29 - l) else 2 ^ (29 - l) - 1) / 2 ^ (30 - l) = 0 := Nat.div_eq_of_lt (by split <;> omega)
    rw [z]; exact ⟨Nat.add_zero _, Nat.add_zero _⟩
  · have e : l = 30 := by omega
    subst e
    unfold leafOf
    rw [if_neg (by decide)]
    simp
theorem step_up (i s l : Nat) (hl : l ≤ 30) (hs : s = 2 ^ (30 - l)) (x : Nat) (hx : i / s = x) : (i + s) / s = x + 1 ∧ (i + s < 1073741824 ↔ x + 1 < 2 ^ l) := by
  have ps : 0 < s := by rw [hs]; exact Nat.two_pow_pos _
  have e : (1073741824 : Nat) = 2 ^ l * s := by rw [hs, ← Nat.pow_add]; rw [show l + (30 - l) = 30 by omega]
  have h1 : (i + s) / s = x + 1 := by rw [Nat.add_div_right _ ps, hx]
  refine ⟨h1, ?_⟩
  rw [e, ← Nat.div_lt_iff_lt_mul ps, h1]
theorem step_down (i s x : Nat) (ps : 0 < s) (hx : i / s = x) : (s ≤ i ↔ 0 < x) ∧ (s ≤ i → (i - s) / s = x - 1) := by
  refine ⟨?_, fun h => ?_⟩
  · rw [← hx, Nat.div_pos_iff]; omega
  · have e := Nat.add_div_right (i - s) ps
    rw [Nat.sub_add_cancel h] at e
    rw [← hx, e]; rfl
end Mine
/- part M9 -/
namespace Mine
theorem near_one {l o q x y : Nat} (ho : o < 4) (hx : x < 2 ^ l) (hy : y < 2 ^ l) (h : (x = X l o q ∧ (y = Y l o q + 1 ∨ Y l o q = y + 1)) ∨ (y = Y l o q ∧ (x = X l o q + 1 ∨ X l o q = x + 1))) : way l o q (P l o x y) = 1 := by
  obtain ⟨e1, e2⟩ := XYP l o x y ho hx hy
  unfold way
  rw [e1, e2]
  omega
theorem near_odd {l o q q' : Nat} (ho : o < 4) (hq : q < 4 ^ l) (hq' : q' < 4 ^ l) (h : way l o q q' = 1) : (q + q') % 2 = 1 := by
  rcases Nat.le_total q q' with hle | hle
  · have := (way_walk l o q q' ho hle hq').2; omega
  · have := (way_walk l o q' q ho hle hq).2
    rw [way_comm] at this; omega
theorem P_inj {l o x y x' y' : Nat} (ho : o < 4) (hx : x < 2 ^ l) (hy : y < 2 ^ l) (hx' : x' < 2 ^ l) (hy' : y' < 2 ^ l) (e : P l o x y = P l o x' y') : x = x' ∧ y = y' := by
  have h1 := XYP l o x y ho hx hy
  have h2 := XYP l o x' y' ho hx' hy'
  rw [e] at h1
  exact ⟨h1.1.symm.trans h2.1, h1.2.symm.trans h2.2⟩
end Mine
/- part M10 -/
namespace Mine
theorem div_near {p q s : Nat} (hs : 0 < s) (h1 : p ≤ q) (h2 : q ≤ p + s) : p / s ≤ q / s ∧ q / s ≤ p / s + 1 := by
  refine ⟨Nat.div_le_div_right h1, ?_⟩
  have := Nat.div_le_div_right (c := s) h2
  rw [Nat.add_div_right _ hs] at this
  exact this
theorem up_way {l o k p q : Nat} (ho : o < 4) (hk : k ≤ l) (hq : q < 4 ^ l) (h1 : p ≤ q) (h2 : q ≤ p + 4 ^ k) : way (l - k) o (p / 4 ^ k) (q / 4 ^ k) ≤ 1 := by
  obtain ⟨a, b⟩ := div_near (Nat.pow_pos (by decide) : 0 < 4 ^ k) h1 h2
  have hq' : q / 4 ^ k < 4 ^ (l - k) := by
    rw [Nat.div_lt_iff_lt_mul (Nat.pow_pos (by decide)), ← Nat.pow_add, Nat.sub_add_cancel hk]; exact hq
  have := (way_walk (l - k) o (p / 4 ^ k) (q / 4 ^ k) ho a hq').1
  omega
end Mine
/- part M11 -/
namespace Mine
theorem sq_int (a : Nat) : ((a : Int) + 2) ^ (Int.toNat 2) = ((a + 2) * (a + 2) : Nat) := by
  show ((a : Int) + 2) ^ 2 = _
  rw [Int.pow_succ, Int.pow_succ, Int.pow_zero, Int.one_mul]; push_cast; rfl
theorem big_one {o q q' l n : Nat} (ho : o < 4) (hl : l ≤ 30) (hq' : q' < 4 ^ l) (h1 : 1 ≤ n) (hd : q' = q + n) : way l o q q' < 1152921504606846976 ∧ (way l o q q' + 2) * (way l o q q' + 2) ≤ 9 * n ∧ 1 ≤ way l o q q' ∧ (way l o q q' + n) % 2 = 0 := by
  have a := way_sq l o q q' ho (by omega) hq'
  have b := way_walk l o q q' ho (by omega) hq'
  have e : q' - q = n := by omega
  rw [e] at a b
  have h30 : 4 ^ l ≤ 4 ^ 30 := Nat.pow_le_pow_right (by decide) hl
  refine ⟨by omega, a, ?_, b.2⟩
  refine Nat.one_le_iff_ne_zero.mpr fun h => ?_
  have := way_pos l o q q' ho (by omega) hq' h
  omega
theorem big_facts {f q q' l : Nat} {steps : Int} (hl : l ≤ 30) (hq : q < 4 ^ l) (hq' : q' < 4 ^ l) (h1 : 1 ≤ steps) (hd : (q' : Int) = q + steps ∨ (q : Int) = q' + steps) :
    ∃ P2 : Int, ((way l (f % 2) q q' : Int) + 2) ^ (Int.toNat 2) = P2 ∧ (way l (f % 2) q q' : Int) < 1152921504606846976 ∧ P2 ≤ 9 * steps ∧ 1 ≤ (way l (f % 2) q q' : Int) ∧ ((way l (f % 2) q q' : Int) - steps).fmod 2 = 0 := by
  obtain ⟨n, rfl⟩ : ∃ n : Nat, steps = n := ⟨steps.toNat, by omega⟩
  have key : way l (f % 2) q q' < 1152921504606846976 ∧ (way l (f % 2) q q' + 2) * (way l (f % 2) q q' + 2) ≤ 9 * n ∧ 1 ≤ way l (f % 2) q q' ∧ (way l (f % 2) q q' + n) % 2 = 0 := by
    rcases hd with hd | hd
    · exact big_one (by omega) hl hq' (by omega) (by omega)
    · rw [way_comm]; exact big_one (by omega) hl hq (by omega) (by omega)
  obtain ⟨k0, k1, k2, k3⟩ := key
  refine ⟨_, sq_int _, by omega, by omega, by omega, ?_⟩
  rw [Int.fmod_eq_emod_of_nonneg _ (by decide)]
  omega
theorem shr_div (q j l : Nat) (hj : j ≤ l) : (q : Int).fdiv (2 ^ (2 * (j : Int)).toNat) = ((q / 4 ^ (l - (l - j)) : Nat) : Int) := by
  have e : l - (l - j) = j := by omega
  rw [e, show (2 * (j : Int)).toNat = 2 * j by omega, Int.fdiv_eq_ediv_of_nonneg _ (Int.le_of_lt (Int.pow_pos (by decide)))]
  rw [← i4]
  rfl
theorem up_facts {f q q' l j : Nat} {steps : Int} (hj : j ≤ l) (hs : steps ≤ 4 ^ (j : Int).toNat) (h1 : 1 ≤ steps) (hq : q < 4 ^ l) (hq' : q' < 4 ^ l) (hd : (q' : Int) = q + steps ∨ (q : Int) = q' + steps) :
    q / 4 ^ (l - (l - j)) < 4 ^ (l - j) ∧ q' / 4 ^ (l - (l - j)) < 4 ^ (l - j) ∧ (way (l - j) (f % 2) (q / 4 ^ (l - (l - j))) (q' / 4 ^ (l - (l - j))) ≤ 1) ∧ (l : Int) - (j : Int) = ((l - j : Nat) : Int) := by
  have e : l - (l - j) = j := by omega
  rw [e]
  rw [Int.toNat_natCast] at hs
  have e4 : ((4 ^ j : Nat) : Int) = 4 ^ j := by push_cast; rfl
  have lt : ∀ r, r < 4 ^ l → r / 4 ^ j < 4 ^ (l - j) := fun r hr => by
    rw [Nat.div_lt_iff_lt_mul (Nat.pow_pos (by decide)), ← Nat.pow_add, Nat.sub_add_cancel hj]; exact hr
  refine ⟨lt q hq, lt q' hq', ?_, by omega⟩
  rcases hd with hd | hd
  · exact up_way (by omega) hj hq' (by omega) (by omega)
  · rw [way_comm]; exact up_way (by omega) hj hq (by omega) (by omega)
theorem steps_le {q q' l : Nat} {steps : Int} (hq : q < 4 ^ l) (hq' : q' < 4 ^ l) (hd : (q' : Int) = q + steps ∨ (q : Int) = q' + steps) : steps ≤ 4 ^ l := by
  have e : ((4 ^ l : Nat) : Int) = 4 ^ l := Int.natCast_pow 4 l
  rw [← e]
  clear e
  generalize 4 ^ l = z at hq hq' ⊢
  omega
end Mine
/- part N0 -/
set_option Elab.async false
set_option maxRecDepth 100000
namespace Mine
open PySem PySem.W PySem.Spec PySem.Calls PyProof.Rows
def nmOk (k : NameKind) (cs : Scope) (x : PySem.Str) : Bool := decide (cs.kind = .function) && (decide (cs.names.lookup x = some k) && !(x == ("__debug__" : PySem.Str)))
theorem nmOk_at {k : NameKind} {cs : Scope} {x : PySem.Str} (q : nmOk k cs x = true) : cs.kind = .function ∧ cs.names.lookup x = some k ∧ (x == ("__debug__" : PySem.Str)) = false := by
  unfold nmOk at q
  rw [Bool.and_eq_true, Bool.and_eq_true] at q
  exact ⟨of_decide_eq_true q.1, of_decide_eq_true q.2.1, by have := q.2.2; revert this; cases (x == ("__debug__" : PySem.Str)) <;> intro h <;> first | rfl | cases h⟩
section
variable {M : Model} {A : Around} {E : Value → Shared → Prop} {s : Shared} {K : Frag} {h₀ : Heap} {L a : Addr} {m mg mb : PySem.Str → Option Value} {cn : PySem.Str} {cs : Scope} {ccd : Value} {cl : List (PySem.Str × Addr)} {p : Program} {loose : List PySem.Str} {mean : ExcName → Option Value}
  {x : PySem.Str} {pos : Pos} {v : Value} {Q : Value → Shared → Prop} {news : List (Addr × Obj)} {c : Addr} {o : Obj}
theorem nmL (F : Fr h₀ L s.heap m) (q : nmOk .local cs x = true) (hv : m x = some v) (h : Q v s) : wpAny M A (eval (.Name x pos) (envX cn cs L a ccd cl)) Q E s :=
  nameX_L F hv h (nmOk_at q).1 (nmOk_at q).2.1 (nmOk_at q).2.2
theorem nmC (N : News h₀ L s.heap news) (q : nmOk .cell cs x = true) (hc : cl.lookup x = some c) (hm : (c, o) ∈ news) (hd : o.data = .cell (some v)) (h : Q v s) : wpAny M A (eval (.Name x pos) (envX cn cs L a ccd cl)) Q E s :=
  nameX_C N hc hm hd h (nmOk_at q).1 (nmOk_at q).2.1 (nmOk_at q).2.2
theorem nmK (F : Fr h₀ L s.heap m) (X : K.In h₀) (T : TopRead p loose mg mb h₀) (q : nmOk .globalImplicit cs x = true) (e : nsIn K mainGlobals x = some (some v)) (h : Q v s) : wpAny M A (eval (.Name x pos) (envX cn cs L a ccd cl)) Q E s :=
  nameX_K F X T e h (nmOk_at q).1 (nmOk_at q).2.1 (nmOk_at q).2.2
theorem nmB (F : Fr h₀ L s.heap m) (X : K.In h₀) (T : TopRead p loose mg mb h₀) (q : nmOk .globalImplicit cs x = true) (e : nsIn K mainGlobals x = some none) (hv : bootBuiltins x = some v) (hn : x ≠ "__name__") (h : Q v s) : wpAny M A (eval (.Name x pos) (envX cn cs L a ccd cl)) Q E s :=
  nameX_B F X T e hv hn h (nmOk_at q).1 (nmOk_at q).2.1 (nmOk_at q).2.2
theorem ldL (F : Fr h₀ L s.heap m) (q : nmOk .local cs x = true) (hv : m x = some v) (h : Q v s) : wpAny M A (loadName (envX cn cs L a ccd cl) x) Q E s :=
  wpAny_loadName_local (nmOk_at q).1 (nmOk_at q).2.1 F.ns hv h
theorem stL {Q : Unit → Shared → Prop} (F : Fr h₀ L s.heap m) (N : News h₀ L s.heap news) (q : nmOk .local cs x = true)
    (h : ∀ h', Fr h₀ L h' (fun y => if y = x then some v else m y) → News h₀ L h' news → Q () { s with heap := h', toks := s.toks + 1 }) : wpAny M A (storeName (envX cn cs L a ccd cl) x v) Q E s :=
  storeX_L F N h (nmOk_at q).1 (nmOk_at q).2.1
end
section
variable {dp un d n b : Nat} {gd : Option (List Code)} {cn : PySem.Str} {cs : Scope} {L a : Addr} {ccd : Value} {cl : List (PySem.Str × Addr)} {outer : List Env}
theorem roomK (h : dp + d < n) (e : 1 + b ≤ d) : (ktrTop dp un gd cn cs L a ccd cl outer).depth + 1 + b < n := by
  show dp + 1 + b < n
  omega
theorem unitK (h : un + 20 * d < n) (e : 3 + 20 * b ≤ 20 * d) : (ktrTop dp un gd cn cs L a ccd cl outer).units + 3 + 20 * b < n := by
  show un + 3 + 20 * b < n
  omega
theorem roomC (e : dp + 1 + b < n) : (ktrTop dp un gd cn cs L a ccd cl outer).depth + 1 + b < n := e
theorem unitC (e : un + 3 + 20 * b < n) : (ktrTop dp un gd cn cs L a ccd cl outer).units + 3 + 20 * b < n := e
theorem roomL (b : Nat) (e : Nat.ble b 100 = true) : callerA.depth + 1 + b < recursionLimit := by
  have h := Nat.le_of_ble_eq_true e
  have h2 : callerA.depth + 1 + 100 < recursionLimit := by decide
  omega
theorem unitL (b : Nat) (e : Nat.ble b 100 = true) : callerA.units + 3 + 20 * b < cLine := by
  have h := Nat.le_of_ble_eq_true e
  have h2 : callerA.units + 3 + 2000 < cLine := by
    have := cLine_is
    rw [units_caller]
    omega
  omega
end
section
variable {M : Model} {A : Around} {E : Value → Shared → Prop} {s : Shared} {K : Frag} {env : Env} {pos : Pos} {f : Value} {first : List Value} {Q : Value → Shared → Prop} {h₀ : Heap} {L : Addr} {m : PySem.Str → Option Value}
theorem callWith_K0n (F : Fr h₀ L s.heap m) (X₀ : K.In h₀) (hk : keepIn K f = true) (h : wpAny M A (call f (first ++ [])) Q E s) : wpAny M A (callWith pos f first (backTo pos (starEach [] env)) []) Q E s :=
  callWith_K0 (X₀.keeps F.keep) hk h
end
end Mine
/- part HdTop -/
set_option Elab.async false
set_option maxRecDepth 100000
set_option maxHeartbeats 8000000
namespace Mine
open PySem PySem.W PyProof.Rows
open_top hd for PySem.Challenge.rw_fb0049_01
end Mine
/- part S0 -/
set_option Elab.async false
set_option maxRecDepth 100000
set_option maxHeartbeats 8000000
namespace Mine
open PySem PySem.W PySem.Spec PySem.Calls PyProof.Rows
abbrev Led := List (Addr × Obj)
abbrev idName : PySem.Str := PySem.Str.ofString "_CellId__id"
abbrev cellD (w : World) (v : Int) (t tk : Tok) : Obj := dictOf [⟨PyData.keyHash w.params idName, .str idName tk, .int v t⟩] 1
abbrev cellO (dx : Addr) : Obj := instObj 561 dx

def Sp (d : Nat) (w : World) (p : Program) (loose : List PySem.Str) (mean : ExcName → Option Value) (mg mb : PySem.Str → Option Value) (f : Addr) (news : Led) (vs : List Value) (Out : Value → Led → Prop) : Prop :=
  ∀ (dp un : Nat) (gd : Option (List Code)) (cn : PySem.Str) (cs : Scope) (a : Addr) (ccd : Value) (cl : List (PySem.Str × Addr)) (outer : List Env) (A₀ : Around) (base h₀ : Heap) (L : Addr) (m : PySem.Str → Option Value) (s : Shared) (R : Result → Shared → Prop),
    Below A₀ base outer h₀ → Fr h₀ L s.heap m → (Mine.hd.heap_39 w.params).In h₀ → News h₀ L s.heap news → Top p loose mean mg mb h₀ → cs.kind = .function → dp + d < recursionLimit → un + 20 * d < cLine →
    (∀ r news' h' tk', Fr h₀ L h' m → News h₀ L h' news' → Out r news' → R (.ok (.ret r)) { s with heap := h', toks := tk' }) →
    codeAny (model PySem.Challenge.rw_fb0049_01.row.prog w) (ktrTop dp un gd cn cs L a ccd cl outer) (.call (.ref f) ⟨vs, []⟩) R s

variable {w : World} {p : Program} {loose : List PySem.Str} {mean : ExcName → Option Value} {mg mb : PySem.Str → Option Value} {news : Led} {x dx : Addr} {v : Int} {t tk : Tok}

abbrev OutI (i : Int) (news : Led) : Value → Led → Prop := fun r n => (∃ t, r = .int i t) ∧ n = news

theorem id_sp (hx : (x, cellO dx) ∈ news) (hd : (dx, cellD w v t tk) ∈ news) : Sp 1 w p loose mean mg mb 330 news [.ref x] (OutI v news) := by
  unfold Sp
  k_fill
  intro dp un gd cn cs a ccd cl outer A₀ base h₀ L m s R B F X N T hk hdp hun hret
  k_dflt cell_enter
  k_steps
  all_goals exact hret _ _ _ _ (by k_asm) (by k_asm) ⟨⟨_, rfl⟩, rfl⟩
end Mine
/- part S1 -/
set_option Elab.async false
set_option maxRecDepth 100000
set_option maxHeartbeats 8000000
namespace Mine
open PySem PySem.W PySem.Spec PySem.Calls PyProof.Rows
section
variable {w : World} {p : Program} {loose : List PySem.Str} {mean : ExcName → Option Value} {mg mb : PySem.Str → Option Value} {news : Led} {f : Addr} {d : Nat} {vs : List Value}
  {dp un : Nat} {gd : Option (List Code)} {cn : PySem.Str} {cs : Scope} {a : Addr} {ccd : Value} {cl : List (PySem.Str × Addr)} {outer : List Env} {A₀ : Around} {base h₀ : Heap} {L : Addr} {m : PySem.Str → Option Value} {s : Shared}

theorem sp_use {Out : Value → Led → Prop} {Q E : Value → Shared → Prop} (S : Sp d w p loose mean mg mb f news vs Out) (B : Below A₀ base outer h₀) (F : Fr h₀ L s.heap m) (X : (Mine.hd.heap_39 w.params).In h₀) (N : News h₀ L s.heap news) (T : Top p loose mean mg mb h₀) (hk : cs.kind = .function) (hdp : dp + d < recursionLimit) (hun : un + 20 * d < cLine)
    (ret : ∀ r news' h' tk', Fr h₀ L h' m → News h₀ L h' news' → Out r news' → Q r { s with heap := h', toks := tk' }) :
    wpAny (model PySem.Challenge.rw_fb0049_01.row.prog w) (ktrTop dp un gd cn cs L a ccd cl outer) (call (.ref f) vs) Q E s :=
  wpAny_call (S _ _ _ _ _ _ _ _ _ _ _ _ _ _ _ _ B F X N T hk hdp hun fun r n h' tk' F' N' o => ret r n h' tk' F' N' o)
abbrev OutB (i : Bool) (news : Led) : Value → Led → Prop := fun r n => r = .bool i ∧ n = news
theorem sp_useI {i : Int} {Q E : Value → Shared → Prop} (S : Sp d w p loose mean mg mb f news vs (OutI i news)) (B : Below A₀ base outer h₀) (F : Fr h₀ L s.heap m) (X : (Mine.hd.heap_39 w.params).In h₀) (N : News h₀ L s.heap news) (T : Top p loose mean mg mb h₀) (hk : cs.kind = .function) (hdp : dp + d < recursionLimit) (hun : un + 20 * d < cLine)
    (ret : ∀ t h' tk', Fr h₀ L h' m → News h₀ L h' news → Q (.int i t) { s with heap := h', toks := tk' }) :
    wpAny (model PySem.Challenge.rw_fb0049_01.row.prog w) (ktrTop dp un gd cn cs L a ccd cl outer) (call (.ref f) vs) Q E s :=
  sp_use S B F X N T hk hdp hun fun r n h' tk' F' N' o => by
    obtain ⟨⟨t, rfl⟩, rfl⟩ := o
    exact ret t h' tk' F' N'
theorem sp_useB {i : Bool} {Q E : Value → Shared → Prop} (S : Sp d w p loose mean mg mb f news vs (OutB i news)) (B : Below A₀ base outer h₀) (F : Fr h₀ L s.heap m) (X : (Mine.hd.heap_39 w.params).In h₀) (N : News h₀ L s.heap news) (T : Top p loose mean mg mb h₀) (hk : cs.kind = .function) (hdp : dp + d < recursionLimit) (hun : un + 20 * d < cLine)
    (ret : ∀ h' tk', Fr h₀ L h' m → News h₀ L h' news → Q (.bool i) { s with heap := h', toks := tk' }) :
    wpAny (model PySem.Challenge.rw_fb0049_01.row.prog w) (ktrTop dp un gd cn cs L a ccd cl outer) (call (.ref f) vs) Q E s :=
  sp_use S B F X N T hk hdp hun fun r n h' tk' F' N' o => by
    obtain ⟨rfl, rfl⟩ := o
    exact ret h' tk' F' N'
theorem outI {i j : Int} {t : Tok} (e : i = j) : OutI j news (.int i t) news := ⟨⟨t, by rw [e]⟩, rfl⟩
theorem outB {i j : Bool} (e : i = j) : OutB j news (.bool i) news := ⟨by rw [e], rfl⟩
end
variable {w : World} {p : Program} {loose : List PySem.Str} {mean : ExcName → Option Value} {mg mb : PySem.Str → Option Value} {news : Led} {x dx : Addr} {v : Int} {t tk : Tok}
local macro_rules | `(tactic| walk_at "eval Name") => `(tactic| (k_here; (with_reducible show wpAny _ _ (eval (Expr.Name _ _) (compEnvC _ _ _ _)) _ _ _); k_dflt (first
  | (name_kind "cell" "free"; refine kcf_cell (by k_asm) (by rfl) (by k_mem) (by k_asm) ?_)
  | (name_kind "local"; refine LCgL.ld_own (by k_asm) (by k_mem) (by assumption) (by assumption) ?_)
  | (name_kind "globalImplicit"; refine LCgL.ld_global (by k_asm) (by k_asm) (by k_asm) (by k_is) ?_))))
local macro_rules | `(tactic| walk_at "eval Name") => `(tactic| (k_here; (fail_if_success (with_reducible show wpAny _ _ (eval (Expr.Name _ _) (compEnvC _ _ _ _)) _ _ _)); k_dflt (first
  | (name_kind "local"; refine' nmL ?F ?q ?v ?_; (case F => k_asm); (case q => decide +kernel); (case v => rfl); k_whole)
  | (name_kind "cell"; refine' nmC ?N ?q ?c ?m ?d ?_; (case q => decide +kernel); (case N => k_asm); (case c => rfl); (case m => k_mem); (case d => k_asm); k_whole)
  | (name_kind "globalImplicit"; refine' nmK ?F ?X ?T ?q ?e ?_; (case q => decide +kernel); (case F => k_asm); (case X => k_asm); (case T => k_asm); (case e => k_is); k_whole)
  | (name_kind "globalImplicit"; refine' nmB ?F ?X ?T ?q ?e ?v ?n ?_; (case q => decide +kernel); (case F => k_asm); (case X => k_asm); (case T => k_asm); (case e => k_is); (case v => boot_fast); (case n => decide); k_whole))))
local macro_rules | `(tactic| walk_at "callWith ref") => `(tactic| (k_here; k_dflt (first
  | ((with_reducible refine' callWith_K ?k1 ?k2 ?_); (case k1 => k_asm); (case k2 => k_is); k_whole)
  | ((with_reducible refine' callWith_K0n ?kF ?kX ?kk ?_); (case kF => with_reducible assumption); (case kX => k_asm); (case kk => k_is); k_whole)
  | ((with_reducible refine' callWith_M ?k1 ?k2 ?k3 ?k4 ?_); (case k1 => k_asm); (case k2 => k_asm); (case k3 => k_mem); (case k4 => k_is); k_whole)
  | ((with_reducible refine' callWith_M0 ?k1 ?k2 ?_); (case k1 => k_meth); (case k2 => k_is); k_whole; try dsimp only [List.nil_append, List.cons_append]))))
local macro_rules | `(tactic| walk_at "loadName") => `(tactic| (k_here; k_dflt (refine' ldL ?F ?q ?v ?_; (case F => k_asm); (case q => decide +kernel); (case v => rfl); k_whole)))
local macro_rules | `(tactic| walk_at "subscriptTail Name Constant ref int") => `(tactic| (k_here; k_dflt (refine' item_tupleT ?t ?a ?b ?c ?d ?_; (case t => exact News.isTup (by k_asm) (by k_mem)); (case a => decide); (case b => decide); (case c => rfl); (case d => rfl); k_whole)))
local macro_rules | `(tactic| walk_at "getAttr ref") => `(tactic| (k_here; k_dflt (first
  | ((with_reducible show wpAny _ _ (getAttr (Value.ref _) (PySem.Str.ofString "__class__") _) _ _ _); refine' get_class ?k1 ?k2 ?k3 ?k4 ?k5 ?k6 ?k7 ?k8 ?k9 ?_; (case k1 => k_asm); (case k2 => k_asm); (case k3 => k_inst); (case k4 => k_is); (case k5 => k_is); (case k6 => k_is); (case k7 => k_is); (case k8 => k_is); (case k9 => k_is); k_whole)
  | (refine' cls_val ?k1 ?k2 ?k3 ?k4 ?k5 ?k6 ?_; (case k1 => k_asm); (case k2 => k_asm); (case k3 => k_is); (case k4 => k_is); (case k5 => k_is); (case k6 => k_handed); k_whole))))
local macro_rules | `(tactic| walk_at "spliced") => `(tactic| (k_here; k_dflt (first | refine args_cons ?_ | refine args_nil ?_)))
local macro_rules | `(tactic| walk_at "eval Call Name cons nil") => `(tactic| (k_here; k_dflt (refine Call_ ?_)))
local macro_rules | `(tactic| walk_at "storeName") => `(tactic| (k_here; k_dflt (refine' stL ?F ?N ?q ?_; (case q => decide +kernel); (case F => k_asm); (case N => k_asm); k_whole; intro h' F' N'; (try k_sweep))))
local macro_rules | `(tactic| walk_at "getMethod ref") => `(tactic| (k_here; k_dflt (first
  | (refine' method_inst ?k1 ?k2 ?k3 ?k4 ?k5 ?k6 ?k7 ?_; (case k1 => k_asm); (case k2 => k_asm); (case k3 => k_inst); (case k4 => k_is); (case k5 => k_is); (case k6 => k_is); (case k7 => k_get); k_whole)
  | (refine' kmu_cm ?k1 ?k2 ?k3 ?k4 ?k5 ?k6 ?k7 ?k8 ?k9 ?k10 ?k11 ?k12 ?k13 ?_; (case k1 => k_asm); (case k2 => k_asm); (case k3 => k_asm); (case k4 => k_inst); (case k5 => k_is); (case k6 => k_is); (case k7 => k_is); (case k8 => k_is); (case k9 => k_is); (case k10 => k_is); (case k11 => decide +kernel); (case k12 => k_get); (case k13 => k_is); k_whole; intro q' h' F' N' l1; (try k_lt l1); (try k_sweep)))))
local macro_rules | `(tactic| walk_at "call ref") => `(tactic| (k_here; (with_reducible show wpAny _ _ (call (Value.ref 330) _ _) _ _ _); k_dflt ((first | (with_reducible refine' sp_useI (id_sp ?c0 ?c1) ?k1 ?k2 ?k3 ?k4 ?k5 ?kK ?kd ?ku ?_) | (refine' sp_useI (id_sp ?c0 ?c1) ?k1 ?k2 ?k3 ?k4 ?k5 ?kK ?kd ?ku ?_)); (case c0 => k_mem); (case c1 => k_mem); (case k1 => k_asm); (case k2 => k_asm); (case k3 => k_asm); (case k4 => k_asm); (case k5 => k_asm); (case kK => first | exact rfl | assumption); (case kd => first | exact roomK (by with_reducible assumption) (Nat.le_of_ble_eq_true rfl) | exact roomL _ rfl | ktr_room); (case ku => first | exact unitK (by with_reducible assumption) (Nat.le_of_ble_eq_true rfl) | exact unitL _ rfl | ktr_units); k_whole; intro t9 h9 tk9 F9 N9; (try dsimp only); (try k_sweep); (try k_fold))))
theorem is_leaf_raw (hx : (x, cellO dx) ∈ news) (hd : (dx, cellD w v t tk) ∈ news) : Sp 2 w p loose mean mg mb 365 news [.ref x] (OutB (Builtin.bitAnd v 1 != 0) news) := by
  unfold Sp
  k_fill
  intro dp un gd cn cs a ccd cl outer A₀ base h₀ L m s R B F X N T hk hdp hun hret
  k_dflt cell_enter
  k_steps
  all_goals exact hret _ _ _ _ (by k_asm) (by k_asm) (outB (by rfl))
theorem face_raw (hx : (x, cellO dx) ∈ news) (hd : (dx, cellD w v t tk) ∈ news) : Sp 2 w p loose mean mg mb 351 news [.ref x] (OutI (v.fdiv (2 ^ 61)) news) := by
  unfold Sp
  k_fill
  intro dp un gd cn cs a ccd cl outer A₀ base h₀ L m s R B F X N T hk hdp hun hret
  k_dflt cell_enter
  k_steps
  all_goals exact hret _ _ _ _ (by k_asm) (by k_asm) (outI (by rfl))
theorem lsb_raw (hx : (x, cellO dx) ∈ news) (hd : (dx, cellD w v t tk) ∈ news) : Sp 2 w p loose mean mg mb 344 news [.ref x] (OutI (Builtin.bitAnd v (-v)) news) := by
  unfold Sp
  k_fill
  intro dp un gd cn cs a ccd cl outer A₀ base h₀ L m s R B F X N T hk hdp hun hret
  k_dflt cell_enter
  k_steps
  all_goals exact hret _ _ _ _ (by k_asm) (by k_asm) (outI (by rfl))
theorem pos_raw (hx : (x, cellO dx) ∈ news) (hd : (dx, cellD w v t tk) ∈ news) : Sp 2 w p loose mean mg mb 358 news [.ref x] (OutI (Builtin.bitAnd v (2 ^ 61 - 1)) news) := by
  unfold Sp
  k_fill
  intro dp un gd cn cs a ccd cl outer A₀ base h₀ L m s R B F X N T hk hdp hun hret
  k_dflt cell_enter
  k_steps
  all_goals exact hret _ _ _ _ (by k_asm) (by k_asm) (outI (by rfl))
theorem lsb_for_level_raw {l : Int} (h0 : 0 ≤ l) (h1 : l ≤ 30) : Sp 1 w p loose mean mg mb 285 news [.ref 561, .int l t] (OutI (2 ^ (2 * (30 - l)).toNat) news) := by
  unfold Sp
  k_fill
  intro dp un gd cn cs a ccd cl outer A₀ base h₀ L m s R B F X N T hk hdp hun hret
  k_dflt cell_enter
  k_steps
  all_goals exact hret _ _ _ _ (by k_asm) (by k_asm) (outI (by exact Int.one_mul _))
end Mine
/- part S2 -/
set_option Elab.async false
set_option maxRecDepth 100000
set_option maxHeartbeats 8000000
namespace Mine
open PySem PySem.W PySem.Spec PySem.Calls PyProof.Rows
variable {w : World} {p : Program} {loose : List PySem.Str} {mean : ExcName → Option Value} {mg mb : PySem.Str → Option Value} {news : Led} {x dx : Addr} {v : Int} {t tk : Tok}

def IsCell (w : World) (news : Led) (x : Addr) (f q l : Nat) : Prop := ∃ dx t tk, (x, cellO dx) ∈ news ∧ (dx, cellD w (cid f q l : Int) t tk) ∈ news
variable {f q l : Nat}
theorem id_cs (hc : IsCell w news x f q l) : Sp 1 w p loose mean mg mb 330 news [.ref x] (OutI (cid f q l) news) := by
  obtain ⟨dx, t, tk, h1, h2⟩ := hc; exact id_sp h1 h2
theorem lsb_cs (hc : IsCell w news x f q l) : Sp 2 w p loose mean mg mb 344 news [.ref x] (OutI (2 ^ (2 * (30 - l))) news) := by
  obtain ⟨dx, t, tk, h1, h2⟩ := hc; have := lsb_raw (p := p) (loose := loose) (mean := mean) (mg := mg) (mb := mb) h1 h2; rw [cid_lsb] at this; exact this
theorem face_cs (hc : IsCell w news x f q l) (hl : l ≤ 30) (hq : q < 4 ^ l) : Sp 2 w p loose mean mg mb 351 news [.ref x] (OutI f news) := by
  obtain ⟨dx, t, tk, h1, h2⟩ := hc; have := face_raw (p := p) (loose := loose) (mean := mean) (mg := mg) (mb := mb) h1 h2; rw [cid_face f q l hl hq] at this; exact this
theorem pos_cs (hc : IsCell w news x f q l) (hl : l ≤ 30) (hq : q < 4 ^ l) : Sp 2 w p loose mean mg mb 358 news [.ref x] (OutI ((4 ^ (30 - l) * (2 * q + 1) : Nat) : Int) news) := by
  obtain ⟨dx, t, tk, h1, h2⟩ := hc; have := pos_raw (p := p) (loose := loose) (mean := mean) (mg := mg) (mb := mb) h1 h2; rw [cid_pos f q l hl hq] at this; exact this
theorem is_leaf_cs (hc : IsCell w news x f q l) (hl : l ≤ 30) : Sp 2 w p loose mean mg mb 365 news [.ref x] (OutB (decide (l = 30)) news) := by
  obtain ⟨dx, t, tk, h1, h2⟩ := hc; have := is_leaf_raw (p := p) (loose := loose) (mean := mean) (mg := mg) (mb := mb) h1 h2
  by_cases h : l = 30
  · subst h; rw [leaf_yes] at this; exact this
  · rw [leaf_no f q l (by omega)] at this; rw [decide_eq_false h]; exact this
section
variable {w : World} {A : Around} {E : Value → Shared → Prop} {s : Shared} {h₀ : Heap} {L a : Addr} {m : PySem.Str → Option Value} {cn : PySem.Str} {cs : Scope} {ccd : Value} {cl : List (PySem.Str × Addr)} {news : Led} {Q : Flow → Shared → Prop}
theorem Fr_eq {h : Heap} {m m' : PySem.Str → Option Value} (F : Fr h₀ L h m) (e : ∀ y, m y = m' y) : Fr h₀ L h m' := funext e ▸ F
theorem bit_if {x lv : PySem.Str} {X v c k b : Int} {tx tv tc tk' : Tok} {p1 p2 p3 p4 p5 p6 p7 : Pos} {base : Heap} (K : (Mine.hd.heap_39 w.params).In base)
  (F : Fr h₀ L s.heap m) (N : News h₀ L s.heap news)
  (qx : nmOk .local cs x = true) (ql : nmOk .local cs lv = true)
  (hx : m x = some (.int X tx)) (hl : m lv = some (.int v tv)) (hb : Builtin.bitAnd X c = 0 ∧ b = 0 ∨ Builtin.bitAnd X c ≠ 0 ∧ b = 1)
  (h : ∀ h' tk t, Fr h₀ L h' (fun y => if y = lv then some (.int (v + k * b) t) else m y) → News h₀ L h' news → Q .next { s with heap := h', toks := tk }) :
  wpAny (model PySem.Challenge.rw_fb0049_01.row.prog w) A (exec (.If (.BinOp (.Name x p1) .BitAnd (.Constant (.int c) tc p2) p3) [.AugAssign (.Name lv p4) .Add (.Constant (.int k) tk' p5) p6] [] p7) (envX cn cs L a ccd cl)) Q E s := by
  have e0 : Builtin.bitAnd X c = 0 → ∀ y, m y = if y = lv then some (.int (v + k * b) tv) else m y := by
    intro hc y
    have ev : v + k * b = v := by
      rcases hb with ⟨_, e⟩ | ⟨e, _⟩
      · rw [e, Int.mul_zero, Int.add_zero]
      · exact absurd hc e
    by_cases hy : y = lv
    · subst hy
      rw [if_pos rfl, hl, ev]
    · rw [if_neg hy]
  have e1 : Builtin.bitAnd X c ≠ 0 → v + k = v + k * b := by
    intro hc
    rcases hb with ⟨e, _⟩ | ⟨_, e⟩
    · exact absurd e hc
    · rw [e, Int.mul_one]
  clear hb
  repeat' (first | (with_reducible refine nmL F qx hx ?_) | (with_reducible refine ldL F ql hl ?_) | ((with_reducible refine stL F N ql ?_); intro h1 F1 N1) | ((try dsimp only); walk1))
  · rename Builtin.bitAnd X c ≠ 0 => hc
    have F2 := Fr_eq F1 (m' := fun y => if y = lv then some (Value.int (v + k * b) _) else m y) (fun y => by rw [e1 hc])
    exact h _ _ _ F2 N1
  · rename Builtin.bitAnd X c = 0 => hc
    exact h _ _ _ (Fr_eq F (e0 hc)) N
end
local macro_rules | `(tactic| walk_at "eval Name") => `(tactic| (k_here; (with_reducible show wpAny _ _ (eval (Expr.Name _ _) (compEnvC _ _ _ _)) _ _ _); k_dflt (first
  | (name_kind "cell" "free"; refine kcf_cell (by k_asm) (by rfl) (by k_mem) (by k_asm) ?_)
  | (name_kind "local"; refine LCgL.ld_own (by k_asm) (by k_mem) (by assumption) (by assumption) ?_)
  | (name_kind "globalImplicit"; refine LCgL.ld_global (by k_asm) (by k_asm) (by k_asm) (by k_is) ?_))))
local macro_rules | `(tactic| walk_at "eval Name") => `(tactic| (k_here; (fail_if_success (with_reducible show wpAny _ _ (eval (Expr.Name _ _) (compEnvC _ _ _ _)) _ _ _)); k_dflt (first
  | (name_kind "local"; refine' nmL ?F ?q ?v ?_; (case F => k_asm); (case q => decide +kernel); (case v => rfl); k_whole)
  | (name_kind "cell"; refine' nmC ?N ?q ?c ?m ?d ?_; (case q => decide +kernel); (case N => k_asm); (case c => rfl); (case m => k_mem); (case d => k_asm); k_whole)
  | (name_kind "globalImplicit"; refine' nmK ?F ?X ?T ?q ?e ?_; (case q => decide +kernel); (case F => k_asm); (case X => k_asm); (case T => k_asm); (case e => k_is); k_whole)
  | (name_kind "globalImplicit"; refine' nmB ?F ?X ?T ?q ?e ?v ?n ?_; (case q => decide +kernel); (case F => k_asm); (case X => k_asm); (case T => k_asm); (case e => k_is); (case v => boot_fast); (case n => decide); k_whole))))
local macro_rules | `(tactic| walk_at "callWith ref") => `(tactic| (k_here; k_dflt (first
  | ((with_reducible refine' callWith_K ?k1 ?k2 ?_); (case k1 => k_asm); (case k2 => k_is); k_whole)
  | ((with_reducible refine' callWith_K0n ?kF ?kX ?kk ?_); (case kF => with_reducible assumption); (case kX => k_asm); (case kk => k_is); k_whole)
  | ((with_reducible refine' callWith_M ?k1 ?k2 ?k3 ?k4 ?_); (case k1 => k_asm); (case k2 => k_asm); (case k3 => k_mem); (case k4 => k_is); k_whole)
  | ((with_reducible refine' callWith_M0 ?k1 ?k2 ?_); (case k1 => k_meth); (case k2 => k_is); k_whole; try dsimp only [List.nil_append, List.cons_append]))))
local macro_rules | `(tactic| walk_at "loadName") => `(tactic| (k_here; k_dflt (refine' ldL ?F ?q ?v ?_; (case F => k_asm); (case q => decide +kernel); (case v => rfl); k_whole)))
local macro_rules | `(tactic| walk_at "subscriptTail Name Constant ref int") => `(tactic| (k_here; k_dflt (refine' item_tupleT ?t ?a ?b ?c ?d ?_; (case t => exact News.isTup (by k_asm) (by k_mem)); (case a => decide); (case b => decide); (case c => rfl); (case d => rfl); k_whole)))
local macro_rules | `(tactic| walk_at "getAttr ref") => `(tactic| (k_here; k_dflt (first
  | ((with_reducible show wpAny _ _ (getAttr (Value.ref _) (PySem.Str.ofString "__class__") _) _ _ _); refine' get_class ?k1 ?k2 ?k3 ?k4 ?k5 ?k6 ?k7 ?k8 ?k9 ?_; (case k1 => k_asm); (case k2 => k_asm); (case k3 => k_inst); (case k4 => k_is); (case k5 => k_is); (case k6 => k_is); (case k7 => k_is); (case k8 => k_is); (case k9 => k_is); k_whole)
  | (refine' cls_val ?k1 ?k2 ?k3 ?k4 ?k5 ?k6 ?_; (case k1 => k_asm); (case k2 => k_asm); (case k3 => k_is); (case k4 => k_is); (case k5 => k_is); (case k6 => k_handed); k_whole))))
local macro_rules | `(tactic| walk_at "spliced") => `(tactic| (k_here; k_dflt (first | refine args_cons ?_ | refine args_nil ?_)))
local macro_rules | `(tactic| walk_at "eval Call Name cons nil") => `(tactic| (k_here; k_dflt (refine Call_ ?_)))
local macro_rules | `(tactic| walk_at "storeName") => `(tactic| (k_here; k_dflt (refine' stL ?F ?N ?q ?_; (case q => decide +kernel); (case F => k_asm); (case N => k_asm); k_whole; intro h' F' N'; (try k_sweep))))
local macro_rules | `(tactic| walk_at "getMethod ref") => `(tactic| (k_here; k_dflt (first
  | (refine' method_inst ?k1 ?k2 ?k3 ?k4 ?k5 ?k6 ?k7 ?_; (case k1 => k_asm); (case k2 => k_asm); (case k3 => k_inst); (case k4 => k_is); (case k5 => k_is); (case k6 => k_is); (case k7 => k_get); k_whole)
  | (refine' kmu_cm ?k1 ?k2 ?k3 ?k4 ?k5 ?k6 ?k7 ?k8 ?k9 ?k10 ?k11 ?k12 ?k13 ?_; (case k1 => k_asm); (case k2 => k_asm); (case k3 => k_asm); (case k4 => k_inst); (case k5 => k_is); (case k6 => k_is); (case k7 => k_is); (case k8 => k_is); (case k9 => k_is); (case k10 => k_is); (case k11 => decide +kernel); (case k12 => k_get); (case k13 => k_is); k_whole; intro q' h' F' N' l1; (try k_lt l1); (try k_sweep)))))
local macro_rules | `(tactic| walk_at "call ref") => `(tactic| (k_here; (with_reducible show wpAny _ _ (call (Value.ref 330) _ _) _ _ _); k_dflt ((first | (with_reducible refine' sp_useI (id_sp ?c0 ?c1) ?k1 ?k2 ?k3 ?k4 ?k5 ?kK ?kd ?ku ?_) | (refine' sp_useI (id_sp ?c0 ?c1) ?k1 ?k2 ?k3 ?k4 ?k5 ?kK ?kd ?ku ?_)); (case k1 => k_asm); (case k2 => k_asm); (case k3 => k_asm); (case k4 => k_asm); (case k5 => k_asm); (case c0 => k_mem); (case c1 => k_mem); (case kK => first | exact rfl | assumption); (case kd => first | exact roomK (by with_reducible assumption) (Nat.le_of_ble_eq_true rfl) | exact roomL _ rfl | ktr_room); (case ku => first | exact unitK (by with_reducible assumption) (Nat.le_of_ble_eq_true rfl) | exact unitL _ rfl | ktr_units); k_whole; intro t9 h9 tk9 F9 N9; (try dsimp only); (try k_sweep); (try k_fold))))
local macro_rules | `(tactic| walk_at "call ref") => `(tactic| (k_here; (with_reducible show wpAny _ _ (call (Value.ref 365) _ _) _ _ _); k_dflt ((first | (with_reducible refine' sp_useB (is_leaf_raw ?c0 ?c1) ?k1 ?k2 ?k3 ?k4 ?k5 ?kK ?kd ?ku ?_) | (refine' sp_useB (is_leaf_raw ?c0 ?c1) ?k1 ?k2 ?k3 ?k4 ?k5 ?kK ?kd ?ku ?_)); (case k1 => k_asm); (case k2 => k_asm); (case k3 => k_asm); (case k4 => k_asm); (case k5 => k_asm); (case c0 => k_mem); (case c1 => k_mem); (case kK => first | exact rfl | assumption); (case kd => first | exact roomK (by with_reducible assumption) (Nat.le_of_ble_eq_true rfl) | exact roomL _ rfl | ktr_room); (case ku => first | exact unitK (by with_reducible assumption) (Nat.le_of_ble_eq_true rfl) | exact unitL _ rfl | ktr_units); k_whole; intro h9 tk9 F9 N9; (try dsimp only); (try k_sweep); (try k_fold))))
local macro_rules | `(tactic| walk_at "exec If BinOp cons nil") => `(tactic| (k_here; k_dflt ((first | (with_reducible refine' bit_if ?K ?F ?N ?qx ?ql ?hx ?hl ?hb ?_) | (refine' bit_if ?K ?F ?N ?qx ?ql ?hx ?hl ?hb ?_)); (case K => k_in); (case F => k_asm); (case N => k_asm); (case qx => decide +kernel); (case ql => decide +kernel); (case hx => rfl); (case hl => rfl); (case hb => assumption); k_whole; intro h9 tk9 t9 F9 N9; (try dsimp only); (try k_sweep); (try k_fold))))
theorem level_a (hx : (x, cellO dx) ∈ news) (hd : (dx, cellD w v t tk) ∈ news) (e0 : Builtin.bitAnd v 1 = 1) : Sp 3 w p loose mean mg mb 372 news [.ref x] (OutI 30 news) := by
  unfold Sp
  k_fill
  intro dp un gd cn cs a ccd cl outer A₀ base h₀ L m s R B F X N T hk hdp hun hret
  k_dflt (refine' code_def ?k1 ?k2 ?k3 ?k4 ?k5 ?kA ?kF ?kK ?k6 ?k7 ?k8 ?k9 ?kB ?_ ?c2 ?c3 ?c4 ?c5; (case kA => exact rfl); (case kF => exact rfl); (case kK => first | assumption | exact rfl); (case k1 => k_asm); (case k2 => k_asm); (case k3 => k_asm); (case k4 => k_asm); (case k5 => k_asm); (case k6 => k_is); (case k7 => k_is); (case k8 => ktr_room); (case k9 => first | exact BindsTo.of_eq rfl | exact binds_K (by k_in) rfl (by k_is) rfl rfl rfl); (case c5 => decide); (case kB => exact locs rfl); (case c2 => exact rfl); (case c3 => exact rfl); (case c4 => exact rfl); k_whole; intro g' L' h' FG' F' N' B' X' T'; (try dsimp only); (try k_lift B'); (try k_fold))
  k_steps
  all_goals exact hret _ news _ _ (by k_asm) (by first | k_asm | exact news_tl (by k_asm) | exact news_tl (news_tl (by k_asm)) | exact news_tl (news_tl (news_tl (by k_asm)))) (outI (by rfl))
theorem level_b {j : Int} (hx : (x, cellO dx) ∈ news) (hd : (dx, cellD w v t tk) ∈ news) (e0 : Builtin.bitAnd v 1 = 0) (e1 : Builtin.bitAnd v 4294967295 ≠ 0) (e2 : Tests (Builtin.bitAnd (Builtin.bitAnd v 4294967295) (-Builtin.bitAnd v 4294967295)) (j - 15)) (e3 : 15 ≤ j) (e4 : j < 31) : Sp 3 w p loose mean mg mb 372 news [.ref x] (OutI j news) := by
  obtain ⟨t8, t4, t2, t1⟩ := e2
  unfold Sp
  k_fill
  intro dp un gd cn cs a ccd cl outer A₀ base h₀ L m s R B F X N T hk hdp hun hret
  k_dflt (refine' code_def ?k1 ?k2 ?k3 ?k4 ?k5 ?kA ?kF ?kK ?k6 ?k7 ?k8 ?k9 ?kB ?_ ?c2 ?c3 ?c4 ?c5; (case kA => exact rfl); (case kF => exact rfl); (case kK => first | assumption | exact rfl); (case k1 => k_asm); (case k2 => k_asm); (case k3 => k_asm); (case k4 => k_asm); (case k5 => k_asm); (case k6 => k_is); (case k7 => k_is); (case k8 => ktr_room); (case k9 => first | exact BindsTo.of_eq rfl | exact binds_K (by k_in) rfl (by k_is) rfl rfl rfl); (case c5 => decide); (case kB => exact locs rfl); (case c2 => exact rfl); (case c3 => exact rfl); (case c4 => exact rfl); k_whole; intro g' L' h' FG' F' N' B' X' T'; (try dsimp only); (try k_lift B'); (try k_fold))
  k_steps
  all_goals exact hret _ _ _ _ (by k_asm) (by k_asm) (outI (by omega))
theorem level_c {j : Int} (hx : (x, cellO dx) ∈ news) (hd : (dx, cellD w v t tk) ∈ news) (e0 : Builtin.bitAnd v 1 = 0) (e1 : Builtin.bitAnd v 4294967295 = 0) (e2 : Tests (Builtin.bitAnd (Builtin.bitAnd (v.fdiv (2 ^ Int.toNat 32)) 4294967295) (-Builtin.bitAnd (v.fdiv (2 ^ Int.toNat 32)) 4294967295)) (j + 1)) (e3 : 0 ≤ j) (e4 : j < 15) : Sp 3 w p loose mean mg mb 372 news [.ref x] (OutI j news) := by
  obtain ⟨t8, t4, t2, t1⟩ := e2
  unfold Sp
  k_fill
  intro dp un gd cn cs a ccd cl outer A₀ base h₀ L m s R B F X N T hk hdp hun hret
  k_dflt (refine' code_def ?k1 ?k2 ?k3 ?k4 ?k5 ?kA ?kF ?kK ?k6 ?k7 ?k8 ?k9 ?kB ?_ ?c2 ?c3 ?c4 ?c5; (case kA => exact rfl); (case kF => exact rfl); (case kK => first | assumption | exact rfl); (case k1 => k_asm); (case k2 => k_asm); (case k3 => k_asm); (case k4 => k_asm); (case k5 => k_asm); (case k6 => k_is); (case k7 => k_is); (case k8 => ktr_room); (case k9 => first | exact BindsTo.of_eq rfl | exact binds_K (by k_in) rfl (by k_is) rfl rfl rfl); (case c5 => decide); (case kB => exact locs rfl); (case c2 => exact rfl); (case c3 => exact rfl); (case c4 => exact rfl); k_whole; intro g' L' h' FG' F' N' B' X' T'; (try dsimp only); (try k_lift B'); (try k_fold))
  k_steps
  all_goals exact hret _ _ _ _ (by k_asm) (by k_asm) (outI (by omega))
theorem level_cs (hc : IsCell w news x f q l) (hl : l ≤ 30) : Sp 3 w p loose mean mg mb 372 news [.ref x] (OutI l news) := by
  obtain ⟨dx, t, tk, h1, h2⟩ := hc
  by_cases h30 : l = 30
  · subst h30; exact level_a h1 h2 (leaf_yes f q)
  · by_cases h15 : 15 ≤ l
    · obtain ⟨a, b⟩ := lvl_hi f q l h15 (by omega)
      exact level_b h1 h2 (leaf_no f q l (by omega)) a b (by omega) (by omega)
    · obtain ⟨a, b⟩ := lvl_lo f q l (by omega)
      exact level_c h1 h2 (leaf_no f q l (by omega)) a b (by omega) (by omega)
end Mine
/- part S3 -/
set_option Elab.async false
set_option maxRecDepth 100000
set_option maxHeartbeats 8000000
namespace Mine
open PySem PySem.W PySem.Spec PySem.Calls PyProof.Rows
variable {w : World} {p : Program} {loose : List PySem.Str} {mean : ExcName → Option Value} {mg mb : PySem.Str → Option Value} {news : Led} {x dx : Addr} {v : Int} {t tk : Tok}
variable {f q l : Nat}
abbrev OutC (w : World) (v : Int) (news : Led) : Value → Led → Prop := fun r n => ∃ x dx t tk, r = .ref x ∧ n = (x, cellO dx) :: (dx, cellD w v t tk) :: news ∧ (∀ p ∈ news, p.1 < dx) ∧ dx < x
theorem ne_of_l1 {d : Addr} {news : Led} (h : ∀ p ∈ news, p.1 < d) : ∀ p ∈ news, p.1 ≠ d := fun p hp => Nat.ne_of_lt (h p hp)
theorem mem_hd {p : Addr × Obj} {l : Led} : p ∈ p :: l := .head _
theorem mem_tl {p q : Addr × Obj} {l : Led} (h : p ∈ l) : p ∈ q :: l := .tail _ h
theorem news_tl {h₀ h : Heap} {L : Addr} {p : Addr × Obj} {l : Led} (N : News h₀ L h (p :: l)) : News h₀ L h l := fun q hq => N q (.tail _ hq)
theorem news_sub {h₀ h : Heap} {L : Addr} {l l' : Led} (N : News h₀ L h l) (hs : ∀ p ∈ l', p ∈ l) : News h₀ L h l' := fun q hq => N q (hs q hq)
theorem news_drop2 {h₀ h : Heap} {L : Addr} {a b : Addr × Obj} {c l : Led} (N : News h₀ L h (a :: b :: (c ++ l))) : News h₀ L h (a :: b :: l) := fun q hq => by
  rcases List.mem_cons.mp hq with rfl | hq
  · exact N _ (.head _)
  · rcases List.mem_cons.mp hq with rfl | hq
    · exact N _ (.tail _ (.head _))
    · exact N q (.tail _ (.tail _ (List.mem_append_right _ hq)))
theorem lt_tl {d : Addr} {q : Addr × Obj} {l : Led} (h : ∀ p ∈ q :: l, p.1 < d) : ∀ p ∈ l, p.1 < d := fun p hp => h p (.tail _ hp)
theorem isCell_mono {news' : Led} (hc : IsCell w news x f q l) (h : ∀ p ∈ news, p ∈ news') : IsCell w news' x f q l := by
  obtain ⟨dx, t, tk, h1, h2⟩ := hc; exact ⟨dx, t, tk, h _ h1, h _ h2⟩
theorem isCell_tail {p : Addr × Obj} (hc : IsCell w news x f q l) : IsCell w (p :: news) x f q l := isCell_mono hc fun _ h => .tail _ h
theorem isCell_new : IsCell w ((x, cellO dx) :: (dx, cellD w (cid f q l : Int) t tk) :: news) x f q l := ⟨dx, t, tk, .head _, .tail _ (.head _)⟩
theorem lt_cons {d : Addr} {a : Addr} {o : Obj} {news : Led} (h : ∀ p ∈ news, p.1 < d) (h1 : a < d) : ∀ p ∈ ((a, o) :: news), p.1 < d := fun p hp => by
  rcases List.mem_cons.mp hp with rfl | hp
  · exact h1
  · exact h p hp
theorem lt_trans1 {d e : Addr} {news : Led} (h : ∀ p ∈ news, p.1 < d) (h1 : d < e) : ∀ p ∈ news, p.1 < e := fun p hp => Nat.lt_trans (h p hp) h1
section
variable {f : Addr} {d : Nat} {vs : List Value}
  {dp un : Nat} {gd : Option (List Code)} {cn : PySem.Str} {cs : Scope} {a : Addr} {ccd : Value} {cl : List (PySem.Str × Addr)} {outer : List Env} {A₀ : Around} {base h₀ : Heap} {L : Addr} {m : PySem.Str → Option Value} {s : Shared}
theorem sp_use' {Out : Value → Led → Prop} {pos : List Value} {self : Value} {qa : Addr} {Q E : Value → Shared → Prop} (S : Sp d w p loose mean mg mb f news (self :: pos) Out) (B : Below A₀ base outer h₀) (F : Fr h₀ L s.heap m) (X : (Mine.hd.heap_39 w.params).In h₀) (N : News h₀ L s.heap news) (T : Top p loose mean mg mb h₀) (hk : cs.kind = .function) (hdp : dp + d < recursionLimit) (hun : un + 20 * d < cLine) (hq : (qa, methodObj (.ref f) self) ∈ news)
    (ret : ∀ r news' h' tk', Fr h₀ L h' m → News h₀ L h' news' → Out r news' → Q r { s with heap := h', toks := tk' }) :
    wpAny (model PySem.Challenge.rw_fb0049_01.row.prog w) (ktrTop dp un gd cn cs L a ccd cl outer) (call (.ref qa) pos) Q E s :=
  call_meth N hq (S _ _ _ _ _ _ _ _ _ _ _ _ _ _ _ _ B F X N T hk hdp hun fun r n h' tk' F' N' o => ret r n h' tk' F' N' o)
theorem sp_useIM {i : Int} {pos : List Value} {self : Value} {qa : Addr} {Q E : Value → Shared → Prop} (S : Sp d w p loose mean mg mb f news (self :: pos) (OutI i news)) (B : Below A₀ base outer h₀) (F : Fr h₀ L s.heap m) (X : (Mine.hd.heap_39 w.params).In h₀) (N : News h₀ L s.heap news) (T : Top p loose mean mg mb h₀) (hk : cs.kind = .function) (hdp : dp + d < recursionLimit) (hun : un + 20 * d < cLine) (hq : (qa, methodObj (.ref f) self) ∈ news)
    (ret : ∀ t h' tk', Fr h₀ L h' m → News h₀ L h' news → Q (.int i t) { s with heap := h', toks := tk' }) :
    wpAny (model PySem.Challenge.rw_fb0049_01.row.prog w) (ktrTop dp un gd cn cs L a ccd cl outer) (call (.ref qa) pos) Q E s :=
  sp_use' S B F X N T hk hdp hun hq fun r n h' tk' F' N' o => by
    obtain ⟨⟨t, rfl⟩, rfl⟩ := o
    exact ret t h' tk' F' N'
theorem sp_useCM {pos : List Value} {self : Value} {qa : Addr} {Q E : Value → Shared → Prop} (S : Sp d w p loose mean mg mb f news (self :: pos) (OutC w v news)) (B : Below A₀ base outer h₀) (F : Fr h₀ L s.heap m) (X : (Mine.hd.heap_39 w.params).In h₀) (N : News h₀ L s.heap news) (T : Top p loose mean mg mb h₀) (hk : cs.kind = .function) (hdp : dp + d < recursionLimit) (hun : un + 20 * d < cLine) (hq : (qa, methodObj (.ref f) self) ∈ news)
    (ret : ∀ x dx t tk h' tk', (∀ p ∈ news, p.1 < dx) → dx < x → Fr h₀ L h' m → News h₀ L h' ((x, cellO dx) :: (dx, cellD w v t tk) :: news) → Q (.ref x) { s with heap := h', toks := tk' }) :
    wpAny (model PySem.Challenge.rw_fb0049_01.row.prog w) (ktrTop dp un gd cn cs L a ccd cl outer) (call (.ref qa) pos) Q E s :=
  sp_use' S B F X N T hk hdp hun hq fun r n h' tk' F' N' o => by
    obtain ⟨x, dx, t, tk, rfl, rfl, o1, o2⟩ := o
    exact ret x dx t tk h' tk' o1 o2 F' N'
theorem sp_useC {Q E : Value → Shared → Prop} (S : Sp d w p loose mean mg mb f news vs (OutC w v news)) (B : Below A₀ base outer h₀) (F : Fr h₀ L s.heap m) (X : (Mine.hd.heap_39 w.params).In h₀) (N : News h₀ L s.heap news) (T : Top p loose mean mg mb h₀) (hk : cs.kind = .function) (hdp : dp + d < recursionLimit) (hun : un + 20 * d < cLine)
    (ret : ∀ x dx t tk h' tk', (∀ p ∈ news, p.1 < dx) → dx < x → Fr h₀ L h' m → News h₀ L h' ((x, cellO dx) :: (dx, cellD w v t tk) :: news) → Q (.ref x) { s with heap := h', toks := tk' }) :
    wpAny (model PySem.Challenge.rw_fb0049_01.row.prog w) (ktrTop dp un gd cn cs L a ccd cl outer) (call (.ref f) vs) Q E s :=
  sp_use S B F X N T hk hdp hun fun r n h' tk' F' N' o => by
    obtain ⟨x, dx, t, tk, rfl, rfl, o1, o2⟩ := o
    exact ret x dx t tk h' tk' o1 o2 F' N'
end
local macro_rules | `(tactic| walk_at "eval Name") => `(tactic| (k_here; (with_reducible show wpAny _ _ (eval (Expr.Name _ _) (compEnvC _ _ _ _)) _ _ _); k_dflt (first
  | (name_kind "cell" "free"; refine kcf_cell (by k_asm) (by rfl) (by k_mem) (by k_asm) ?_)
  | (name_kind "local"; refine LCgL.ld_own (by k_asm) (by k_mem) (by assumption) (by assumption) ?_)
  | (name_kind "globalImplicit"; refine LCgL.ld_global (by k_asm) (by k_asm) (by k_asm) (by k_is) ?_))))
local macro_rules | `(tactic| walk_at "eval Name") => `(tactic| (k_here; (fail_if_success (with_reducible show wpAny _ _ (eval (Expr.Name _ _) (compEnvC _ _ _ _)) _ _ _)); k_dflt (first
  | (name_kind "local"; refine' nmL ?F ?q ?v ?_; (case F => k_asm); (case q => decide +kernel); (case v => rfl); k_whole)
  | (name_kind "cell"; refine' nmC ?N ?q ?c ?m ?d ?_; (case q => decide +kernel); (case N => k_asm); (case c => rfl); (case m => k_mem); (case d => k_asm); k_whole)
  | (name_kind "globalImplicit"; refine' nmK ?F ?X ?T ?q ?e ?_; (case q => decide +kernel); (case F => k_asm); (case X => k_asm); (case T => k_asm); (case e => k_is); k_whole)
  | (name_kind "globalImplicit"; refine' nmB ?F ?X ?T ?q ?e ?v ?n ?_; (case q => decide +kernel); (case F => k_asm); (case X => k_asm); (case T => k_asm); (case e => k_is); (case v => boot_fast); (case n => decide); k_whole))))
local macro_rules | `(tactic| walk_at "callWith ref") => `(tactic| (k_here; k_dflt (first
  | ((with_reducible refine' callWith_K ?k1 ?k2 ?_); (case k1 => k_asm); (case k2 => k_is); k_whole)
  | ((with_reducible refine' callWith_K0n ?kF ?kX ?kk ?_); (case kF => with_reducible assumption); (case kX => k_asm); (case kk => k_is); k_whole)
  | ((with_reducible refine' callWith_M ?k1 ?k2 ?k3 ?k4 ?_); (case k1 => k_asm); (case k2 => k_asm); (case k3 => k_mem); (case k4 => k_is); k_whole)
  | ((with_reducible refine' callWith_M0 ?k1 ?k2 ?_); (case k1 => k_meth); (case k2 => k_is); k_whole; try dsimp only [List.nil_append, List.cons_append]))))
local macro_rules | `(tactic| walk_at "loadName") => `(tactic| (k_here; k_dflt (refine' ldL ?F ?q ?v ?_; (case F => k_asm); (case q => decide +kernel); (case v => rfl); k_whole)))
local macro_rules | `(tactic| walk_at "subscriptTail Name Constant ref int") => `(tactic| (k_here; k_dflt (refine' item_tupleT ?t ?a ?b ?c ?d ?_; (case t => exact News.isTup (by k_asm) (by k_mem)); (case a => decide); (case b => decide); (case c => rfl); (case d => rfl); k_whole)))
local macro_rules | `(tactic| walk_at "getAttr ref") => `(tactic| (k_here; k_dflt (first
  | ((with_reducible show wpAny _ _ (getAttr (Value.ref _) (PySem.Str.ofString "__class__") _) _ _ _); refine' get_class ?k1 ?k2 ?k3 ?k4 ?k5 ?k6 ?k7 ?k8 ?k9 ?_; (case k1 => k_asm); (case k2 => k_asm); (case k3 => k_inst); (case k4 => k_is); (case k5 => k_is); (case k6 => k_is); (case k7 => k_is); (case k8 => k_is); (case k9 => k_is); k_whole)
  | (refine' cls_val ?k1 ?k2 ?k3 ?k4 ?k5 ?k6 ?_; (case k1 => k_asm); (case k2 => k_asm); (case k3 => k_is); (case k4 => k_is); (case k5 => k_is); (case k6 => k_handed); k_whole))))
local macro_rules | `(tactic| walk_at "spliced") => `(tactic| (k_here; k_dflt (first | refine args_cons ?_ | refine args_nil ?_)))
local macro_rules | `(tactic| walk_at "eval Call Name cons nil") => `(tactic| (k_here; k_dflt (refine Call_ ?_)))
local macro_rules | `(tactic| walk_at "storeName") => `(tactic| (k_here; k_dflt (refine' stL ?F ?N ?q ?_; (case q => decide +kernel); (case F => k_asm); (case N => k_asm); k_whole; intro h' F' N'; (try k_sweep))))
local macro_rules | `(tactic| walk_at "getMethod ref") => `(tactic| (k_here; k_dflt (first
  | (refine' method_inst ?k1 ?k2 ?k3 ?k4 ?k5 ?k6 ?k7 ?_; (case k1 => k_asm); (case k2 => k_asm); (case k3 => k_inst); (case k4 => k_is); (case k5 => k_is); (case k6 => k_is); (case k7 => k_get); k_whole)
  | (refine' kmu_cm ?k1 ?k2 ?k3 ?k4 ?k5 ?k6 ?k7 ?k8 ?k9 ?k10 ?k11 ?k12 ?k13 ?_; (case k1 => k_asm); (case k2 => k_asm); (case k3 => k_asm); (case k4 => k_inst); (case k5 => k_is); (case k6 => k_is); (case k7 => k_is); (case k8 => k_is); (case k9 => k_is); (case k10 => k_is); (case k11 => decide +kernel); (case k12 => k_get); (case k13 => k_is); k_whole; intro q' h' F' N' l1; (try k_lt l1); (try k_sweep)))))
local macro_rules | `(tactic| k_all) => `(tactic| exact ne_of_l1 (by assumption))
local macro_rules | `(tactic| k_mem) => `(tactic| (first | exact mem_hd | ktr_member | (refine mem_tl ?_; first | exact mem_hd | ktr_member | (refine mem_tl ?_; first | exact mem_hd | ktr_member | (refine mem_tl ?_; first | exact mem_hd | ktr_member | (refine mem_tl ?_; first | exact mem_hd | ktr_member | (refine mem_tl ?_; first | exact mem_hd | ktr_member | (refine mem_tl ?_; first | exact mem_hd | ktr_member | (refine mem_tl ?_; first | exact mem_hd | ktr_member | (refine mem_tl ?_; first | exact mem_hd | ktr_member | (refine mem_tl ?_; first | exact mem_hd | ktr_member | (refine mem_tl ?_; first | exact mem_hd | ktr_member | (refine mem_tl ?_; first | exact mem_hd | ktr_member | (refine mem_tl ?_; first | exact mem_hd | ktr_member | (refine mem_tl ?_; first | exact mem_hd | ktr_member | (refine mem_tl ?_; ktr_member))))))))))))))))
local macro_rules | `(tactic| walk_at "getMethod ref") => `(tactic| (k_here; (with_reducible show wpAny _ _ (getMethod (Value.ref _) (PySem.Str.ofString "__class__") _) _ _ _); k_dflt ((first | (with_reducible refine' method_usual (r := some (.builtin "object.__class__")) ?kX ?kI ?ka ?kb ?kc ?kd ?_) | (refine' method_usual (r := some (.builtin "object.__class__")) ?kX ?kI ?ka ?kb ?kc ?kd ?_)); (case kX => k_in); (case kI => k_inst); (case ka => k_is); (case kb => k_is); (case kc => k_is); (case kd => exact rfl); k_whole)))
theorem new_raw {u : Int} (e : v.fmod 18446744073709551615 = u) : Sp 4 w p loose mean mg mb 561 news [.int v t] (OutC w u news) := by
  unfold Sp
  k_fill
  intro dp un gd cn cs a ccd cl outer A₀ base h₀ L m s R B F X N T hk hdp hun hret
  subst e
  k_dflt (refine' make_K ?k1 ?k2 ?k3 ?k4 ?k5 ?k6 ?_; (case k1 => k_asm); (case k2 => k_asm); (case k3 => k_in); (case k4 => k_is); (case k5 => k_is); (case k6 => k_is); k_whole; intro x' d' h' F' N' l1 l2; (try k_lt2 l2); (try k_sweep))
  k_dflt (refine' code_def ?k1 ?k2 ?k3 ?k4 ?k5 ?kA ?kF ?kK ?k6 ?k7 ?k8 ?k9 ?kB ?_ ?c2 ?c3 ?c4 ?c5; (case kA => exact rfl); (case kF => exact rfl); (case kK => first | assumption | exact rfl); (case k1 => k_asm); (case k2 => k_asm); (case k3 => k_asm); (case k4 => k_asm); (case k5 => k_asm); (case k6 => k_is); (case k7 => k_is); (case k8 => ktr_room); (case k9 => first | exact BindsTo.of_eq rfl | exact binds_K (by k_in) rfl (by k_is) rfl rfl rfl); (case c5 => decide); (case kB => exact locs rfl); (case c2 => exact rfl); (case c3 => exact rfl); (case c4 => exact rfl); k_whole; intro g' L' h' FG' F' N' B' X' T'; (try dsimp only); (try k_lift B'); (try k_fold))
  k_steps
  all_goals exact hret _ _ _ _ (by k_asm) (by k_asm) ⟨_, _, _, _, rfl, rfl, by assumption, by assumption⟩
theorem new_cs (e : v = (cid f q l : Int)) (hf : f < 6) (hl : l ≤ 30) (hq : q < 4 ^ l) : Sp 4 w p loose mean mg mb 561 news [.int v t] (OutC w (cid f q l) news) := by
  refine new_raw ?_
  have := cid_lt f q l hf hl hq
  rw [e, Int.fmod_eq_emod_of_nonneg _ (by decide)]
  omega
local macro_rules | `(tactic| walk_at "call ref") => `(tactic| (k_here; (with_reducible show wpAny _ _ (call (Value.ref 344) _ _) _ _ _); k_dflt ((first | (with_reducible refine' sp_useI (lsb_cs ?c0) ?k1 ?k2 ?k3 ?k4 ?k5 ?kK ?kd ?ku ?_) | (refine' sp_useI (lsb_cs ?c0) ?k1 ?k2 ?k3 ?k4 ?k5 ?kK ?kd ?ku ?_)); (case k1 => k_asm); (case k2 => k_asm); (case k3 => k_asm); (case k4 => k_asm); (case k5 => k_asm); (case c0 => assumption); (case kK => first | exact rfl | assumption); (case kd => first | exact roomK (by with_reducible assumption) (Nat.le_of_ble_eq_true rfl) | exact roomL _ rfl | ktr_room); (case ku => first | exact unitK (by with_reducible assumption) (Nat.le_of_ble_eq_true rfl) | exact unitL _ rfl | ktr_units); k_whole; intro t9 h9 tk9 F9 N9; (try dsimp only); (try k_sweep); (try k_fold))))
local macro_rules | `(tactic| walk_at "call ref") => `(tactic| (k_here; (with_reducible show wpAny _ _ (call (Value.ref 351) _ _) _ _ _); k_dflt ((first | (with_reducible refine' sp_useI (face_cs ?c0 ?c1 ?c2) ?k1 ?k2 ?k3 ?k4 ?k5 ?kK ?kd ?ku ?_) | (refine' sp_useI (face_cs ?c0 ?c1 ?c2) ?k1 ?k2 ?k3 ?k4 ?k5 ?kK ?kd ?ku ?_)); (case k1 => k_asm); (case k2 => k_asm); (case k3 => k_asm); (case k4 => k_asm); (case k5 => k_asm); (case c0 => assumption); (case c1 => assumption); (case c2 => assumption); (case kK => first | exact rfl | assumption); (case kd => first | exact roomK (by with_reducible assumption) (Nat.le_of_ble_eq_true rfl) | exact roomL _ rfl | ktr_room); (case ku => first | exact unitK (by with_reducible assumption) (Nat.le_of_ble_eq_true rfl) | exact unitL _ rfl | ktr_units); k_whole; intro t9 h9 tk9 F9 N9; (try dsimp only); (try k_sweep); (try k_fold))))
local macro_rules | `(tactic| ktr_rel) => `(tactic| (first | exact (by assumption) | exact isCell_new | exact (isCell_tail (by assumption)) | exact (isCell_tail isCell_new) | exact (isCell_tail (isCell_tail (by assumption))) | exact (isCell_tail (isCell_tail isCell_new)) | exact (isCell_tail (isCell_tail (isCell_tail (by assumption)))) | exact (isCell_tail (isCell_tail (isCell_tail isCell_new))) | exact (isCell_tail (isCell_tail (isCell_tail (isCell_tail (by assumption))))) | exact (isCell_tail (isCell_tail (isCell_tail (isCell_tail isCell_new)))) | exact (isCell_tail (isCell_tail (isCell_tail (isCell_tail (isCell_tail (by assumption)))))) | exact (isCell_tail (isCell_tail (isCell_tail (isCell_tail (isCell_tail isCell_new))))) | exact (isCell_tail (isCell_tail (isCell_tail (isCell_tail (isCell_tail (isCell_tail (by assumption))))))) | exact (isCell_tail (isCell_tail (isCell_tail (isCell_tail (isCell_tail (isCell_tail isCell_new)))))) | exact (isCell_tail (isCell_tail (isCell_tail (isCell_tail (isCell_tail (isCell_tail (isCell_tail (by assumption)))))))) | exact (isCell_tail (isCell_tail (isCell_tail (isCell_tail (isCell_tail (isCell_tail (isCell_tail isCell_new))))))) | exact (isCell_tail (isCell_tail (isCell_tail (isCell_tail (isCell_tail (isCell_tail (isCell_tail (isCell_tail (by assumption))))))))) | exact (isCell_tail (isCell_tail (isCell_tail (isCell_tail (isCell_tail (isCell_tail (isCell_tail (isCell_tail isCell_new)))))))) | exact (isCell_tail (isCell_tail (isCell_tail (isCell_tail (isCell_tail (isCell_tail (isCell_tail (isCell_tail (isCell_tail (by assumption)))))))))) | exact (isCell_tail (isCell_tail (isCell_tail (isCell_tail (isCell_tail (isCell_tail (isCell_tail (isCell_tail (isCell_tail isCell_new)))))))))))
local macro_rules | `(tactic| walk_at "call ref") => `(tactic| (k_here; (with_reducible show wpAny _ _ (call (Value.ref 330) _ _) _ _ _); k_dflt ((first | (with_reducible refine' sp_useI (id_cs ?c0) ?k1 ?k2 ?k3 ?k4 ?k5 ?kK ?kd ?ku ?_) | (refine' sp_useI (id_cs ?c0) ?k1 ?k2 ?k3 ?k4 ?k5 ?kK ?kd ?ku ?_)); (case k1 => k_asm); (case k2 => k_asm); (case k3 => k_asm); (case k4 => k_asm); (case k5 => k_asm); (case c0 => ktr_rel); (case kK => first | exact rfl | assumption); (case kd => first | exact roomK (by with_reducible assumption) (Nat.le_of_ble_eq_true rfl) | exact roomL _ rfl | ktr_room); (case ku => first | exact unitK (by with_reducible assumption) (Nat.le_of_ble_eq_true rfl) | exact unitL _ rfl | ktr_units); k_whole; intro t9 h9 tk9 F9 N9; (try dsimp only); (try k_sweep); (try k_fold))))
local macro_rules | `(tactic| walk_at "call ref") => `(tactic| (k_here; (with_reducible show wpAny _ _ (call (Value.ref 372) _ _) _ _ _); k_dflt ((first | (with_reducible refine' sp_useI (level_cs ?c0 ?c1) ?k1 ?k2 ?k3 ?k4 ?k5 ?kK ?kd ?ku ?_) | (refine' sp_useI (level_cs ?c0 ?c1) ?k1 ?k2 ?k3 ?k4 ?k5 ?kK ?kd ?ku ?_)); (case k1 => k_asm); (case k2 => k_asm); (case k3 => k_asm); (case k4 => k_asm); (case k5 => k_asm); (case c0 => ktr_rel); (case c1 => assumption); (case kK => first | exact rfl | assumption); (case kd => first | exact roomK (by with_reducible assumption) (Nat.le_of_ble_eq_true rfl) | exact roomL _ rfl | ktr_room); (case ku => first | exact unitK (by with_reducible assumption) (Nat.le_of_ble_eq_true rfl) | exact unitL _ rfl | ktr_units); k_whole; intro t9 h9 tk9 F9 N9; (try dsimp only); (try k_sweep); (try k_fold))))
theorem is_valid_cs (hc : IsCell w news x f q l) (hf : f < 6) (hl : l ≤ 30) (hq : q < 4 ^ l) : Sp 3 w p loose mean mg mb 337 news [.ref x] (OutB true news) := by
  have hv := valid_mask l (by omega)
  have hc' := hc
  obtain ⟨dx, t, tk, hx, hd⟩ := hc'
  unfold Sp
  k_fill
  intro dp un gd cn cs a ccd cl outer A₀ base h₀ L m s R B F X N T hk hdp hun hret
  k_dflt (refine' code_def ?k1 ?k2 ?k3 ?k4 ?k5 ?kA ?kF ?kK ?k6 ?k7 ?k8 ?k9 ?kB ?_ ?c2 ?c3 ?c4 ?c5; (case kA => exact rfl); (case kF => exact rfl); (case kK => first | assumption | exact rfl); (case k1 => k_asm); (case k2 => k_asm); (case k3 => k_asm); (case k4 => k_asm); (case k5 => k_asm); (case k6 => k_is); (case k7 => k_is); (case k8 => ktr_room); (case k9 => first | exact BindsTo.of_eq rfl | exact binds_K (by k_in) rfl (by k_is) rfl rfl rfl); (case c5 => decide); (case kB => exact locs rfl); (case c2 => exact rfl); (case c3 => exact rfl); (case c4 => exact rfl); k_whole; intro g' L' h' FG' F' N' B' X' T'; (try dsimp only); (try k_lift B'); (try k_fold))
  k_steps
  all_goals exact hret _ _ _ _ (by k_asm) (by k_asm) (outB (by simpa using hv))
local macro_rules | `(tactic| walk_at "call ref") => `(tactic| (k_here; (with_reducible show wpAny _ _ (call (Value.ref 337) _ _) _ _ _); k_dflt ((first | (with_reducible refine' sp_useB (is_valid_cs ?c0 ?c1 ?c2 ?c3) ?k1 ?k2 ?k3 ?k4 ?k5 ?kK ?kd ?ku ?_) | (refine' sp_useB (is_valid_cs ?c0 ?c1 ?c2 ?c3) ?k1 ?k2 ?k3 ?k4 ?k5 ?kK ?kd ?ku ?_)); (case k1 => k_asm); (case k2 => k_asm); (case k3 => k_asm); (case k4 => k_asm); (case k5 => k_asm); (case c0 => ktr_rel); (case c1 => assumption); (case c2 => assumption); (case c3 => assumption); (case kK => first | exact rfl | assumption); (case kd => first | exact roomK (by with_reducible assumption) (Nat.le_of_ble_eq_true rfl) | exact roomL _ rfl | ktr_room); (case ku => first | exact unitK (by with_reducible assumption) (Nat.le_of_ble_eq_true rfl) | exact unitL _ rfl | ktr_units); k_whole; intro h9 tk9 F9 N9; (try dsimp only); (try k_sweep); (try k_fold))))
local macro_rules | `(tactic| walk_at "call ref") => `(tactic| (k_here; k_dflt ((first | (with_reducible refine' sp_useIM (lsb_for_level_raw ?c0 ?c1) ?k1 ?k2 ?k3 ?k4 ?k5 ?kK ?kd ?ku ?kq ?_) | (refine' sp_useIM (lsb_for_level_raw ?c0 ?c1) ?k1 ?k2 ?k3 ?k4 ?k5 ?kK ?kd ?ku ?kq ?_)); (case k1 => k_asm); (case k2 => k_asm); (case k3 => k_asm); (case k4 => k_asm); (case k5 => k_asm); (case kq => k_mem); (case c0 => omega); (case c1 => omega); (case kK => first | exact rfl | assumption); (case kd => first | exact roomK (by with_reducible assumption) (Nat.le_of_ble_eq_true rfl) | exact roomL _ rfl | ktr_room); (case ku => first | exact unitK (by with_reducible assumption) (Nat.le_of_ble_eq_true rfl) | exact unitL _ rfl | ktr_units); k_whole; intro t9 h9 tk9 F9 N9; (try dsimp only); (try k_sweep); (try k_fold))))
local macro_rules | `(tactic| walk_at "call ref") => `(tactic| (k_here; (with_reducible show wpAny _ _ (call (Value.ref 561) _ _) _ _ _); k_dflt ((first | (with_reducible refine' sp_useC (new_cs ?c0 ?c1 ?c2 ?c3) ?k1 ?k2 ?k3 ?k4 ?k5 ?kK ?kd ?ku ?_) | (refine' sp_useC (new_cs ?c0 ?c1 ?c2 ?c3) ?k1 ?k2 ?k3 ?k4 ?k5 ?kK ?kd ?ku ?_)); (case k1 => k_asm); (case k2 => k_asm); (case k3 => k_asm); (case k4 => k_asm); (case k5 => k_asm); (case c0 => assumption); (case c1 => assumption); (case c2 => omega); (case c3 => assumption); (case kK => first | exact rfl | assumption); (case kd => first | exact roomK (by with_reducible assumption) (Nat.le_of_ble_eq_true rfl) | exact roomL _ rfl | ktr_room); (case ku => first | exact unitK (by with_reducible assumption) (Nat.le_of_ble_eq_true rfl) | exact unitL _ rfl | ktr_units); k_whole; intro x9 d9 t9 k9 h9 tk9 la9 lb9 F9 N9; (try dsimp only); (try k_sweep); (try k_fold))))
theorem get_size_sp {j : Int} (hx : (x, cellO dx) ∈ news) (hd : (dx, cellD w v t tk) ∈ news) (h0 : 0 ≤ j) (h1 : j ≤ 30) : Sp 2 w p loose mean mg mb 541 news [.ref x, .int j t] (OutI (2 ^ (30 - j).toNat) news) := by
  unfold Sp
  k_fill
  intro dp un gd cn cs a ccd cl outer A₀ base h₀ L m s R B F X N T hk hdp hun hret
  k_dflt (refine' kp_rest ?k1 ?k2 ?k3 ?k4 ?k5 ?kA ?kF ?kK ?k6 ?k7 ?k8 ?kV ?kP ?kG ?kB ?_ ?c2 ?c3 ?c4 ?c5; (case kA => exact rfl); (case kF => exact rfl); (case kK => first | assumption | exact rfl); (case k1 => k_asm); (case k2 => k_asm); (case k3 => k_asm); (case k4 => k_asm); (case k5 => k_asm); (case k6 => k_is); (case k7 => k_is); (case k8 => ktr_room); (case kV => kl_lit); (case kP => exact rfl); (case kG => exact fun _ => rfl); (case kB => exact fun _ => locs rfl); (case c5 => decide); (case c2 => exact rfl); (case c3 => exact rfl); (case c4 => exact rfl); k_whole; intro D' g' L' h' l1 FG' F' N' B' X' T'; (try k_lt l1); (try dsimp only); (try k_lift B'); (try k_fold))
  k_steps
  all_goals exact hret _ news _ _ (by k_asm) (by first | k_asm | exact news_tl (by k_asm) | exact news_tl (news_tl (by k_asm)) | exact news_tl (news_tl (news_tl (by k_asm)))) (outI (by exact Int.one_mul _))
theorem parent_cs {k : Nat} (hc : IsCell w news x f q l) (hf : f < 6) (hl : l ≤ 30) (hq : q < 4 ^ l) (hk : k ≤ l) : Sp 6 w p loose mean mg mb 295 news [.ref x, .int k t] (OutC w (cid f (q / 4 ^ (l - k)) k) news) := by
  have e1 := cid_parent f q l k hl hk hq
  rw [show 2 * (30 - k) = (2 * (30 - (k : Int))).toNat by omega] at e1
  have e2 := par_lt q l k hk hq
  have hc' := hc
  obtain ⟨dx, t, tk, hx, hd⟩ := hc'
  unfold Sp
  k_fill
  intro dp un gd cn cs a ccd cl outer A₀ base h₀ L m s R B F X N T hk' hdp hun hret
  k_dflt (refine' kp_rest ?k1 ?k2 ?k3 ?k4 ?k5 ?kA ?kF ?kK ?k6 ?k7 ?k8 ?kV ?kP ?kG ?kB ?_ ?c2 ?c3 ?c4 ?c5; (case kA => exact rfl); (case kF => exact rfl); (case kK => first | assumption | exact rfl); (case k1 => k_asm); (case k2 => k_asm); (case k3 => k_asm); (case k4 => k_asm); (case k5 => k_asm); (case k6 => k_is); (case k7 => k_is); (case k8 => ktr_room); (case kV => kl_lit); (case kP => exact rfl); (case kG => exact fun _ => rfl); (case kB => exact fun _ => locs rfl); (case c5 => decide); (case c2 => exact rfl); (case c3 => exact rfl); (case c4 => exact rfl); k_whole; intro D' g' L' h' l1 FG' F' N' B' X' T'; (try k_lt l1); (try dsimp only); (try k_lift B'); (try k_fold))
  k_steps
  all_goals exact hret _ _ _ _ (by k_asm) (news_drop2 (c := [_, _]) (by k_asm)) ⟨_, _, _, _, rfl, rfl, lt_tl (lt_tl (by assumption)), by assumption⟩
end Mine
/- part S4 -/
set_option Elab.async false
set_option maxRecDepth 100000
set_option maxHeartbeats 8000000
namespace Mine
open PySem PySem.W PySem.Spec PySem.Calls PyProof.Rows
variable {w : World} {p : Program} {loose : List PySem.Str} {mean : ExcName → Option Value} {mg mb : PySem.Str → Option Value} {news : Led} {x dx : Addr} {v : Int} {t tk : Tok}
variable {f q l : Nat}
local macro_rules | `(tactic| walk_at "eval Name") => `(tactic| (k_here; (with_reducible show wpAny _ _ (eval (Expr.Name _ _) (compEnvC _ _ _ _)) _ _ _); k_dflt (first
  | (name_kind "cell" "free"; refine kcf_cell (by k_asm) (by rfl) (by k_mem) (by k_asm) ?_)
  | (name_kind "local"; refine LCgL.ld_own (by k_asm) (by k_mem) (by assumption) (by assumption) ?_)
  | (name_kind "globalImplicit"; refine LCgL.ld_global (by k_asm) (by k_asm) (by k_asm) (by k_is) ?_))))
local macro_rules | `(tactic| walk_at "eval Name") => `(tactic| (k_here; (fail_if_success (with_reducible show wpAny _ _ (eval (Expr.Name _ _) (compEnvC _ _ _ _)) _ _ _)); k_dflt (first
  | (name_kind "local"; refine' nmL ?F ?q ?v ?_; (case F => k_asm); (case q => decide +kernel); (case v => rfl); k_whole)
  | (name_kind "cell"; refine' nmC ?N ?q ?c ?m ?d ?_; (case q => decide +kernel); (case N => k_asm); (case c => rfl); (case m => k_mem); (case d => k_asm); k_whole)
  | (name_kind "globalImplicit"; refine' nmK ?F ?X ?T ?q ?e ?_; (case q => decide +kernel); (case F => k_asm); (case X => k_asm); (case T => k_asm); (case e => k_is); k_whole)
  | (name_kind "globalImplicit"; refine' nmB ?F ?X ?T ?q ?e ?v ?n ?_; (case q => decide +kernel); (case F => k_asm); (case X => k_asm); (case T => k_asm); (case e => k_is); (case v => boot_fast); (case n => decide); k_whole))))
local macro_rules | `(tactic| walk_at "callWith ref") => `(tactic| (k_here; k_dflt (first
  | ((with_reducible refine' callWith_K ?k1 ?k2 ?_); (case k1 => k_asm); (case k2 => k_is); k_whole)
  | ((with_reducible refine' callWith_K0n ?kF ?kX ?kk ?_); (case kF => with_reducible assumption); (case kX => k_asm); (case kk => k_is); k_whole)
  | ((with_reducible refine' callWith_M ?k1 ?k2 ?k3 ?k4 ?_); (case k1 => k_asm); (case k2 => k_asm); (case k3 => k_mem); (case k4 => k_is); k_whole)
  | ((with_reducible refine' callWith_M0 ?k1 ?k2 ?_); (case k1 => k_meth); (case k2 => k_is); k_whole; try dsimp only [List.nil_append, List.cons_append]))))
local macro_rules | `(tactic| walk_at "loadName") => `(tactic| (k_here; k_dflt (refine' ldL ?F ?q ?v ?_; (case F => k_asm); (case q => decide +kernel); (case v => rfl); k_whole)))
local macro_rules | `(tactic| walk_at "subscriptTail Name Constant ref int") => `(tactic| (k_here; k_dflt (refine' item_tupleT ?t ?a ?b ?c ?d ?_; (case t => exact News.isTup (by k_asm) (by k_mem)); (case a => decide); (case b => decide); (case c => rfl); (case d => rfl); k_whole)))
local macro_rules | `(tactic| walk_at "getAttr ref") => `(tactic| (k_here; k_dflt (first
  | ((with_reducible show wpAny _ _ (getAttr (Value.ref _) (PySem.Str.ofString "__class__") _) _ _ _); refine' get_class ?k1 ?k2 ?k3 ?k4 ?k5 ?k6 ?k7 ?k8 ?k9 ?_; (case k1 => k_asm); (case k2 => k_asm); (case k3 => k_inst); (case k4 => k_is); (case k5 => k_is); (case k6 => k_is); (case k7 => k_is); (case k8 => k_is); (case k9 => k_is); k_whole)
  | (refine' cls_val ?k1 ?k2 ?k3 ?k4 ?k5 ?k6 ?_; (case k1 => k_asm); (case k2 => k_asm); (case k3 => k_is); (case k4 => k_is); (case k5 => k_is); (case k6 => k_handed); k_whole))))
local macro_rules | `(tactic| walk_at "spliced") => `(tactic| (k_here; k_dflt (first | refine args_cons ?_ | refine args_nil ?_)))
local macro_rules | `(tactic| walk_at "eval Call Name cons nil") => `(tactic| (k_here; k_dflt (refine Call_ ?_)))
local macro_rules | `(tactic| walk_at "storeName") => `(tactic| (k_here; k_dflt (refine' stL ?F ?N ?q ?_; (case q => decide +kernel); (case F => k_asm); (case N => k_asm); k_whole; intro h' F' N'; (try k_sweep))))
local macro_rules | `(tactic| walk_at "getMethod ref") => `(tactic| (k_here; k_dflt (first
  | (refine' method_inst ?k1 ?k2 ?k3 ?k4 ?k5 ?k6 ?k7 ?_; (case k1 => k_asm); (case k2 => k_asm); (case k3 => k_inst); (case k4 => k_is); (case k5 => k_is); (case k6 => k_is); (case k7 => k_get); k_whole)
  | (refine' kmu_cm ?k1 ?k2 ?k3 ?k4 ?k5 ?k6 ?k7 ?k8 ?k9 ?k10 ?k11 ?k12 ?k13 ?_; (case k1 => k_asm); (case k2 => k_asm); (case k3 => k_asm); (case k4 => k_inst); (case k5 => k_is); (case k6 => k_is); (case k7 => k_is); (case k8 => k_is); (case k9 => k_is); (case k10 => k_is); (case k11 => decide +kernel); (case k12 => k_get); (case k13 => k_is); k_whole; intro q' h' F' N' l1; (try k_lt l1); (try k_sweep)))))
local macro_rules | `(tactic| k_mem) => `(tactic| (first | exact mem_hd | ktr_member | (refine mem_tl ?_; first | exact mem_hd | ktr_member | (refine mem_tl ?_; first | exact mem_hd | ktr_member | (refine mem_tl ?_; first | exact mem_hd | ktr_member | (refine mem_tl ?_; first | exact mem_hd | ktr_member | (refine mem_tl ?_; first | exact mem_hd | ktr_member | (refine mem_tl ?_; first | exact mem_hd | ktr_member | (refine mem_tl ?_; first | exact mem_hd | ktr_member | (refine mem_tl ?_; first | exact mem_hd | ktr_member | (refine mem_tl ?_; first | exact mem_hd | ktr_member | (refine mem_tl ?_; first | exact mem_hd | ktr_member | (refine mem_tl ?_; first | exact mem_hd | ktr_member | (refine mem_tl ?_; first | exact mem_hd | ktr_member | (refine mem_tl ?_; first | exact mem_hd | ktr_member | (refine mem_tl ?_; ktr_member))))))))))))))))
local macro_rules | `(tactic| walk_at "getMethod ref") => `(tactic| (k_here; (with_reducible show wpAny _ _ (getMethod (Value.ref _) (PySem.Str.ofString "__class__") _) _ _ _); k_dflt ((first | (with_reducible refine' method_usual (r := some (.builtin "object.__class__")) ?kX ?kI ?ka ?kb ?kc ?kd ?_) | (refine' method_usual (r := some (.builtin "object.__class__")) ?kX ?kI ?ka ?kb ?kc ?kd ?_)); (case kX => k_in); (case kI => k_inst); (case ka => k_is); (case kb => k_is); (case kc => k_is); (case kd => exact rfl); k_whole)))
local macro_rules | `(tactic| k_all) => `(tactic| exact ne_of_l1 (by assumption))
local macro_rules | `(tactic| walk_at "call ref") => `(tactic| (k_here; (with_reducible show wpAny _ _ (call (Value.ref 561) _ _) _ _ _); k_dflt ((first | (with_reducible refine' sp_useC (new_cs ?c0 ?c1 ?c2 ?c3) ?k1 ?k2 ?k3 ?k4 ?k5 ?kK ?kd ?ku ?_) | (refine' sp_useC (new_cs ?c0 ?c1 ?c2 ?c3) ?k1 ?k2 ?k3 ?k4 ?k5 ?kK ?kd ?ku ?_)); (case k1 => k_asm); (case k2 => k_asm); (case k3 => k_asm); (case k4 => k_asm); (case k5 => k_asm); (case c0 => assumption); (case c1 => assumption); (case c2 => omega); (case c3 => assumption); (case kK => first | exact rfl | assumption); (case kd => first | exact roomK (by with_reducible assumption) (Nat.le_of_ble_eq_true rfl) | exact roomL _ rfl | ktr_room); (case ku => first | exact unitK (by with_reducible assumption) (Nat.le_of_ble_eq_true rfl) | exact unitL _ rfl | ktr_units); k_whole; intro x9 d9 t9 k9 h9 tk9 la9 lb9 F9 N9; (try dsimp only); (try k_sweep); (try k_fold))))
local macro_rules | `(tactic| ktr_rel) => `(tactic| (first | exact (by assumption) | exact isCell_new | exact (isCell_tail (by assumption)) | exact (isCell_tail isCell_new) | exact (isCell_tail (isCell_tail (by assumption))) | exact (isCell_tail (isCell_tail isCell_new)) | exact (isCell_tail (isCell_tail (isCell_tail (by assumption)))) | exact (isCell_tail (isCell_tail (isCell_tail isCell_new))) | exact (isCell_tail (isCell_tail (isCell_tail (isCell_tail (by assumption))))) | exact (isCell_tail (isCell_tail (isCell_tail (isCell_tail isCell_new)))) | exact (isCell_tail (isCell_tail (isCell_tail (isCell_tail (isCell_tail (by assumption)))))) | exact (isCell_tail (isCell_tail (isCell_tail (isCell_tail (isCell_tail isCell_new))))) | exact (isCell_tail (isCell_tail (isCell_tail (isCell_tail (isCell_tail (isCell_tail (by assumption))))))) | exact (isCell_tail (isCell_tail (isCell_tail (isCell_tail (isCell_tail (isCell_tail isCell_new)))))) | exact (isCell_tail (isCell_tail (isCell_tail (isCell_tail (isCell_tail (isCell_tail (isCell_tail (by assumption)))))))) | exact (isCell_tail (isCell_tail (isCell_tail (isCell_tail (isCell_tail (isCell_tail (isCell_tail isCell_new))))))) | exact (isCell_tail (isCell_tail (isCell_tail (isCell_tail (isCell_tail (isCell_tail (isCell_tail (isCell_tail (by assumption))))))))) | exact (isCell_tail (isCell_tail (isCell_tail (isCell_tail (isCell_tail (isCell_tail (isCell_tail (isCell_tail isCell_new)))))))) | exact (isCell_tail (isCell_tail (isCell_tail (isCell_tail (isCell_tail (isCell_tail (isCell_tail (isCell_tail (isCell_tail (by assumption)))))))))) | exact (isCell_tail (isCell_tail (isCell_tail (isCell_tail (isCell_tail (isCell_tail (isCell_tail (isCell_tail (isCell_tail isCell_new)))))))))))
local macro_rules | `(tactic| walk_at "call ref") => `(tactic| (k_here; (with_reducible show wpAny _ _ (call (Value.ref 295) _ _) _ _ _); k_dflt ((first | (with_reducible refine' sp_useC (parent_cs ?c0 ?c1 ?c2 ?c3 ?c4) ?k1 ?k2 ?k3 ?k4 ?k5 ?kK ?kd ?ku ?_) | (refine' sp_useC (parent_cs ?c0 ?c1 ?c2 ?c3 ?c4) ?k1 ?k2 ?k3 ?k4 ?k5 ?kK ?kd ?ku ?_)); (case k1 => k_asm); (case k2 => k_asm); (case k3 => k_asm); (case k4 => k_asm); (case k5 => k_asm); (case c0 => ktr_rel); (case c1 => assumption); (case c2 => omega); (case c3 => assumption); (case c4 => omega); (case kK => first | exact rfl | assumption); (case kd => first | exact roomK (by with_reducible assumption) (Nat.le_of_ble_eq_true rfl) | exact roomL _ rfl | ktr_room); (case ku => first | exact unitK (by with_reducible assumption) (Nat.le_of_ble_eq_true rfl) | exact unitL _ rfl | ktr_units); k_whole; intro x9 d9 t9 k9 h9 tk9 la9 lb9 F9 N9; (try dsimp only); (try k_sweep); (try k_fold))))
theorem leaf_id (f q l : Nat) (hl : l ≤ 30) : ((f : Int) * 2 ^ Int.toNat 61 + Builtin.bitOr ((q : Int) * 2 ^ (61 - 2 * l)) 1) = (cid f (q * 4 ^ (30 - l)) 30 : Int) := by
  have e : (2 : Int) ^ (61 - 2 * l) = 2 * 2 ^ (2 * (30 - l)) := by
    rw [show 61 - 2 * l = 1 + 2 * (30 - l) by omega, Int.pow_add]; rfl
  have h := or_low ((q : Int) * 2 ^ (61 - 2 * l)) 0
  rw [Int.pow_zero, Int.one_mul, Int.one_mul, e] at h
  rw [e, h, cid_nat _ _ _ (by omega)]
  have e2 : (q : Int) * (2 * 2 ^ (2 * (30 - l))) = 2 * ((q * 4 ^ (30 - l) : Nat) : Int) := by
    rw [Int.natCast_mul, i4, Int.mul_left_comm]
  rw [e2, show (2 : Int) ^ Int.toNat 61 = 2305843009213693952 by decide]
  simp only [Nat.sub_self, Nat.pow_zero, Nat.one_mul]
  omega
theorem leaf_lt (q l : Nat) (hl : l ≤ 30) (hq : q < 4 ^ l) : q * 4 ^ (30 - l) < 4 ^ 30 := by
  have : (4 : Nat) ^ 30 = 4 ^ l * 4 ^ (30 - l) := by rw [← Nat.pow_add]; congr 1; omega
  rw [this]; exact Nat.mul_lt_mul_of_pos_right hq (pos4 _)
theorem q_lt (q l : Nat) (hl : l ≤ 30) (hq : q < 4 ^ l) : q < 1152921504606846976 := by
  have := Nat.pow_le_pow_right (show 0 < 4 by decide) hl
  omega
theorem ffpl_raw (hf : f < 6) (hl : l ≤ 30) (hq : q < 4 ^ l) {tf tl tp : Tok} : Sp 7 w p loose mean mg mb 235 news [.ref 561, .int f tf, .int ((q : Int) * 2 ^ (61 - 2 * l)) tp, .int l tl] (OutC w (cid f (q * 4 ^ (30 - l) / 4 ^ (30 - l)) l) news) := by
  have e1 := leaf_id f q l hl
  have e2 := leaf_lt q l hl hq
  unfold Sp
  k_fill
  intro dp un gd cn cs a ccd cl outer A₀ base h₀ L m s R B F X N T hk' hdp hun hret
  k_dflt (refine' code_def ?k1 ?k2 ?k3 ?k4 ?k5 ?kA ?kF ?kK ?k6 ?k7 ?k8 ?k9 ?kB ?_ ?c2 ?c3 ?c4 ?c5; (case kA => exact rfl); (case kF => exact rfl); (case kK => first | assumption | exact rfl); (case k1 => k_asm); (case k2 => k_asm); (case k3 => k_asm); (case k4 => k_asm); (case k5 => k_asm); (case k6 => k_is); (case k7 => k_is); (case k8 => ktr_room); (case k9 => first | exact BindsTo.of_eq rfl | exact binds_K (by k_in) rfl (by k_is) rfl rfl rfl); (case c5 => decide); (case kB => exact locs rfl); (case c2 => exact rfl); (case c3 => exact rfl); (case c4 => exact rfl); k_whole; intro g' L' h' FG' F' N' B' X' T'; (try dsimp only); (try k_lift B'); (try k_fold))
  k_steps
  all_goals exact hret _ _ _ _ (by k_asm) (news_drop2 (c := [_, _]) (by k_asm)) ⟨_, _, _, _, rfl, rfl, lt_tl (lt_tl (by assumption)), by assumption⟩
theorem ffpl_cs (hf : f < 6) (hl : l ≤ 30) (hq : q < 4 ^ l) {tf tl tp : Tok} (hv : v = (q : Int) * 2 ^ (61 - 2 * l)) : Sp 7 w p loose mean mg mb 235 news [.ref 561, .int f tf, .int v tp, .int l tl] (OutC w (cid f q l) news) := by
  have := ffpl_raw (p := p) (loose := loose) (mean := mean) (mg := mg) (mb := mb) (news := news) (w := w) (tf := tf) (tl := tl) (tp := tp) hf hl hq
  rw [Nat.mul_div_cancel _ (pos4 _)] at this
  rw [hv]; exact this
local macro_rules | `(tactic| walk_at "call ref") => `(tactic| (k_here; k_dflt ((first | (with_reducible refine' sp_useCM (ffpl_cs ?c0 ?c1 ?c2 ?c3) ?k1 ?k2 ?k3 ?k4 ?k5 ?kK ?kd ?ku ?kq ?_) | (refine' sp_useCM (ffpl_cs ?c0 ?c1 ?c2 ?c3) ?k1 ?k2 ?k3 ?k4 ?k5 ?kK ?kd ?ku ?kq ?_)); (case k1 => k_asm); (case k2 => k_asm); (case k3 => k_asm); (case k4 => k_asm); (case k5 => k_asm); (case kq => k_mem); (case c0 => assumption); (case c1 => assumption); (case c2 => assumption); (case c3 => assumption); (case kK => first | exact rfl | assumption); (case kd => first | exact roomK (by with_reducible assumption) (Nat.le_of_ble_eq_true rfl) | exact roomL _ rfl | ktr_room); (case ku => first | exact unitK (by with_reducible assumption) (Nat.le_of_ble_eq_true rfl) | exact unitL _ rfl | ktr_units); k_whole; intro x9 d9 t9 k9 h9 tk9 la9 lb9 F9 N9; (try dsimp only); (try k_sweep); (try k_fold))))
theorem law_cell_cs (hf : f < 6) (hl : l ≤ 30) (hq : q < 4 ^ l) {tf tl tp : Tok} : Sp 8 w p loose mean mg mb 614 news [.int f tf, .int q tp, .int l tl] (OutC w (cid f q l) news) := by
  have e1 : (q : Int) * 2 ^ (61 - 2 * (l : Int)).toNat = (q : Int) * 2 ^ (61 - 2 * l) := by congr 2; omega
  have e2 := q_lt q l hl hq
  unfold Sp
  k_fill
  intro dp un gd cn cs a ccd cl outer A₀ base h₀ L m s R B F X N T hk' hdp hun hret
  k_dflt (refine' code_def ?k1 ?k2 ?k3 ?k4 ?k5 ?kA ?kF ?kK ?k6 ?k7 ?k8 ?k9 ?kB ?_ ?c2 ?c3 ?c4 ?c5; (case kA => exact rfl); (case kF => exact rfl); (case kK => first | assumption | exact rfl); (case k1 => k_asm); (case k2 => k_asm); (case k3 => k_asm); (case k4 => k_asm); (case k5 => k_asm); (case k6 => k_is); (case k7 => k_is); (case k8 => ktr_room); (case k9 => first | exact BindsTo.of_eq rfl | exact binds_K (by k_in) rfl (by k_is) rfl rfl rfl); (case c5 => decide); (case kB => exact locs rfl); (case c2 => exact rfl); (case c3 => exact rfl); (case c4 => exact rfl); k_whole; intro g' L' h' FG' F' N' B' X' T'; (try dsimp only); (try k_lift B'); (try k_fold))
  k_steps
  all_goals exact hret _ _ _ _ (by k_asm) (news_drop2 (c := [_]) (by k_asm)) ⟨_, _, _, _, rfl, rfl, lt_tl (by assumption), by assumption⟩
local macro_rules | `(tactic| walk_at "call ref") => `(tactic| (k_here; (with_reducible show wpAny _ _ (call (Value.ref 358) _ _) _ _ _); k_dflt ((first | (with_reducible refine' sp_useI (pos_cs ?c0 ?c1 ?c2) ?k1 ?k2 ?k3 ?k4 ?k5 ?kK ?kd ?ku ?_) | (refine' sp_useI (pos_cs ?c0 ?c1 ?c2) ?k1 ?k2 ?k3 ?k4 ?k5 ?kK ?kd ?ku ?_)); (case k1 => k_asm); (case k2 => k_asm); (case k3 => k_asm); (case k4 => k_asm); (case k5 => k_asm); (case c0 => ktr_rel); (case c1 => assumption); (case c2 => assumption); (case kK => first | exact rfl | assumption); (case kd => first | exact roomK (by with_reducible assumption) (Nat.le_of_ble_eq_true rfl) | exact roomL _ rfl | ktr_room); (case ku => first | exact unitK (by with_reducible assumption) (Nat.le_of_ble_eq_true rfl) | exact unitL _ rfl | ktr_units); k_whole; intro t9 h9 tk9 F9 N9; (try dsimp only); (try k_sweep); (try k_fold))))
local macro_rules | `(tactic| walk_at "call ref") => `(tactic| (k_here; (with_reducible show wpAny _ _ (call (Value.ref 372) _ _) _ _ _); k_dflt ((first | (with_reducible refine' sp_useI (level_cs ?c0 ?c1) ?k1 ?k2 ?k3 ?k4 ?k5 ?kK ?kd ?ku ?_) | (refine' sp_useI (level_cs ?c0 ?c1) ?k1 ?k2 ?k3 ?k4 ?k5 ?kK ?kd ?ku ?_)); (case k1 => k_asm); (case k2 => k_asm); (case k3 => k_asm); (case k4 => k_asm); (case k5 => k_asm); (case c0 => ktr_rel); (case c1 => assumption); (case kK => first | exact rfl | assumption); (case kd => first | exact roomK (by with_reducible assumption) (Nat.le_of_ble_eq_true rfl) | exact roomL _ rfl | ktr_room); (case ku => first | exact unitK (by with_reducible assumption) (Nat.le_of_ble_eq_true rfl) | exact unitL _ rfl | ktr_units); k_whole; intro t9 h9 tk9 F9 N9; (try dsimp only); (try k_sweep); (try k_fold))))
local macro_rules | `(tactic| walk_at "call ref") => `(tactic| (k_here; (with_reducible show wpAny _ _ (call (Value.ref 351) _ _) _ _ _); k_dflt ((first | (with_reducible refine' sp_useI (face_cs ?c0 ?c1 ?c2) ?k1 ?k2 ?k3 ?k4 ?k5 ?kK ?kd ?ku ?_) | (refine' sp_useI (face_cs ?c0 ?c1 ?c2) ?k1 ?k2 ?k3 ?k4 ?k5 ?kK ?kd ?ku ?_)); (case k1 => k_asm); (case k2 => k_asm); (case k3 => k_asm); (case k4 => k_asm); (case k5 => k_asm); (case c0 => ktr_rel); (case c1 => assumption); (case c2 => assumption); (case kK => first | exact rfl | assumption); (case kd => first | exact roomK (by with_reducible assumption) (Nat.le_of_ble_eq_true rfl) | exact roomL _ rfl | ktr_room); (case ku => first | exact unitK (by with_reducible assumption) (Nat.le_of_ble_eq_true rfl) | exact unitL _ rfl | ktr_units); k_whole; intro t9 h9 tk9 F9 N9; (try dsimp only); (try k_sweep); (try k_fold))))
theorem law_place_cs (hc : IsCell w news x f q l) (hf : f < 6) (hl : l ≤ 30) (hq : q < 4 ^ l) {tf tl : Tok} : Sp 4 w p loose mean mg mb 621 news [.ref x, .int l tl, .int f tf] (OutI q news) := by
  have e1 : ((4 ^ (30 - l) * (2 * q + 1) : Nat) : Int).fdiv (2 ^ (61 - 2 * (l : Int)).toNat) = (q : Int) := by
    rw [show (61 - 2 * (l : Int)).toNat = 61 - 2 * l by omega]; exact cid_place q l hl
  have hc' := hc
  obtain ⟨dx, t, tk, hx, hd⟩ := hc'
  unfold Sp
  k_fill
  intro dp un gd cn cs a ccd cl outer A₀ base h₀ L m s R B F X N T hk' hdp hun hret
  k_dflt (refine' code_def ?k1 ?k2 ?k3 ?k4 ?k5 ?kA ?kF ?kK ?k6 ?k7 ?k8 ?k9 ?kB ?_ ?c2 ?c3 ?c4 ?c5; (case kA => exact rfl); (case kF => exact rfl); (case kK => first | assumption | exact rfl); (case k1 => k_asm); (case k2 => k_asm); (case k3 => k_asm); (case k4 => k_asm); (case k5 => k_asm); (case k6 => k_is); (case k7 => k_is); (case k8 => ktr_room); (case k9 => first | exact BindsTo.of_eq rfl | exact binds_K (by k_in) rfl (by k_is) rfl rfl rfl); (case c5 => decide); (case kB => exact locs rfl); (case c2 => exact rfl); (case c3 => exact rfl); (case c4 => exact rfl); k_whole; intro g' L' h' FG' F' N' B' X' T'; (try dsimp only); (try k_lift B'); (try k_fold))
  k_steps
  all_goals exact hret _ news _ _ (by k_asm) (by first | k_asm | exact news_tl (by k_asm) | exact news_tl (news_tl (by k_asm)) | exact news_tl (news_tl (news_tl (by k_asm)))) (outI (by exact e1))
end Mine
/- part Tab -/
set_option Elab.async false
set_option maxRecDepth 100000
set_option maxHeartbeats 8000000
namespace Mine
open PySem PySem.W PySem.Spec PySem.Calls PyProof.Rows
def rowIJ (n : Nat) : Addr := 149 + n
def rowPOS (n : Nat) : Addr := 140 + n
def itemOk (v : Option Value) (x : Nat) : Bool := match v with
  | some (.int i _) => i == (x : Int)
  | _ => false
theorem itemOk_get {v : Option Value} {x : Nat} (h : itemOk v x = true) : ∃ t, v = some (.int x t) := by
  unfold itemOk at h
  split at h
  · rename_i i t; exact ⟨t, by rw [beq_iff_eq.mp h]⟩
  · cases h
def rowOk (T : Nat → Nat) (r : Nat) (l : List Value) : Bool := (List.range 128).all fun c => itemOk (l[c]?) (T (r * 128 + c))
theorem rowOk_get {T : Nat → Nat} {r : Nat} {l : List Value} (h : rowOk T r l = true) {c : Nat} (hc : c < 128) : ∃ t, l[c]? = some (.int (T (r * 128 + c) : Nat) t) :=
  itemOk_get (List.all_eq_true.mp h c (List.mem_range.mpr hc))
def RowAt (P : Params) (T : Nat → Nat) (r : Nat) (a : Addr) : Prop := ∃ (l : List Value) (n : Nat) (dd : Option Addr) (sl : Array (Option Value)), (Mine.hd.heap_39 P).lookup a = some ⟨.type "list", dd, .seq l.toArray n, sl⟩ ∧ rowOk T r l = true
theorem row_ij0 (P : Params) : RowAt P tIJ 0 (rowIJ 0) := ⟨_, _, _, _, rfl, by decide +kernel⟩
theorem row_ij1 (P : Params) : RowAt P tIJ 1 (rowIJ 1) := ⟨_, _, _, _, rfl, by decide +kernel⟩
theorem row_ij2 (P : Params) : RowAt P tIJ 2 (rowIJ 2) := ⟨_, _, _, _, rfl, by decide +kernel⟩
theorem row_ij3 (P : Params) : RowAt P tIJ 3 (rowIJ 3) := ⟨_, _, _, _, rfl, by decide +kernel⟩
theorem row_ij4 (P : Params) : RowAt P tIJ 4 (rowIJ 4) := ⟨_, _, _, _, rfl, by decide +kernel⟩
theorem row_ij5 (P : Params) : RowAt P tIJ 5 (rowIJ 5) := ⟨_, _, _, _, rfl, by decide +kernel⟩
theorem row_ij6 (P : Params) : RowAt P tIJ 6 (rowIJ 6) := ⟨_, _, _, _, rfl, by decide +kernel⟩
theorem row_ij7 (P : Params) : RowAt P tIJ 7 (rowIJ 7) := ⟨_, _, _, _, rfl, by decide +kernel⟩
theorem row_ij (P : Params) : ∀ r < 8, RowAt P tIJ r (rowIJ r)
  | 0, _ => row_ij0 P
  | 1, _ => row_ij1 P
  | 2, _ => row_ij2 P
  | 3, _ => row_ij3 P
  | 4, _ => row_ij4 P
  | 5, _ => row_ij5 P
  | 6, _ => row_ij6 P
  | 7, _ => row_ij7 P
  | n + 8, h => absurd h (by omega)
theorem top_ij (P : Params) : ∃ (n : Nat) (dd : Option Addr) (sl : Array (Option Value)), (Mine.hd.heap_39 P).lookup 157 = some ⟨.type "list", dd, .seq (List.toArray ((List.range 8).map fun r => Value.ref (rowIJ r))) n, sl⟩ := ⟨_, _, _, rfl⟩
theorem tIJ_lt : ∀ b < 1024, tIJ b < 1024 := by decide +kernel
section
variable {prog : Program} {w : World} {A : Around} {E : Value → Shared → Prop} {s : Shared} {h₀ : Heap} {L : Addr} {m : PySem.Str → Option Value} {b : Int} {u : Tok} {value slice : PySem.Expr} {Q : Value → Shared → Prop}
theorem ijRow (F : Fr h₀ L s.heap m) (X₀ : (Mine.hd.heap_39 w.params).In h₀) (h0 : 0 ≤ b) (h1 : b < 1024) (h : 0 ≤ b → b < 1024 → Q (.ref (rowIJ (b.toNat / 128))) s)
    (hs : subscripted slice false (.ref 157) (.int (b.fdiv (2 ^ Int.toNat 7)) u) = operate [.ref 157, .int (b.fdiv (2 ^ Int.toNat 7)) u] (getItem (.ref 157) (.int (b.fdiv (2 ^ Int.toNat 7)) u)) := by with_unfolding_all rfl) :
    wpAny (model prog w) A (subscriptTail value slice (.ref 157) (.int (b.fdiv (2 ^ Int.toNat 7)) u)) Q E s := by
  obtain ⟨n, dd, sl, hl⟩ := top_ij w.params
  have hL := lstK (X₀.keeps F.keep) hl
  have e : b.fdiv (2 ^ Int.toNat 7) = ((b.toNat / 128 : Nat) : Int) := by
    rw [Int.fdiv_eq_ediv_of_nonneg _ (by decide), show (2 : Int) ^ Int.toNat 7 = 128 by decide]; omega
  have hlt : b.toNat / 128 < 8 := by omega
  refine tail_any hL.typeIs slot_list_getitem.lookup ?_ hs
  rw [e]
  exact wpAny_getItem_list hL (by omega) (by omega) (by rw [Int.toNat_natCast, List.getElem?_toArray, List.getElem?_map, List.getElem?_range hlt]; rfl) (h h0 h1)
theorem ijItem (F : Fr h₀ L s.heap m) (X₀ : (Mine.hd.heap_39 w.params).In h₀) (h0 : 0 ≤ b) (h1 : b < 1024) (h : ∀ (r : Nat) (t : Tok), r = tIJ b.toNat → r < 1024 → Q (.int r t) s)
    (hs : subscripted slice false (.ref (rowIJ (b.toNat / 128))) (.int (Builtin.bitAnd b 127) u) = operate [.ref (rowIJ (b.toNat / 128)), .int (Builtin.bitAnd b 127) u] (getItem (.ref (rowIJ (b.toNat / 128))) (.int (Builtin.bitAnd b 127) u)) := by with_unfolding_all rfl) :
    wpAny (model prog w) A (subscriptTail value slice (.ref (rowIJ (b.toNat / 128))) (.int (Builtin.bitAnd b 127) u)) Q E s := by
  obtain ⟨l, n, dd, sl, hl, hr⟩ := row_ij w.params (b.toNat / 128) (by omega)
  have hL := lstK (X₀.keeps F.keep) hl
  have e : Builtin.bitAnd b 127 = ((b.toNat % 128 : Nat) : Int) := by rw [bitAnd_m7]; omega
  obtain ⟨t, ht⟩ := rowOk_get hr (c := b.toNat % 128) (by omega)
  rw [show b.toNat / 128 * 128 + b.toNat % 128 = b.toNat by omega] at ht
  refine tail_any hL.typeIs slot_list_getitem.lookup ?_ hs
  rw [e]
  exact wpAny_getItem_list hL (by omega) (by omega) (by rw [Int.toNat_natCast, List.getElem?_toArray]; exact ht) (h _ t rfl (tIJ_lt _ (by omega)))
end
theorem row_pos0 (P : Params) : RowAt P tPOS 0 (rowPOS 0) := ⟨_, _, _, _, rfl, by decide +kernel⟩
theorem row_pos1 (P : Params) : RowAt P tPOS 1 (rowPOS 1) := ⟨_, _, _, _, rfl, by decide +kernel⟩
theorem row_pos2 (P : Params) : RowAt P tPOS 2 (rowPOS 2) := ⟨_, _, _, _, rfl, by decide +kernel⟩
theorem row_pos3 (P : Params) : RowAt P tPOS 3 (rowPOS 3) := ⟨_, _, _, _, rfl, by decide +kernel⟩
theorem row_pos4 (P : Params) : RowAt P tPOS 4 (rowPOS 4) := ⟨_, _, _, _, rfl, by decide +kernel⟩
theorem row_pos5 (P : Params) : RowAt P tPOS 5 (rowPOS 5) := ⟨_, _, _, _, rfl, by decide +kernel⟩
theorem row_pos6 (P : Params) : RowAt P tPOS 6 (rowPOS 6) := ⟨_, _, _, _, rfl, by decide +kernel⟩
theorem row_pos7 (P : Params) : RowAt P tPOS 7 (rowPOS 7) := ⟨_, _, _, _, rfl, by decide +kernel⟩
theorem row_pos (P : Params) : ∀ r < 8, RowAt P tPOS r (rowPOS r)
  | 0, _ => row_pos0 P
  | 1, _ => row_pos1 P
  | 2, _ => row_pos2 P
  | 3, _ => row_pos3 P
  | 4, _ => row_pos4 P
  | 5, _ => row_pos5 P
  | 6, _ => row_pos6 P
  | 7, _ => row_pos7 P
  | n + 8, h => absurd h (by omega)
theorem top_pos (P : Params) : ∃ (n : Nat) (dd : Option Addr) (sl : Array (Option Value)), (Mine.hd.heap_39 P).lookup 148 = some ⟨.type "list", dd, .seq (List.toArray ((List.range 8).map fun r => Value.ref (rowPOS r))) n, sl⟩ := ⟨_, _, _, rfl⟩
theorem tPOS_lt : ∀ b < 1024, tPOS b < 1024 := by decide +kernel
section
variable {prog : Program} {w : World} {A : Around} {E : Value → Shared → Prop} {s : Shared} {h₀ : Heap} {L : Addr} {m : PySem.Str → Option Value} {b : Int} {u : Tok} {value slice : PySem.Expr} {Q : Value → Shared → Prop}
theorem posRow (F : Fr h₀ L s.heap m) (X₀ : (Mine.hd.heap_39 w.params).In h₀) (h0 : 0 ≤ b) (h1 : b < 1024) (h : 0 ≤ b → b < 1024 → Q (.ref (rowPOS (b.toNat / 128))) s)
    (hs : subscripted slice false (.ref 148) (.int (b.fdiv (2 ^ Int.toNat 7)) u) = operate [.ref 148, .int (b.fdiv (2 ^ Int.toNat 7)) u] (getItem (.ref 148) (.int (b.fdiv (2 ^ Int.toNat 7)) u)) := by with_unfolding_all rfl) :
    wpAny (model prog w) A (subscriptTail value slice (.ref 148) (.int (b.fdiv (2 ^ Int.toNat 7)) u)) Q E s := by
  obtain ⟨n, dd, sl, hl⟩ := top_pos w.params
  have hL := lstK (X₀.keeps F.keep) hl
  have e : b.fdiv (2 ^ Int.toNat 7) = ((b.toNat / 128 : Nat) : Int) := by
    rw [Int.fdiv_eq_ediv_of_nonneg _ (by decide), show (2 : Int) ^ Int.toNat 7 = 128 by decide]; omega
  have hlt : b.toNat / 128 < 8 := by omega
  refine tail_any hL.typeIs slot_list_getitem.lookup ?_ hs
  rw [e]
  exact wpAny_getItem_list hL (by omega) (by omega) (by rw [Int.toNat_natCast, List.getElem?_toArray, List.getElem?_map, List.getElem?_range hlt]; rfl) (h h0 h1)
theorem posItem (F : Fr h₀ L s.heap m) (X₀ : (Mine.hd.heap_39 w.params).In h₀) (h0 : 0 ≤ b) (h1 : b < 1024) (h : ∀ (r : Nat) (t : Tok), r = tPOS b.toNat → r < 1024 → Q (.int r t) s)
    (hs : subscripted slice false (.ref (rowPOS (b.toNat / 128))) (.int (Builtin.bitAnd b 127) u) = operate [.ref (rowPOS (b.toNat / 128)), .int (Builtin.bitAnd b 127) u] (getItem (.ref (rowPOS (b.toNat / 128))) (.int (Builtin.bitAnd b 127) u)) := by with_unfolding_all rfl) :
    wpAny (model prog w) A (subscriptTail value slice (.ref (rowPOS (b.toNat / 128))) (.int (Builtin.bitAnd b 127) u)) Q E s := by
  obtain ⟨l, n, dd, sl, hl, hr⟩ := row_pos w.params (b.toNat / 128) (by omega)
  have hL := lstK (X₀.keeps F.keep) hl
  have e : Builtin.bitAnd b 127 = ((b.toNat % 128 : Nat) : Int) := by rw [bitAnd_m7]; omega
  obtain ⟨t, ht⟩ := rowOk_get hr (c := b.toNat % 128) (by omega)
  rw [show b.toNat / 128 * 128 + b.toNat % 128 = b.toNat by omega] at ht
  refine tail_any hL.typeIs slot_list_getitem.lookup ?_ hs
  rw [e]
  exact wpAny_getItem_list hL (by omega) (by omega) (by rw [Int.toNat_natCast, List.getElem?_toArray]; exact ht) (h _ t rfl (tPOS_lt _ (by omega)))
end
end Mine
/- part S5 -/
set_option Elab.async false
set_option maxRecDepth 100000
set_option maxHeartbeats 6000000
namespace Mine
open PySem PySem.W PySem.Spec PySem.Calls PyProof.Rows
variable {w : World} {p : Program} {loose : List PySem.Str} {mean : ExcName → Option Value} {mg mb : PySem.Str → Option Value} {news : Led} {x dx : Addr} {v : Int} {t tk : Tok}
theorem bnd {x y k m : Int} (hk : k = 1 ∨ k = 3) (hm : m = 15 ∨ m = 255) : 0 ≤ Builtin.bitAnd x k + Builtin.bitAnd y m * 2 ^ Int.toNat 2 ∧ Builtin.bitAnd x k + Builtin.bitAnd y m * 2 ^ Int.toNat 2 < 1024 := by
  rw [show (2 : Int) ^ Int.toNat 2 = 4 by decide]
  rcases hk with rfl | rfl <;> rcases hm with rfl | rfl <;> simp only [bitAnd_m1, bitAnd_m2, bitAnd_m4, bitAnd_m8] <;> omega
abbrev tup4 (a b c d : Value) : Obj := { cls := .type "tuple", data := .seq #[a, b, c, d] }
abbrev tup3 (a b c : Value) : Obj := { cls := .type "tuple", data := .seq #[a, b, c] }
abbrev OutQ (f i j : Int) (news : Led) : Value → Led → Prop := fun r n => ∃ (a : Addr) (i' j' o : Int) (t1 t2 t3 t4 : Tok), r = .ref a ∧ n = (a, tup4 (.int f t1) (.int i' t2) (.int j' t3) (.int o t4)) :: news ∧ i' = i ∧ j' = j ∧ ∀ p ∈ news, p.1 < a
theorem news_drop1 {h₀ h : Heap} {L : Addr} {a : Addr × Obj} {c l : Led} (N : News h₀ L h (a :: (c ++ l))) : News h₀ L h (a :: l) := fun q hq => by
  rcases List.mem_cons.mp hq with rfl | hq
  · exact N _ (.head _)
  · exact N q (.tail _ (List.mem_append_right _ hq))
theorem lt_all1 {d : Addr} {l : Led} (h : AllLt d l) : ∀ p ∈ l, p.1 < d := fun _ hp => ktn_ltOf h _ hp
theorem lt_all2 {d : Addr} {a : Prop} {l : Led} (h : a ∧ AllLt d l) : ∀ p ∈ l, p.1 < d := fun _ hp => ktn_ltOf h.2 _ hp
theorem lt_all3 {d : Addr} {a b : Prop} {l : Led} (h : a ∧ b ∧ AllLt d l) : ∀ p ∈ l, p.1 < d := fun _ hp => ktn_ltOf h.2.2 _ hp
section
variable {f i j : Int} {fa : Addr} {d : Nat} {vs : List Value}
  {dp un : Nat} {gd : Option (List Code)} {cn : PySem.Str} {cs : Scope} {a : Addr} {ccd : Value} {cl : List (PySem.Str × Addr)} {outer : List Env} {A₀ : Around} {base h₀ : Heap} {L : Addr} {m : PySem.Str → Option Value} {s : Shared}
theorem sp_useQ {Q E : Value → Shared → Prop} (S : Sp d w p loose mean mg mb fa news vs (OutQ f i j news)) (B : Below A₀ base outer h₀) (F : Fr h₀ L s.heap m) (X : (Mine.hd.heap_39 w.params).In h₀) (N : News h₀ L s.heap news) (T : Top p loose mean mg mb h₀) (hk : cs.kind = .function) (hdp : dp + d < recursionLimit) (hun : un + 20 * d < cLine)
    (ret : ∀ (a : Addr) (o : Int) (t1 t2 t3 t4 : Tok) h' tk', (∀ p ∈ news, p.1 < a) → Fr h₀ L h' m → News h₀ L h' ((a, tup4 (.int f t1) (.int i t2) (.int j t3) (.int o t4)) :: news) → Q (.ref a) { s with heap := h', toks := tk' }) :
    wpAny (model PySem.Challenge.rw_fb0049_01.row.prog w) (ktrTop dp un gd cn cs L a ccd cl outer) (call (.ref fa) vs) Q E s :=
  sp_use S B F X N T hk hdp hun fun r n h' tk' F' N' o => by
    obtain ⟨a, i', j', o, t1, t2, t3, t4, rfl, rfl, rfl, rfl, la⟩ := o
    exact ret a o t1 t2 t3 t4 h' tk' la F' N'
end
section
variable {M : Model} {A : Around} {E : Value → Shared → Prop} {s : Shared} {K : Frag} {env : Env} {pos : Pos} {f : Value} {first : List Value} {Q : Value → Shared → Prop} {h₀ : Heap} {L : Addr} {m : PySem.Str → Option Value}
theorem callWith_K0' (F : Fr h₀ L s.heap m) (X₀ : K.In h₀) (hk : keepIn K f = true) (h : wpAny M A (call f (first ++ [])) Q E s) : wpAny M A (callWith pos f first (backTo pos (starEach [] env)) []) Q E s :=
  callWith_K0 (X₀.keeps F.keep) hk h
end
theorem and_small {x m : Int} (h0 : 0 ≤ m) (h1 : m < 2 ^ 63) : (Builtin.bitAnd x m).natAbs < 2 ^ 64 := by
  have h : 0 ≤ Builtin.bitAnd x m ∧ Builtin.bitAnd x m ≤ m := by
    by_cases hx : 0 ≤ x
    · rw [bitAnd_pp hx h0]
      have := Nat.and_le_right (n := x.toNat) (m := m.toNat)
      omega
    · rw [bitAnd_np hx h0]
      have := Nat.and_le_left (n := m.toNat) (m := (Builtin.bitNot x).toNat)
      omega
  omega
theorem fdiv_small {r : Nat} {k : Nat} (h : r < 2 ^ 63) : ((r : Int).fdiv (2 ^ k)).natAbs < 2 ^ 64 := by
  rw [Int.fdiv_eq_ediv_of_nonneg _ (Int.le_of_lt (kbt_pos k))]
  have h1 := Int.ediv_nonneg (show (0 : Int) ≤ r by omega) (Int.le_of_lt (kbt_pos k))
  have h2 := Int.ediv_le_self (2 ^ k : Int) (show (0 : Int) ≤ r by omega)
  omega
theorem allLt_ne {d : Addr} {l : Led} (h : AllLt d l) : ∀ p ∈ l, p.1 ≠ d := fun p hp => Nat.ne_of_lt (ktn_ltOf h p hp)
theorem unrEnd1 {h₀ : Heap} {L I : Addr} {it : Obj} {rest : (PySem.Str → Option Value) → List (Addr × Obj) → Prop} {s₁ : Shared} {h' : Heap} {tk : Nat} {m' : PySem.Str → Option Value} {led : List (Addr × Obj)} (F : Fr h₀ L h' m') (N : News h₀ L h' ((I, it) :: led))
    (off : ∀ p ∈ led, p.1 ≠ I) (r : rest m' led) : UnrEnd h₀ L s₁ I it rest { s₁ with heap := h', toks := tk } := UnrEnd.intro F N led (fun _ hp => hp) off r
section
variable {prog : Program} {w : World} {A : Around} {E : Value → Shared → Prop} {s : Shared} {a b c : Int} {t u : Tok} {Q : Value → Shared → Prop}
theorem mul_lit (e : a * b = c) (h1 : -(2 ^ 64) < a) (h2 : a < 2 ^ 64) (h : Q (.int c s.toks) { s with toks := s.toks + 1 }) : wpAny (model prog w) A (binaryOp .Mult (.int a t) (.int b u)) Q E s := by
  subst e; exact mul_int h (IntMulOk.of_left (intBits_le_64 h1 h2))
theorem add_lit (e : a + b = c) (h : Q (.int c s.toks) { s with toks := s.toks + 1 }) : wpAny (model prog w) A (binaryOp .Add (.int a t) (.int b u)) Q E s := by
  subst e; exact add_int h
theorem sub_lit (e : a - b = c) (h : Q (.int c s.toks) { s with toks := s.toks + 1 }) : wpAny (model prog w) A (binaryOp .Sub (.int a t) (.int b u)) Q E s := by
  subst e; exact sub_int h
theorem or_lit (e : Builtin.bitOr a b = c) (h : Q (.int c s.toks) { s with toks := s.toks + 1 }) : wpAny (model prog w) A (binaryOp .BitOr (.int a t) (.int b u)) Q E s := by
  subst e; exact or_int h
theorem shl_lit (hn : 0 ≤ b) (hn2 : b ≤ 1000000) (ha : a.natAbs < 2 ^ 64) (e : a * 2 ^ b.toNat = c) (h : Q (.int c s.toks) { s with toks := s.toks + 1 }) : wpAny (model prog w) A (binaryOp .LShift (.int a t) (.int b u)) Q E s := by
  subst e; exact lshift_int_small hn hn2 ha h
end
section
variable {f q l : Nat}
local macro_rules | `(tactic| walk_at "eval Name") => `(tactic| (k_here; (with_reducible show wpAny _ _ (eval (Expr.Name _ _) (compEnvC _ _ _ _)) _ _ _); k_dflt (first
  | (name_kind "cell" "free"; refine kcf_cell (by k_asm) (by rfl) (by k_mem) (by k_asm) ?_)
  | (name_kind "local"; refine LCgL.ld_own (by k_asm) (by k_mem) (by assumption) (by assumption) ?_)
  | (name_kind "globalImplicit"; refine LCgL.ld_global (by k_asm) (by k_asm) (by k_asm) (by k_is) ?_))))
local macro_rules | `(tactic| walk_at "eval Name") => `(tactic| (k_here; (fail_if_success (with_reducible show wpAny _ _ (eval (Expr.Name _ _) (compEnvC _ _ _ _)) _ _ _)); k_dflt (first
  | (name_kind "local"; refine' nmL ?F ?q ?v ?_; (case F => k_asm); (case q => decide +kernel); (case v => rfl); k_whole)
  | (name_kind "cell"; refine' nmC ?N ?q ?c ?m ?d ?_; (case q => decide +kernel); (case N => k_asm); (case c => rfl); (case m => k_mem); (case d => k_asm); k_whole)
  | (name_kind "globalImplicit"; refine' nmK ?F ?X ?T ?q ?e ?_; (case q => decide +kernel); (case F => k_asm); (case X => k_asm); (case T => k_asm); (case e => k_is); k_whole)
  | (name_kind "globalImplicit"; refine' nmB ?F ?X ?T ?q ?e ?v ?n ?_; (case q => decide +kernel); (case F => k_asm); (case X => k_asm); (case T => k_asm); (case e => k_is); (case v => boot_fast); (case n => decide); k_whole))))
local macro_rules | `(tactic| walk_at "callWith ref") => `(tactic| (k_here; k_dflt (first
  | ((with_reducible refine' callWith_K ?k1 ?k2 ?_); (case k1 => k_asm); (case k2 => k_is); k_whole)
  | ((with_reducible refine' callWith_K0n ?kF ?kX ?kk ?_); (case kF => with_reducible assumption); (case kX => k_asm); (case kk => k_is); k_whole)
  | ((with_reducible refine' callWith_M ?k1 ?k2 ?k3 ?k4 ?_); (case k1 => k_asm); (case k2 => k_asm); (case k3 => k_mem); (case k4 => k_is); k_whole)
  | ((with_reducible refine' callWith_M0 ?k1 ?k2 ?_); (case k1 => k_meth); (case k2 => k_is); k_whole; try dsimp only [List.nil_append, List.cons_append]))))
local macro_rules | `(tactic| walk_at "loadName") => `(tactic| (k_here; k_dflt (refine' ldL ?F ?q ?v ?_; (case F => k_asm); (case q => decide +kernel); (case v => rfl); k_whole)))
local macro_rules | `(tactic| walk_at "subscriptTail Name Constant ref int") => `(tactic| (k_here; k_dflt (refine' item_tupleT ?t ?a ?b ?c ?d ?_; (case t => exact News.isTup (by k_asm) (by k_mem)); (case a => decide); (case b => decide); (case c => rfl); (case d => rfl); k_whole)))
local macro_rules | `(tactic| walk_at "getAttr ref") => `(tactic| (k_here; k_dflt (first
  | ((with_reducible show wpAny _ _ (getAttr (Value.ref _) (PySem.Str.ofString "__class__") _) _ _ _); refine' get_class ?k1 ?k2 ?k3 ?k4 ?k5 ?k6 ?k7 ?k8 ?k9 ?_; (case k1 => k_asm); (case k2 => k_asm); (case k3 => k_inst); (case k4 => k_is); (case k5 => k_is); (case k6 => k_is); (case k7 => k_is); (case k8 => k_is); (case k9 => k_is); k_whole)
  | (refine' cls_val ?k1 ?k2 ?k3 ?k4 ?k5 ?k6 ?_; (case k1 => k_asm); (case k2 => k_asm); (case k3 => k_is); (case k4 => k_is); (case k5 => k_is); (case k6 => k_handed); k_whole))))
local macro_rules | `(tactic| walk_at "spliced") => `(tactic| (k_here; k_dflt (first | refine args_cons ?_ | refine args_nil ?_)))
local macro_rules | `(tactic| walk_at "eval Call Name cons nil") => `(tactic| (k_here; k_dflt (refine Call_ ?_)))
local macro_rules | `(tactic| walk_at "storeName") => `(tactic| (k_here; k_dflt (refine' stL ?F ?N ?q ?_; (case q => decide +kernel); (case F => k_asm); (case N => k_asm); k_whole; intro h' F' N'; (try k_sweep))))
local macro_rules | `(tactic| walk_at "getMethod ref") => `(tactic| (k_here; k_dflt (first
  | (refine' method_inst ?k1 ?k2 ?k3 ?k4 ?k5 ?k6 ?k7 ?_; (case k1 => k_asm); (case k2 => k_asm); (case k3 => k_inst); (case k4 => k_is); (case k5 => k_is); (case k6 => k_is); (case k7 => k_get); k_whole)
  | (refine' kmu_cm ?k1 ?k2 ?k3 ?k4 ?k5 ?k6 ?k7 ?k8 ?k9 ?k10 ?k11 ?k12 ?k13 ?_; (case k1 => k_asm); (case k2 => k_asm); (case k3 => k_asm); (case k4 => k_inst); (case k5 => k_is); (case k6 => k_is); (case k7 => k_is); (case k8 => k_is); (case k9 => k_is); (case k10 => k_is); (case k11 => decide +kernel); (case k12 => k_get); (case k13 => k_is); k_whole; intro q' h' F' N' l1; (try k_lt l1); (try k_sweep)))))
local macro_rules | `(tactic| k_mem) => `(tactic| (first | exact mem_hd | ktr_member | (refine mem_tl ?_; first | exact mem_hd | ktr_member | (refine mem_tl ?_; first | exact mem_hd | ktr_member | (refine mem_tl ?_; first | exact mem_hd | ktr_member | (refine mem_tl ?_; first | exact mem_hd | ktr_member | (refine mem_tl ?_; first | exact mem_hd | ktr_member | (refine mem_tl ?_; first | exact mem_hd | ktr_member | (refine mem_tl ?_; first | exact mem_hd | ktr_member | (refine mem_tl ?_; first | exact mem_hd | ktr_member | (refine mem_tl ?_; first | exact mem_hd | ktr_member | (refine mem_tl ?_; first | exact mem_hd | ktr_member | (refine mem_tl ?_; first | exact mem_hd | ktr_member | (refine mem_tl ?_; first | exact mem_hd | ktr_member | (refine mem_tl ?_; first | exact mem_hd | ktr_member | (refine mem_tl ?_; ktr_member))))))))))))))))
local macro_rules | `(tactic| walk_at "getMethod ref") => `(tactic| (k_here; (with_reducible show wpAny _ _ (getMethod (Value.ref _) (PySem.Str.ofString "__class__") _) _ _ _); k_dflt ((first | (with_reducible refine' method_usual (r := some (.builtin "object.__class__")) ?kX ?kI ?ka ?kb ?kc ?kd ?_) | (refine' method_usual (r := some (.builtin "object.__class__")) ?kX ?kI ?ka ?kb ?kc ?kd ?_)); (case kX => k_in); (case kI => k_inst); (case ka => k_is); (case kb => k_is); (case kc => k_is); (case kd => exact rfl); k_whole)))
local macro_rules | `(tactic| k_all) => `(tactic| exact ne_of_l1 (by assumption))
local macro_rules | `(tactic| ktr_rel) => `(tactic| (first | exact (by assumption) | exact isCell_new | exact (isCell_tail (by assumption)) | exact (isCell_tail isCell_new) | exact (isCell_tail (isCell_tail (by assumption))) | exact (isCell_tail (isCell_tail isCell_new)) | exact (isCell_tail (isCell_tail (isCell_tail (by assumption)))) | exact (isCell_tail (isCell_tail (isCell_tail isCell_new))) | exact (isCell_tail (isCell_tail (isCell_tail (isCell_tail (by assumption))))) | exact (isCell_tail (isCell_tail (isCell_tail (isCell_tail isCell_new)))) | exact (isCell_tail (isCell_tail (isCell_tail (isCell_tail (isCell_tail (by assumption)))))) | exact (isCell_tail (isCell_tail (isCell_tail (isCell_tail (isCell_tail isCell_new))))) | exact (isCell_tail (isCell_tail (isCell_tail (isCell_tail (isCell_tail (isCell_tail (by assumption))))))) | exact (isCell_tail (isCell_tail (isCell_tail (isCell_tail (isCell_tail (isCell_tail isCell_new)))))) | exact (isCell_tail (isCell_tail (isCell_tail (isCell_tail (isCell_tail (isCell_tail (isCell_tail (by assumption)))))))) | exact (isCell_tail (isCell_tail (isCell_tail (isCell_tail (isCell_tail (isCell_tail (isCell_tail isCell_new))))))) | exact (isCell_tail (isCell_tail (isCell_tail (isCell_tail (isCell_tail (isCell_tail (isCell_tail (isCell_tail (by assumption))))))))) | exact (isCell_tail (isCell_tail (isCell_tail (isCell_tail (isCell_tail (isCell_tail (isCell_tail (isCell_tail isCell_new)))))))) | exact (isCell_tail (isCell_tail (isCell_tail (isCell_tail (isCell_tail (isCell_tail (isCell_tail (isCell_tail (isCell_tail (by assumption)))))))))) | exact (isCell_tail (isCell_tail (isCell_tail (isCell_tail (isCell_tail (isCell_tail (isCell_tail (isCell_tail (isCell_tail isCell_new)))))))))))
local macro_rules | `(tactic| walk_at "call ref") => `(tactic| (k_here; (with_reducible show wpAny _ _ (call (Value.ref 330) _ _) _ _ _); k_dflt ((first | (with_reducible refine' sp_useI (id_cs ?c0) ?k1 ?k2 ?k3 ?k4 ?k5 ?kK ?kd ?ku ?_) | (refine' sp_useI (id_cs ?c0) ?k1 ?k2 ?k3 ?k4 ?k5 ?kK ?kd ?ku ?_)); (case k1 => k_asm); (case k2 => k_asm); (case k3 => k_asm); (case k4 => k_asm); (case k5 => k_asm); (case c0 => ktr_rel); (case kK => first | exact rfl | assumption); (case kd => first | exact roomK (by with_reducible assumption) (Nat.le_of_ble_eq_true rfl) | exact roomL _ rfl | ktr_room); (case ku => first | exact unitK (by with_reducible assumption) (Nat.le_of_ble_eq_true rfl) | exact unitL _ rfl | ktr_units); k_whole; intro t9 h9 tk9 F9 N9; (try dsimp only); (try k_sweep); (try k_fold))))
local macro_rules | `(tactic| walk_at "call ref") => `(tactic| (k_here; (with_reducible show wpAny _ _ (call (Value.ref 351) _ _) _ _ _); k_dflt ((first | (with_reducible refine' sp_useI (face_cs ?c0 ?c1 ?c2) ?k1 ?k2 ?k3 ?k4 ?k5 ?kK ?kd ?ku ?_) | (refine' sp_useI (face_cs ?c0 ?c1 ?c2) ?k1 ?k2 ?k3 ?k4 ?k5 ?kK ?kd ?ku ?_)); (case k1 => k_asm); (case k2 => k_asm); (case k3 => k_asm); (case k4 => k_asm); (case k5 => k_asm); (case c0 => ktr_rel); (case c1 => assumption); (case c2 => assumption); (case kK => first | exact rfl | assumption); (case kd => first | exact roomK (by with_reducible assumption) (Nat.le_of_ble_eq_true rfl) | exact roomL _ rfl | ktr_room); (case ku => first | exact unitK (by with_reducible assumption) (Nat.le_of_ble_eq_true rfl) | exact unitL _ rfl | ktr_units); k_whole; intro t9 h9 tk9 F9 N9; (try dsimp only); (try k_sweep); (try k_fold))))
local macro_rules | `(tactic| walk_at "call ref") => `(tactic| (k_here; (with_reducible show wpAny _ _ (call (Value.ref 344) _ _) _ _ _); k_dflt ((first | (with_reducible refine' sp_useI (lsb_cs ?c0) ?k1 ?k2 ?k3 ?k4 ?k5 ?kK ?kd ?ku ?_) | (refine' sp_useI (lsb_cs ?c0) ?k1 ?k2 ?k3 ?k4 ?k5 ?kK ?kd ?ku ?_)); (case k1 => k_asm); (case k2 => k_asm); (case k3 => k_asm); (case k4 => k_asm); (case k5 => k_asm); (case c0 => ktr_rel); (case kK => first | exact rfl | assumption); (case kd => first | exact roomK (by with_reducible assumption) (Nat.le_of_ble_eq_true rfl) | exact roomL _ rfl | ktr_room); (case ku => first | exact unitK (by with_reducible assumption) (Nat.le_of_ble_eq_true rfl) | exact unitL _ rfl | ktr_units); k_whole; intro t9 h9 tk9 F9 N9; (try dsimp only); (try k_sweep); (try k_fold))))
local macro_rules | `(tactic| k_in) => `(tactic| (refine Frag.In.keeps ?_ (Fr.keep (by with_reducible assumption)); with_reducible assumption))
local macro_rules | `(tactic| walk_at "callWith ref cons nil") => `(tactic| (k_here; k_dflt ((with_reducible refine' callWith_K0' ?kF ?kX ?kk ?_); (case kF => with_reducible assumption); (case kX => k_asm); (case kk => k_is); k_whole)))
local macro_rules | `(tactic| walk_at "binaryOp LShift int int") => `(tactic| (k_here; (with_reducible show wpAny _ _ (binaryOp _ (Value.int (Builtin.bitAnd _ _) _) (Value.int _ _)) _ _ _); k_dflt ((with_reducible refine' lshift_int_small ?ka ?kb ?kc ?_); (case ka => decide); (case kb => decide); (case kc => exact and_small (by decide) (by decide)); k_whole)))
local macro_rules | `(tactic| walk_at "binaryOp LShift int int") => `(tactic| (k_here; (with_reducible show wpAny _ _ (binaryOp _ (Value.int (Int.fdiv _ _) _) (Value.int _ _)) _ _ _); k_dflt ((with_reducible refine' lshift_int_small ?ka ?kb ?kc ?_); (case ka => decide); (case kb => decide); (case kc => exact fdiv_small (by omega)); k_whole)))
local macro_rules | `(tactic| walk_at "binaryOp Mult int int") => `(tactic| (k_here; (with_reducible show wpAny _ _ (binaryOp _ (Value.int (OfNat.ofNat _) _) (Value.int (OfNat.ofNat _) _)) _ _ _); k_dflt ((with_reducible refine' mul_lit ?ke ?ka ?kb ?_); (case ke => krs_num); (case ka => decide); (case kb => decide); k_whole)))
local macro_rules | `(tactic| walk_at "binaryOp Add int int") => `(tactic| (k_here; (with_reducible show wpAny _ _ (binaryOp _ (Value.int (OfNat.ofNat _) _) (Value.int (OfNat.ofNat _) _)) _ _ _); k_dflt ((with_reducible refine' add_lit ?ke ?_); (case ke => krs_num); k_whole)))
local macro_rules | `(tactic| walk_at "binaryOp Sub int int") => `(tactic| (k_here; (with_reducible show wpAny _ _ (binaryOp _ (Value.int (OfNat.ofNat _) _) (Value.int (OfNat.ofNat _) _)) _ _ _); k_dflt ((with_reducible refine' sub_lit ?ke ?_); (case ke => krs_num); k_whole)))
local macro_rules | `(tactic| walk_at "binaryOp BitOr int int") => `(tactic| (k_here; (with_reducible show wpAny _ _ (binaryOp _ (Value.int (OfNat.ofNat _) _) (Value.int (OfNat.ofNat _) _)) _ _ _); k_dflt ((with_reducible refine' or_lit ?ke ?_); (case ke => krs_num); k_whole)))
local macro_rules | `(tactic| walk_at "binaryOp LShift int int") => `(tactic| (k_here; (with_reducible show wpAny _ _ (binaryOp _ (Value.int (OfNat.ofNat _) _) (Value.int (OfNat.ofNat _) _)) _ _ _); k_dflt ((with_reducible refine' shl_lit ?ka ?kb ?kc ?ke ?_); (case ka => decide); (case kb => decide); (case kc => decide); (case ke => krs_num); k_whole)))
local macro_rules | `(tactic| walk_at "UnrEnd") => `(tactic| (k_here; k_dflt ((first | (with_reducible refine' unrEnd1 ?kF ?kN ?ko ?_) | (refine' unrEnd1 ?kF ?kN ?ko ?_)); (case kF => k_asm); (case kN => k_asm); (case ko => exact allLt_ne (by assumption))); (first | (refine' KrsRest.succ ?hv ?_; (case hv => krs_num); intro t' h' tk' F' N') | (refine' KrsRest.zero ?_; intro h' tk' F' N')); (try dsimp only); (try k_sweep); (try k_fold)))
local macro_rules | `(tactic| walk_at "subscriptTail Name BinOp ref int") => `(tactic| (k_here; (with_reducible show wpAny _ _ (subscriptTail _ _ (Value.ref 157) (Value.int _ _)) _ _ _); k_dflt ((first | (with_reducible refine' ijRow ?kF ?kX ?ka ?kb ?_ ?hs) | (refine' ijRow ?kF ?kX ?ka ?kb ?_ ?hs)); (case kF => k_asm); (case kX => k_asm); (case hs => with_unfolding_all rfl); (case ka => exact (bnd (by decide) (by decide)).1); (case kb => exact (bnd (by decide) (by decide)).2); k_whole; intro hb0 hb1)))
local macro_rules | `(tactic| walk_at "subscriptTail Subscript Name BinOp BinOp ref int") => `(tactic| (k_here; (with_reducible show wpAny _ _ (subscriptTail _ _ (Value.ref (rowIJ _)) (Value.int _ _)) _ _ _); k_dflt ((first | (with_reducible refine' ijItem ?kF ?kX ?ka ?kb ?_ ?hs) | (refine' ijItem ?kF ?kX ?ka ?kb ?_ ?hs)); (case kF => k_asm); (case kX => k_asm); (case hs => with_unfolding_all rfl); (case ka => assumption); (case kb => assumption); k_whole; intro r9 t9 e9 z9)))
theorem to_face_cs (hc : IsCell w news x f q l) (hf : f < 6) (hl : l ≤ 30) (hq : q < 4 ^ l) : Sp 4 w p loose mean mg mb 513 news [.ref x] (OutQ f (LX f q l) (LY f q l) news) := by
  have hc' := hc
  obtain ⟨dx, t, tk, hx, hd⟩ := hc'
  unfold Sp
  k_fill
  intro dp un gd cn cs a ccd cl outer A₀ base h₀ L m s R B F X N T hk' hdp hun hret
  k_dflt (refine' code_def ?k1 ?k2 ?k3 ?k4 ?k5 ?kA ?kF ?kK ?k6 ?k7 ?k8 ?k9 ?kB ?_ ?c2 ?c3 ?c4 ?c5; (case kA => exact rfl); (case kF => exact rfl); (case kK => first | assumption | exact rfl); (case k1 => k_asm); (case k2 => k_asm); (case k3 => k_asm); (case k4 => k_asm); (case k5 => k_asm); (case k6 => k_is); (case k7 => k_is); (case k8 => ktr_room); (case k9 => first | exact BindsTo.of_eq rfl | exact binds_K (by k_in) rfl (by k_is) rfl rfl rfl); (case c5 => decide); (case kB => exact locs rfl); (case c2 => exact rfl); (case c3 => exact rfl); (case c4 => exact rfl); k_whole; intro g' L' h' FG' F' N' B' X' T'; (try dsimp only); (try k_lift B'); (try k_fold))
  repeat' (first | (k_unfold; (try dsimp only)) | (k_end; wrow_close) | ((try dsimp only); walk1) | (leave1; walk_say "STEP leave1"; try dsimp only) | fail "no step")
  all_goals (have tf := toface' hl hq (by with_reducible assumption) (by with_reducible assumption) (by with_reducible assumption) (by with_reducible assumption) (by with_reducible assumption) (by with_reducible assumption) (by with_reducible assumption) (by with_reducible assumption))
  all_goals refine hret _ _ _ _ (by k_asm) (news_drop1 (c := [_]) (by k_asm)) ⟨_, _, _, _, _, _, _, _, rfl, rfl, ?_, ?_, lt_all2 (by assumption)⟩
  all_goals first | with_reducible exact tf.1 | with_reducible exact tf.2
end
end Mine
/- part S6 -/
set_option Elab.async false
set_option maxRecDepth 100000
set_option maxHeartbeats 1000000
namespace Mine
open PySem PySem.W PySem.Spec PySem.Calls PyProof.Rows
variable {w : World} {p : Program} {loose : List PySem.Str} {mean : ExcName → Option Value} {mg mb : PySem.Str → Option Value} {news : Led} {x dx : Addr} {v : Int} {t tk : Tok}
abbrev OutT (f i j : Int) (news : Led) : Value → Led → Prop := fun r n => ∃ (a : Addr) (i' j' : Int) (t1 t2 t3 : Tok), r = .ref a ∧ n = (a, tup3 (.int f t1) (.int i' t2) (.int j' t3)) :: news ∧ i' = i ∧ j' = j ∧ ∀ p ∈ news, p.1 < a
section
variable {f i j : Int} {fa : Addr} {d : Nat} {vs : List Value}
  {dp un : Nat} {gd : Option (List Code)} {cn : PySem.Str} {cs : Scope} {a : Addr} {ccd : Value} {cl : List (PySem.Str × Addr)} {outer : List Env} {A₀ : Around} {base h₀ : Heap} {L : Addr} {m : PySem.Str → Option Value} {s : Shared}
theorem sp_useT {Q E : Value → Shared → Prop} (S : Sp d w p loose mean mg mb fa news vs (OutT f i j news)) (B : Below A₀ base outer h₀) (F : Fr h₀ L s.heap m) (X : (Mine.hd.heap_39 w.params).In h₀) (N : News h₀ L s.heap news) (T : Top p loose mean mg mb h₀) (hk : cs.kind = .function) (hdp : dp + d < recursionLimit) (hun : un + 20 * d < cLine)
    (ret : ∀ (a : Addr) (t1 t2 t3 : Tok) h' tk', (∀ p ∈ news, p.1 < a) → Fr h₀ L h' m → News h₀ L h' ((a, tup3 (.int f t1) (.int i t2) (.int j t3)) :: news) → Q (.ref a) { s with heap := h', toks := tk' }) :
    wpAny (model PySem.Challenge.rw_fb0049_01.row.prog w) (ktrTop dp un gd cn cs L a ccd cl outer) (call (.ref fa) vs) Q E s :=
  sp_use S B F X N T hk hdp hun fun r n h' tk' F' N' o => by
    obtain ⟨a, i', j', t1, t2, t3, rfl, rfl, rfl, rfl, la⟩ := o
    exact ret a t1 t2 t3 h' tk' la F' N'
end
section
variable {f q l : Nat}
local macro_rules | `(tactic| walk_at "eval Name") => `(tactic| (k_here; (with_reducible show wpAny _ _ (eval (Expr.Name _ _) (compEnvC _ _ _ _)) _ _ _); k_dflt (first
  | (name_kind "cell" "free"; refine kcf_cell (by k_asm) (by rfl) (by k_mem) (by k_asm) ?_)
  | (name_kind "local"; refine LCgL.ld_own (by k_asm) (by k_mem) (by assumption) (by assumption) ?_)
  | (name_kind "globalImplicit"; refine LCgL.ld_global (by k_asm) (by k_asm) (by k_asm) (by k_is) ?_))))
local macro_rules | `(tactic| walk_at "eval Name") => `(tactic| (k_here; (fail_if_success (with_reducible show wpAny _ _ (eval (Expr.Name _ _) (compEnvC _ _ _ _)) _ _ _)); k_dflt (first
  | (name_kind "local"; refine' nmL ?F ?q ?v ?_; (case F => k_asm); (case q => decide +kernel); (case v => rfl); k_whole)
  | (name_kind "cell"; refine' nmC ?N ?q ?c ?m ?d ?_; (case q => decide +kernel); (case N => k_asm); (case c => rfl); (case m => k_mem); (case d => k_asm); k_whole)
  | (name_kind "globalImplicit"; refine' nmK ?F ?X ?T ?q ?e ?_; (case q => decide +kernel); (case F => k_asm); (case X => k_asm); (case T => k_asm); (case e => k_is); k_whole)
  | (name_kind "globalImplicit"; refine' nmB ?F ?X ?T ?q ?e ?v ?n ?_; (case q => decide +kernel); (case F => k_asm); (case X => k_asm); (case T => k_asm); (case e => k_is); (case v => boot_fast); (case n => decide); k_whole))))
local macro_rules | `(tactic| walk_at "callWith ref") => `(tactic| (k_here; k_dflt (first
  | ((with_reducible refine' callWith_K ?k1 ?k2 ?_); (case k1 => k_asm); (case k2 => k_is); k_whole)
  | ((with_reducible refine' callWith_K0n ?kF ?kX ?kk ?_); (case kF => with_reducible assumption); (case kX => k_asm); (case kk => k_is); k_whole)
  | ((with_reducible refine' callWith_M ?k1 ?k2 ?k3 ?k4 ?_); (case k1 => k_asm); (case k2 => k_asm); (case k3 => k_mem); (case k4 => k_is); k_whole)
  | ((with_reducible refine' callWith_M0 ?k1 ?k2 ?_); (case k1 => k_meth); (case k2 => k_is); k_whole; try dsimp only [List.nil_append, List.cons_append]))))
local macro_rules | `(tactic| walk_at "loadName") => `(tactic| (k_here; k_dflt (refine' ldL ?F ?q ?v ?_; (case F => k_asm); (case q => decide +kernel); (case v => rfl); k_whole)))
local macro_rules | `(tactic| walk_at "subscriptTail Name Constant ref int") => `(tactic| (k_here; k_dflt (refine' item_tupleT ?t ?a ?b ?c ?d ?_; (case t => exact News.isTup (by k_asm) (by k_mem)); (case a => decide); (case b => decide); (case c => rfl); (case d => rfl); k_whole)))
local macro_rules | `(tactic| walk_at "getAttr ref") => `(tactic| (k_here; k_dflt (first
  | ((with_reducible show wpAny _ _ (getAttr (Value.ref _) (PySem.Str.ofString "__class__") _) _ _ _); refine' get_class ?k1 ?k2 ?k3 ?k4 ?k5 ?k6 ?k7 ?k8 ?k9 ?_; (case k1 => k_asm); (case k2 => k_asm); (case k3 => k_inst); (case k4 => k_is); (case k5 => k_is); (case k6 => k_is); (case k7 => k_is); (case k8 => k_is); (case k9 => k_is); k_whole)
  | (refine' cls_val ?k1 ?k2 ?k3 ?k4 ?k5 ?k6 ?_; (case k1 => k_asm); (case k2 => k_asm); (case k3 => k_is); (case k4 => k_is); (case k5 => k_is); (case k6 => k_handed); k_whole))))
local macro_rules | `(tactic| walk_at "spliced") => `(tactic| (k_here; k_dflt (first | refine args_cons ?_ | refine args_nil ?_)))
local macro_rules | `(tactic| walk_at "eval Call Name cons nil") => `(tactic| (k_here; k_dflt (refine Call_ ?_)))
local macro_rules | `(tactic| walk_at "storeName") => `(tactic| (k_here; k_dflt (refine' stL ?F ?N ?q ?_; (case q => decide +kernel); (case F => k_asm); (case N => k_asm); k_whole; intro h' F' N'; (try k_sweep))))
local macro_rules | `(tactic| walk_at "getMethod ref") => `(tactic| (k_here; k_dflt (first
  | (refine' method_inst ?k1 ?k2 ?k3 ?k4 ?k5 ?k6 ?k7 ?_; (case k1 => k_asm); (case k2 => k_asm); (case k3 => k_inst); (case k4 => k_is); (case k5 => k_is); (case k6 => k_is); (case k7 => k_get); k_whole)
  | (refine' kmu_cm ?k1 ?k2 ?k3 ?k4 ?k5 ?k6 ?k7 ?k8 ?k9 ?k10 ?k11 ?k12 ?k13 ?_; (case k1 => k_asm); (case k2 => k_asm); (case k3 => k_asm); (case k4 => k_inst); (case k5 => k_is); (case k6 => k_is); (case k7 => k_is); (case k8 => k_is); (case k9 => k_is); (case k10 => k_is); (case k11 => decide +kernel); (case k12 => k_get); (case k13 => k_is); k_whole; intro q' h' F' N' l1; (try k_lt l1); (try k_sweep)))))
local macro_rules | `(tactic| k_mem) => `(tactic| (first | exact mem_hd | ktr_member | (refine mem_tl ?_; first | exact mem_hd | ktr_member | (refine mem_tl ?_; first | exact mem_hd | ktr_member | (refine mem_tl ?_; first | exact mem_hd | ktr_member | (refine mem_tl ?_; first | exact mem_hd | ktr_member | (refine mem_tl ?_; first | exact mem_hd | ktr_member | (refine mem_tl ?_; first | exact mem_hd | ktr_member | (refine mem_tl ?_; first | exact mem_hd | ktr_member | (refine mem_tl ?_; first | exact mem_hd | ktr_member | (refine mem_tl ?_; first | exact mem_hd | ktr_member | (refine mem_tl ?_; first | exact mem_hd | ktr_member | (refine mem_tl ?_; first | exact mem_hd | ktr_member | (refine mem_tl ?_; first | exact mem_hd | ktr_member | (refine mem_tl ?_; first | exact mem_hd | ktr_member | (refine mem_tl ?_; ktr_member))))))))))))))))
local macro_rules | `(tactic| walk_at "getMethod ref") => `(tactic| (k_here; (with_reducible show wpAny _ _ (getMethod (Value.ref _) (PySem.Str.ofString "__class__") _) _ _ _); k_dflt ((first | (with_reducible refine' method_usual (r := some (.builtin "object.__class__")) ?kX ?kI ?ka ?kb ?kc ?kd ?_) | (refine' method_usual (r := some (.builtin "object.__class__")) ?kX ?kI ?ka ?kb ?kc ?kd ?_)); (case kX => k_in); (case kI => k_inst); (case ka => k_is); (case kb => k_is); (case kc => k_is); (case kd => exact rfl); k_whole)))
local macro_rules | `(tactic| k_all) => `(tactic| exact ne_of_l1 (by assumption))
local macro_rules | `(tactic| k_in) => `(tactic| (refine Frag.In.keeps ?_ (Fr.keep (by with_reducible assumption)); with_reducible assumption))
local macro_rules | `(tactic| walk_at "callWith ref cons nil") => `(tactic| (k_here; k_dflt ((with_reducible refine' callWith_K0' ?kF ?kX ?kk ?_); (case kF => with_reducible assumption); (case kX => k_asm); (case kk => k_is); k_whole)))
local macro_rules | `(tactic| ktr_rel) => `(tactic| (first | exact (by assumption) | exact isCell_new | exact (isCell_tail (by assumption)) | exact (isCell_tail isCell_new) | exact (isCell_tail (isCell_tail (by assumption))) | exact (isCell_tail (isCell_tail isCell_new)) | exact (isCell_tail (isCell_tail (isCell_tail (by assumption)))) | exact (isCell_tail (isCell_tail (isCell_tail isCell_new))) | exact (isCell_tail (isCell_tail (isCell_tail (isCell_tail (by assumption))))) | exact (isCell_tail (isCell_tail (isCell_tail (isCell_tail isCell_new)))) | exact (isCell_tail (isCell_tail (isCell_tail (isCell_tail (isCell_tail (by assumption)))))) | exact (isCell_tail (isCell_tail (isCell_tail (isCell_tail (isCell_tail isCell_new))))) | exact (isCell_tail (isCell_tail (isCell_tail (isCell_tail (isCell_tail (isCell_tail (by assumption))))))) | exact (isCell_tail (isCell_tail (isCell_tail (isCell_tail (isCell_tail (isCell_tail isCell_new)))))) | exact (isCell_tail (isCell_tail (isCell_tail (isCell_tail (isCell_tail (isCell_tail (isCell_tail (by assumption)))))))) | exact (isCell_tail (isCell_tail (isCell_tail (isCell_tail (isCell_tail (isCell_tail (isCell_tail isCell_new))))))) | exact (isCell_tail (isCell_tail (isCell_tail (isCell_tail (isCell_tail (isCell_tail (isCell_tail (isCell_tail (by assumption))))))))) | exact (isCell_tail (isCell_tail (isCell_tail (isCell_tail (isCell_tail (isCell_tail (isCell_tail (isCell_tail isCell_new)))))))) | exact (isCell_tail (isCell_tail (isCell_tail (isCell_tail (isCell_tail (isCell_tail (isCell_tail (isCell_tail (isCell_tail (by assumption)))))))))) | exact (isCell_tail (isCell_tail (isCell_tail (isCell_tail (isCell_tail (isCell_tail (isCell_tail (isCell_tail (isCell_tail isCell_new)))))))))))
local macro_rules | `(tactic| walk_at "call ref") => `(tactic| (k_here; (with_reducible show wpAny _ _ (call (Value.ref 330) _ _) _ _ _); k_dflt ((first | (with_reducible refine' sp_useI (id_cs ?c0) ?k1 ?k2 ?k3 ?k4 ?k5 ?kK ?kd ?ku ?_) | (refine' sp_useI (id_cs ?c0) ?k1 ?k2 ?k3 ?k4 ?k5 ?kK ?kd ?ku ?_)); (case k1 => k_asm); (case k2 => k_asm); (case k3 => k_asm); (case k4 => k_asm); (case k5 => k_asm); (case c0 => ktr_rel); (case kK => first | exact rfl | assumption); (case kd => first | exact roomK (by with_reducible assumption) (Nat.le_of_ble_eq_true rfl) | exact roomL _ rfl | ktr_room); (case ku => first | exact unitK (by with_reducible assumption) (Nat.le_of_ble_eq_true rfl) | exact unitL _ rfl | ktr_units); k_whole; intro t9 h9 tk9 F9 N9; (try dsimp only); (try k_sweep); (try k_fold))))
local macro_rules | `(tactic| walk_at "call ref") => `(tactic| (k_here; (with_reducible show wpAny _ _ (call (Value.ref 365) _ _) _ _ _); k_dflt ((first | (with_reducible refine' sp_useB (is_leaf_cs ?c0 ?c1) ?k1 ?k2 ?k3 ?k4 ?k5 ?kK ?kd ?ku ?_) | (refine' sp_useB (is_leaf_cs ?c0 ?c1) ?k1 ?k2 ?k3 ?k4 ?k5 ?kK ?kd ?ku ?_)); (case k1 => k_asm); (case k2 => k_asm); (case k3 => k_asm); (case k4 => k_asm); (case k5 => k_asm); (case c0 => ktr_rel); (case c1 => assumption); (case kK => first | exact rfl | assumption); (case kd => first | exact roomK (by with_reducible assumption) (Nat.le_of_ble_eq_true rfl) | exact roomL _ rfl | ktr_room); (case ku => first | exact unitK (by with_reducible assumption) (Nat.le_of_ble_eq_true rfl) | exact unitL _ rfl | ktr_units); k_whole; intro h9 tk9 F9 N9; (try dsimp only); (try k_sweep); (try k_fold))))
local macro_rules | `(tactic| walk_at "call ref") => `(tactic| (k_here; (with_reducible show wpAny _ _ (call (Value.ref 513) _ _) _ _ _); k_dflt ((first | (with_reducible refine' sp_useQ (to_face_cs ?c0 ?c1 ?c2 ?c3) ?k1 ?k2 ?k3 ?k4 ?k5 ?kK ?kd ?ku ?_) | (refine' sp_useQ (to_face_cs ?c0 ?c1 ?c2 ?c3) ?k1 ?k2 ?k3 ?k4 ?k5 ?kK ?kd ?ku ?_)); (case k1 => k_asm); (case k2 => k_asm); (case k3 => k_asm); (case k4 => k_asm); (case k5 => k_asm); (case c0 => ktr_rel); (case c1 => assumption); (case c2 => assumption); (case c3 => assumption); (case kK => first | exact rfl | assumption); (case kd => first | exact roomK (by with_reducible assumption) (Nat.le_of_ble_eq_true rfl) | exact roomL _ rfl | ktr_room); (case ku => first | exact unitK (by with_reducible assumption) (Nat.le_of_ble_eq_true rfl) | exact unitL _ rfl | ktr_units); k_whole; intro a9 o9 t1 t2 t3 t4 h9 tk9 la9 F9 N9; (try dsimp only); (try k_sweep); (try k_fold))))
theorem center_a (hc : IsCell w news x f q l) (hf : f < 6) (hl : l ≤ 30) (hq : q < 4 ^ l) (h30 : l = 30) : Sp 5 w p loose mean mg mb 506 news [.ref x] (OutT f (MX f q l) (MY f q l) news) := by
  subst h30
  have ce := center_leaf f q
  have ce0 : (0 : Int) = 0 := rfl
  have xs := L_small f q 30 (by omega) hq
  have xs1 := xs.1
  have xs2 := xs.2
  clear xs
  have hc' := hc
  obtain ⟨dx, t, tk, hx, hd⟩ := hc'
  unfold Sp
  k_fill
  intro dp un gd cn cs a ccd cl outer A₀ base h₀ L m s R B F X' N T hk' hdp hun hret
  k_dflt (refine' code_def ?k1 ?k2 ?k3 ?k4 ?k5 ?kA ?kF ?kK ?k6 ?k7 ?k8 ?k9 ?kB ?_ ?c2 ?c3 ?c4 ?c5; (case kA => exact rfl); (case kF => exact rfl); (case kK => first | assumption | exact rfl); (case k1 => k_asm); (case k2 => k_asm); (case k3 => k_asm); (case k4 => k_asm); (case k5 => k_asm); (case k6 => k_is); (case k7 => k_is); (case k8 => ktr_room); (case k9 => first | exact BindsTo.of_eq rfl | exact binds_K (by k_in) rfl (by k_is) rfl rfl rfl); (case c5 => decide); (case kB => exact locs rfl); (case c2 => exact rfl); (case c3 => exact rfl); (case c4 => exact rfl); k_whole; intro g' L' h' FG' F' N' B' X' T'; (try dsimp only); (try k_lift B'); (try k_fold))
  repeat' (first | (k_unfold; (try dsimp only)) | (k_end; wrow_close) | ((try dsimp only); walk1) | (leave1; walk_say "STEP leave1"; try dsimp only) | fail "no step")
  all_goals first | exact absurd ce0 (by with_reducible assumption) | exact absurd (ce0.symm.trans (by with_reducible assumption)) (by decide) | refine hret _ _ _ _ (by k_asm) (news_drop1 (c := [_]) (by k_asm)) ⟨_, _, _, _, _, _, rfl, rfl, ce.1, ce.2, lt_all2 (by assumption)⟩
theorem center_b (hc : IsCell w news x f q l) (hf : f < 6) (hl : l ≤ 30) (hq : q < 4 ^ l) (h30 : l < 30) (ho : O l (f % 2) q < 2) : Sp 5 w p loose mean mg mb 506 news [.ref x] (OutT f (MX f q l) (MY f q l) news) := by
  have ce := center_lo f q l h30 hq ho
  have ce0 := ce.1
  replace ce := ce.2
  have xs := L_small f q l (by omega) hq
  have xs1 := xs.1
  have xs2 := xs.2
  clear xs
  have hc' := hc
  obtain ⟨dx, t, tk, hx, hd⟩ := hc'
  unfold Sp
  k_fill
  intro dp un gd cn cs a ccd cl outer A₀ base h₀ L m s R B F X' N T hk' hdp hun hret
  k_dflt (refine' code_def ?k1 ?k2 ?k3 ?k4 ?k5 ?kA ?kF ?kK ?k6 ?k7 ?k8 ?k9 ?kB ?_ ?c2 ?c3 ?c4 ?c5; (case kA => exact rfl); (case kF => exact rfl); (case kK => first | assumption | exact rfl); (case k1 => k_asm); (case k2 => k_asm); (case k3 => k_asm); (case k4 => k_asm); (case k5 => k_asm); (case k6 => k_is); (case k7 => k_is); (case k8 => ktr_room); (case k9 => first | exact BindsTo.of_eq rfl | exact binds_K (by k_in) rfl (by k_is) rfl rfl rfl); (case c5 => decide); (case kB => exact locs rfl); (case c2 => exact rfl); (case c3 => exact rfl); (case c4 => exact rfl); k_whole; intro g' L' h' FG' F' N' B' X' T'; (try dsimp only); (try k_lift B'); (try k_fold))
  repeat' (first | (k_unfold; (try dsimp only)) | (k_end; wrow_close) | ((try dsimp only); walk1) | (leave1; walk_say "STEP leave1"; try dsimp only) | fail "no step")
  all_goals first | exact absurd ce0 (by with_reducible assumption) | exact absurd (ce0.symm.trans (by with_reducible assumption)) (by decide) | refine hret _ _ _ _ (by k_asm) (news_drop1 (c := [_]) (by k_asm)) ⟨_, _, _, _, _, _, rfl, rfl, ce.1, ce.2, lt_all2 (by assumption)⟩
theorem center_c (hc : IsCell w news x f q l) (hf : f < 6) (hl : l ≤ 30) (hq : q < 4 ^ l) (h30 : l < 30) (ho : ¬ O l (f % 2) q < 2) : Sp 5 w p loose mean mg mb 506 news [.ref x] (OutT f (MX f q l) (MY f q l) news) := by
  have ce := center_hi f q l h30 hq ho
  have ce0 := ce.1
  replace ce := ce.2
  have xs := L_small f q l (by omega) hq
  have xs1 := xs.1
  have xs2 := xs.2
  clear xs
  have hc' := hc
  obtain ⟨dx, t, tk, hx, hd⟩ := hc'
  unfold Sp
  k_fill
  intro dp un gd cn cs a ccd cl outer A₀ base h₀ L m s R B F X' N T hk' hdp hun hret
  k_dflt (refine' code_def ?k1 ?k2 ?k3 ?k4 ?k5 ?kA ?kF ?kK ?k6 ?k7 ?k8 ?k9 ?kB ?_ ?c2 ?c3 ?c4 ?c5; (case kA => exact rfl); (case kF => exact rfl); (case kK => first | assumption | exact rfl); (case k1 => k_asm); (case k2 => k_asm); (case k3 => k_asm); (case k4 => k_asm); (case k5 => k_asm); (case k6 => k_is); (case k7 => k_is); (case k8 => ktr_room); (case k9 => first | exact BindsTo.of_eq rfl | exact binds_K (by k_in) rfl (by k_is) rfl rfl rfl); (case c5 => decide); (case kB => exact locs rfl); (case c2 => exact rfl); (case c3 => exact rfl); (case c4 => exact rfl); k_whole; intro g' L' h' FG' F' N' B' X' T'; (try dsimp only); (try k_lift B'); (try k_fold))
  repeat' (first | (k_unfold; (try dsimp only)) | (k_end; wrow_close) | ((try dsimp only); walk1) | (leave1; walk_say "STEP leave1"; try dsimp only) | fail "no step")
  all_goals first | exact absurd ce0 (by with_reducible assumption) | exact absurd (ce0.symm.trans (by with_reducible assumption)) (by decide) | refine hret _ _ _ _ (by k_asm) (news_drop1 (c := [_]) (by k_asm)) ⟨_, _, _, _, _, _, rfl, rfl, ce.1, ce.2, lt_all2 (by assumption)⟩
theorem center_cs (hc : IsCell w news x f q l) (hf : f < 6) (hl : l ≤ 30) (hq : q < 4 ^ l) : Sp 5 w p loose mean mg mb 506 news [.ref x] (OutT f (MX f q l) (MY f q l) news) := by
  by_cases h30 : l = 30
  · exact center_a hc hf hl hq h30
  · by_cases ho : O l (f % 2) q < 2
    · exact center_b hc hf hl hq (by omega) ho
    · exact center_c hc hf hl hq (by omega) ho
end
end Mine
/- part S7 -/
set_option Elab.async false
set_option maxRecDepth 100000
set_option maxHeartbeats 4000000
namespace Mine
open PySem PySem.W PySem.Spec PySem.Calls PyProof.Rows
variable {w : World} {p : Program} {loose : List PySem.Str} {mean : ExcName → Option Value} {mg mb : PySem.Str → Option Value} {news : Led} {x dx : Addr} {v : Int} {t tk : Tok}
theorem bndP {x y z k : Int} (hk : k = 1 ∨ k = 3) : 0 ≤ Builtin.bitAnd x k + Builtin.bitAnd y 15 * 2 ^ Int.toNat 6 + Builtin.bitAnd z 15 * 2 ^ Int.toNat 2 ∧ Builtin.bitAnd x k + Builtin.bitAnd y 15 * 2 ^ Int.toNat 6 + Builtin.bitAnd z 15 * 2 ^ Int.toNat 2 < 1024 := by
  rw [show (2 : Int) ^ Int.toNat 2 = 4 by decide, show (2 : Int) ^ Int.toNat 6 = 64 by decide]
  rcases hk with rfl | rfl <;> simp only [bitAnd_m1, bitAnd_m2, bitAnd_m4] <;> omega
theorem PP_lt (f i j : Nat) (hi : i < 1073741824) (hj : j < 1073741824) : PP f i j < 4 ^ 30 := by
  unfold PP; exact (P_lt 30 (f % 2) i j (by omega) hi hj).1
theorem fromijR {f i j r7 r6 r5 r4 r3 r2 r1 r0 : Nat} 
    (e7 : r7 = tPOS (Builtin.bitAnd (f : Int) 1 + Builtin.bitAnd ((i : Int).fdiv (2 ^ Int.toNat 28)) 15 * 2 ^ Int.toNat 6 + Builtin.bitAnd ((j : Int).fdiv (2 ^ Int.toNat 28)) 15 * 2 ^ Int.toNat 2).toNat)
    (e6 : r6 = tPOS (Builtin.bitAnd (r7 : Int) 3 + Builtin.bitAnd ((i : Int).fdiv (2 ^ Int.toNat 24)) 15 * 2 ^ Int.toNat 6 + Builtin.bitAnd ((j : Int).fdiv (2 ^ Int.toNat 24)) 15 * 2 ^ Int.toNat 2).toNat)
    (e5 : r5 = tPOS (Builtin.bitAnd (r6 : Int) 3 + Builtin.bitAnd ((i : Int).fdiv (2 ^ Int.toNat 20)) 15 * 2 ^ Int.toNat 6 + Builtin.bitAnd ((j : Int).fdiv (2 ^ Int.toNat 20)) 15 * 2 ^ Int.toNat 2).toNat)
    (e4 : r4 = tPOS (Builtin.bitAnd (r5 : Int) 3 + Builtin.bitAnd ((i : Int).fdiv (2 ^ Int.toNat 16)) 15 * 2 ^ Int.toNat 6 + Builtin.bitAnd ((j : Int).fdiv (2 ^ Int.toNat 16)) 15 * 2 ^ Int.toNat 2).toNat)
    (e3 : r3 = tPOS (Builtin.bitAnd (r4 : Int) 3 + Builtin.bitAnd ((i : Int).fdiv (2 ^ Int.toNat 12)) 15 * 2 ^ Int.toNat 6 + Builtin.bitAnd ((j : Int).fdiv (2 ^ Int.toNat 12)) 15 * 2 ^ Int.toNat 2).toNat)
    (e2 : r2 = tPOS (Builtin.bitAnd (r3 : Int) 3 + Builtin.bitAnd ((i : Int).fdiv (2 ^ Int.toNat 8)) 15 * 2 ^ Int.toNat 6 + Builtin.bitAnd ((j : Int).fdiv (2 ^ Int.toNat 8)) 15 * 2 ^ Int.toNat 2).toNat)
    (e1 : r1 = tPOS (Builtin.bitAnd (r2 : Int) 3 + Builtin.bitAnd ((i : Int).fdiv (2 ^ Int.toNat 4)) 15 * 2 ^ Int.toNat 6 + Builtin.bitAnd ((j : Int).fdiv (2 ^ Int.toNat 4)) 15 * 2 ^ Int.toNat 2).toNat)
    (e0 : r0 = tPOS (Builtin.bitAnd (r1 : Int) 3 + Builtin.bitAnd ((i : Int).fdiv (2 ^ Int.toNat 0)) 15 * 2 ^ Int.toNat 6 + Builtin.bitAnd ((j : Int).fdiv (2 ^ Int.toNat 0)) 15 * 2 ^ Int.toNat 2).toNat) (hi : i < 1073741824) (hj : j < 1073741824) :
    Builtin.bitOr (Builtin.bitOr (Builtin.bitOr (Builtin.bitOr (Builtin.bitOr (Builtin.bitOr (Builtin.bitOr (Builtin.bitOr ((f : Int) * 2 ^ Int.toNat 60) ((r7 : Int).fdiv (2 ^ Int.toNat 2) * 2 ^ Int.toNat 56)) ((r6 : Int).fdiv (2 ^ Int.toNat 2) * 2 ^ Int.toNat 48)) ((r5 : Int).fdiv (2 ^ Int.toNat 2) * 2 ^ Int.toNat 40)) ((r4 : Int).fdiv (2 ^ Int.toNat 2) * 2 ^ Int.toNat 32)) ((r3 : Int).fdiv (2 ^ Int.toNat 2) * 2 ^ Int.toNat 24)) ((r2 : Int).fdiv (2 ^ Int.toNat 2) * 2 ^ Int.toNat 16)) ((r1 : Int).fdiv (2 ^ Int.toNat 2) * 2 ^ Int.toNat 8)) ((r0 : Int).fdiv (2 ^ Int.toNat 2) * 2 ^ Int.toNat 0) * 2 + 1 = (cid f (PP f i j) 30 : Int) := fromij hi hj e7 e6 e5 e4 e3 e2 e1 e0
section
variable {f i j : Nat}
local macro_rules | `(tactic| walk_at "eval Name") => `(tactic| (k_here; (with_reducible show wpAny _ _ (eval (Expr.Name _ _) (compEnvC _ _ _ _)) _ _ _); k_dflt (first
  | (name_kind "cell" "free"; refine kcf_cell (by k_asm) (by rfl) (by k_mem) (by k_asm) ?_)
  | (name_kind "local"; refine LCgL.ld_own (by k_asm) (by k_mem) (by assumption) (by assumption) ?_)
  | (name_kind "globalImplicit"; refine LCgL.ld_global (by k_asm) (by k_asm) (by k_asm) (by k_is) ?_))))
local macro_rules | `(tactic| walk_at "eval Name") => `(tactic| (k_here; (fail_if_success (with_reducible show wpAny _ _ (eval (Expr.Name _ _) (compEnvC _ _ _ _)) _ _ _)); k_dflt (first
  | (name_kind "local"; refine' nmL ?F ?q ?v ?_; (case F => k_asm); (case q => decide +kernel); (case v => rfl); k_whole)
  | (name_kind "cell"; refine' nmC ?N ?q ?c ?m ?d ?_; (case q => decide +kernel); (case N => k_asm); (case c => rfl); (case m => k_mem); (case d => k_asm); k_whole)
  | (name_kind "globalImplicit"; refine' nmK ?F ?X ?T ?q ?e ?_; (case q => decide +kernel); (case F => k_asm); (case X => k_asm); (case T => k_asm); (case e => k_is); k_whole)
  | (name_kind "globalImplicit"; refine' nmB ?F ?X ?T ?q ?e ?v ?n ?_; (case q => decide +kernel); (case F => k_asm); (case X => k_asm); (case T => k_asm); (case e => k_is); (case v => boot_fast); (case n => decide); k_whole))))
local macro_rules | `(tactic| walk_at "callWith ref") => `(tactic| (k_here; k_dflt (first
  | ((with_reducible refine' callWith_K ?k1 ?k2 ?_); (case k1 => k_asm); (case k2 => k_is); k_whole)
  | ((with_reducible refine' callWith_K0n ?kF ?kX ?kk ?_); (case kF => with_reducible assumption); (case kX => k_asm); (case kk => k_is); k_whole)
  | ((with_reducible refine' callWith_M ?k1 ?k2 ?k3 ?k4 ?_); (case k1 => k_asm); (case k2 => k_asm); (case k3 => k_mem); (case k4 => k_is); k_whole)
  | ((with_reducible refine' callWith_M0 ?k1 ?k2 ?_); (case k1 => k_meth); (case k2 => k_is); k_whole; try dsimp only [List.nil_append, List.cons_append]))))
local macro_rules | `(tactic| walk_at "loadName") => `(tactic| (k_here; k_dflt (refine' ldL ?F ?q ?v ?_; (case F => k_asm); (case q => decide +kernel); (case v => rfl); k_whole)))
local macro_rules | `(tactic| walk_at "subscriptTail Name Constant ref int") => `(tactic| (k_here; k_dflt (refine' item_tupleT ?t ?a ?b ?c ?d ?_; (case t => exact News.isTup (by k_asm) (by k_mem)); (case a => decide); (case b => decide); (case c => rfl); (case d => rfl); k_whole)))
local macro_rules | `(tactic| walk_at "getAttr ref") => `(tactic| (k_here; k_dflt (first
  | ((with_reducible show wpAny _ _ (getAttr (Value.ref _) (PySem.Str.ofString "__class__") _) _ _ _); refine' get_class ?k1 ?k2 ?k3 ?k4 ?k5 ?k6 ?k7 ?k8 ?k9 ?_; (case k1 => k_asm); (case k2 => k_asm); (case k3 => k_inst); (case k4 => k_is); (case k5 => k_is); (case k6 => k_is); (case k7 => k_is); (case k8 => k_is); (case k9 => k_is); k_whole)
  | (refine' cls_val ?k1 ?k2 ?k3 ?k4 ?k5 ?k6 ?_; (case k1 => k_asm); (case k2 => k_asm); (case k3 => k_is); (case k4 => k_is); (case k5 => k_is); (case k6 => k_handed); k_whole))))
local macro_rules | `(tactic| walk_at "spliced") => `(tactic| (k_here; k_dflt (first | refine args_cons ?_ | refine args_nil ?_)))
local macro_rules | `(tactic| walk_at "eval Call Name cons nil") => `(tactic| (k_here; k_dflt (refine Call_ ?_)))
local macro_rules | `(tactic| walk_at "storeName") => `(tactic| (k_here; k_dflt (refine' stL ?F ?N ?q ?_; (case q => decide +kernel); (case F => k_asm); (case N => k_asm); k_whole; intro h' F' N'; (try k_sweep))))
local macro_rules | `(tactic| walk_at "getMethod ref") => `(tactic| (k_here; k_dflt (first
  | (refine' method_inst ?k1 ?k2 ?k3 ?k4 ?k5 ?k6 ?k7 ?_; (case k1 => k_asm); (case k2 => k_asm); (case k3 => k_inst); (case k4 => k_is); (case k5 => k_is); (case k6 => k_is); (case k7 => k_get); k_whole)
  | (refine' kmu_cm ?k1 ?k2 ?k3 ?k4 ?k5 ?k6 ?k7 ?k8 ?k9 ?k10 ?k11 ?k12 ?k13 ?_; (case k1 => k_asm); (case k2 => k_asm); (case k3 => k_asm); (case k4 => k_inst); (case k5 => k_is); (case k6 => k_is); (case k7 => k_is); (case k8 => k_is); (case k9 => k_is); (case k10 => k_is); (case k11 => decide +kernel); (case k12 => k_get); (case k13 => k_is); k_whole; intro q' h' F' N' l1; (try k_lt l1); (try k_sweep)))))
local macro_rules | `(tactic| k_mem) => `(tactic| (first | exact mem_hd | ktr_member | (refine mem_tl ?_; first | exact mem_hd | ktr_member | (refine mem_tl ?_; first | exact mem_hd | ktr_member | (refine mem_tl ?_; first | exact mem_hd | ktr_member | (refine mem_tl ?_; first | exact mem_hd | ktr_member | (refine mem_tl ?_; first | exact mem_hd | ktr_member | (refine mem_tl ?_; first | exact mem_hd | ktr_member | (refine mem_tl ?_; first | exact mem_hd | ktr_member | (refine mem_tl ?_; first | exact mem_hd | ktr_member | (refine mem_tl ?_; first | exact mem_hd | ktr_member | (refine mem_tl ?_; first | exact mem_hd | ktr_member | (refine mem_tl ?_; first | exact mem_hd | ktr_member | (refine mem_tl ?_; first | exact mem_hd | ktr_member | (refine mem_tl ?_; first | exact mem_hd | ktr_member | (refine mem_tl ?_; ktr_member))))))))))))))))
local macro_rules | `(tactic| walk_at "getMethod ref") => `(tactic| (k_here; (with_reducible show wpAny _ _ (getMethod (Value.ref _) (PySem.Str.ofString "__class__") _) _ _ _); k_dflt ((first | (with_reducible refine' method_usual (r := some (.builtin "object.__class__")) ?kX ?kI ?ka ?kb ?kc ?kd ?_) | (refine' method_usual (r := some (.builtin "object.__class__")) ?kX ?kI ?ka ?kb ?kc ?kd ?_)); (case kX => k_in); (case kI => k_inst); (case ka => k_is); (case kb => k_is); (case kc => k_is); (case kd => exact rfl); k_whole)))
local macro_rules | `(tactic| k_all) => `(tactic| exact ne_of_l1 (by assumption))
local macro_rules | `(tactic| k_in) => `(tactic| (refine Frag.In.keeps ?_ (Fr.keep (by with_reducible assumption)); with_reducible assumption))
local macro_rules | `(tactic| walk_at "callWith ref cons nil") => `(tactic| (k_here; k_dflt ((with_reducible refine' callWith_K0' ?kF ?kX ?kk ?_); (case kF => with_reducible assumption); (case kX => k_asm); (case kk => k_is); k_whole)))
local macro_rules | `(tactic| walk_at "binaryOp LShift int int") => `(tactic| (k_here; (with_reducible show wpAny _ _ (binaryOp _ (Value.int (Builtin.bitAnd _ _) _) (Value.int _ _)) _ _ _); k_dflt ((with_reducible refine' lshift_int_small ?ka ?kb ?kc ?_); (case ka => decide); (case kb => decide); (case kc => exact and_small (by decide) (by decide)); k_whole)))
local macro_rules | `(tactic| walk_at "binaryOp LShift int int") => `(tactic| (k_here; (with_reducible show wpAny _ _ (binaryOp _ (Value.int (Int.fdiv _ _) _) (Value.int _ _)) _ _ _); k_dflt ((with_reducible refine' lshift_int_small ?ka ?kb ?kc ?_); (case ka => decide); (case kb => decide); (case kc => exact fdiv_small (by omega)); k_whole)))
local macro_rules | `(tactic| walk_at "binaryOp Mult int int") => `(tactic| (k_here; (with_reducible show wpAny _ _ (binaryOp _ (Value.int (OfNat.ofNat _) _) (Value.int (OfNat.ofNat _) _)) _ _ _); k_dflt ((with_reducible refine' mul_lit ?ke ?ka ?kb ?_); (case ke => krs_num); (case ka => decide); (case kb => decide); k_whole)))
local macro_rules | `(tactic| walk_at "binaryOp Add int int") => `(tactic| (k_here; (with_reducible show wpAny _ _ (binaryOp _ (Value.int (OfNat.ofNat _) _) (Value.int (OfNat.ofNat _) _)) _ _ _); k_dflt ((with_reducible refine' add_lit ?ke ?_); (case ke => krs_num); k_whole)))
local macro_rules | `(tactic| walk_at "binaryOp Sub int int") => `(tactic| (k_here; (with_reducible show wpAny _ _ (binaryOp _ (Value.int (OfNat.ofNat _) _) (Value.int (OfNat.ofNat _) _)) _ _ _); k_dflt ((with_reducible refine' sub_lit ?ke ?_); (case ke => krs_num); k_whole)))
local macro_rules | `(tactic| walk_at "binaryOp BitOr int int") => `(tactic| (k_here; (with_reducible show wpAny _ _ (binaryOp _ (Value.int (OfNat.ofNat _) _) (Value.int (OfNat.ofNat _) _)) _ _ _); k_dflt ((with_reducible refine' or_lit ?ke ?_); (case ke => krs_num); k_whole)))
local macro_rules | `(tactic| walk_at "binaryOp LShift int int") => `(tactic| (k_here; (with_reducible show wpAny _ _ (binaryOp _ (Value.int (OfNat.ofNat _) _) (Value.int (OfNat.ofNat _) _)) _ _ _); k_dflt ((with_reducible refine' shl_lit ?ka ?kb ?kc ?ke ?_); (case ka => decide); (case kb => decide); (case kc => decide); (case ke => krs_num); k_whole)))
local macro_rules | `(tactic| walk_at "UnrEnd") => `(tactic| (k_here; k_dflt ((first | (with_reducible refine' unrEnd1 ?kF ?kN ?ko ?_) | (refine' unrEnd1 ?kF ?kN ?ko ?_)); (case kF => k_asm); (case kN => k_asm); (case ko => first | exact allLt_ne (by assumption) | exact ne_of_l1 (by assumption))); (first | (refine' KrsRest.succ ?hv ?_; (case hv => krs_num); intro t' h' tk' F' N') | (refine' KrsRest.zero ?_; intro h' tk' F' N')); (try dsimp only); (try k_sweep); (try k_fold)))
local macro_rules | `(tactic| walk_at "subscriptTail Name BinOp ref int") => `(tactic| (k_here; (with_reducible show wpAny _ _ (subscriptTail _ _ (Value.ref 148) (Value.int _ _)) _ _ _); k_dflt ((first | (with_reducible refine' posRow ?kF ?kX ?ka ?kb ?_ ?hs) | (refine' posRow ?kF ?kX ?ka ?kb ?_ ?hs)); (case kF => k_asm); (case kX => k_asm); (case hs => with_unfolding_all rfl); (case ka => exact (bndP (by decide)).1); (case kb => exact (bndP (by decide)).2); k_whole; intro hb0 hb1)))
local macro_rules | `(tactic| walk_at "subscriptTail Subscript Name BinOp BinOp ref int") => `(tactic| (k_here; (with_reducible show wpAny _ _ (subscriptTail _ _ (Value.ref (rowPOS _)) (Value.int _ _)) _ _ _); k_dflt ((first | (with_reducible refine' posItem ?kF ?kX ?ka ?kb ?_ ?hs) | (refine' posItem ?kF ?kX ?ka ?kb ?_ ?hs)); (case kF => k_asm); (case kX => k_asm); (case hs => with_unfolding_all rfl); (case ka => assumption); (case kb => assumption); k_whole; intro r9 t9 e9 z9)))
local macro_rules | `(tactic| walk_at "call ref") => `(tactic| (k_here; (with_reducible show wpAny _ _ (call (Value.ref 561) _ _) _ _ _); k_dflt ((first | (with_reducible refine' sp_useC (new_cs ?c0 ?c1 ?c2 ?c3) ?k1 ?k2 ?k3 ?k4 ?k5 ?kK ?kd ?ku ?_) | (refine' sp_useC (new_cs ?c0 ?c1 ?c2 ?c3) ?k1 ?k2 ?k3 ?k4 ?k5 ?kK ?kd ?ku ?_)); (case k1 => k_asm); (case k2 => k_asm); (case k3 => k_asm); (case k4 => k_asm); (case k5 => k_asm); (case c0 => exact fromijR (by with_reducible assumption) (by with_reducible assumption) (by with_reducible assumption) (by with_reducible assumption) (by with_reducible assumption) (by with_reducible assumption) (by with_reducible assumption) (by with_reducible assumption) (by with_reducible assumption) (by with_reducible assumption)); (case c1 => assumption); (case c2 => exact Nat.le_refl _); (case c3 => exact PP_lt _ _ _ (by with_reducible assumption) (by with_reducible assumption)); (case kK => first | exact rfl | assumption); (case kd => first | exact roomK (by with_reducible assumption) (Nat.le_of_ble_eq_true rfl) | exact roomL _ rfl | ktr_room); (case ku => first | exact unitK (by with_reducible assumption) (Nat.le_of_ble_eq_true rfl) | exact unitL _ rfl | ktr_units); k_whole; intro x9 d9 t9 k9 h9 tk9 la9 lb9 F9 N9; (try dsimp only); (try k_sweep); (try k_fold))))
theorem from_ij_cs {tf ti tj : Tok} (hf : f < 6) (hi : i < 1073741824) (hj : j < 1073741824) : Sp 6 w p loose mean mg mb 245 news [.ref 561, .int f tf, .int i ti, .int j tj] (OutC w (cid f (PP f i j) 30) news) := by
  unfold Sp
  k_fill
  intro dp un gd cn cs a ccd cl outer A₀ base h₀ L m s R B F X' N T hk' hdp hun hret
  k_dflt (refine' code_def ?k1 ?k2 ?k3 ?k4 ?k5 ?kA ?kF ?kK ?k6 ?k7 ?k8 ?k9 ?kB ?_ ?c2 ?c3 ?c4 ?c5; (case kA => exact rfl); (case kF => exact rfl); (case kK => first | assumption | exact rfl); (case k1 => k_asm); (case k2 => k_asm); (case k3 => k_asm); (case k4 => k_asm); (case k5 => k_asm); (case k6 => k_is); (case k7 => k_is); (case k8 => ktr_room); (case k9 => first | exact BindsTo.of_eq rfl | exact binds_K (by k_in) rfl (by k_is) rfl rfl rfl); (case c5 => decide); (case kB => exact locs rfl); (case c2 => exact rfl); (case c3 => exact rfl); (case c4 => exact rfl); k_whole; intro g' L' h' FG' F' N' B' X' T'; (try dsimp only); (try k_lift B'); (try k_fold))
  repeat' (first | (k_unfold; (try dsimp only)) | (k_end; wrow_close) | ((try dsimp only); walk1) | (leave1; walk_say "STEP leave1"; try dsimp only) | fail "no step")
  all_goals exact hret _ _ _ _ (by k_asm) (by k_asm) ⟨_, _, _, _, rfl, rfl, by assumption, by assumption⟩
end
end Mine
/- part S8 -/
set_option Elab.async false
set_option maxRecDepth 100000
set_option maxHeartbeats 1000000
namespace Mine
open PySem PySem.W PySem.Spec PySem.Calls PyProof.Rows
variable {w : World} {p : Program} {loose : List PySem.Str} {mean : ExcName → Option Value} {mg mb : PySem.Str → Option Value} {news : Led} {x dx : Addr} {v : Int} {t tk : Tok}
abbrev ptName : PySem.Str := PySem.Str.ofString "_Point__point"
abbrev ptD (w : World) (tp : Addr) (tk : Tok) : Obj := dictOf [⟨PyData.keyHash w.params ptName, .str ptName tk, .ref tp⟩] 1
abbrev ptO (dx : Addr) : Obj := instObj 134 dx
def IsPt (w : World) (news : Led) (x : Addr) (a b c : Int) : Prop := ∃ dx tp tk t1 t2 t3, (x, ptO dx) ∈ news ∧ (dx, ptD w tp tk) ∈ news ∧ (tp, tup3 (.int a t1) (.int b t2) (.int c t3)) ∈ news
abbrev OutP (w : World) (a b c : Int) (news : Led) : Value → Led → Prop := fun r n => ∃ (x dx tp : Addr) (tk t1 t2 t3 : Tok) (a' b' c' : Int), r = .ref x ∧ n = (tp, tup3 (.int a' t1) (.int b' t2) (.int c' t3)) :: (x, ptO dx) :: (dx, ptD w tp tk) :: news ∧ (a' = a ∧ b' = b ∧ c' = c) ∧ (∀ p ∈ news, p.1 < dx) ∧ dx < x ∧ x < tp
variable {a b c : Int} {ta tb tc : Tok}
theorem lt_addr {a b : Addr} (h : @LT.lt Nat _ a b) : a < b := h
theorem isPt_mono {news' : Led} (hc : IsPt w news x a b c) (h : ∀ p ∈ news, p ∈ news') : IsPt w news' x a b c := by
  obtain ⟨dx, tp, tk, t1, t2, t3, h1, h2, h3⟩ := hc; exact ⟨dx, tp, tk, t1, t2, t3, h _ h1, h _ h2, h _ h3⟩
theorem isPt_tail {p : Addr × Obj} (hc : IsPt w news x a b c) : IsPt w (p :: news) x a b c := isPt_mono hc fun _ h => .tail _ h
theorem isPt_new {tp : Addr} {t1 t2 t3 : Tok} : IsPt w ((tp, tup3 (.int a t1) (.int b t2) (.int c t3)) :: (x, ptO dx) :: (dx, ptD w tp tk) :: news) x a b c := ⟨dx, tp, tk, t1, t2, t3, .tail _ (.head _), .tail _ (.tail _ (.head _)), .head _⟩
local macro_rules | `(tactic| walk_at "eval Name") => `(tactic| (k_here; (with_reducible show wpAny _ _ (eval (Expr.Name _ _) (compEnvC _ _ _ _)) _ _ _); k_dflt (first
  | (name_kind "cell" "free"; refine kcf_cell (by k_asm) (by rfl) (by k_mem) (by k_asm) ?_)
  | (name_kind "local"; refine LCgL.ld_own (by k_asm) (by k_mem) (by assumption) (by assumption) ?_)
  | (name_kind "globalImplicit"; refine LCgL.ld_global (by k_asm) (by k_asm) (by k_asm) (by k_is) ?_))))
local macro_rules | `(tactic| walk_at "eval Name") => `(tactic| (k_here; (fail_if_success (with_reducible show wpAny _ _ (eval (Expr.Name _ _) (compEnvC _ _ _ _)) _ _ _)); k_dflt (first
  | (name_kind "local"; refine' nmL ?F ?q ?v ?_; (case F => k_asm); (case q => decide +kernel); (case v => rfl); k_whole)
  | (name_kind "cell"; refine' nmC ?N ?q ?c ?m ?d ?_; (case q => decide +kernel); (case N => k_asm); (case c => rfl); (case m => k_mem); (case d => k_asm); k_whole)
  | (name_kind "globalImplicit"; refine' nmK ?F ?X ?T ?q ?e ?_; (case q => decide +kernel); (case F => k_asm); (case X => k_asm); (case T => k_asm); (case e => k_is); k_whole)
  | (name_kind "globalImplicit"; refine' nmB ?F ?X ?T ?q ?e ?v ?n ?_; (case q => decide +kernel); (case F => k_asm); (case X => k_asm); (case T => k_asm); (case e => k_is); (case v => boot_fast); (case n => decide); k_whole))))
local macro_rules | `(tactic| walk_at "callWith ref") => `(tactic| (k_here; k_dflt (first
  | ((with_reducible refine' callWith_K ?k1 ?k2 ?_); (case k1 => k_asm); (case k2 => k_is); k_whole)
  | ((with_reducible refine' callWith_K0n ?kF ?kX ?kk ?_); (case kF => with_reducible assumption); (case kX => k_asm); (case kk => k_is); k_whole)
  | ((with_reducible refine' callWith_M ?k1 ?k2 ?k3 ?k4 ?_); (case k1 => k_asm); (case k2 => k_asm); (case k3 => k_mem); (case k4 => k_is); k_whole)
  | ((with_reducible refine' callWith_M0 ?k1 ?k2 ?_); (case k1 => k_meth); (case k2 => k_is); k_whole; try dsimp only [List.nil_append, List.cons_append]))))
local macro_rules | `(tactic| walk_at "loadName") => `(tactic| (k_here; k_dflt (refine' ldL ?F ?q ?v ?_; (case F => k_asm); (case q => decide +kernel); (case v => rfl); k_whole)))
local macro_rules | `(tactic| walk_at "subscriptTail Name Constant ref int") => `(tactic| (k_here; k_dflt (refine' item_tupleT ?t ?a ?b ?c ?d ?_; (case t => exact News.isTup (by k_asm) (by k_mem)); (case a => decide); (case b => decide); (case c => rfl); (case d => rfl); k_whole)))
local macro_rules | `(tactic| walk_at "getAttr ref") => `(tactic| (k_here; k_dflt (first
  | ((with_reducible show wpAny _ _ (getAttr (Value.ref _) (PySem.Str.ofString "__class__") _) _ _ _); refine' get_class ?k1 ?k2 ?k3 ?k4 ?k5 ?k6 ?k7 ?k8 ?k9 ?_; (case k1 => k_asm); (case k2 => k_asm); (case k3 => k_inst); (case k4 => k_is); (case k5 => k_is); (case k6 => k_is); (case k7 => k_is); (case k8 => k_is); (case k9 => k_is); k_whole)
  | (refine' cls_val ?k1 ?k2 ?k3 ?k4 ?k5 ?k6 ?_; (case k1 => k_asm); (case k2 => k_asm); (case k3 => k_is); (case k4 => k_is); (case k5 => k_is); (case k6 => k_handed); k_whole))))
local macro_rules | `(tactic| walk_at "spliced") => `(tactic| (k_here; k_dflt (first | refine args_cons ?_ | refine args_nil ?_)))
local macro_rules | `(tactic| walk_at "eval Call Name cons nil") => `(tactic| (k_here; k_dflt (refine Call_ ?_)))
local macro_rules | `(tactic| walk_at "storeName") => `(tactic| (k_here; k_dflt (refine' stL ?F ?N ?q ?_; (case q => decide +kernel); (case F => k_asm); (case N => k_asm); k_whole; intro h' F' N'; (try k_sweep))))
local macro_rules | `(tactic| walk_at "getMethod ref") => `(tactic| (k_here; k_dflt (first
  | (refine' method_inst ?k1 ?k2 ?k3 ?k4 ?k5 ?k6 ?k7 ?_; (case k1 => k_asm); (case k2 => k_asm); (case k3 => k_inst); (case k4 => k_is); (case k5 => k_is); (case k6 => k_is); (case k7 => k_get); k_whole)
  | (refine' kmu_cm ?k1 ?k2 ?k3 ?k4 ?k5 ?k6 ?k7 ?k8 ?k9 ?k10 ?k11 ?k12 ?k13 ?_; (case k1 => k_asm); (case k2 => k_asm); (case k3 => k_asm); (case k4 => k_inst); (case k5 => k_is); (case k6 => k_is); (case k7 => k_is); (case k8 => k_is); (case k9 => k_is); (case k10 => k_is); (case k11 => decide +kernel); (case k12 => k_get); (case k13 => k_is); k_whole; intro q' h' F' N' l1; (try k_lt l1); (try k_sweep)))))
local macro_rules | `(tactic| k_mem) => `(tactic| (first | exact mem_hd | ktr_member | (refine mem_tl ?_; first | exact mem_hd | ktr_member | (refine mem_tl ?_; first | exact mem_hd | ktr_member | (refine mem_tl ?_; first | exact mem_hd | ktr_member | (refine mem_tl ?_; first | exact mem_hd | ktr_member | (refine mem_tl ?_; first | exact mem_hd | ktr_member | (refine mem_tl ?_; first | exact mem_hd | ktr_member | (refine mem_tl ?_; first | exact mem_hd | ktr_member | (refine mem_tl ?_; first | exact mem_hd | ktr_member | (refine mem_tl ?_; first | exact mem_hd | ktr_member | (refine mem_tl ?_; first | exact mem_hd | ktr_member | (refine mem_tl ?_; first | exact mem_hd | ktr_member | (refine mem_tl ?_; first | exact mem_hd | ktr_member | (refine mem_tl ?_; first | exact mem_hd | ktr_member | (refine mem_tl ?_; ktr_member))))))))))))))))
local macro_rules | `(tactic| walk_at "getMethod ref") => `(tactic| (k_here; (with_reducible show wpAny _ _ (getMethod (Value.ref _) (PySem.Str.ofString "__class__") _) _ _ _); k_dflt ((first | (with_reducible refine' method_usual (r := some (.builtin "object.__class__")) ?kX ?kI ?ka ?kb ?kc ?kd ?_) | (refine' method_usual (r := some (.builtin "object.__class__")) ?kX ?kI ?ka ?kb ?kc ?kd ?_)); (case kX => k_in); (case kI => k_inst); (case ka => k_is); (case kb => k_is); (case kc => k_is); (case kd => exact rfl); k_whole)))
local macro_rules | `(tactic| k_all) => `(tactic| exact ne_of_l1 (by assumption))
local macro_rules | `(tactic| k_in) => `(tactic| (refine Frag.In.keeps ?_ (Fr.keep (by with_reducible assumption)); with_reducible assumption))
local macro_rules | `(tactic| walk_at "callWith ref cons nil") => `(tactic| (k_here; k_dflt ((with_reducible refine' callWith_K0' ?kF ?kX ?kk ?_); (case kF => with_reducible assumption); (case kX => k_asm); (case kk => k_is); k_whole)))
theorem new_pt : Sp 3 w p loose mean mg mb 134 news [.int a ta, .int b tb, .int c tc] (OutP w a b c news) := by
  unfold Sp
  k_fill
  intro dp un gd cn cs a1 ccd cl outer A₀ base h₀ L m s R B F X' N T hk' hdp hun hret
  k_dflt (refine' make_K ?k1 ?k2 ?k3 ?k4 ?k5 ?k6 ?_; (case k1 => k_asm); (case k2 => k_asm); (case k3 => k_in); (case k4 => k_is); (case k5 => k_is); (case k6 => k_is); k_whole; intro x' d' h' F' N' l1 l2; (try k_lt2 l2); (try k_sweep))
  k_dflt (refine' code_def ?k1 ?k2 ?k3 ?k4 ?k5 ?kA ?kF ?kK ?k6 ?k7 ?k8 ?k9 ?kB ?_ ?c2 ?c3 ?c4 ?c5; (case kA => exact rfl); (case kF => exact rfl); (case kK => first | assumption | exact rfl); (case k1 => k_asm); (case k2 => k_asm); (case k3 => k_asm); (case k4 => k_asm); (case k5 => k_asm); (case k6 => k_is); (case k7 => k_is); (case k8 => ktr_room); (case k9 => first | exact BindsTo.of_eq rfl | exact binds_K (by k_in) rfl (by k_is) rfl rfl rfl); (case c5 => decide); (case kB => exact locs rfl); (case c2 => exact rfl); (case c3 => exact rfl); (case c4 => exact rfl); k_whole; intro g' L' h' FG' F' N' B' X' T'; (try dsimp only); (try k_lift B'); (try k_fold))
  repeat' (first | (k_unfold; (try dsimp only)) | (k_end; wrow_close) | ((try dsimp only); walk1) | (leave1; walk_say "STEP leave1"; try dsimp only) | fail "no step")
  all_goals exact hret _ _ _ _ (by k_asm) (by k_asm) ⟨_, _, _, _, _, _, _, _, _, _, rfl, rfl, ⟨rfl, rfl, rfl⟩, by assumption, by assumption, lt_addr (by omega)⟩
end Mine
/- part S9 -/
set_option Elab.async false
set_option maxRecDepth 100000
set_option maxHeartbeats 1000000
namespace Mine
open PySem PySem.W PySem.Spec PySem.Calls PyProof.Rows
variable {w : World} {p : Program} {loose : List PySem.Str} {mean : ExcName → Option Value} {mg mb : PySem.Str → Option Value} {news : Led} {x dx : Addr} {v : Int} {t tk : Tok}
section
variable {f q q' l : Nat} {y : Addr}
local macro_rules | `(tactic| walk_at "eval Name") => `(tactic| (k_here; (with_reducible show wpAny _ _ (eval (Expr.Name _ _) (compEnvC _ _ _ _)) _ _ _); k_dflt (first
  | (name_kind "cell" "free"; refine kcf_cell (by k_asm) (by rfl) (by k_mem) (by k_asm) ?_)
  | (name_kind "local"; refine LCgL.ld_own (by k_asm) (by k_mem) (by assumption) (by assumption) ?_)
  | (name_kind "globalImplicit"; refine LCgL.ld_global (by k_asm) (by k_asm) (by k_asm) (by k_is) ?_))))
local macro_rules | `(tactic| walk_at "eval Name") => `(tactic| (k_here; (fail_if_success (with_reducible show wpAny _ _ (eval (Expr.Name _ _) (compEnvC _ _ _ _)) _ _ _)); k_dflt (first
  | (name_kind "local"; refine' nmL ?F ?q ?v ?_; (case F => k_asm); (case q => decide +kernel); (case v => rfl); k_whole)
  | (name_kind "cell"; refine' nmC ?N ?q ?c ?m ?d ?_; (case q => decide +kernel); (case N => k_asm); (case c => rfl); (case m => k_mem); (case d => k_asm); k_whole)
  | (name_kind "globalImplicit"; refine' nmK ?F ?X ?T ?q ?e ?_; (case q => decide +kernel); (case F => k_asm); (case X => k_asm); (case T => k_asm); (case e => k_is); k_whole)
  | (name_kind "globalImplicit"; refine' nmB ?F ?X ?T ?q ?e ?v ?n ?_; (case q => decide +kernel); (case F => k_asm); (case X => k_asm); (case T => k_asm); (case e => k_is); (case v => boot_fast); (case n => decide); k_whole))))
local macro_rules | `(tactic| walk_at "callWith ref") => `(tactic| (k_here; k_dflt (first
  | ((with_reducible refine' callWith_K ?k1 ?k2 ?_); (case k1 => k_asm); (case k2 => k_is); k_whole)
  | ((with_reducible refine' callWith_K0n ?kF ?kX ?kk ?_); (case kF => with_reducible assumption); (case kX => k_asm); (case kk => k_is); k_whole)
  | ((with_reducible refine' callWith_M ?k1 ?k2 ?k3 ?k4 ?_); (case k1 => k_asm); (case k2 => k_asm); (case k3 => k_mem); (case k4 => k_is); k_whole)
  | ((with_reducible refine' callWith_M0 ?k1 ?k2 ?_); (case k1 => k_meth); (case k2 => k_is); k_whole; try dsimp only [List.nil_append, List.cons_append]))))
local macro_rules | `(tactic| walk_at "loadName") => `(tactic| (k_here; k_dflt (refine' ldL ?F ?q ?v ?_; (case F => k_asm); (case q => decide +kernel); (case v => rfl); k_whole)))
local macro_rules | `(tactic| walk_at "subscriptTail Name Constant ref int") => `(tactic| (k_here; k_dflt (refine' item_tupleT ?t ?a ?b ?c ?d ?_; (case t => exact News.isTup (by k_asm) (by k_mem)); (case a => decide); (case b => decide); (case c => rfl); (case d => rfl); k_whole)))
local macro_rules | `(tactic| walk_at "getAttr ref") => `(tactic| (k_here; k_dflt (first
  | ((with_reducible show wpAny _ _ (getAttr (Value.ref _) (PySem.Str.ofString "__class__") _) _ _ _); refine' get_class ?k1 ?k2 ?k3 ?k4 ?k5 ?k6 ?k7 ?k8 ?k9 ?_; (case k1 => k_asm); (case k2 => k_asm); (case k3 => k_inst); (case k4 => k_is); (case k5 => k_is); (case k6 => k_is); (case k7 => k_is); (case k8 => k_is); (case k9 => k_is); k_whole)
  | (refine' cls_val ?k1 ?k2 ?k3 ?k4 ?k5 ?k6 ?_; (case k1 => k_asm); (case k2 => k_asm); (case k3 => k_is); (case k4 => k_is); (case k5 => k_is); (case k6 => k_handed); k_whole))))
local macro_rules | `(tactic| walk_at "spliced") => `(tactic| (k_here; k_dflt (first | refine args_cons ?_ | refine args_nil ?_)))
local macro_rules | `(tactic| walk_at "eval Call Name cons nil") => `(tactic| (k_here; k_dflt (refine Call_ ?_)))
local macro_rules | `(tactic| walk_at "storeName") => `(tactic| (k_here; k_dflt (refine' stL ?F ?N ?q ?_; (case q => decide +kernel); (case F => k_asm); (case N => k_asm); k_whole; intro h' F' N'; (try k_sweep))))
local macro_rules | `(tactic| walk_at "getMethod ref") => `(tactic| (k_here; k_dflt (first
  | (refine' method_inst ?k1 ?k2 ?k3 ?k4 ?k5 ?k6 ?k7 ?_; (case k1 => k_asm); (case k2 => k_asm); (case k3 => k_inst); (case k4 => k_is); (case k5 => k_is); (case k6 => k_is); (case k7 => k_get); k_whole)
  | (refine' kmu_cm ?k1 ?k2 ?k3 ?k4 ?k5 ?k6 ?k7 ?k8 ?k9 ?k10 ?k11 ?k12 ?k13 ?_; (case k1 => k_asm); (case k2 => k_asm); (case k3 => k_asm); (case k4 => k_inst); (case k5 => k_is); (case k6 => k_is); (case k7 => k_is); (case k8 => k_is); (case k9 => k_is); (case k10 => k_is); (case k11 => decide +kernel); (case k12 => k_get); (case k13 => k_is); k_whole; intro q' h' F' N' l1; (try k_lt l1); (try k_sweep)))))
local macro_rules | `(tactic| k_mem) => `(tactic| (first | exact mem_hd | ktr_member | (refine mem_tl ?_; first | exact mem_hd | ktr_member | (refine mem_tl ?_; first | exact mem_hd | ktr_member | (refine mem_tl ?_; first | exact mem_hd | ktr_member | (refine mem_tl ?_; first | exact mem_hd | ktr_member | (refine mem_tl ?_; first | exact mem_hd | ktr_member | (refine mem_tl ?_; first | exact mem_hd | ktr_member | (refine mem_tl ?_; first | exact mem_hd | ktr_member | (refine mem_tl ?_; first | exact mem_hd | ktr_member | (refine mem_tl ?_; first | exact mem_hd | ktr_member | (refine mem_tl ?_; first | exact mem_hd | ktr_member | (refine mem_tl ?_; first | exact mem_hd | ktr_member | (refine mem_tl ?_; first | exact mem_hd | ktr_member | (refine mem_tl ?_; first | exact mem_hd | ktr_member | (refine mem_tl ?_; ktr_member))))))))))))))))
local macro_rules | `(tactic| walk_at "getMethod ref") => `(tactic| (k_here; (with_reducible show wpAny _ _ (getMethod (Value.ref _) (PySem.Str.ofString "__class__") _) _ _ _); k_dflt ((first | (with_reducible refine' method_usual (r := some (.builtin "object.__class__")) ?kX ?kI ?ka ?kb ?kc ?kd ?_) | (refine' method_usual (r := some (.builtin "object.__class__")) ?kX ?kI ?ka ?kb ?kc ?kd ?_)); (case kX => k_in); (case kI => k_inst); (case ka => k_is); (case kb => k_is); (case kc => k_is); (case kd => exact rfl); k_whole)))
local macro_rules | `(tactic| k_all) => `(tactic| exact ne_of_l1 (by assumption))
local macro_rules | `(tactic| k_in) => `(tactic| (refine Frag.In.keeps ?_ (Fr.keep (by with_reducible assumption)); with_reducible assumption))
local macro_rules | `(tactic| walk_at "callWith ref cons nil") => `(tactic| (k_here; k_dflt ((with_reducible refine' callWith_K0' ?kF ?kX ?kk ?_); (case kF => with_reducible assumption); (case kX => k_asm); (case kk => k_is); k_whole)))
local macro_rules | `(tactic| ktr_rel) => `(tactic| (first | exact (by assumption) | exact isCell_new | exact (isCell_tail (by assumption)) | exact (isCell_tail isCell_new) | exact (isCell_tail (isCell_tail (by assumption))) | exact (isCell_tail (isCell_tail isCell_new)) | exact (isCell_tail (isCell_tail (isCell_tail (by assumption)))) | exact (isCell_tail (isCell_tail (isCell_tail isCell_new))) | exact (isCell_tail (isCell_tail (isCell_tail (isCell_tail (by assumption))))) | exact (isCell_tail (isCell_tail (isCell_tail (isCell_tail isCell_new)))) | exact (isCell_tail (isCell_tail (isCell_tail (isCell_tail (isCell_tail (by assumption)))))) | exact (isCell_tail (isCell_tail (isCell_tail (isCell_tail (isCell_tail isCell_new))))) | exact (isCell_tail (isCell_tail (isCell_tail (isCell_tail (isCell_tail (isCell_tail (by assumption))))))) | exact (isCell_tail (isCell_tail (isCell_tail (isCell_tail (isCell_tail (isCell_tail isCell_new)))))) | exact (isCell_tail (isCell_tail (isCell_tail (isCell_tail (isCell_tail (isCell_tail (isCell_tail (by assumption)))))))) | exact (isCell_tail (isCell_tail (isCell_tail (isCell_tail (isCell_tail (isCell_tail (isCell_tail isCell_new))))))) | exact (isCell_tail (isCell_tail (isCell_tail (isCell_tail (isCell_tail (isCell_tail (isCell_tail (isCell_tail (by assumption))))))))) | exact (isCell_tail (isCell_tail (isCell_tail (isCell_tail (isCell_tail (isCell_tail (isCell_tail (isCell_tail isCell_new)))))))) | exact (isCell_tail (isCell_tail (isCell_tail (isCell_tail (isCell_tail (isCell_tail (isCell_tail (isCell_tail (isCell_tail (by assumption)))))))))) | exact (isCell_tail (isCell_tail (isCell_tail (isCell_tail (isCell_tail (isCell_tail (isCell_tail (isCell_tail (isCell_tail isCell_new)))))))))))
local macro_rules | `(tactic| walk_at "call ref") => `(tactic| (k_here; (with_reducible show wpAny _ _ (call (Value.ref 506) _ _) _ _ _); k_dflt ((first | (with_reducible refine' sp_useT (center_cs ?c0 ?c1 ?c2 ?c3) ?k1 ?k2 ?k3 ?k4 ?k5 ?kK ?kd ?ku ?_) | (refine' sp_useT (center_cs ?c0 ?c1 ?c2 ?c3) ?k1 ?k2 ?k3 ?k4 ?k5 ?kK ?kd ?ku ?_)); (case k1 => k_asm); (case k2 => k_asm); (case k3 => k_asm); (case k4 => k_asm); (case k5 => k_asm); (case c0 => ktr_rel); (case c1 => assumption); (case c2 => assumption); (case c3 => assumption); (case kK => first | exact rfl | assumption); (case kd => first | exact roomK (by with_reducible assumption) (Nat.le_of_ble_eq_true rfl) | exact roomL _ rfl | ktr_room); (case ku => first | exact unitK (by with_reducible assumption) (Nat.le_of_ble_eq_true rfl) | exact unitL _ rfl | ktr_units); k_whole; intro a9 t1 t2 t3 h9 tk9 la9 F9 N9; (try dsimp only); (try k_sweep); (try k_fold))))
theorem abs_if (x : Int) : (if x < 0 then -x else x) = (x.natAbs : Int) := by split <;> omega
theorem way_M (f q q' l : Nat) (hl : l ≤ 30) : ((if (MX f q l : Int) - (MX f q' l : Int) < 0 then -((MX f q l : Int) - (MX f q' l : Int)) else (MX f q l : Int) - (MX f q' l : Int)) + (if (MY f q l : Int) - (MY f q' l : Int) < 0 then -((MY f q l : Int) - (MY f q' l : Int)) else (MY f q l : Int) - (MY f q' l : Int))).fdiv (2 ^ (31 - (l : Int)).toNat) = (way l (f % 2) q q' : Int) := by
  rw [show (31 - (l : Int)).toNat = 31 - l by omega, abs_if, abs_if]
  unfold MX MY
  exact way_mid l (f % 2) q q' hl
theorem law_way_cs (hc : IsCell w news x f q l) (hc2 : IsCell w news y f q' l) (hf : f < 6) (hl : l ≤ 30) (hq : q < 4 ^ l) (hq' : q' < 4 ^ l) {tl : Tok} : Sp 6 w p loose mean mg mb 628 news [.ref x, .ref y, .int l tl] (OutI (way l (f % 2) q q') news) := by
  have ew := way_M f q q' l hl
  have hc' := hc
  have hc2' := hc2
  obtain ⟨dx, t, tk, hx, hd⟩ := hc'
  obtain ⟨dx2, t2, tk2, hx2, hd2⟩ := hc2'
  unfold Sp
  k_fill
  intro dp un gd cn cs a ccd cl outer A₀ base h₀ L m s R B F X' N T hk' hdp hun hret
  k_dflt (refine' code_def ?k1 ?k2 ?k3 ?k4 ?k5 ?kA ?kF ?kK ?k6 ?k7 ?k8 ?k9 ?kB ?_ ?c2 ?c3 ?c4 ?c5; (case kA => exact rfl); (case kF => exact rfl); (case kK => first | assumption | exact rfl); (case k1 => k_asm); (case k2 => k_asm); (case k3 => k_asm); (case k4 => k_asm); (case k5 => k_asm); (case k6 => k_is); (case k7 => k_is); (case k8 => ktr_room); (case k9 => first | exact BindsTo.of_eq rfl | exact binds_K (by k_in) rfl (by k_is) rfl rfl rfl); (case c5 => decide); (case kB => exact locs rfl); (case c2 => exact rfl); (case c3 => exact rfl); (case c4 => exact rfl); k_whole; intro g' L' h' FG' F' N' B' X' T'; (try dsimp only); (try k_lift B'); (try k_fold))
  repeat' (first | (k_unfold; (try dsimp only)) | (k_end; wrow_close) | ((try dsimp only); walk1) | (leave1; walk_say "STEP leave1"; try dsimp only) | fail "no step")
  all_goals first | exact absurd rfl (by with_reducible assumption) | exact hret _ news _ _ (by k_asm) (news_tl (news_tl (by k_asm))) (outI ew)
end
end Mine
/- part S10 -/
set_option Elab.async false
set_option maxRecDepth 100000
set_option maxHeartbeats 1000000
namespace Mine
open PySem PySem.W PySem.Spec PySem.Calls PyProof.Rows
variable {w : World} {p : Program} {loose : List PySem.Str} {mean : ExcName → Option Value} {mg mb : PySem.Str → Option Value} {news : Led} {x dx : Addr} {v : Int} {t tk : Tok}
section
variable {a b c : Int} {fa : Addr} {d : Nat} {vs : List Value}
  {dp un : Nat} {gd : Option (List Code)} {cn : PySem.Str} {cs : Scope} {a1 : Addr} {ccd : Value} {cl : List (PySem.Str × Addr)} {outer : List Env} {A₀ : Around} {base h₀ : Heap} {L : Addr} {m : PySem.Str → Option Value} {s : Shared}
theorem sp_useP {Q E : Value → Shared → Prop} (S : Sp d w p loose mean mg mb fa news vs (OutP w a b c news)) (B : Below A₀ base outer h₀) (F : Fr h₀ L s.heap m) (X : (Mine.hd.heap_39 w.params).In h₀) (N : News h₀ L s.heap news) (T : Top p loose mean mg mb h₀) (hk : cs.kind = .function) (hdp : dp + d < recursionLimit) (hun : un + 20 * d < cLine)
    (ret : ∀ (x dx tp : Addr) (tk t1 t2 t3 : Tok) h' tk', (∀ p ∈ news, p.1 < dx) → dx < x → x < tp → Fr h₀ L h' m → News h₀ L h' ((tp, tup3 (.int a t1) (.int b t2) (.int c t3)) :: (x, ptO dx) :: (dx, ptD w tp tk) :: news) → Q (.ref x) { s with heap := h', toks := tk' }) :
    wpAny (model PySem.Challenge.rw_fb0049_01.row.prog w) (ktrTop dp un gd cn cs L a1 ccd cl outer) (call (.ref fa) vs) Q E s :=
  sp_use S B F X N T hk hdp hun fun r n h' tk' F' N' o => by
    obtain ⟨x, dx, tp, tk, t1, t2, t3, a', b', c', rfl, rfl, ⟨rfl, rfl, rfl⟩, la, lb, lc⟩ := o
    exact ret x dx tp tk t1 t2 t3 h' tk' la lb lc F' N'
end
section
variable {a b c a' b' c' m : Int} {y : Addr}
local macro_rules | `(tactic| walk_at "eval Name") => `(tactic| (k_here; (with_reducible show wpAny _ _ (eval (Expr.Name _ _) (compEnvC _ _ _ _)) _ _ _); k_dflt (first
  | (name_kind "cell" "free"; refine kcf_cell (by k_asm) (by rfl) (by k_mem) (by k_asm) ?_)
  | (name_kind "local"; refine LCgL.ld_own (by k_asm) (by k_mem) (by assumption) (by assumption) ?_)
  | (name_kind "globalImplicit"; refine LCgL.ld_global (by k_asm) (by k_asm) (by k_asm) (by k_is) ?_))))
local macro_rules | `(tactic| walk_at "eval Name") => `(tactic| (k_here; (fail_if_success (with_reducible show wpAny _ _ (eval (Expr.Name _ _) (compEnvC _ _ _ _)) _ _ _)); k_dflt (first
  | (name_kind "local"; refine' nmL ?F ?q ?v ?_; (case F => k_asm); (case q => decide +kernel); (case v => rfl); k_whole)
  | (name_kind "cell"; refine' nmC ?N ?q ?c ?m ?d ?_; (case q => decide +kernel); (case N => k_asm); (case c => rfl); (case m => k_mem); (case d => k_asm); k_whole)
  | (name_kind "globalImplicit"; refine' nmK ?F ?X ?T ?q ?e ?_; (case q => decide +kernel); (case F => k_asm); (case X => k_asm); (case T => k_asm); (case e => k_is); k_whole)
  | (name_kind "globalImplicit"; refine' nmB ?F ?X ?T ?q ?e ?v ?n ?_; (case q => decide +kernel); (case F => k_asm); (case X => k_asm); (case T => k_asm); (case e => k_is); (case v => boot_fast); (case n => decide); k_whole))))
local macro_rules | `(tactic| walk_at "callWith ref") => `(tactic| (k_here; k_dflt (first
  | ((with_reducible refine' callWith_K ?k1 ?k2 ?_); (case k1 => k_asm); (case k2 => k_is); k_whole)
  | ((with_reducible refine' callWith_K0n ?kF ?kX ?kk ?_); (case kF => with_reducible assumption); (case kX => k_asm); (case kk => k_is); k_whole)
  | ((with_reducible refine' callWith_M ?k1 ?k2 ?k3 ?k4 ?_); (case k1 => k_asm); (case k2 => k_asm); (case k3 => k_mem); (case k4 => k_is); k_whole)
  | ((with_reducible refine' callWith_M0 ?k1 ?k2 ?_); (case k1 => k_meth); (case k2 => k_is); k_whole; try dsimp only [List.nil_append, List.cons_append]))))
local macro_rules | `(tactic| walk_at "loadName") => `(tactic| (k_here; k_dflt (refine' ldL ?F ?q ?v ?_; (case F => k_asm); (case q => decide +kernel); (case v => rfl); k_whole)))
local macro_rules | `(tactic| walk_at "subscriptTail Name Constant ref int") => `(tactic| (k_here; k_dflt (refine' item_tupleT ?t ?a ?b ?c ?d ?_; (case t => exact News.isTup (by k_asm) (by k_mem)); (case a => decide); (case b => decide); (case c => rfl); (case d => rfl); k_whole)))
local macro_rules | `(tactic| walk_at "getAttr ref") => `(tactic| (k_here; k_dflt (first
  | ((with_reducible show wpAny _ _ (getAttr (Value.ref _) (PySem.Str.ofString "__class__") _) _ _ _); refine' get_class ?k1 ?k2 ?k3 ?k4 ?k5 ?k6 ?k7 ?k8 ?k9 ?_; (case k1 => k_asm); (case k2 => k_asm); (case k3 => k_inst); (case k4 => k_is); (case k5 => k_is); (case k6 => k_is); (case k7 => k_is); (case k8 => k_is); (case k9 => k_is); k_whole)
  | (refine' cls_val ?k1 ?k2 ?k3 ?k4 ?k5 ?k6 ?_; (case k1 => k_asm); (case k2 => k_asm); (case k3 => k_is); (case k4 => k_is); (case k5 => k_is); (case k6 => k_handed); k_whole))))
local macro_rules | `(tactic| walk_at "spliced") => `(tactic| (k_here; k_dflt (first | refine args_cons ?_ | refine args_nil ?_)))
local macro_rules | `(tactic| walk_at "eval Call Name cons nil") => `(tactic| (k_here; k_dflt (refine Call_ ?_)))
local macro_rules | `(tactic| walk_at "storeName") => `(tactic| (k_here; k_dflt (refine' stL ?F ?N ?q ?_; (case q => decide +kernel); (case F => k_asm); (case N => k_asm); k_whole; intro h' F' N'; (try k_sweep))))
local macro_rules | `(tactic| walk_at "getMethod ref") => `(tactic| (k_here; k_dflt (first
  | (refine' method_inst ?k1 ?k2 ?k3 ?k4 ?k5 ?k6 ?k7 ?_; (case k1 => k_asm); (case k2 => k_asm); (case k3 => k_inst); (case k4 => k_is); (case k5 => k_is); (case k6 => k_is); (case k7 => k_get); k_whole)
  | (refine' kmu_cm ?k1 ?k2 ?k3 ?k4 ?k5 ?k6 ?k7 ?k8 ?k9 ?k10 ?k11 ?k12 ?k13 ?_; (case k1 => k_asm); (case k2 => k_asm); (case k3 => k_asm); (case k4 => k_inst); (case k5 => k_is); (case k6 => k_is); (case k7 => k_is); (case k8 => k_is); (case k9 => k_is); (case k10 => k_is); (case k11 => decide +kernel); (case k12 => k_get); (case k13 => k_is); k_whole; intro q' h' F' N' l1; (try k_lt l1); (try k_sweep)))))
local macro_rules | `(tactic| k_mem) => `(tactic| (first | exact mem_hd | ktr_member | (refine mem_tl ?_; first | exact mem_hd | ktr_member | (refine mem_tl ?_; first | exact mem_hd | ktr_member | (refine mem_tl ?_; first | exact mem_hd | ktr_member | (refine mem_tl ?_; first | exact mem_hd | ktr_member | (refine mem_tl ?_; first | exact mem_hd | ktr_member | (refine mem_tl ?_; first | exact mem_hd | ktr_member | (refine mem_tl ?_; first | exact mem_hd | ktr_member | (refine mem_tl ?_; first | exact mem_hd | ktr_member | (refine mem_tl ?_; first | exact mem_hd | ktr_member | (refine mem_tl ?_; first | exact mem_hd | ktr_member | (refine mem_tl ?_; first | exact mem_hd | ktr_member | (refine mem_tl ?_; first | exact mem_hd | ktr_member | (refine mem_tl ?_; first | exact mem_hd | ktr_member | (refine mem_tl ?_; ktr_member))))))))))))))))
local macro_rules | `(tactic| walk_at "getMethod ref") => `(tactic| (k_here; (with_reducible show wpAny _ _ (getMethod (Value.ref _) (PySem.Str.ofString "__class__") _) _ _ _); k_dflt ((first | (with_reducible refine' method_usual (r := some (.builtin "object.__class__")) ?kX ?kI ?ka ?kb ?kc ?kd ?_) | (refine' method_usual (r := some (.builtin "object.__class__")) ?kX ?kI ?ka ?kb ?kc ?kd ?_)); (case kX => k_in); (case kI => k_inst); (case ka => k_is); (case kb => k_is); (case kc => k_is); (case kd => exact rfl); k_whole)))
local macro_rules | `(tactic| k_all) => `(tactic| exact ne_of_l1 (by assumption))
local macro_rules | `(tactic| k_in) => `(tactic| (refine Frag.In.keeps ?_ (Fr.keep (by with_reducible assumption)); with_reducible assumption))
local macro_rules | `(tactic| walk_at "callWith ref cons nil") => `(tactic| (k_here; k_dflt ((with_reducible refine' callWith_K0' ?kF ?kX ?kk ?_); (case kF => with_reducible assumption); (case kX => k_asm); (case kk => k_is); k_whole)))
theorem getitem0 (hp : IsPt w news x a b c) : Sp 2 w p loose mean mg mb 42 news [.ref x, .int 0 t] (OutI a news) := by
  have hp0 := hp
  obtain ⟨dx, tp, tk, t1, t2, t3, hx, hd, ht⟩ := hp0
  unfold Sp
  k_fill
  intro dp un gd cn cs a1 ccd cl outer A₀ base h₀ L m1 s R B F X' N T hk' hdp hun hret
  k_dflt (refine' code_def ?k1 ?k2 ?k3 ?k4 ?k5 ?kA ?kF ?kK ?k6 ?k7 ?k8 ?k9 ?kB ?_ ?c2 ?c3 ?c4 ?c5; (case kA => exact rfl); (case kF => exact rfl); (case kK => first | assumption | exact rfl); (case k1 => k_asm); (case k2 => k_asm); (case k3 => k_asm); (case k4 => k_asm); (case k5 => k_asm); (case k6 => k_is); (case k7 => k_is); (case k8 => ktr_room); (case k9 => first | exact BindsTo.of_eq rfl | exact binds_K (by k_in) rfl (by k_is) rfl rfl rfl); (case c5 => decide); (case kB => exact locs rfl); (case c2 => exact rfl); (case c3 => exact rfl); (case c4 => exact rfl); k_whole; intro g' L' h' FG' F' N' B' X' T'; (try dsimp only); (try k_lift B'); (try k_fold))
  repeat' (first | (k_unfold; (try dsimp only)) | (k_end; wrow_close) | ((try dsimp only); walk1) | (leave1; walk_say "STEP leave1"; try dsimp only) | fail "no step")
  all_goals exact hret _ news _ _ (by k_asm) (by first | k_asm | exact news_tl (by k_asm) | exact news_tl (news_tl (by k_asm)) | exact news_tl (news_tl (news_tl (by k_asm)))) (outI (by rfl))
theorem getitem1 (hp : IsPt w news x a b c) : Sp 2 w p loose mean mg mb 42 news [.ref x, .int 1 t] (OutI b news) := by
  have hp0 := hp
  obtain ⟨dx, tp, tk, t1, t2, t3, hx, hd, ht⟩ := hp0
  unfold Sp
  k_fill
  intro dp un gd cn cs a1 ccd cl outer A₀ base h₀ L m1 s R B F X' N T hk' hdp hun hret
  k_dflt (refine' code_def ?k1 ?k2 ?k3 ?k4 ?k5 ?kA ?kF ?kK ?k6 ?k7 ?k8 ?k9 ?kB ?_ ?c2 ?c3 ?c4 ?c5; (case kA => exact rfl); (case kF => exact rfl); (case kK => first | assumption | exact rfl); (case k1 => k_asm); (case k2 => k_asm); (case k3 => k_asm); (case k4 => k_asm); (case k5 => k_asm); (case k6 => k_is); (case k7 => k_is); (case k8 => ktr_room); (case k9 => first | exact BindsTo.of_eq rfl | exact binds_K (by k_in) rfl (by k_is) rfl rfl rfl); (case c5 => decide); (case kB => exact locs rfl); (case c2 => exact rfl); (case c3 => exact rfl); (case c4 => exact rfl); k_whole; intro g' L' h' FG' F' N' B' X' T'; (try dsimp only); (try k_lift B'); (try k_fold))
  repeat' (first | (k_unfold; (try dsimp only)) | (k_end; wrow_close) | ((try dsimp only); walk1) | (leave1; walk_say "STEP leave1"; try dsimp only) | fail "no step")
  all_goals exact hret _ news _ _ (by k_asm) (by first | k_asm | exact news_tl (by k_asm) | exact news_tl (news_tl (by k_asm)) | exact news_tl (news_tl (news_tl (by k_asm)))) (outI (by rfl))
theorem getitem2 (hp : IsPt w news x a b c) : Sp 2 w p loose mean mg mb 42 news [.ref x, .int 2 t] (OutI c news) := by
  have hp0 := hp
  obtain ⟨dx, tp, tk, t1, t2, t3, hx, hd, ht⟩ := hp0
  unfold Sp
  k_fill
  intro dp un gd cn cs a1 ccd cl outer A₀ base h₀ L m1 s R B F X' N T hk' hdp hun hret
  k_dflt (refine' code_def ?k1 ?k2 ?k3 ?k4 ?k5 ?kA ?kF ?kK ?k6 ?k7 ?k8 ?k9 ?kB ?_ ?c2 ?c3 ?c4 ?c5; (case kA => exact rfl); (case kF => exact rfl); (case kK => first | assumption | exact rfl); (case k1 => k_asm); (case k2 => k_asm); (case k3 => k_asm); (case k4 => k_asm); (case k5 => k_asm); (case k6 => k_is); (case k7 => k_is); (case k8 => ktr_room); (case k9 => first | exact BindsTo.of_eq rfl | exact binds_K (by k_in) rfl (by k_is) rfl rfl rfl); (case c5 => decide); (case kB => exact locs rfl); (case c2 => exact rfl); (case c3 => exact rfl); (case c4 => exact rfl); k_whole; intro g' L' h' FG' F' N' B' X' T'; (try dsimp only); (try k_lift B'); (try k_fold))
  repeat' (first | (k_unfold; (try dsimp only)) | (k_end; wrow_close) | ((try dsimp only); walk1) | (leave1; walk_say "STEP leave1"; try dsimp only) | fail "no step")
  all_goals exact hret _ news _ _ (by k_asm) (by first | k_asm | exact news_tl (by k_asm) | exact news_tl (news_tl (by k_asm)) | exact news_tl (news_tl (news_tl (by k_asm)))) (outI (by rfl))
local macro_rules | `(tactic| ktr_rel) => `(tactic| (first | exact (by assumption) | exact isPt_new | exact (isPt_tail (by assumption)) | exact (isPt_tail isPt_new) | exact (isPt_tail (isPt_tail (by assumption))) | exact (isPt_tail (isPt_tail isPt_new)) | exact (isPt_tail (isPt_tail (isPt_tail (by assumption)))) | exact (isPt_tail (isPt_tail (isPt_tail isPt_new))) | exact (isPt_tail (isPt_tail (isPt_tail (isPt_tail (by assumption))))) | exact (isPt_tail (isPt_tail (isPt_tail (isPt_tail isPt_new)))) | exact (isPt_tail (isPt_tail (isPt_tail (isPt_tail (isPt_tail (by assumption)))))) | exact (isPt_tail (isPt_tail (isPt_tail (isPt_tail (isPt_tail isPt_new))))) | exact (isPt_tail (isPt_tail (isPt_tail (isPt_tail (isPt_tail (isPt_tail (by assumption))))))) | exact (isPt_tail (isPt_tail (isPt_tail (isPt_tail (isPt_tail (isPt_tail isPt_new)))))) | exact (isPt_tail (isPt_tail (isPt_tail (isPt_tail (isPt_tail (isPt_tail (isPt_tail (by assumption)))))))) | exact (isPt_tail (isPt_tail (isPt_tail (isPt_tail (isPt_tail (isPt_tail (isPt_tail isPt_new))))))) | exact (isPt_tail (isPt_tail (isPt_tail (isPt_tail (isPt_tail (isPt_tail (isPt_tail (isPt_tail (by assumption))))))))) | exact (isPt_tail (isPt_tail (isPt_tail (isPt_tail (isPt_tail (isPt_tail (isPt_tail (isPt_tail isPt_new)))))))) | exact (isPt_tail (isPt_tail (isPt_tail (isPt_tail (isPt_tail (isPt_tail (isPt_tail (isPt_tail (isPt_tail (by assumption)))))))))) | exact (isPt_tail (isPt_tail (isPt_tail (isPt_tail (isPt_tail (isPt_tail (isPt_tail (isPt_tail (isPt_tail isPt_new)))))))))))
local macro_rules | `(tactic| walk_at "call ref") => `(tactic| (k_here; (with_reducible show wpAny _ _ (call (Value.ref 42) _ _) _ _ _); k_dflt ((first | (with_reducible refine' sp_useI (getitem0 ?c0) ?k1 ?k2 ?k3 ?k4 ?k5 ?kK ?kd ?ku ?_) | (refine' sp_useI (getitem0 ?c0) ?k1 ?k2 ?k3 ?k4 ?k5 ?kK ?kd ?ku ?_)); (case k1 => k_asm); (case k2 => k_asm); (case k3 => k_asm); (case k4 => k_asm); (case k5 => k_asm); (case c0 => ktr_rel); (case kK => first | exact rfl | assumption); (case kd => first | exact roomK (by with_reducible assumption) (Nat.le_of_ble_eq_true rfl) | exact roomL _ rfl | ktr_room); (case ku => first | exact unitK (by with_reducible assumption) (Nat.le_of_ble_eq_true rfl) | exact unitL _ rfl | ktr_units); k_whole; intro t9 h9 tk9 F9 N9; (try dsimp only); (try k_sweep); (try k_fold))))
local macro_rules | `(tactic| walk_at "call ref") => `(tactic| (k_here; (with_reducible show wpAny _ _ (call (Value.ref 42) _ _) _ _ _); k_dflt ((first | (with_reducible refine' sp_useI (getitem1 ?c0) ?k1 ?k2 ?k3 ?k4 ?k5 ?kK ?kd ?ku ?_) | (refine' sp_useI (getitem1 ?c0) ?k1 ?k2 ?k3 ?k4 ?k5 ?kK ?kd ?ku ?_)); (case k1 => k_asm); (case k2 => k_asm); (case k3 => k_asm); (case k4 => k_asm); (case k5 => k_asm); (case c0 => ktr_rel); (case kK => first | exact rfl | assumption); (case kd => first | exact roomK (by with_reducible assumption) (Nat.le_of_ble_eq_true rfl) | exact roomL _ rfl | ktr_room); (case ku => first | exact unitK (by with_reducible assumption) (Nat.le_of_ble_eq_true rfl) | exact unitL _ rfl | ktr_units); k_whole; intro t9 h9 tk9 F9 N9; (try dsimp only); (try k_sweep); (try k_fold))))
local macro_rules | `(tactic| walk_at "call ref") => `(tactic| (k_here; (with_reducible show wpAny _ _ (call (Value.ref 42) _ _) _ _ _); k_dflt ((first | (with_reducible refine' sp_useI (getitem2 ?c0) ?k1 ?k2 ?k3 ?k4 ?k5 ?kK ?kd ?ku ?_) | (refine' sp_useI (getitem2 ?c0) ?k1 ?k2 ?k3 ?k4 ?k5 ?kK ?kd ?ku ?_)); (case k1 => k_asm); (case k2 => k_asm); (case k3 => k_asm); (case k4 => k_asm); (case k5 => k_asm); (case c0 => ktr_rel); (case kK => first | exact rfl | assumption); (case kd => first | exact roomK (by with_reducible assumption) (Nat.le_of_ble_eq_true rfl) | exact roomL _ rfl | ktr_room); (case ku => first | exact unitK (by with_reducible assumption) (Nat.le_of_ble_eq_true rfl) | exact unitL _ rfl | ktr_units); k_whole; intro t9 h9 tk9 F9 N9; (try dsimp only); (try k_sweep); (try k_fold))))
local macro_rules | `(tactic| walk_at "call ref") => `(tactic| (k_here; (with_reducible show wpAny _ _ (call (Value.ref 134) _ _) _ _ _); k_dflt ((first | (with_reducible refine' sp_useP (new_pt ) ?k1 ?k2 ?k3 ?k4 ?k5 ?kK ?kd ?ku ?_) | (refine' sp_useP (new_pt ) ?k1 ?k2 ?k3 ?k4 ?k5 ?kK ?kd ?ku ?_)); (case k1 => k_asm); (case k2 => k_asm); (case k3 => k_asm); (case k4 => k_asm); (case k5 => k_asm); (case kK => first | exact rfl | assumption); (case kd => first | exact roomK (by with_reducible assumption) (Nat.le_of_ble_eq_true rfl) | exact roomL _ rfl | ktr_room); (case ku => first | exact unitK (by with_reducible assumption) (Nat.le_of_ble_eq_true rfl) | exact unitL _ rfl | ktr_units); k_whole; intro x9 d9 p9 k9 t1 t2 t3 h9 tk9 la9 lb9 lc9 F9 N9; (try dsimp only); (try k_sweep); (try k_fold))))
theorem news_drop3 {h₀ h : Heap} {L : Addr} {a b e : Addr × Obj} {c l : Led} (N : News h₀ L h (a :: b :: e :: (c ++ l))) : News h₀ L h (a :: b :: e :: l) := fun q hq => by
  rcases List.mem_cons.mp hq with rfl | hq
  · exact N _ (.head _)
  · exact news_drop2 (fun p hp => N p (.tail _ hp)) q hq
theorem mul_pt (hp : IsPt w news x a b c) (h1 : -2 < a) (h2 : a < 2) (h3 : -2 < b) (h4 : b < 2) (h5 : -2 < c) (h6 : c < 2) (h7 : 0 ≤ m) (h8 : m < 4294967296) : Sp 6 w p loose mean mg mb 98 news [.ref x, .int m t] (OutP w (a * m) (b * m) (c * m) news) := by
  have hp0 := hp
  obtain ⟨dx, tp, tk, t1, t2, t3, hx, hd, ht⟩ := hp0
  unfold Sp
  k_fill
  intro dp un gd cn cs a1 ccd cl outer A₀ base h₀ L m1 s R B F X' N T hk' hdp hun hret
  k_dflt (refine' code_def ?k1 ?k2 ?k3 ?k4 ?k5 ?kA ?kF ?kK ?k6 ?k7 ?k8 ?k9 ?kB ?_ ?c2 ?c3 ?c4 ?c5; (case kA => exact rfl); (case kF => exact rfl); (case kK => first | assumption | exact rfl); (case k1 => k_asm); (case k2 => k_asm); (case k3 => k_asm); (case k4 => k_asm); (case k5 => k_asm); (case k6 => k_is); (case k7 => k_is); (case k8 => ktr_room); (case k9 => first | exact BindsTo.of_eq rfl | exact binds_K (by k_in) rfl (by k_is) rfl rfl rfl); (case c5 => decide); (case kB => exact locs rfl); (case c2 => exact rfl); (case c3 => exact rfl); (case c4 => exact rfl); k_whole; intro g' L' h' FG' F' N' B' X' T'; (try dsimp only); (try k_lift B'); (try k_fold))
  repeat' (first | (k_unfold; (try dsimp only)) | (k_end; wrow_close) | ((try dsimp only); walk1) | (leave1; walk_say "STEP leave1"; try dsimp only) | fail "no step")
  all_goals exact hret _ _ _ _ (by k_asm) (by k_asm) ⟨_, _, _, _, _, _, _, _, _, _, rfl, rfl, ⟨rfl, rfl, rfl⟩, by assumption, by assumption, by assumption⟩
theorem add_pt (hp : IsPt w news x a b c) (hp2 : IsPt w news y a' b' c') : Sp 6 w p loose mean mg mb 84 news [.ref x, .ref y] (OutP w (a + a') (b + b') (c + c') news) := by
  have hp0 := hp
  obtain ⟨dx, tp, tk, t1, t2, t3, hx, hd, ht⟩ := hp0
  have hp1 := hp2
  obtain ⟨dx2, tp2, tk2, t4, t5, t6, hx2, hd2, ht2⟩ := hp1
  unfold Sp
  k_fill
  intro dp un gd cn cs a1 ccd cl outer A₀ base h₀ L m1 s R B F X' N T hk' hdp hun hret
  k_dflt (refine' code_def ?k1 ?k2 ?k3 ?k4 ?k5 ?kA ?kF ?kK ?k6 ?k7 ?k8 ?k9 ?kB ?_ ?c2 ?c3 ?c4 ?c5; (case kA => exact rfl); (case kF => exact rfl); (case kK => first | assumption | exact rfl); (case k1 => k_asm); (case k2 => k_asm); (case k3 => k_asm); (case k4 => k_asm); (case k5 => k_asm); (case k6 => k_is); (case k7 => k_is); (case k8 => ktr_room); (case k9 => first | exact BindsTo.of_eq rfl | exact binds_K (by k_in) rfl (by k_is) rfl rfl rfl); (case c5 => decide); (case kB => exact locs rfl); (case c2 => exact rfl); (case c3 => exact rfl); (case c4 => exact rfl); k_whole; intro g' L' h' FG' F' N' B' X' T'; (try dsimp only); (try k_lift B'); (try k_fold))
  repeat' (first | (k_unfold; (try dsimp only)) | (k_end; wrow_close) | ((try dsimp only); walk1) | (leave1; walk_say "STEP leave1"; try dsimp only) | fail "no step")
  all_goals exact hret _ _ _ _ (by k_asm) (by k_asm) ⟨_, _, _, _, _, _, _, _, _, _, rfl, rfl, ⟨rfl, rfl, rfl⟩, by assumption, by assumption, by assumption⟩
theorem dot_pt (hp : IsPt w news x a b c) (hp2 : IsPt w news y a' b' c') (h1 : -2 < a') (h2 : a' < 2) (h3 : -2 < b') (h4 : b' < 2) (h5 : -2 < c') (h6 : c' < 2) (g1 : -4294967296 < a) (g2 : a < 4294967296) (g3 : -4294967296 < b) (g4 : b < 4294967296) (g5 : -4294967296 < c) (g6 : c < 4294967296) : Sp 4 w p loose mean mg mb 124 news [.ref x, .ref y] (OutI (a * a' + b * b' + c * c') news) := by
  have hp0 := hp
  obtain ⟨dx, tp, tk, t1, t2, t3, hx, hd, ht⟩ := hp0
  have hp1 := hp2
  obtain ⟨dx2, tp2, tk2, t4, t5, t6, hx2, hd2, ht2⟩ := hp1
  unfold Sp
  k_fill
  intro dp un gd cn cs a1 ccd cl outer A₀ base h₀ L m1 s R B F X' N T hk' hdp hun hret
  k_dflt (refine' code_def ?k1 ?k2 ?k3 ?k4 ?k5 ?kA ?kF ?kK ?k6 ?k7 ?k8 ?k9 ?kB ?_ ?c2 ?c3 ?c4 ?c5; (case kA => exact rfl); (case kF => exact rfl); (case kK => first | assumption | exact rfl); (case k1 => k_asm); (case k2 => k_asm); (case k3 => k_asm); (case k4 => k_asm); (case k5 => k_asm); (case k6 => k_is); (case k7 => k_is); (case k8 => ktr_room); (case k9 => first | exact BindsTo.of_eq rfl | exact binds_K (by k_in) rfl (by k_is) rfl rfl rfl); (case c5 => decide); (case kB => exact locs rfl); (case c2 => exact rfl); (case c3 => exact rfl); (case c4 => exact rfl); k_whole; intro g' L' h' FG' F' N' B' X' T'; (try dsimp only); (try k_lift B'); (try k_fold))
  repeat' (first | (k_unfold; (try dsimp only)) | (k_end; wrow_close) | ((try dsimp only); walk1) | (leave1; walk_say "STEP leave1"; try dsimp only) | fail "no step")
  all_goals exact hret _ news _ _ (by k_asm) (by first | k_asm | exact news_tl (by k_asm) | exact news_tl (news_tl (by k_asm)) | exact news_tl (news_tl (news_tl (by k_asm)))) (outI (by rfl))
end
end Mine
/- part LT -/
set_option Elab.async false
set_option maxRecDepth 100000
set_option maxHeartbeats 1000000
namespace Mine
open PySem PySem.W PySem.Spec PySem.Calls PyProof.Rows
def SrcTup (h₀ : Heap) (ax : Addr) (its : Array Value) (news : List (Addr × Obj)) : Prop := h₀.IsTuple ax its ∨ ∃ o, (ax, o) ∈ news ∧ o.cls = .type "tuple" ∧ ∃ n, o.data = .seq its n
theorem SrcTup.tup {h₀ h : Heap} {L ax : Addr} {its : Array Value} {news : List (Addr × Obj)} (x : SrcTup h₀ ax its news) (k : ∀ b o, h₀.get? b = some o → h.get? b = some o) (N : News h₀ L h news) : h.IsTuple ax its := by
  rcases x with ⟨o, e, r⟩ | ⟨o, hm, r⟩
  · exact ⟨o, k _ _ e, r⟩
  · exact ⟨o, (N _ hm).1, r⟩
theorem tup_st {h₀ : Heap} {L ax I : Addr} {its : Array Value} : ∀ i (h h' : Heap) (o : Obj) (nw : List (Addr × Obj)), (h.IsTupleIter I ax i ∧ h.IsTuple ax its) → h.get? I = some o → h'.get? I = some o → (∀ b o, h₀.get? b = some o → h'.get? b = some o) → News h₀ L h' nw → SrcTup h₀ ax its nw → (h'.IsTupleIter I ax i ∧ h'.IsTuple ax its) :=
  fun i h h' o nw st e e' k N S => ⟨by obtain ⟨o', q, r⟩ := st.1; rw [e] at q; cases q; exact ⟨o, e', r⟩, S.tup k N⟩
section
variable {prog : Program} {w : World} {A : Around} {E : Value → Shared → Prop} {s : Shared} {h₀ : Heap} {L : Addr} {m : PySem.Str → Option Value} {env : Env}
def CompSrcT (prog : Program) (w : World) (A : Around) (h₀ : Heap) (L : Addr) (m : PySem.Str → Option Value) (env : Env) (elt : Expr) (x : PySem.Str) (scope : Scope) (cl : List (PySem.Str × Addr)) (Fin : Shared → List Value → List (Addr × Obj) → Prop) (xv : Value) (s₁ : Shared) : Prop :=
  ∃ ax its news, xv = .ref ax ∧ A.handled = none ∧ Fr h₀ L s₁.heap m ∧ News h₀ L s₁.heap news ∧ SrcTup h₀ ax its news ∧ its.size ≤ sizeLine ∧
    ∀ s₂ : Shared, (∃ h, s₂ = { s₁ with heap := h }) → LCg.CompRest prog w A h₀ L m env elt x scope cl s₂ (SrcTup h₀ ax its) (fun i v => its[i]? = some v) (Fin s₂) its.size 0 [] news
theorem CompSrcT.ledger {elt : Expr} {x : PySem.Str} {scope : Scope} {cl : List (PySem.Str × Addr)} {Fin : Shared → List Value → List (Addr × Obj) → Prop} {ax : Addr} {its : Array Value} {k : Nat} {news : List (Addr × Obj)} {s₁ : Shared}
    (hh : A.handled = none) (F : Fr h₀ L s₁.heap m) (N : News h₀ L s₁.heap news) (hm : (ax, ({ cls := .type "tuple", data := .seq its k } : Obj)) ∈ news) (hsz : its.size ≤ sizeLine)
    (h : ∀ g, LCg.CompRest prog w A h₀ L m env elt x scope cl { s₁ with heap := g } (SrcTup h₀ ax its) (fun i v => its[i]? = some v) (Fin { s₁ with heap := g }) its.size 0 [] news) :
    CompSrcT prog w A h₀ L m env elt x scope cl Fin (.ref ax) s₁ := ⟨ax, its, news, rfl, hh, F, N, .inr ⟨_, hm, rfl, _, rfl⟩, hsz, fun _ ⟨g, e⟩ => e ▸ h g⟩

theorem ListComp_UT {elt iter : Expr} {x : PySem.Str} {px : Pos} {scope : Scope} {cl : List (PySem.Str × Addr)} {pos : Pos} {Q : Value → Shared → Prop} (F₀ : Fr h₀ L s.heap m)
    (hclos : closureFor scope env = pure cl) (hcell : ∀ y ∈ scope.names, y.2 ≠ .cell) (hkind : scope.kind = .function)
    (hnames : ∀ y ∈ scope.names, y.2 = .local → scope.names.lookup y.1 = some .local) (hx : scope.names.lookup x = some .local)
    (h : wpAny (model prog w) A (eval iter env) (CompSrcT prog w A h₀ L m env elt x scope cl (fun s₂ => LCg.FinE h₀ L m s₂ Q)) E s)
    (hs : ∀ x, foldedSetIterable iter env x = pure x := by intro _; rfl) :
    wpAny (model prog w) A (eval (.ListComp elt [⟨.Name x px, iter, [], 0⟩] scope pos) env) Q E s := by
  rw [eval_ListComp]
  refine wpAny_comprehension_free (use := none) rfl hs hclos hkind hnames (wpAny_mono h (fun xv s₁ h₁ => ?_) fun _ _ e => e)
  obtain ⟨ax, its, news, rfl, hh, F, N, S, hsz, R⟩ := h₁
  have hl := S.tup F.keep N
  have hlt : ax < s₁.heap.objs.size := by obtain ⟨_, e, _⟩ := hl; exact Heap.lt_size e
  refine wpAny_pyIter_tuple hl ?_
  have up : ∀ b o, s₁.heap.get? b = some o → (s₁.heap.push { cls := .type "tuple_iterator", data := .fields #[.ref ax, .int 0 0] }).get? b = some o := fun b o e => Heap.get?_push_of_some _ e
  refine LCg.block_U (Walks.tuple hh s₁.heap.objs.size ax (Nat.ne_of_lt hlt) its) hsz (fun i h st => by obtain ⟨o, e, _⟩ := st.1; exact ⟨o, e⟩) tup_st hcell hkind hx ⟨⟨_, Heap.get?_push_size _ rfl, rfl, rfl⟩, hl.push _⟩ (fun b hb => ?_)
    (F.keeps up) (N.grown up) (Nat.ne_of_lt F.ns.lt) (next_is_new F) (fun p hp => Nat.ne_of_lt (Heap.lt_size (N p hp).1)) S (R _ ⟨_, rfl⟩) ?_
  · show b < (s₁.heap.push _).objs.size
    rw [Heap.size_push]
    rcases List.mem_cons.mp hb with rfl | hb
    · exact Nat.lt_succ_self _
    · rw [List.mem_singleton.mp hb]; exact Nat.lt_succ_of_lt hlt
  · intro D C h tk m' ys news' F' N' o1 hn hC₀ hD₀ hCL hDL hCD offC fin
    refine ⟨m', hn, fun h'' hs'' => fin D h'' tk (F'.change hs'' hCL hC₀) (fun p hp => ?_) o1⟩
    refine ⟨hs''.extBut _ _ ?_ (N' p hp).1, (N' p hp).2⟩
    rcases List.mem_cons.mp hp with rfl | hp
    · exact Ne.symm hCD
    · exact offC p hp

theorem Assign_ListComp_UT {elt iter : Expr} {x y : PySem.Str} {px py : Pos} {scope : Scope} {cl : List (PySem.Str × Addr)} {pos spos : Pos} {Q : Flow → Shared → Prop} (F₀ : Fr h₀ L s.heap m) (hLe : env.locals = L)
    (hsw : swapsWith (.ListComp elt [⟨.Name x px, iter, [], 0⟩] scope pos) (some (.Name y py)) spos.line env = pure true)
    (hclos : closureFor scope env = pure cl) (hcell : ∀ z ∈ scope.names, z.2 ≠ .cell) (hkind : scope.kind = .function)
    (hnames : ∀ z ∈ scope.names, z.2 = .local → scope.names.lookup z.1 = some .local) (hx : scope.names.lookup x = some .local)
    (hy : env.kindOf y = some .local) (hp : (env.scope.kind == .class || (env.scope.kind == .module && env.locals != env.globals)) = false)
    (h : wpAny (model prog w) A (eval iter env) (CompSrcT prog w A h₀ L m env elt x scope cl (fun s₂ => LCg.FinA h₀ L m s₂ y Q)) E s)
    (hs : ∀ x, foldedSetIterable iter env x = pure x := by intro _; rfl) :
    wpAny (model prog w) A (exec (.Assign [.Name y py] (.ListComp elt [⟨.Name x px, iter, [], 0⟩] scope pos) spos) env) Q E s := by
  subst hLe
  rw [exec_Assign_Name_used _ _ _ _ hsw]
  refine wpAny_bind (wpAny_standAt (wpAny_bind ?_))
  show wpAny _ A (do let _ ← comprehension (.ListComp elt [⟨.Name x px, iter, [], 0⟩] scope pos) scope env _ (newList []) false (eval iter env) (some (assign (.Name y py) env))) _ _ s
  refine wpAny_bind (wpAny_mono (wpAny_comprehension_free (use := some (assign (.Name y py) env)) (Q := fun _ s' => Q .next s') rfl hs hclos hkind hnames
    (wpAny_mono h (fun xv s₁ h₁ => ?_) fun _ _ e => e)) (fun _ s' hq => wpAny_pure (wpAny_pure hq)) fun _ _ e => e)
  obtain ⟨ax, its, news, rfl, hh, F, N, S, hsz, R⟩ := h₁
  have hl := S.tup F.keep N
  have hlt : ax < s₁.heap.objs.size := by obtain ⟨_, e, _⟩ := hl; exact Heap.lt_size e
  refine wpAny_pyIter_tuple hl ?_
  have up : ∀ b o, s₁.heap.get? b = some o → (s₁.heap.push { cls := .type "tuple_iterator", data := .fields #[.ref ax, .int 0 0] }).get? b = some o := fun b o e => Heap.get?_push_of_some _ e
  refine LCg.block_U (Walks.tuple hh s₁.heap.objs.size ax (Nat.ne_of_lt hlt) its) hsz (fun i h st => by obtain ⟨o, e, _⟩ := st.1; exact ⟨o, e⟩) tup_st hcell hkind hx ⟨⟨_, Heap.get?_push_size _ rfl, rfl, rfl⟩, hl.push _⟩ (fun b hb => ?_)
    (F.keeps up) (N.grown up) (Nat.ne_of_lt F.ns.lt) (next_is_new F) (fun p hp => Nat.ne_of_lt (Heap.lt_size (N p hp).1)) S (R _ ⟨_, rfl⟩) ?_
  · show b < (s₁.heap.push _).objs.size
    rw [Heap.size_push]
    rcases List.mem_cons.mp hb with rfl | hb
    · exact Nat.lt_succ_self _
    · rw [List.mem_singleton.mp hb]; exact Nat.lt_succ_of_lt hlt
  · intro D C h' tk m' ys news' F' N' o1 hn hC₀ hD₀ hCL hDL hCD offC fin
    show wpAny _ A (assign (.Name y py) env (.ref D)) _ _ _
    refine wpAny_assign_Name (wpAny_storeName_local hy F'.ns (fun h₂ hn₂ hs₂ => ?_) hp)
    have hL₀ : h₀.get? env.locals = none := Heap.get?_none_of_le F'.above
    have F₂ : Fr h₀ env.locals h₂ (fun z => if z = y then some (.ref D) else m z) := ⟨hn₂, fun b o e => hs₂.extBut b o (fun q => by rw [q, hL₀] at e; cases e) (F'.keep b o e), F'.above⟩
    refine ⟨m', hn.sameBut hs₂ hCL, fun h'' hs'' => fin D h'' _ (F₂.change hs'' hCL hC₀) (fun p hp => ?_) o1⟩
    have z : h₂.get? p.1 = some p.2 := hs₂.extBut _ _ (N' p hp).2.1 (N' p hp).1
    refine ⟨hs''.extBut _ _ ?_ z, (N' p hp).2⟩
    rcases List.mem_cons.mp hp with rfl | hp
    · exact Ne.symm hCD
    · exact offC p hp
end
end Mine
/- part LT2 -/
set_option Elab.async false
set_option maxRecDepth 100000
set_option maxHeartbeats 1000000
namespace Mine
open PySem PySem.W PySem.Spec PySem.Calls PyProof.Rows
section
variable {prog : Program} {w : World} {A : Around} {E : Value → Shared → Prop} {s : Shared} {h₀ : Heap} {L : Addr} {m : PySem.Str → Option Value} {env : Env}
def CompSrcTT (prog : Program) (w : World) (A : Around) (h₀ : Heap) (L : Addr) (m : PySem.Str → Option Value) (env : Env) (ct elt : Expr) (x : PySem.Str) (scope : Scope) (cl : List (PySem.Str × Addr)) (Fin : Shared → List Value → List (Addr × Obj) → Prop) (xv : Value) (s₁ : Shared) : Prop :=
  ∃ ax its news, xv = .ref ax ∧ A.handled = none ∧ Fr h₀ L s₁.heap m ∧ News h₀ L s₁.heap news ∧ SrcTup h₀ ax its news ∧ its.size ≤ sizeLine ∧
    ∀ s₂ : Shared, (∃ h, s₂ = { s₁ with heap := h }) → LCt.CompRestT prog w A h₀ L m env ct elt x scope cl s₂ (SrcTup h₀ ax its) (fun i v => its[i]? = some v) (Fin s₂) its.size 0 [] news
theorem CompSrcTT.ledger {ct elt : Expr} {x : PySem.Str} {scope : Scope} {cl : List (PySem.Str × Addr)} {Fin : Shared → List Value → List (Addr × Obj) → Prop} {ax : Addr} {its : Array Value} {k : Nat} {news : List (Addr × Obj)} {s₁ : Shared}
    (hh : A.handled = none) (F : Fr h₀ L s₁.heap m) (N : News h₀ L s₁.heap news) (hm : (ax, ({ cls := .type "tuple", data := .seq its k } : Obj)) ∈ news) (hsz : its.size ≤ sizeLine)
    (h : ∀ g, LCt.CompRestT prog w A h₀ L m env ct elt x scope cl { s₁ with heap := g } (SrcTup h₀ ax its) (fun i v => its[i]? = some v) (Fin { s₁ with heap := g }) its.size 0 [] news) :
    CompSrcTT prog w A h₀ L m env ct elt x scope cl Fin (.ref ax) s₁ := ⟨ax, its, news, rfl, hh, F, N, .inr ⟨_, hm, rfl, _, rfl⟩, hsz, fun _ ⟨g, e⟩ => e ▸ h g⟩

theorem ListComp_UT2 {ct elt iter : Expr} {x : PySem.Str} {px : Pos} {scope : Scope} {cl : List (PySem.Str × Addr)} {pos : Pos} {Q : Value → Shared → Prop} (F₀ : Fr h₀ L s.heap m)
    (hclos : closureFor scope env = pure cl) (hcell : ∀ y ∈ scope.names, y.2 ≠ .cell) (hkind : scope.kind = .function)
    (hnames : ∀ y ∈ scope.names, y.2 = .local → scope.names.lookup y.1 = some .local) (hx : scope.names.lookup x = some .local)
    (h : wpAny (model prog w) A (eval iter env) (CompSrcTT prog w A h₀ L m env ct elt x scope cl (fun s₂ => LCg.FinE h₀ L m s₂ Q)) E s)
    (hs : ∀ x, foldedSetIterable iter env x = pure x := by intro _; rfl) :
    wpAny (model prog w) A (eval (.ListComp elt [⟨.Name x px, iter, [ct], 0⟩] scope pos) env) Q E s := by
  rw [eval_ListComp]
  refine wpAny_comprehension_free (use := none) rfl hs hclos hkind hnames (wpAny_mono h (fun xv s₁ h₁ => ?_) fun _ _ e => e)
  obtain ⟨ax, its, news, rfl, hh, F, N, S, hsz, R⟩ := h₁
  have hl := S.tup F.keep N
  have hlt : ax < s₁.heap.objs.size := by obtain ⟨_, e, _⟩ := hl; exact Heap.lt_size e
  refine wpAny_pyIter_tuple hl ?_
  have up : ∀ b o, s₁.heap.get? b = some o → (s₁.heap.push { cls := .type "tuple_iterator", data := .fields #[.ref ax, .int 0 0] }).get? b = some o := fun b o e => Heap.get?_push_of_some _ e
  refine LCt.block_T (Walks.tuple hh s₁.heap.objs.size ax (Nat.ne_of_lt hlt) its) hsz (fun i h st => by obtain ⟨o, e, _⟩ := st.1; exact ⟨o, e⟩) tup_st hcell hkind hx ⟨⟨_, Heap.get?_push_size _ rfl, rfl, rfl⟩, hl.push _⟩ (fun b hb => ?_)
    (F.keeps up) (N.grown up) (Nat.ne_of_lt F.ns.lt) (next_is_new F) (fun p hp => Nat.ne_of_lt (Heap.lt_size (N p hp).1)) S (R _ ⟨_, rfl⟩) ?_
  · show b < (s₁.heap.push _).objs.size
    rw [Heap.size_push]
    rcases List.mem_cons.mp hb with rfl | hb
    · exact Nat.lt_succ_self _
    · rw [List.mem_singleton.mp hb]; exact Nat.lt_succ_of_lt hlt
  · intro D C h tk m' ys news' F' N' o1 hn hC₀ hD₀ hCL hDL hCD offC fin
    refine ⟨m', hn, fun h'' hs'' => fin D h'' tk (F'.change hs'' hCL hC₀) (fun p hp => ?_) o1⟩
    refine ⟨hs''.extBut _ _ ?_ (N' p hp).1, (N' p hp).2⟩
    rcases List.mem_cons.mp hp with rfl | hp
    · exact Ne.symm hCD
    · exact offC p hp

theorem Assign_ListComp_UT2 {ct elt iter : Expr} {x y : PySem.Str} {px py : Pos} {scope : Scope} {cl : List (PySem.Str × Addr)} {pos spos : Pos} {Q : Flow → Shared → Prop} (F₀ : Fr h₀ L s.heap m) (hLe : env.locals = L)
    (hsw : swapsWith (.ListComp elt [⟨.Name x px, iter, [ct], 0⟩] scope pos) (some (.Name y py)) spos.line env = pure true)
    (hclos : closureFor scope env = pure cl) (hcell : ∀ z ∈ scope.names, z.2 ≠ .cell) (hkind : scope.kind = .function)
    (hnames : ∀ z ∈ scope.names, z.2 = .local → scope.names.lookup z.1 = some .local) (hx : scope.names.lookup x = some .local)
    (hy : env.kindOf y = some .local) (hp : (env.scope.kind == .class || (env.scope.kind == .module && env.locals != env.globals)) = false)
    (h : wpAny (model prog w) A (eval iter env) (CompSrcTT prog w A h₀ L m env ct elt x scope cl (fun s₂ => LCg.FinA h₀ L m s₂ y Q)) E s)
    (hs : ∀ x, foldedSetIterable iter env x = pure x := by intro _; rfl) :
    wpAny (model prog w) A (exec (.Assign [.Name y py] (.ListComp elt [⟨.Name x px, iter, [ct], 0⟩] scope pos) spos) env) Q E s := by
  subst hLe
  rw [exec_Assign_Name_used _ _ _ _ hsw]
  refine wpAny_bind (wpAny_standAt (wpAny_bind ?_))
  show wpAny _ A (do let _ ← comprehension (.ListComp elt [⟨.Name x px, iter, [ct], 0⟩] scope pos) scope env _ (newList []) false (eval iter env) (some (assign (.Name y py) env))) _ _ s
  refine wpAny_bind (wpAny_mono (wpAny_comprehension_free (use := some (assign (.Name y py) env)) (Q := fun _ s' => Q .next s') rfl hs hclos hkind hnames
    (wpAny_mono h (fun xv s₁ h₁ => ?_) fun _ _ e => e)) (fun _ s' hq => wpAny_pure (wpAny_pure hq)) fun _ _ e => e)
  obtain ⟨ax, its, news, rfl, hh, F, N, S, hsz, R⟩ := h₁
  have hl := S.tup F.keep N
  have hlt : ax < s₁.heap.objs.size := by obtain ⟨_, e, _⟩ := hl; exact Heap.lt_size e
  refine wpAny_pyIter_tuple hl ?_
  have up : ∀ b o, s₁.heap.get? b = some o → (s₁.heap.push { cls := .type "tuple_iterator", data := .fields #[.ref ax, .int 0 0] }).get? b = some o := fun b o e => Heap.get?_push_of_some _ e
  refine LCt.block_T (Walks.tuple hh s₁.heap.objs.size ax (Nat.ne_of_lt hlt) its) hsz (fun i h st => by obtain ⟨o, e, _⟩ := st.1; exact ⟨o, e⟩) tup_st hcell hkind hx ⟨⟨_, Heap.get?_push_size _ rfl, rfl, rfl⟩, hl.push _⟩ (fun b hb => ?_)
    (F.keeps up) (N.grown up) (Nat.ne_of_lt F.ns.lt) (next_is_new F) (fun p hp => Nat.ne_of_lt (Heap.lt_size (N p hp).1)) S (R _ ⟨_, rfl⟩) ?_
  · show b < (s₁.heap.push _).objs.size
    rw [Heap.size_push]
    rcases List.mem_cons.mp hb with rfl | hb
    · exact Nat.lt_succ_self _
    · rw [List.mem_singleton.mp hb]; exact Nat.lt_succ_of_lt hlt
  · intro D C h' tk m' ys news' F' N' o1 hn hC₀ hD₀ hCL hDL hCD offC fin
    show wpAny _ A (assign (.Name y py) env (.ref D)) _ _ _
    refine wpAny_assign_Name (wpAny_storeName_local hy F'.ns (fun h₂ hn₂ hs₂ => ?_) hp)
    have hL₀ : h₀.get? env.locals = none := Heap.get?_none_of_le F'.above
    have F₂ : Fr h₀ env.locals h₂ (fun z => if z = y then some (.ref D) else m z) := ⟨hn₂, fun b o e => hs₂.extBut b o (fun q => by rw [q, hL₀] at e; cases e) (F'.keep b o e), F'.above⟩
    refine ⟨m', hn.sameBut hs₂ hCL, fun h'' hs'' => fin D h'' _ (F₂.change hs'' hCL hC₀) (fun p hp => ?_) o1⟩
    have z : h₂.get? p.1 = some p.2 := hs₂.extBut _ _ (N' p hp).2.1 (N' p hp).1
    refine ⟨hs''.extBut _ _ ?_ z, (N' p hp).2⟩
    rcases List.mem_cons.mp hp with rfl | hp
    · exact Ne.symm hCD
    · exact offC p hp
end
end Mine
/- part S11 -/
set_option Elab.async false
set_option maxRecDepth 100000
set_option maxHeartbeats 1000000
namespace Mine
open PySem PySem.W PySem.Spec PySem.Calls PyProof.Rows
variable {w : World} {p : Program} {loose : List PySem.Str} {mean : ExcName → Option Value} {mg mb : PySem.Str → Option Value} {news : Led} {x dx : Addr} {v : Int} {t tk : Tok}
def mx (a : Int) : Int := if -a > a then -a else a
@[irreducible] def lac (a b c : Int) : Int := if mx b < mx a then (if mx c < mx a then 0 else 2) else (if mx c < mx b then 1 else 2)
section
variable {a b c : Int}
theorem lac0 (h1 : mx b < mx a) (h2 : mx c < mx a) : 0 = lac a b c := by unfold lac; rw [if_pos h1, if_pos h2]
theorem lac2 (h1 : mx b < mx a) (h2 : ¬ mx c < mx a) : 2 = lac a b c := by unfold lac; rw [if_pos h1, if_neg h2]
theorem lac1 (h1 : ¬ mx b < mx a) (h2 : mx c < mx b) : 1 = lac a b c := by unfold lac; rw [if_neg h1, if_pos h2]
theorem lac3 (h1 : ¬ mx b < mx a) (h2 : ¬ mx c < mx b) : 2 = lac a b c := by unfold lac; rw [if_neg h1, if_neg h2]
end
@[irreducible] def fX (f u v : Int) : Int := if f = 0 then 1 else if f = 1 then -u else if f = 2 then -u else if f = 3 then -1 else v
@[irreducible] def fY (f u v : Int) : Int := if f = 0 then u else if f = 1 then 1 else if f = 2 then -v else if f = 3 then -v else if f = 4 then -1 else u
@[irreducible] def fZ (f u v : Int) : Int := if f = 0 then v else if f = 1 then v else if f = 2 then 1 else if f = 3 then -u else if f = 4 then -u else -1
section
variable {a b c a' b' c' m : Int} {y : Addr}
local macro_rules | `(tactic| walk_at "eval Name") => `(tactic| (k_here; (with_reducible show wpAny _ _ (eval (Expr.Name _ _) (compEnvC _ _ _ _)) _ _ _); k_dflt (first
  | (name_kind "cell" "free"; refine kcf_cell (by k_asm) (by rfl) (by k_mem) (by k_asm) ?_)
  | (name_kind "local"; refine LCgL.ld_own (by k_asm) (by k_mem) (by assumption) (by assumption) ?_)
  | (name_kind "globalImplicit"; refine LCgL.ld_global (by k_asm) (by k_asm) (by k_asm) (by k_is) ?_))))
local macro_rules | `(tactic| walk_at "eval Name") => `(tactic| (k_here; (fail_if_success (with_reducible show wpAny _ _ (eval (Expr.Name _ _) (compEnvC _ _ _ _)) _ _ _)); k_dflt (first
  | (name_kind "local"; refine' nmL ?F ?q ?v ?_; (case F => k_asm); (case q => decide +kernel); (case v => rfl); k_whole)
  | (name_kind "cell"; refine' nmC ?N ?q ?c ?m ?d ?_; (case q => decide +kernel); (case N => k_asm); (case c => rfl); (case m => k_mem); (case d => k_asm); k_whole)
  | (name_kind "globalImplicit"; refine' nmK ?F ?X ?T ?q ?e ?_; (case q => decide +kernel); (case F => k_asm); (case X => k_asm); (case T => k_asm); (case e => k_is); k_whole)
  | (name_kind "globalImplicit"; refine' nmB ?F ?X ?T ?q ?e ?v ?n ?_; (case q => decide +kernel); (case F => k_asm); (case X => k_asm); (case T => k_asm); (case e => k_is); (case v => boot_fast); (case n => decide); k_whole))))
local macro_rules | `(tactic| walk_at "callWith ref") => `(tactic| (k_here; k_dflt (first
  | ((with_reducible refine' callWith_K ?k1 ?k2 ?_); (case k1 => k_asm); (case k2 => k_is); k_whole)
  | ((with_reducible refine' callWith_K0n ?kF ?kX ?kk ?_); (case kF => with_reducible assumption); (case kX => k_asm); (case kk => k_is); k_whole)
  | ((with_reducible refine' callWith_M ?k1 ?k2 ?k3 ?k4 ?_); (case k1 => k_asm); (case k2 => k_asm); (case k3 => k_mem); (case k4 => k_is); k_whole)
  | ((with_reducible refine' callWith_M0 ?k1 ?k2 ?_); (case k1 => k_meth); (case k2 => k_is); k_whole; try dsimp only [List.nil_append, List.cons_append]))))
local macro_rules | `(tactic| walk_at "loadName") => `(tactic| (k_here; k_dflt (refine' ldL ?F ?q ?v ?_; (case F => k_asm); (case q => decide +kernel); (case v => rfl); k_whole)))
local macro_rules | `(tactic| walk_at "subscriptTail Name Constant ref int") => `(tactic| (k_here; k_dflt (refine' item_tupleT ?t ?a ?b ?c ?d ?_; (case t => exact News.isTup (by k_asm) (by k_mem)); (case a => decide); (case b => decide); (case c => rfl); (case d => rfl); k_whole)))
local macro_rules | `(tactic| walk_at "getAttr ref") => `(tactic| (k_here; k_dflt (first
  | ((with_reducible show wpAny _ _ (getAttr (Value.ref _) (PySem.Str.ofString "__class__") _) _ _ _); refine' get_class ?k1 ?k2 ?k3 ?k4 ?k5 ?k6 ?k7 ?k8 ?k9 ?_; (case k1 => k_asm); (case k2 => k_asm); (case k3 => k_inst); (case k4 => k_is); (case k5 => k_is); (case k6 => k_is); (case k7 => k_is); (case k8 => k_is); (case k9 => k_is); k_whole)
  | (refine' cls_val ?k1 ?k2 ?k3 ?k4 ?k5 ?k6 ?_; (case k1 => k_asm); (case k2 => k_asm); (case k3 => k_is); (case k4 => k_is); (case k5 => k_is); (case k6 => k_handed); k_whole))))
local macro_rules | `(tactic| walk_at "spliced") => `(tactic| (k_here; k_dflt (first | refine args_cons ?_ | refine args_nil ?_)))
local macro_rules | `(tactic| walk_at "eval Call Name cons nil") => `(tactic| (k_here; k_dflt (refine Call_ ?_)))
local macro_rules | `(tactic| walk_at "storeName") => `(tactic| (k_here; k_dflt (refine' stL ?F ?N ?q ?_; (case q => decide +kernel); (case F => k_asm); (case N => k_asm); k_whole; intro h' F' N'; (try k_sweep))))
local macro_rules | `(tactic| walk_at "getMethod ref") => `(tactic| (k_here; k_dflt (first
  | (refine' method_inst ?k1 ?k2 ?k3 ?k4 ?k5 ?k6 ?k7 ?_; (case k1 => k_asm); (case k2 => k_asm); (case k3 => k_inst); (case k4 => k_is); (case k5 => k_is); (case k6 => k_is); (case k7 => k_get); k_whole)
  | (refine' kmu_cm ?k1 ?k2 ?k3 ?k4 ?k5 ?k6 ?k7 ?k8 ?k9 ?k10 ?k11 ?k12 ?k13 ?_; (case k1 => k_asm); (case k2 => k_asm); (case k3 => k_asm); (case k4 => k_inst); (case k5 => k_is); (case k6 => k_is); (case k7 => k_is); (case k8 => k_is); (case k9 => k_is); (case k10 => k_is); (case k11 => decide +kernel); (case k12 => k_get); (case k13 => k_is); k_whole; intro q' h' F' N' l1; (try k_lt l1); (try k_sweep)))))
local macro_rules | `(tactic| walk_at "exec Assign cons ListComp") => `(tactic| (k_here; lcg_look; k_dflt (refine Mine.Assign_ListComp_UT (F₀ := by k_asm) (by rfl) (by with_unfolding_all rfl) (by rfl) (by decide) (by rfl) (by decide) (by rfl) (by rfl) (by rfl) ?_); k_whole))
local macro_rules | `(tactic| walk_at "CompSrcT") => `(tactic| (k_here; k_dflt (refine Mine.CompSrcT.ledger (by rfl) (by k_asm) (by k_asm) (by k_mem) (by first | size_fits | exact Nat.le_of_ble_eq_true rfl) ?_; intro g'; lcg_lit)))
local macro_rules | `(tactic| walk_at "CompEnd") => `(tactic| (k_here; refine' LCg.CompEnd.intro ?kF ?kN _ (fun _ hp => hp) ?ko ?kS ?_; (case kF => assumption); (case kN => assumption); (case ko => assumption); (case kS => first | assumption | lcg_src); (try dsimp only)))
local macro_rules | `(tactic| k_mem) => `(tactic| (first | exact mem_hd | ktr_member | (refine mem_tl ?_; first | exact mem_hd | ktr_member | (refine mem_tl ?_; first | exact mem_hd | ktr_member | (refine mem_tl ?_; first | exact mem_hd | ktr_member | (refine mem_tl ?_; first | exact mem_hd | ktr_member | (refine mem_tl ?_; first | exact mem_hd | ktr_member | (refine mem_tl ?_; first | exact mem_hd | ktr_member | (refine mem_tl ?_; first | exact mem_hd | ktr_member | (refine mem_tl ?_; first | exact mem_hd | ktr_member | (refine mem_tl ?_; first | exact mem_hd | ktr_member | (refine mem_tl ?_; first | exact mem_hd | ktr_member | (refine mem_tl ?_; first | exact mem_hd | ktr_member | (refine mem_tl ?_; first | exact mem_hd | ktr_member | (refine mem_tl ?_; first | exact mem_hd | ktr_member | (refine mem_tl ?_; ktr_member))))))))))))))))
local macro_rules | `(tactic| walk_at "getMethod ref") => `(tactic| (k_here; (with_reducible show wpAny _ _ (getMethod (Value.ref _) (PySem.Str.ofString "__class__") _) _ _ _); k_dflt ((first | (with_reducible refine' method_usual (r := some (.builtin "object.__class__")) ?kX ?kI ?ka ?kb ?kc ?kd ?_) | (refine' method_usual (r := some (.builtin "object.__class__")) ?kX ?kI ?ka ?kb ?kc ?kd ?_)); (case kX => k_in); (case kI => k_inst); (case ka => k_is); (case kb => k_is); (case kc => k_is); (case kd => exact rfl); k_whole)))
local macro_rules | `(tactic| k_all) => `(tactic| exact ne_of_l1 (by assumption))
local macro_rules | `(tactic| k_in) => `(tactic| (refine Frag.In.keeps ?_ (Fr.keep (by with_reducible assumption)); with_reducible assumption))
local macro_rules | `(tactic| walk_at "callWith ref cons nil") => `(tactic| (k_here; k_dflt ((with_reducible refine' callWith_K0' ?kF ?kX ?kk ?_); (case kF => with_reducible assumption); (case kX => k_asm); (case kk => k_is); k_whole)))
theorem largest_pt (hp : IsPt w news x a b c) : Sp 4 w p loose mean mg mb 110 news [.ref x] (OutI (lac a b c) news) := by
  have hp0 := hp
  obtain ⟨dx, tp, tk, t1, t2, t3, hx, hd, ht⟩ := hp0
  unfold Sp
  k_fill
  intro dp un gd cn cs a1 ccd cl outer A₀ base h₀ L m1 s R B F X' N T hk' hdp hun hret
  k_dflt (refine' code_def ?k1 ?k2 ?k3 ?k4 ?k5 ?kA ?kF ?kK ?k6 ?k7 ?k8 ?k9 ?kB ?_ ?c2 ?c3 ?c4 ?c5; (case kA => exact rfl); (case kF => exact rfl); (case kK => first | assumption | exact rfl); (case k1 => k_asm); (case k2 => k_asm); (case k3 => k_asm); (case k4 => k_asm); (case k5 => k_asm); (case k6 => k_is); (case k7 => k_is); (case k8 => ktr_room); (case k9 => first | exact BindsTo.of_eq rfl | exact binds_K (by k_in) rfl (by k_is) rfl rfl rfl); (case c5 => decide); (case kB => exact locs rfl); (case c2 => exact rfl); (case c3 => exact rfl); (case c4 => exact rfl); k_whole; intro g' L' h' FG' F' N' B' X' T'; (try dsimp only); (try k_lift B'); (try k_fold))
  repeat' (first | (k_unfold; (try dsimp only)) | (k_end; wrow_close) | ((try dsimp only); walk1) | (leave1; walk_say "STEP leave1"; try dsimp only) | fail "no step")
  all_goals exact hret _ news _ _ (by k_asm) (by first | k_asm | exact news_tl (by k_asm)) (outI (by first | exact lac0 (by assumption) (by assumption) | exact lac2 (by assumption) (by assumption) | exact lac1 (by assumption) (by assumption) | exact lac3 (by assumption) (by assumption)))
local macro_rules | `(tactic| walk_at "call ref") => `(tactic| (k_here; (with_reducible show wpAny _ _ (call (Value.ref 134) _ _) _ _ _); k_dflt ((first | (with_reducible refine' sp_useP (new_pt ) ?k1 ?k2 ?k3 ?k4 ?k5 ?kK ?kd ?ku ?_) | (refine' sp_useP (new_pt ) ?k1 ?k2 ?k3 ?k4 ?k5 ?kK ?kd ?ku ?_)); (case k1 => k_asm); (case k2 => k_asm); (case k3 => k_asm); (case k4 => k_asm); (case k5 => k_asm); (case kK => first | exact rfl | assumption); (case kd => first | exact roomK (by with_reducible assumption) (Nat.le_of_ble_eq_true rfl) | exact roomL _ rfl | ktr_room); (case ku => first | exact unitK (by with_reducible assumption) (Nat.le_of_ble_eq_true rfl) | exact unitL _ rfl | ktr_units); k_whole; intro x9 d9 p9 k9 t1 t2 t3 h9 tk9 la9 lb9 lc9 F9 N9; (try dsimp only); (try k_sweep); (try k_fold))))
theorem fuv_pt {f u v : Int} {t1 t2 : Tok} (h0 : 0 ≤ f) (h6 : f < 6) : Sp 6 w p loose mean mg mb 593 news [.int f t, .int u t1, .int v t2] (OutP w (fX f u v) (fY f u v) (fZ f u v) news) := by
  unfold Sp
  k_fill
  intro dp un gd cn cs a1 ccd cl outer A₀ base h₀ L m1 s R B F X' N T hk' hdp hun hret
  k_dflt (refine' code_def ?k1 ?k2 ?k3 ?k4 ?k5 ?kA ?kF ?kK ?k6 ?k7 ?k8 ?k9 ?kB ?_ ?c2 ?c3 ?c4 ?c5; (case kA => exact rfl); (case kF => exact rfl); (case kK => first | assumption | exact rfl); (case k1 => k_asm); (case k2 => k_asm); (case k3 => k_asm); (case k4 => k_asm); (case k5 => k_asm); (case k6 => k_is); (case k7 => k_is); (case k8 => ktr_room); (case k9 => first | exact BindsTo.of_eq rfl | exact binds_K (by k_in) rfl (by k_is) rfl rfl rfl); (case c5 => decide); (case kB => exact locs rfl); (case c2 => exact rfl); (case c3 => exact rfl); (case c4 => exact rfl); k_whole; intro g' L' h' FG' F' N' B' X' T'; (try dsimp only); (try k_lift B'); (try k_fold))
  repeat' (first | (k_unfold; (try dsimp only)) | (k_end; wrow_close) | ((try dsimp only); walk1) | (leave1; walk_say "STEP leave1"; try dsimp only) | fail "no step")
  all_goals exact hret _ _ _ _ (by k_asm) (by k_asm) ⟨_, _, _, _, _, _, _, _, _, _, rfl, rfl, ⟨by unfold fX; (repeat' split) <;> omega, by unfold fY; (repeat' split) <;> omega, by unfold fZ; (repeat' split) <;> omega⟩, by assumption, by assumption, by assumption⟩
local macro_rules | `(tactic| walk_at "call ref") => `(tactic| (k_here; (with_reducible show wpAny _ _ (call (Value.ref 593) _ _) _ _ _); k_dflt ((first | (with_reducible refine' sp_useP (fuv_pt ?c0 ?c1) ?k1 ?k2 ?k3 ?k4 ?k5 ?kK ?kd ?ku ?_) | (refine' sp_useP (fuv_pt ?c0 ?c1) ?k1 ?k2 ?k3 ?k4 ?k5 ?kK ?kd ?ku ?_)); (case k1 => k_asm); (case k2 => k_asm); (case k3 => k_asm); (case k4 => k_asm); (case k5 => k_asm); (case c0 => assumption); (case c1 => assumption); (case kK => first | exact rfl | assumption); (case kd => first | exact roomK (by with_reducible assumption) (Nat.le_of_ble_eq_true rfl) | exact roomL _ rfl | ktr_room); (case ku => first | exact unitK (by with_reducible assumption) (Nat.le_of_ble_eq_true rfl) | exact unitL _ rfl | ktr_units); k_whole; intro x9 d9 p9 k9 t1 t2 t3 h9 tk9 la9 lb9 lc9 F9 N9; (try dsimp only); (try k_sweep); (try k_fold))))
theorem norm_pt {f : Int} (h0 : 0 ≤ f) (h6 : f < 6) : Sp 9 w p loose mean mg mb 600 news [.int f t] (OutP w (fX f 0 0) (fY f 0 0) (fZ f 0 0) news) := by
  unfold Sp
  k_fill
  intro dp un gd cn cs a1 ccd cl outer A₀ base h₀ L m1 s R B F X' N T hk' hdp hun hret
  k_dflt (refine' code_def ?k1 ?k2 ?k3 ?k4 ?k5 ?kA ?kF ?kK ?k6 ?k7 ?k8 ?k9 ?kB ?_ ?c2 ?c3 ?c4 ?c5; (case kA => exact rfl); (case kF => exact rfl); (case kK => first | assumption | exact rfl); (case k1 => k_asm); (case k2 => k_asm); (case k3 => k_asm); (case k4 => k_asm); (case k5 => k_asm); (case k6 => k_is); (case k7 => k_is); (case k8 => ktr_room); (case k9 => first | exact BindsTo.of_eq rfl | exact binds_K (by k_in) rfl (by k_is) rfl rfl rfl); (case c5 => decide); (case kB => exact locs rfl); (case c2 => exact rfl); (case c3 => exact rfl); (case c4 => exact rfl); k_whole; intro g' L' h' FG' F' N' B' X' T'; (try dsimp only); (try k_lift B'); (try k_fold))
  repeat' (first | (k_unfold; (try dsimp only)) | (k_end; wrow_close) | ((try dsimp only); walk1) | (leave1; walk_say "STEP leave1"; try dsimp only) | fail "no step")
  all_goals exact hret _ _ _ _ (by k_asm) (by k_asm) ⟨_, _, _, _, _, _, _, _, _, _, rfl, rfl, ⟨rfl, rfl, rfl⟩, by assumption, by assumption, by assumption⟩
end
end Mine
/- part S12 -/
set_option Elab.async false
set_option maxRecDepth 100000
set_option maxHeartbeats 1000000
namespace Mine
open PySem PySem.W PySem.Spec PySem.Calls PyProof.Rows
variable {w : World} {p : Program} {loose : List PySem.Str} {mean : ExcName → Option Value} {mg mb : PySem.Str → Option Value} {news : Led} {x dx : Addr} {v : Int} {t tk : Tok}
@[irreducible] def quo (a b : Int) : Int := (a * 2 ^ Int.toNat 54 + b).fdiv (2 * b)
@[irreducible] def clip (s : Int) : Int := if (if s.fdiv (2 ^ Int.toNat 24) < 1073741824 - 1 then s.fdiv (2 ^ Int.toNat 24) else 1073741824 - 1) > 0 then
          if s.fdiv (2 ^ Int.toNat 24) < 1073741824 - 1 then s.fdiv (2 ^ Int.toNat 24) else 1073741824 - 1
        else 0
theorem clip_b (s : Int) : 0 ≤ clip s ∧ clip s < 1073741824 := by
  unfold clip
  generalize s.fdiv (2 ^ Int.toNat 24) = z
  split <;> omega
theorem small_log2 {y : Int} (h1 : -9223372036854775808 < y) (h2 : y < 9223372036854775808) : y.natAbs.log2 < 9000 := by
  by_cases h0 : y.natAbs = 0
  · rw [h0]; decide +kernel
  · have h : y.natAbs.log2 < 64 := (Nat.log2_lt h0).mpr (by omega)
    omega
@[irreducible] def pick (k a b c : Int) : Int := if k = 0 then a else if k = 1 then b else c
theorem pick0 (a b c : Int) : pick 0 a b c = a := by unfold pick; rfl
theorem pick1 (a b c : Int) : pick 1 a b c = b := by unfold pick; rfl
theorem pick2 (a b c : Int) : pick 2 a b c = c := by unfold pick; rfl
theorem pick_pos {k a b c f : Int} (hk : k = 0 ∨ k = 1 ∨ k = 2) (h0 : pick k a b c ≠ 0) (hf : f = if pick k a b c < 0 then k + 3 else k) :
    0 ≤ f ∧ f < 6 ∧ (f = 0 → 0 < a) ∧ (f = 1 → 0 < b) ∧ (f = 2 → 0 < c) ∧ (f = 3 → a < 0) ∧ (f = 4 → b < 0) ∧ (f = 5 → c < 0) := by
  rcases hk with rfl | rfl | rfl
  · rw [pick0] at h0 hf; split at hf <;> omega
  · rw [pick1] at h0 hf; split at hf <;> omega
  · rw [pick2] at h0 hf; split at hf <;> omega
theorem dot_pos {f a b c : Int} (h0 : 0 ≤ f) (h6 : f < 6) (g0 : f = 0 → 0 < a) (g1 : f = 1 → 0 < b) (g2 : f = 2 → 0 < c) (g3 : f = 3 → a < 0) (g4 : f = 4 → b < 0) (g5 : f = 5 → c < 0) :
    0 < a * fX f 0 0 + b * fY f 0 0 + c * fZ f 0 0 := by
  unfold fX fY fZ
  have : f = 0 ∨ f = 1 ∨ f = 2 ∨ f = 3 ∨ f = 4 ∨ f = 5 := by omega
  rcases this with rfl | rfl | rfl | rfl | rfl | rfl <;> simp <;> first | exact g0 rfl | exact g1 rfl | exact g2 rfl | exact g3 rfl | exact g4 rfl | exact g5 rfl | (have := g3 rfl; omega) | (have := g4 rfl; omega) | (have := g5 rfl; omega)
theorem unit_b (f : Int) : (-2 < fX f 0 0 ∧ fX f 0 0 < 2) ∧ (-2 < fY f 0 0 ∧ fY f 0 0 < 2) ∧ (-2 < fZ f 0 0 ∧ fZ f 0 0 < 2) := by
  unfold fX fY fZ
  refine ⟨?_, ?_, ?_⟩ <;> (repeat' split) <;> omega
theorem lac_cases (a b c : Int) : lac a b c = 0 ∨ lac a b c = 1 ∨ lac a b c = 2 := by unfold lac; (repeat' split) <;> omega
section
variable {a b c a' b' c' m : Int} {y : Addr}
local macro_rules | `(tactic| walk_at "eval Name") => `(tactic| (k_here; (with_reducible show wpAny _ _ (eval (Expr.Name _ _) (compEnvC _ _ _ _)) _ _ _); k_dflt (first
  | (name_kind "cell" "free"; refine kcf_cell (by k_asm) (by rfl) (by k_mem) (by k_asm) ?_)
  | (name_kind "local"; refine LCgL.ld_own (by k_asm) (by k_mem) (by assumption) (by assumption) ?_)
  | (name_kind "globalImplicit"; refine LCgL.ld_global (by k_asm) (by k_asm) (by k_asm) (by k_is) ?_))))
local macro_rules | `(tactic| walk_at "eval Name") => `(tactic| (k_here; (fail_if_success (with_reducible show wpAny _ _ (eval (Expr.Name _ _) (compEnvC _ _ _ _)) _ _ _)); k_dflt (first
  | (name_kind "local"; refine' nmL ?F ?q ?v ?_; (case F => k_asm); (case q => decide +kernel); (case v => rfl); k_whole)
  | (name_kind "cell"; refine' nmC ?N ?q ?c ?m ?d ?_; (case q => decide +kernel); (case N => k_asm); (case c => rfl); (case m => k_mem); (case d => k_asm); k_whole)
  | (name_kind "globalImplicit"; refine' nmK ?F ?X ?T ?q ?e ?_; (case q => decide +kernel); (case F => k_asm); (case X => k_asm); (case T => k_asm); (case e => k_is); k_whole)
  | (name_kind "globalImplicit"; refine' nmB ?F ?X ?T ?q ?e ?v ?n ?_; (case q => decide +kernel); (case F => k_asm); (case X => k_asm); (case T => k_asm); (case e => k_is); (case v => boot_fast); (case n => decide); k_whole))))
local macro_rules | `(tactic| walk_at "callWith ref") => `(tactic| (k_here; k_dflt (first
  | ((with_reducible refine' callWith_K ?k1 ?k2 ?_); (case k1 => k_asm); (case k2 => k_is); k_whole)
  | ((with_reducible refine' callWith_K0n ?kF ?kX ?kk ?_); (case kF => with_reducible assumption); (case kX => k_asm); (case kk => k_is); k_whole)
  | ((with_reducible refine' callWith_M ?k1 ?k2 ?k3 ?k4 ?_); (case k1 => k_asm); (case k2 => k_asm); (case k3 => k_mem); (case k4 => k_is); k_whole)
  | ((with_reducible refine' callWith_M0 ?k1 ?k2 ?_); (case k1 => k_meth); (case k2 => k_is); k_whole; try dsimp only [List.nil_append, List.cons_append]))))
local macro_rules | `(tactic| walk_at "loadName") => `(tactic| (k_here; k_dflt (refine' ldL ?F ?q ?v ?_; (case F => k_asm); (case q => decide +kernel); (case v => rfl); k_whole)))
local macro_rules | `(tactic| walk_at "subscriptTail Name Constant ref int") => `(tactic| (k_here; k_dflt (refine' item_tupleT ?t ?a ?b ?c ?d ?_; (case t => exact News.isTup (by k_asm) (by k_mem)); (case a => decide); (case b => decide); (case c => rfl); (case d => rfl); k_whole)))
local macro_rules | `(tactic| walk_at "getAttr ref") => `(tactic| (k_here; k_dflt (first
  | ((with_reducible show wpAny _ _ (getAttr (Value.ref _) (PySem.Str.ofString "__class__") _) _ _ _); refine' get_class ?k1 ?k2 ?k3 ?k4 ?k5 ?k6 ?k7 ?k8 ?k9 ?_; (case k1 => k_asm); (case k2 => k_asm); (case k3 => k_inst); (case k4 => k_is); (case k5 => k_is); (case k6 => k_is); (case k7 => k_is); (case k8 => k_is); (case k9 => k_is); k_whole)
  | (refine' cls_val ?k1 ?k2 ?k3 ?k4 ?k5 ?k6 ?_; (case k1 => k_asm); (case k2 => k_asm); (case k3 => k_is); (case k4 => k_is); (case k5 => k_is); (case k6 => k_handed); k_whole))))
local macro_rules | `(tactic| walk_at "spliced") => `(tactic| (k_here; k_dflt (first | refine args_cons ?_ | refine args_nil ?_)))
local macro_rules | `(tactic| walk_at "eval Call Name cons nil") => `(tactic| (k_here; k_dflt (refine Call_ ?_)))
local macro_rules | `(tactic| walk_at "storeName") => `(tactic| (k_here; k_dflt (refine' stL ?F ?N ?q ?_; (case q => decide +kernel); (case F => k_asm); (case N => k_asm); k_whole; intro h' F' N'; (try k_sweep))))
local macro_rules | `(tactic| walk_at "getMethod ref") => `(tactic| (k_here; k_dflt (first
  | (refine' method_inst ?k1 ?k2 ?k3 ?k4 ?k5 ?k6 ?k7 ?_; (case k1 => k_asm); (case k2 => k_asm); (case k3 => k_inst); (case k4 => k_is); (case k5 => k_is); (case k6 => k_is); (case k7 => k_get); k_whole)
  | (refine' kmu_cm ?k1 ?k2 ?k3 ?k4 ?k5 ?k6 ?k7 ?k8 ?k9 ?k10 ?k11 ?k12 ?k13 ?_; (case k1 => k_asm); (case k2 => k_asm); (case k3 => k_asm); (case k4 => k_inst); (case k5 => k_is); (case k6 => k_is); (case k7 => k_is); (case k8 => k_is); (case k9 => k_is); (case k10 => k_is); (case k11 => decide +kernel); (case k12 => k_get); (case k13 => k_is); k_whole; intro q' h' F' N' l1; (try k_lt l1); (try k_sweep)))))
local macro_rules | `(tactic| k_mem) => `(tactic| (first | exact mem_hd | ktr_member | (refine mem_tl ?_; first | exact mem_hd | ktr_member | (refine mem_tl ?_; first | exact mem_hd | ktr_member | (refine mem_tl ?_; first | exact mem_hd | ktr_member | (refine mem_tl ?_; first | exact mem_hd | ktr_member | (refine mem_tl ?_; first | exact mem_hd | ktr_member | (refine mem_tl ?_; first | exact mem_hd | ktr_member | (refine mem_tl ?_; first | exact mem_hd | ktr_member | (refine mem_tl ?_; first | exact mem_hd | ktr_member | (refine mem_tl ?_; first | exact mem_hd | ktr_member | (refine mem_tl ?_; first | exact mem_hd | ktr_member | (refine mem_tl ?_; first | exact mem_hd | ktr_member | (refine mem_tl ?_; first | exact mem_hd | ktr_member | (refine mem_tl ?_; first | exact mem_hd | ktr_member | (refine mem_tl ?_; ktr_member))))))))))))))))
local macro_rules | `(tactic| walk_at "getMethod ref") => `(tactic| (k_here; (with_reducible show wpAny _ _ (getMethod (Value.ref _) (PySem.Str.ofString "__class__") _) _ _ _); k_dflt ((first | (with_reducible refine' method_usual (r := some (.builtin "object.__class__")) ?kX ?kI ?ka ?kb ?kc ?kd ?_) | (refine' method_usual (r := some (.builtin "object.__class__")) ?kX ?kI ?ka ?kb ?kc ?kd ?_)); (case kX => k_in); (case kI => k_inst); (case ka => k_is); (case kb => k_is); (case kc => k_is); (case kd => exact rfl); k_whole)))
local macro_rules | `(tactic| k_all) => `(tactic| exact ne_of_l1 (by assumption))
local macro_rules | `(tactic| k_in) => `(tactic| (refine Frag.In.keeps ?_ (Fr.keep (by with_reducible assumption)); with_reducible assumption))
local macro_rules | `(tactic| walk_at "callWith ref cons nil") => `(tactic| (k_here; k_dflt ((with_reducible refine' callWith_K0' ?kF ?kX ?kk ?_); (case kF => with_reducible assumption); (case kX => k_asm); (case kk => k_is); k_whole)))
local macro_rules | `(tactic| walk_at "binaryOp FloorDiv int int") => `(tactic| (k_here; k_dflt ((first | (with_reducible refine' floordiv_int ?ka ?_ (Or.inl (PyProof.noPylong_of_log2 (small_log2 ?kb ?kc)))) | (refine' floordiv_int ?ka ?_ (Or.inl (PyProof.noPylong_of_log2 (small_log2 ?kb ?kc))))); (case ka => omega); (case kb => omega); (case kc => omega); k_whole)))
theorem quo_cs {t1 t2 : Tok} (h1 : -2147483648 < a) (h2 : a < 2147483648) (h3 : -2147483648 < b) (h4 : b < 2147483648) (hb : b ≠ 0) : Sp 4 w p loose mean mg mb 572 news [.int a t1, .int b t2] (OutI (quo a b) news) := by
  unfold Sp
  k_fill
  intro dp un gd cn cs a1 ccd cl outer A₀ base h₀ L m1 s R B F X' N T hk' hdp hun hret
  k_dflt (refine' code_def ?k1 ?k2 ?k3 ?k4 ?k5 ?kA ?kF ?kK ?k6 ?k7 ?k8 ?k9 ?kB ?_ ?c2 ?c3 ?c4 ?c5; (case kA => exact rfl); (case kF => exact rfl); (case kK => first | assumption | exact rfl); (case k1 => k_asm); (case k2 => k_asm); (case k3 => k_asm); (case k4 => k_asm); (case k5 => k_asm); (case k6 => k_is); (case k7 => k_is); (case k8 => ktr_room); (case k9 => first | exact BindsTo.of_eq rfl | exact binds_K (by k_in) rfl (by k_is) rfl rfl rfl); (case c5 => decide); (case kB => exact locs rfl); (case c2 => exact rfl); (case c3 => exact rfl); (case c4 => exact rfl); k_whole; intro g' L' h' FG' F' N' B' X' T'; (try dsimp only); (try k_lift B'); (try k_fold))
  repeat' (first | (k_unfold; (try dsimp only)) | (k_end; wrow_close) | ((try dsimp only); walk1) | (leave1; walk_say "STEP leave1"; try dsimp only) | fail "no step")
  all_goals exact hret _ news _ _ (by k_asm) (by first | k_asm | exact news_tl (by k_asm)) (outI (by unfold quo; rfl))
theorem st_cs  : Sp 4 w p loose mean mg mb 275 news [.ref 561, .int a t] (OutI (clip a) news) := by
  unfold Sp
  k_fill
  intro dp un gd cn cs a1 ccd cl outer A₀ base h₀ L m1 s R B F X' N T hk' hdp hun hret
  k_dflt (refine' code_def ?k1 ?k2 ?k3 ?k4 ?k5 ?kA ?kF ?kK ?k6 ?k7 ?k8 ?k9 ?kB ?_ ?c2 ?c3 ?c4 ?c5; (case kA => exact rfl); (case kF => exact rfl); (case kK => first | assumption | exact rfl); (case k1 => k_asm); (case k2 => k_asm); (case k3 => k_asm); (case k4 => k_asm); (case k5 => k_asm); (case k6 => k_is); (case k7 => k_is); (case k8 => ktr_room); (case k9 => first | exact BindsTo.of_eq rfl | exact binds_K (by k_in) rfl (by k_is) rfl rfl rfl); (case c5 => decide); (case kB => exact locs rfl); (case c2 => exact rfl); (case c3 => exact rfl); (case c4 => exact rfl); k_whole; intro g' L' h' FG' F' N' B' X' T'; (try dsimp only); (try k_lift B'); (try k_fold))
  repeat' (first | (k_unfold; (try dsimp only)) | (k_end; wrow_close) | ((try dsimp only); walk1) | (leave1; walk_say "STEP leave1"; try dsimp only) | fail "no step")
  all_goals exact hret _ news _ _ (by k_asm) (by first | k_asm | exact news_tl (by k_asm)) (outI (by unfold clip; rfl))
theorem getitem_k {k : Int} (hk : k = 0 ∨ k = 1 ∨ k = 2) (hp : IsPt w news x a b c) : Sp 2 w p loose mean mg mb 42 news [.ref x, .int k t] (OutI (pick k a b c) news) := by
  rcases hk with rfl | rfl | rfl
  · rw [pick0]; exact getitem0 hp
  · rw [pick1]; exact getitem1 hp
  · rw [pick2]; exact getitem2 hp
end
end Mine
/- part S13 -/
set_option Elab.async false
set_option maxRecDepth 100000
set_option maxHeartbeats 1000000
namespace Mine
open PySem PySem.W PySem.Spec PySem.Calls PyProof.Rows
variable {w : World} {p : Program} {loose : List PySem.Str} {mean : ExcName → Option Value} {mg mb : PySem.Str → Option Value} {news : Led} {x dx : Addr} {v : Int} {t tk : Tok}
abbrev tup2 (a b : Value) : Obj := { cls := .type "tuple", data := .seq #[a, b] }
abbrev OutU (news : Led) : Value → Led → Prop := fun r n => ∃ (a : Addr) (u v : Int) (t1 t2 : Tok), r = .ref a ∧ n = (a, tup2 (.int u t1) (.int v t2)) :: news ∧ ∀ p ∈ news, p.1 < a
abbrev OutV (f : Int) (news : Led) : Value → Led → Prop := fun r n => ∃ (a : Addr) (f' u v : Int) (t1 t2 t3 : Tok), r = .ref a ∧ n = (a, tup3 (.int f' t1) (.int u t2) (.int v t3)) :: news ∧ f' = f ∧ ∀ p ∈ news, p.1 < a
structure VF (f a b c : Int) : Prop where
  h0 : 0 ≤ f
  h6 : f < 6
  g0 : f = 0 → 0 < a
  g1 : f = 1 → 0 < b
  g2 : f = 2 → 0 < c
  g3 : f = 3 → a < 0
  g4 : f = 4 → b < 0
  g5 : f = 5 → c < 0
theorem VF.of {a b c f : Int} (h0 : pick (lac a b c) a b c ≠ 0) (hf : f = if pick (lac a b c) a b c < 0 then lac a b c + 3 else lac a b c) : VF f a b c := by
  obtain ⟨h1, h2, h3, h4, h5, h6, h7, h8⟩ := pick_pos (lac_cases a b c) h0 hf
  exact ⟨h1, h2, h3, h4, h5, h6, h7, h8⟩
theorem lt_all4 {d : Addr} {a b c : Prop} {l : Led} (h : a ∧ b ∧ c ∧ AllLt d l) : ∀ p ∈ l, p.1 < d := fun _ hp => ktn_ltOf h.2.2.2 _ hp
section
variable {fa : Addr} {d : Nat} {vs : List Value} {f : Int}
  {dp un : Nat} {gd : Option (List Code)} {cn : PySem.Str} {cs : Scope} {a : Addr} {ccd : Value} {cl : List (PySem.Str × Addr)} {outer : List Env} {A₀ : Around} {base h₀ : Heap} {L : Addr} {m : PySem.Str → Option Value} {s : Shared}
theorem sp_useU {Q E : Value → Shared → Prop} (S : Sp d w p loose mean mg mb fa news vs (OutU news)) (B : Below A₀ base outer h₀) (F : Fr h₀ L s.heap m) (X : (Mine.hd.heap_39 w.params).In h₀) (N : News h₀ L s.heap news) (T : Top p loose mean mg mb h₀) (hk : cs.kind = .function) (hdp : dp + d < recursionLimit) (hun : un + 20 * d < cLine)
    (ret : ∀ (a : Addr) (u v : Int) (t1 t2 : Tok) h' tk', (∀ p ∈ news, p.1 < a) → Fr h₀ L h' m → News h₀ L h' ((a, tup2 (.int u t1) (.int v t2)) :: news) → Q (.ref a) { s with heap := h', toks := tk' }) :
    wpAny (model PySem.Challenge.rw_fb0049_01.row.prog w) (ktrTop dp un gd cn cs L a ccd cl outer) (call (.ref fa) vs) Q E s :=
  sp_use S B F X N T hk hdp hun fun r n h' tk' F' N' o => by
    obtain ⟨a, u, v, t1, t2, rfl, rfl, la⟩ := o
    exact ret a u v t1 t2 h' tk' la F' N'
theorem sp_useV {Q E : Value → Shared → Prop} (S : Sp d w p loose mean mg mb fa news vs (OutV f news)) (B : Below A₀ base outer h₀) (F : Fr h₀ L s.heap m) (X : (Mine.hd.heap_39 w.params).In h₀) (N : News h₀ L s.heap news) (T : Top p loose mean mg mb h₀) (hk : cs.kind = .function) (hdp : dp + d < recursionLimit) (hun : un + 20 * d < cLine)
    (ret : ∀ (a : Addr) (u v : Int) (t1 t2 t3 : Tok) h' tk', (∀ p ∈ news, p.1 < a) → Fr h₀ L h' m → News h₀ L h' ((a, tup3 (.int f t1) (.int u t2) (.int v t3)) :: news) → Q (.ref a) { s with heap := h', toks := tk' }) :
    wpAny (model PySem.Challenge.rw_fb0049_01.row.prog w) (ktrTop dp un gd cn cs L a ccd cl outer) (call (.ref fa) vs) Q E s :=
  sp_use S B F X N T hk hdp hun fun r n h' tk' F' N' o => by
    obtain ⟨a, f', u, v, t1, t2, t3, rfl, rfl, rfl, la⟩ := o
    exact ret a u v t1 t2 t3 h' tk' la F' N'
end
section
variable {a b c : Int} {f : Int}
local macro_rules | `(tactic| walk_at "eval Name") => `(tactic| (k_here; (with_reducible show wpAny _ _ (eval (Expr.Name _ _) (compEnvC _ _ _ _)) _ _ _); k_dflt (first
  | (name_kind "cell" "free"; refine kcf_cell (by k_asm) (by rfl) (by k_mem) (by k_asm) ?_)
  | (name_kind "local"; refine LCgL.ld_own (by k_asm) (by k_mem) (by assumption) (by assumption) ?_)
  | (name_kind "globalImplicit"; refine LCgL.ld_global (by k_asm) (by k_asm) (by k_asm) (by k_is) ?_))))
local macro_rules | `(tactic| walk_at "eval Name") => `(tactic| (k_here; (fail_if_success (with_reducible show wpAny _ _ (eval (Expr.Name _ _) (compEnvC _ _ _ _)) _ _ _)); k_dflt (first
  | (name_kind "local"; refine' nmL ?F ?q ?v ?_; (case F => k_asm); (case q => decide +kernel); (case v => rfl); k_whole)
  | (name_kind "cell"; refine' nmC ?N ?q ?c ?m ?d ?_; (case q => decide +kernel); (case N => k_asm); (case c => rfl); (case m => k_mem); (case d => k_asm); k_whole)
  | (name_kind "globalImplicit"; refine' nmK ?F ?X ?T ?q ?e ?_; (case q => decide +kernel); (case F => k_asm); (case X => k_asm); (case T => k_asm); (case e => k_is); k_whole)
  | (name_kind "globalImplicit"; refine' nmB ?F ?X ?T ?q ?e ?v ?n ?_; (case q => decide +kernel); (case F => k_asm); (case X => k_asm); (case T => k_asm); (case e => k_is); (case v => boot_fast); (case n => decide); k_whole))))
local macro_rules | `(tactic| walk_at "callWith ref") => `(tactic| (k_here; k_dflt (first
  | ((with_reducible refine' callWith_K ?k1 ?k2 ?_); (case k1 => k_asm); (case k2 => k_is); k_whole)
  | ((with_reducible refine' callWith_K0n ?kF ?kX ?kk ?_); (case kF => with_reducible assumption); (case kX => k_asm); (case kk => k_is); k_whole)
  | ((with_reducible refine' callWith_M ?k1 ?k2 ?k3 ?k4 ?_); (case k1 => k_asm); (case k2 => k_asm); (case k3 => k_mem); (case k4 => k_is); k_whole)
  | ((with_reducible refine' callWith_M0 ?k1 ?k2 ?_); (case k1 => k_meth); (case k2 => k_is); k_whole; try dsimp only [List.nil_append, List.cons_append]))))
local macro_rules | `(tactic| walk_at "loadName") => `(tactic| (k_here; k_dflt (refine' ldL ?F ?q ?v ?_; (case F => k_asm); (case q => decide +kernel); (case v => rfl); k_whole)))
local macro_rules | `(tactic| walk_at "subscriptTail Name Constant ref int") => `(tactic| (k_here; k_dflt (refine' item_tupleT ?t ?a ?b ?c ?d ?_; (case t => exact News.isTup (by k_asm) (by k_mem)); (case a => decide); (case b => decide); (case c => rfl); (case d => rfl); k_whole)))
local macro_rules | `(tactic| walk_at "getAttr ref") => `(tactic| (k_here; k_dflt (first
  | ((with_reducible show wpAny _ _ (getAttr (Value.ref _) (PySem.Str.ofString "__class__") _) _ _ _); refine' get_class ?k1 ?k2 ?k3 ?k4 ?k5 ?k6 ?k7 ?k8 ?k9 ?_; (case k1 => k_asm); (case k2 => k_asm); (case k3 => k_inst); (case k4 => k_is); (case k5 => k_is); (case k6 => k_is); (case k7 => k_is); (case k8 => k_is); (case k9 => k_is); k_whole)
  | (refine' cls_val ?k1 ?k2 ?k3 ?k4 ?k5 ?k6 ?_; (case k1 => k_asm); (case k2 => k_asm); (case k3 => k_is); (case k4 => k_is); (case k5 => k_is); (case k6 => k_handed); k_whole))))
local macro_rules | `(tactic| walk_at "spliced") => `(tactic| (k_here; k_dflt (first | refine args_cons ?_ | refine args_nil ?_)))
local macro_rules | `(tactic| walk_at "eval Call Name cons nil") => `(tactic| (k_here; k_dflt (refine Call_ ?_)))
local macro_rules | `(tactic| walk_at "storeName") => `(tactic| (k_here; k_dflt (refine' stL ?F ?N ?q ?_; (case q => decide +kernel); (case F => k_asm); (case N => k_asm); k_whole; intro h' F' N'; (try k_sweep))))
local macro_rules | `(tactic| walk_at "getMethod ref") => `(tactic| (k_here; k_dflt (first
  | (refine' method_inst ?k1 ?k2 ?k3 ?k4 ?k5 ?k6 ?k7 ?_; (case k1 => k_asm); (case k2 => k_asm); (case k3 => k_inst); (case k4 => k_is); (case k5 => k_is); (case k6 => k_is); (case k7 => k_get); k_whole)
  | (refine' kmu_cm ?k1 ?k2 ?k3 ?k4 ?k5 ?k6 ?k7 ?k8 ?k9 ?k10 ?k11 ?k12 ?k13 ?_; (case k1 => k_asm); (case k2 => k_asm); (case k3 => k_asm); (case k4 => k_inst); (case k5 => k_is); (case k6 => k_is); (case k7 => k_is); (case k8 => k_is); (case k9 => k_is); (case k10 => k_is); (case k11 => decide +kernel); (case k12 => k_get); (case k13 => k_is); k_whole; intro q' h' F' N' l1; (try k_lt l1); (try k_sweep)))))
local macro_rules | `(tactic| k_mem) => `(tactic| (first | exact mem_hd | ktr_member | (refine mem_tl ?_; first | exact mem_hd | ktr_member | (refine mem_tl ?_; first | exact mem_hd | ktr_member | (refine mem_tl ?_; first | exact mem_hd | ktr_member | (refine mem_tl ?_; first | exact mem_hd | ktr_member | (refine mem_tl ?_; first | exact mem_hd | ktr_member | (refine mem_tl ?_; first | exact mem_hd | ktr_member | (refine mem_tl ?_; first | exact mem_hd | ktr_member | (refine mem_tl ?_; first | exact mem_hd | ktr_member | (refine mem_tl ?_; first | exact mem_hd | ktr_member | (refine mem_tl ?_; first | exact mem_hd | ktr_member | (refine mem_tl ?_; first | exact mem_hd | ktr_member | (refine mem_tl ?_; first | exact mem_hd | ktr_member | (refine mem_tl ?_; first | exact mem_hd | ktr_member | (refine mem_tl ?_; ktr_member))))))))))))))))
local macro_rules | `(tactic| walk_at "getMethod ref") => `(tactic| (k_here; (with_reducible show wpAny _ _ (getMethod (Value.ref _) (PySem.Str.ofString "__class__") _) _ _ _); k_dflt ((first | (with_reducible refine' method_usual (r := some (.builtin "object.__class__")) ?kX ?kI ?ka ?kb ?kc ?kd ?_) | (refine' method_usual (r := some (.builtin "object.__class__")) ?kX ?kI ?ka ?kb ?kc ?kd ?_)); (case kX => k_in); (case kI => k_inst); (case ka => k_is); (case kb => k_is); (case kc => k_is); (case kd => exact rfl); k_whole)))
local macro_rules | `(tactic| k_all) => `(tactic| exact ne_of_l1 (by assumption))
local macro_rules | `(tactic| k_in) => `(tactic| (refine Frag.In.keeps ?_ (Fr.keep (by with_reducible assumption)); with_reducible assumption))
local macro_rules | `(tactic| walk_at "callWith ref cons nil") => `(tactic| (k_here; k_dflt ((with_reducible refine' callWith_K0' ?kF ?kX ?kk ?_); (case kF => with_reducible assumption); (case kX => k_asm); (case kk => k_is); k_whole)))
local macro_rules | `(tactic| walk_at "call ref") => `(tactic| (k_here; (with_reducible show wpAny _ _ (call (Value.ref 593) _ _) _ _ _); k_dflt ((first | (with_reducible refine' sp_useP (fuv_pt ?c0 ?c1) ?k1 ?k2 ?k3 ?k4 ?k5 ?kK ?kd ?ku ?_) | (refine' sp_useP (fuv_pt ?c0 ?c1) ?k1 ?k2 ?k3 ?k4 ?k5 ?kK ?kd ?ku ?_)); (case k1 => k_asm); (case k2 => k_asm); (case k3 => k_asm); (case k4 => k_asm); (case k5 => k_asm); (case c0 => assumption); (case c1 => assumption); (case kK => first | exact rfl | assumption); (case kd => first | exact roomK (by with_reducible assumption) (Nat.le_of_ble_eq_true rfl) | exact roomL _ rfl | ktr_room); (case ku => first | exact unitK (by with_reducible assumption) (Nat.le_of_ble_eq_true rfl) | exact unitL _ rfl | ktr_units); k_whole; intro x9 d9 p9 k9 t1 t2 t3 h9 tk9 la9 lb9 lc9 F9 N9; (try dsimp only); (try k_sweep); (try k_fold))))
local macro_rules | `(tactic| ktr_rel) => `(tactic| (first | exact (by assumption) | exact isPt_new | exact (isPt_tail (by assumption)) | exact (isPt_tail isPt_new) | exact (isPt_tail (isPt_tail (by assumption))) | exact (isPt_tail (isPt_tail isPt_new)) | exact (isPt_tail (isPt_tail (isPt_tail (by assumption)))) | exact (isPt_tail (isPt_tail (isPt_tail isPt_new))) | exact (isPt_tail (isPt_tail (isPt_tail (isPt_tail (by assumption))))) | exact (isPt_tail (isPt_tail (isPt_tail (isPt_tail isPt_new)))) | exact (isPt_tail (isPt_tail (isPt_tail (isPt_tail (isPt_tail (by assumption)))))) | exact (isPt_tail (isPt_tail (isPt_tail (isPt_tail (isPt_tail isPt_new))))) | exact (isPt_tail (isPt_tail (isPt_tail (isPt_tail (isPt_tail (isPt_tail (by assumption))))))) | exact (isPt_tail (isPt_tail (isPt_tail (isPt_tail (isPt_tail (isPt_tail isPt_new)))))) | exact (isPt_tail (isPt_tail (isPt_tail (isPt_tail (isPt_tail (isPt_tail (isPt_tail (by assumption)))))))) | exact (isPt_tail (isPt_tail (isPt_tail (isPt_tail (isPt_tail (isPt_tail (isPt_tail isPt_new))))))) | exact (isPt_tail (isPt_tail (isPt_tail (isPt_tail (isPt_tail (isPt_tail (isPt_tail (isPt_tail (by assumption))))))))) | exact (isPt_tail (isPt_tail (isPt_tail (isPt_tail (isPt_tail (isPt_tail (isPt_tail (isPt_tail isPt_new)))))))) | exact (isPt_tail (isPt_tail (isPt_tail (isPt_tail (isPt_tail (isPt_tail (isPt_tail (isPt_tail (isPt_tail (by assumption)))))))))) | exact (isPt_tail (isPt_tail (isPt_tail (isPt_tail (isPt_tail (isPt_tail (isPt_tail (isPt_tail (isPt_tail isPt_new)))))))))))
local macro_rules | `(tactic| walk_at "call ref") => `(tactic| (k_here; (with_reducible show wpAny _ _ (call (Value.ref 124) _ _) _ _ _); k_dflt ((first | (with_reducible refine' sp_useI (dot_pt ?c0 ?c1 ?c2 ?c3 ?c4 ?c5 ?c6 ?c7 ?c8 ?c9 ?c10 ?c11 ?c12 ?c13) ?k1 ?k2 ?k3 ?k4 ?k5 ?kK ?kd ?ku ?_) | (refine' sp_useI (dot_pt ?c0 ?c1 ?c2 ?c3 ?c4 ?c5 ?c6 ?c7 ?c8 ?c9 ?c10 ?c11 ?c12 ?c13) ?k1 ?k2 ?k3 ?k4 ?k5 ?kK ?kd ?ku ?_)); (case k1 => k_asm); (case k2 => k_asm); (case k3 => k_asm); (case k4 => k_asm); (case k5 => k_asm); (case c0 => ktr_rel); (case c1 => ktr_rel); (case c2 => exact (unit_b _).1.1); (case c3 => exact (unit_b _).1.2); (case c4 => exact (unit_b _).2.1.1); (case c5 => exact (unit_b _).2.1.2); (case c6 => exact (unit_b _).2.2.1); (case c7 => exact (unit_b _).2.2.2); (case c8 => omega); (case c9 => omega); (case c10 => omega); (case c11 => omega); (case c12 => omega); (case c13 => omega); (case kK => first | exact rfl | assumption); (case kd => first | exact roomK (by with_reducible assumption) (Nat.le_of_ble_eq_true rfl) | exact roomL _ rfl | ktr_room); (case ku => first | exact unitK (by with_reducible assumption) (Nat.le_of_ble_eq_true rfl) | exact unitL _ rfl | ktr_units); k_whole; intro t9 h9 tk9 F9 N9; (try dsimp only); (try k_sweep); (try k_fold))))
local macro_rules | `(tactic| walk_at "call ref") => `(tactic| (k_here; (with_reducible show wpAny _ _ (call (Value.ref 572) _ _) _ _ _); k_dflt ((first | (with_reducible refine' sp_useI (quo_cs ?c0 ?c1 ?c2 ?c3 ?c4) ?k1 ?k2 ?k3 ?k4 ?k5 ?kK ?kd ?ku ?_) | (refine' sp_useI (quo_cs ?c0 ?c1 ?c2 ?c3 ?c4) ?k1 ?k2 ?k3 ?k4 ?k5 ?kK ?kd ?ku ?_)); (case k1 => k_asm); (case k2 => k_asm); (case k3 => k_asm); (case k4 => k_asm); (case k5 => k_asm); (case c0 => omega); (case c1 => omega); (case c2 => omega); (case c3 => omega); (case c4 => omega); (case kK => first | exact rfl | assumption); (case kd => first | exact roomK (by with_reducible assumption) (Nat.le_of_ble_eq_true rfl) | exact roomL _ rfl | ktr_room); (case ku => first | exact unitK (by with_reducible assumption) (Nat.le_of_ble_eq_true rfl) | exact unitL _ rfl | ktr_units); k_whole; intro t9 h9 tk9 F9 N9; (try dsimp only); (try k_sweep); (try k_fold))))
local macro_rules | `(tactic| walk_at "call ref") => `(tactic| (k_here; (with_reducible show wpAny _ _ (call (Value.ref 42) _ _) _ _ _); k_dflt ((first | (with_reducible refine' sp_useI (getitem_k ?c0 ?c1) ?k1 ?k2 ?k3 ?k4 ?k5 ?kK ?kd ?ku ?_) | (refine' sp_useI (getitem_k ?c0 ?c1) ?k1 ?k2 ?k3 ?k4 ?k5 ?kK ?kd ?ku ?_)); (case k1 => k_asm); (case k2 => k_asm); (case k3 => k_asm); (case k4 => k_asm); (case k5 => k_asm); (case c0 => exact lac_cases _ _ _); (case c1 => ktr_rel); (case kK => first | exact rfl | assumption); (case kd => first | exact roomK (by with_reducible assumption) (Nat.le_of_ble_eq_true rfl) | exact roomL _ rfl | ktr_room); (case ku => first | exact unitK (by with_reducible assumption) (Nat.le_of_ble_eq_true rfl) | exact unitL _ rfl | ktr_units); k_whole; intro t9 h9 tk9 F9 N9; (try dsimp only); (try k_sweep); (try k_fold))))
local macro_rules | `(tactic| walk_at "call ref") => `(tactic| (k_here; (with_reducible show wpAny _ _ (call (Value.ref 42) _ _) _ _ _); k_dflt ((first | (with_reducible refine' sp_useI (getitem0 ?c0) ?k1 ?k2 ?k3 ?k4 ?k5 ?kK ?kd ?ku ?_) | (refine' sp_useI (getitem0 ?c0) ?k1 ?k2 ?k3 ?k4 ?k5 ?kK ?kd ?ku ?_)); (case k1 => k_asm); (case k2 => k_asm); (case k3 => k_asm); (case k4 => k_asm); (case k5 => k_asm); (case c0 => ktr_rel); (case kK => first | exact rfl | assumption); (case kd => first | exact roomK (by with_reducible assumption) (Nat.le_of_ble_eq_true rfl) | exact roomL _ rfl | ktr_room); (case ku => first | exact unitK (by with_reducible assumption) (Nat.le_of_ble_eq_true rfl) | exact unitL _ rfl | ktr_units); k_whole; intro t9 h9 tk9 F9 N9; (try dsimp only); (try k_sweep); (try k_fold))))
local macro_rules | `(tactic| walk_at "call ref") => `(tactic| (k_here; (with_reducible show wpAny _ _ (call (Value.ref 42) _ _) _ _ _); k_dflt ((first | (with_reducible refine' sp_useI (getitem1 ?c0) ?k1 ?k2 ?k3 ?k4 ?k5 ?kK ?kd ?ku ?_) | (refine' sp_useI (getitem1 ?c0) ?k1 ?k2 ?k3 ?k4 ?k5 ?kK ?kd ?ku ?_)); (case k1 => k_asm); (case k2 => k_asm); (case k3 => k_asm); (case k4 => k_asm); (case k5 => k_asm); (case c0 => ktr_rel); (case kK => first | exact rfl | assumption); (case kd => first | exact roomK (by with_reducible assumption) (Nat.le_of_ble_eq_true rfl) | exact roomL _ rfl | ktr_room); (case ku => first | exact unitK (by with_reducible assumption) (Nat.le_of_ble_eq_true rfl) | exact unitL _ rfl | ktr_units); k_whole; intro t9 h9 tk9 F9 N9; (try dsimp only); (try k_sweep); (try k_fold))))
local macro_rules | `(tactic| walk_at "call ref") => `(tactic| (k_here; (with_reducible show wpAny _ _ (call (Value.ref 42) _ _) _ _ _); k_dflt ((first | (with_reducible refine' sp_useI (getitem2 ?c0) ?k1 ?k2 ?k3 ?k4 ?k5 ?kK ?kd ?ku ?_) | (refine' sp_useI (getitem2 ?c0) ?k1 ?k2 ?k3 ?k4 ?k5 ?kK ?kd ?ku ?_)); (case k1 => k_asm); (case k2 => k_asm); (case k3 => k_asm); (case k4 => k_asm); (case k5 => k_asm); (case c0 => ktr_rel); (case kK => first | exact rfl | assumption); (case kd => first | exact roomK (by with_reducible assumption) (Nat.le_of_ble_eq_true rfl) | exact roomL _ rfl | ktr_room); (case ku => first | exact unitK (by with_reducible assumption) (Nat.le_of_ble_eq_true rfl) | exact unitL _ rfl | ktr_units); k_whole; intro t9 h9 tk9 F9 N9; (try dsimp only); (try k_sweep); (try k_fold))))
local macro_rules | `(tactic| walk_at "call ref") => `(tactic| (k_here; (with_reducible show wpAny _ _ (call (Value.ref 110) _ _) _ _ _); k_dflt ((first | (with_reducible refine' sp_useI (largest_pt ?c0) ?k1 ?k2 ?k3 ?k4 ?k5 ?kK ?kd ?ku ?_) | (refine' sp_useI (largest_pt ?c0) ?k1 ?k2 ?k3 ?k4 ?k5 ?kK ?kd ?ku ?_)); (case k1 => k_asm); (case k2 => k_asm); (case k3 => k_asm); (case k4 => k_asm); (case k5 => k_asm); (case c0 => ktr_rel); (case kK => first | exact rfl | assumption); (case kd => first | exact roomK (by with_reducible assumption) (Nat.le_of_ble_eq_true rfl) | exact roomL _ rfl | ktr_room); (case ku => first | exact unitK (by with_reducible assumption) (Nat.le_of_ble_eq_true rfl) | exact unitL _ rfl | ktr_units); k_whole; intro t9 h9 tk9 F9 N9; (try dsimp only); (try k_sweep); (try k_fold))))
theorem valid_cs (hp : IsPt w news x a b c) (b1 : -2147483648 < a) (b2 : a < 2147483648) (b3 : -2147483648 < b) (b4 : b < 2147483648) (b5 : -2147483648 < c) (b6 : c < 2147483648) (hv : VF f a b c) : Sp 7 w p loose mean mg mb 579 news [.int f t, .ref x] (OutU news) := by
  have hp0 := hp
  obtain ⟨dx, tp, tk, t1, t2, t3, hx, hd, ht⟩ := hp0
  obtain ⟨h0, h6, g0, g1, g2, g3, g4, g5⟩ := hv
  have dpos := dot_pos h0 h6 g0 g1 g2 g3 g4 g5
  unfold Sp
  k_fill
  intro dp un gd cn cs a1 ccd cl outer A₀ base h₀ L m1 s R B F X' N T hk' hdp hun hret
  k_dflt (refine' code_def ?k1 ?k2 ?k3 ?k4 ?k5 ?kA ?kF ?kK ?k6 ?k7 ?k8 ?k9 ?kB ?_ ?c2 ?c3 ?c4 ?c5; (case kA => exact rfl); (case kF => exact rfl); (case kK => first | assumption | exact rfl); (case k1 => k_asm); (case k2 => k_asm); (case k3 => k_asm); (case k4 => k_asm); (case k5 => k_asm); (case k6 => k_is); (case k7 => k_is); (case k8 => ktr_room); (case k9 => first | exact BindsTo.of_eq rfl | exact binds_K (by k_in) rfl (by k_is) rfl rfl rfl); (case c5 => decide); (case kB => exact locs rfl); (case c2 => exact rfl); (case c3 => exact rfl); (case c4 => exact rfl); k_whole; intro g' L' h' FG' F' N' B' X' T'; (try dsimp only); (try k_lift B'); (try k_fold))
  repeat' (first | (k_unfold; (try dsimp only)) | (k_end; wrow_close) | ((try dsimp only); walk1) | (leave1; walk_say "STEP leave1"; try dsimp only) | fail "no step")
  all_goals exact hret _ _ _ _ (by k_asm) (news_drop1 (c := [_, _, _]) (by k_asm)) ⟨_, _, _, _, _, rfl, rfl, lt_all4 (by assumption)⟩
local macro_rules | `(tactic| walk_at "call ref") => `(tactic| (k_here; (with_reducible show wpAny _ _ (call (Value.ref 579) _ _) _ _ _); k_dflt ((first | (with_reducible refine' sp_useU (valid_cs ?c0 ?c1 ?c2 ?c3 ?c4 ?c5 ?c6 ?c7) ?k1 ?k2 ?k3 ?k4 ?k5 ?kK ?kd ?ku ?_) | (refine' sp_useU (valid_cs ?c0 ?c1 ?c2 ?c3 ?c4 ?c5 ?c6 ?c7) ?k1 ?k2 ?k3 ?k4 ?k5 ?kK ?kd ?ku ?_)); (case k1 => k_asm); (case k2 => k_asm); (case k3 => k_asm); (case k4 => k_asm); (case k5 => k_asm); (case c0 => ktr_rel); (case c1 => omega); (case c2 => omega); (case c3 => omega); (case c4 => omega); (case c5 => omega); (case c6 => omega); (case c7 => exact VF.of (by assumption) (by first | exact (if_pos (by assumption)).symm | exact (if_neg (by assumption)).symm)); (case kK => first | exact rfl | assumption); (case kd => first | exact roomK (by with_reducible assumption) (Nat.le_of_ble_eq_true rfl) | exact roomL _ rfl | ktr_room); (case ku => first | exact unitK (by with_reducible assumption) (Nat.le_of_ble_eq_true rfl) | exact unitL _ rfl | ktr_units); k_whole; intro a9 u9 v9 t1 t2 h9 tk9 la9 F9 N9; (try dsimp only); (try k_sweep); (try k_fold))))
theorem xyz_cs (hp : IsPt w news x a b c) (b1 : -2147483648 < a) (b2 : a < 2147483648) (b3 : -2147483648 < b) (b4 : b < 2147483648) (b5 : -2147483648 < c) (b6 : c < 2147483648) (hn : pick (lac a b c) a b c ≠ 0) : Sp 9 w p loose mean mg mb 586 news [.ref x] (OutV (if pick (lac a b c) a b c < 0 then lac a b c + 3 else lac a b c) news) := by
  have hp0 := hp
  obtain ⟨dx, tp, tk, t1, t2, t3, hx, hd, ht⟩ := hp0
  unfold Sp
  k_fill
  intro dp un gd cn cs a1 ccd cl outer A₀ base h₀ L m1 s R B F X' N T hk' hdp hun hret
  k_dflt (refine' code_def ?k1 ?k2 ?k3 ?k4 ?k5 ?kA ?kF ?kK ?k6 ?k7 ?k8 ?k9 ?kB ?_ ?c2 ?c3 ?c4 ?c5; (case kA => exact rfl); (case kF => exact rfl); (case kK => first | assumption | exact rfl); (case k1 => k_asm); (case k2 => k_asm); (case k3 => k_asm); (case k4 => k_asm); (case k5 => k_asm); (case k6 => k_is); (case k7 => k_is); (case k8 => ktr_room); (case k9 => first | exact BindsTo.of_eq rfl | exact binds_K (by k_in) rfl (by k_is) rfl rfl rfl); (case c5 => decide); (case kB => exact locs rfl); (case c2 => exact rfl); (case c3 => exact rfl); (case c4 => exact rfl); k_whole; intro g' L' h' FG' F' N' B' X' T'; (try dsimp only); (try k_lift B'); (try k_fold))
  repeat' (first | (k_unfold; (try dsimp only)) | (k_end; wrow_close) | ((try dsimp only); walk1) | (leave1; walk_say "STEP leave1"; try dsimp only) | fail "no step")
  all_goals first | exact hret _ _ _ _ (by k_asm) (news_drop1 (c := [_]) (by k_asm)) ⟨_, _, _, _, _, _, _, rfl, rfl, (if_pos (by assumption)).symm, lt_all2 (by assumption)⟩ | exact hret _ _ _ _ (by k_asm) (news_drop1 (c := [_]) (by k_asm)) ⟨_, _, _, _, _, _, _, rfl, rfl, (if_neg (by assumption)).symm, lt_all2 (by assumption)⟩
end
end Mine
/- part S14 -/
set_option Elab.async false
set_option maxRecDepth 100000
set_option maxHeartbeats 1000000
namespace Mine
open PySem PySem.W PySem.Spec PySem.Calls PyProof.Rows
variable {w : World} {p : Program} {loose : List PySem.Str} {mean : ExcName → Option Value} {mg mb : PySem.Str → Option Value} {news : Led} {x dx : Addr} {v : Int} {t tk : Tok}
theorem fin_dom {A B C f : Int} (h : (mx B < mx A ∧ mx C < mx A ∧ A ≠ 0 ∧ f ≠ (if A < 0 then 3 else 0)) ∨ (mx A < mx B ∧ mx C < mx B ∧ B ≠ 0 ∧ f ≠ (if B < 0 then 4 else 1)) ∨ (mx A < mx C ∧ mx B < mx C ∧ C ≠ 0 ∧ f ≠ (if C < 0 then 5 else 2))) :
    pick (lac A B C) A B C ≠ 0 ∧ 0 ≤ (if pick (lac A B C) A B C < 0 then lac A B C + 3 else lac A B C) ∧ (if pick (lac A B C) A B C < 0 then lac A B C + 3 else lac A B C) < 6 ∧ (if pick (lac A B C) A B C < 0 then lac A B C + 3 else lac A B C) ≠ f := by
  rcases h with ⟨h1, h2, h3, h4⟩ | ⟨h1, h2, h3, h4⟩ | ⟨h1, h2, h3, h4⟩
  · have e : lac A B C = 0 := (lac0 h1 h2).symm
    rw [e, pick0]; refine ⟨h3, ?_⟩; split at h4 <;> omega
  · have e : lac A B C = 1 := (lac1 (by omega) h2).symm
    rw [e, pick1]; refine ⟨h3, ?_⟩; split at h4 <;> omega
  · have e : lac A B C = 2 := by
      by_cases h : mx B < mx A
      · exact (lac2 h (by omega)).symm
      · exact (lac3 h (by omega)).symm
    rw [e, pick2]; refine ⟨h3, ?_⟩; split at h4 <;> omega
def Out1 (u v : Int) : Prop := ((u = 1073741825 ∨ u = -1073741825) ∧ -1073741824 < v ∧ v < 1073741824) ∨ ((v = 1073741825 ∨ v = -1073741825) ∧ -1073741824 < u ∧ u < 1073741824)
theorem comp_b {f u v : Int} (h : Out1 u v) : (-2147483648 < fX f u v + fX f 0 0 * 1073741823 ∧ fX f u v + fX f 0 0 * 1073741823 < 2147483648) ∧ (-2147483648 < fY f u v + fY f 0 0 * 1073741823 ∧ fY f u v + fY f 0 0 * 1073741823 < 2147483648) ∧ (-2147483648 < fZ f u v + fZ f 0 0 * 1073741823 ∧ fZ f u v + fZ f 0 0 * 1073741823 < 2147483648) := by
  unfold Out1 at h
  unfold fX fY fZ
  refine ⟨⟨?_, ?_⟩, ⟨?_, ?_⟩, ⟨?_, ?_⟩⟩ <;> (repeat' split) <;> omega
theorem wrapL {f u v : Int} (h0 : 0 ≤ f) (h6 : f < 6) (h : Out1 u v) : ∀ A B C, A = fX f u v + fX f 0 0 * 1073741823 → B = fY f u v + fY f 0 0 * 1073741823 → C = fZ f u v + fZ f 0 0 * 1073741823 →
    pick (lac A B C) A B C ≠ 0 ∧ 0 ≤ (if pick (lac A B C) A B C < 0 then lac A B C + 3 else lac A B C) ∧ (if pick (lac A B C) A B C < 0 then lac A B C + 3 else lac A B C) < 6 ∧ (if pick (lac A B C) A B C < 0 then lac A B C + 3 else lac A B C) ≠ f := by
  intro A B C hA hB hC
  refine fin_dom ?_
  unfold fX at hA
  unfold fY at hB
  unfold fZ at hC
  unfold mx
  have : f = 0 ∨ f = 1 ∨ f = 2 ∨ f = 3 ∨ f = 4 ∨ f = 5 := by omega
  unfold Out1 at h
  rcases this with rfl | rfl | rfl | rfl | rfl | rfl <;> simp at hA hB hC <;> rcases h with ⟨h1 | h1, h2, h3⟩ | ⟨h1 | h1, h2, h3⟩ <;> subst h1 <;> subst hA <;> subst hB <;> subst hC
  all_goals first
    | (refine Or.inl ⟨?_, ?_, ?_, ?_⟩ <;> omega)
    | (refine Or.inr (Or.inl ⟨?_, ?_, ?_, ?_⟩) <;> omega)
    | (refine Or.inr (Or.inr ⟨?_, ?_, ?_, ?_⟩) <;> omega)
theorem from_ij_int {f i j : Int} {tf ti tj : Tok} (f0 : 0 ≤ f) (hf : f < 6) (i0 : 0 ≤ i) (hi : i < 1073741824) (j0 : 0 ≤ j) (hj : j < 1073741824) : Sp 6 w p loose mean mg mb 245 news [.ref 561, .int f tf, .int i ti, .int j tj] (OutC w (cid f.toNat (PP f.toNat i.toNat j.toNat) 30) news) := by
  obtain ⟨f, rfl⟩ := Int.eq_ofNat_of_zero_le f0
  obtain ⟨i, rfl⟩ := Int.eq_ofNat_of_zero_le i0
  obtain ⟨j, rfl⟩ := Int.eq_ofNat_of_zero_le j0
  exact from_ij_cs (by omega) (by omega) (by omega)
end Mine
/- part S15 -/
set_option Elab.async false
set_option maxRecDepth 100000
set_option maxHeartbeats 2000000
namespace Mine
open PySem PySem.W PySem.Spec PySem.Calls PyProof.Rows
variable {w : World} {p : Program} {loose : List PySem.Str} {mean : ExcName → Option Value} {mg mb : PySem.Str → Option Value} {news : Led} {x dx : Addr} {v : Int} {t tk : Tok}
abbrev OutW (w : World) (f : Int) (news : Led) : Value → Led → Prop := fun r n => ∃ f' q' : Nat, f' < 6 ∧ (f' : Int) ≠ f ∧ q' < 4 ^ 30 ∧ OutC w (cid f' q' 30) news r n
def Beyond (i j : Int) : Prop := ((i < 0 ∨ 1073741824 ≤ i) ∧ 0 ≤ j ∧ j < 1073741824) ∨ ((j < 0 ∨ 1073741824 ≤ j) ∧ 0 ≤ i ∧ i < 1073741824)
theorem out_raw {i j : Int} (ho : Beyond i j) : Out1 (1 * ((if (if i < 1073741824 then i else 1073741824) > -1 then if i < 1073741824 then i else 1073741824 else -1) * 2 ^ Int.toNat 1 + 1 - 1073741824)) (1 * ((if (if j < 1073741824 then j else 1073741824) > -1 then if j < 1073741824 then j else 1073741824 else -1) * 2 ^ Int.toNat 1 + 1 - 1073741824)) := by
  have e2 : (2 : Int) ^ Int.toNat 1 = 2 := by decide
  rw [e2]
  unfold Out1
  unfold Beyond at ho
  rcases ho with ⟨h1 | h1, h2, h3⟩ | ⟨h1 | h1, h2, h3⟩ <;> (repeat' split) <;> omega
theorem fin_nat {F f : Int} (h : 0 ≤ F) (h6 : F < 6) (hne : F ≠ f) : F.toNat < 6 ∧ (F.toNat : Int) ≠ f := by omega
theorem clipn (s : Int) : (clip s).toNat < 1073741824 := by have := clip_b s; omega
theorem lt_drop {d : Addr} {c l : Led} (h : ∀ p ∈ c ++ l, p.1 < d) : ∀ p ∈ l, p.1 < d := fun p hp => h p (List.mem_append_right _ hp)
section
variable {a b c : Int} {f i j : Int}
local macro_rules | `(tactic| walk_at "eval Name") => `(tactic| (k_here; (with_reducible show wpAny _ _ (eval (Expr.Name _ _) (compEnvC _ _ _ _)) _ _ _); k_dflt (first
  | (name_kind "cell" "free"; refine kcf_cell (by k_asm) (by rfl) (by k_mem) (by k_asm) ?_)
  | (name_kind "local"; refine LCgL.ld_own (by k_asm) (by k_mem) (by assumption) (by assumption) ?_)
  | (name_kind "globalImplicit"; refine LCgL.ld_global (by k_asm) (by k_asm) (by k_asm) (by k_is) ?_))))
local macro_rules | `(tactic| walk_at "eval Name") => `(tactic| (k_here; (fail_if_success (with_reducible show wpAny _ _ (eval (Expr.Name _ _) (compEnvC _ _ _ _)) _ _ _)); k_dflt (first
  | (name_kind "local"; refine' nmL ?F ?q ?v ?_; (case F => k_asm); (case q => decide +kernel); (case v => rfl); k_whole)
  | (name_kind "cell"; refine' nmC ?N ?q ?c ?m ?d ?_; (case q => decide +kernel); (case N => k_asm); (case c => rfl); (case m => k_mem); (case d => k_asm); k_whole)
  | (name_kind "globalImplicit"; refine' nmK ?F ?X ?T ?q ?e ?_; (case q => decide +kernel); (case F => k_asm); (case X => k_asm); (case T => k_asm); (case e => k_is); k_whole)
  | (name_kind "globalImplicit"; refine' nmB ?F ?X ?T ?q ?e ?v ?n ?_; (case q => decide +kernel); (case F => k_asm); (case X => k_asm); (case T => k_asm); (case e => k_is); (case v => boot_fast); (case n => decide); k_whole))))
local macro_rules | `(tactic| walk_at "callWith ref") => `(tactic| (k_here; k_dflt (first
  | ((with_reducible refine' callWith_K ?k1 ?k2 ?_); (case k1 => k_asm); (case k2 => k_is); k_whole)
  | ((with_reducible refine' callWith_K0n ?kF ?kX ?kk ?_); (case kF => with_reducible assumption); (case kX => k_asm); (case kk => k_is); k_whole)
  | ((with_reducible refine' callWith_M ?k1 ?k2 ?k3 ?k4 ?_); (case k1 => k_asm); (case k2 => k_asm); (case k3 => k_mem); (case k4 => k_is); k_whole)
  | ((with_reducible refine' callWith_M0 ?k1 ?k2 ?_); (case k1 => k_meth); (case k2 => k_is); k_whole; try dsimp only [List.nil_append, List.cons_append]))))
local macro_rules | `(tactic| walk_at "loadName") => `(tactic| (k_here; k_dflt (refine' ldL ?F ?q ?v ?_; (case F => k_asm); (case q => decide +kernel); (case v => rfl); k_whole)))
local macro_rules | `(tactic| walk_at "subscriptTail Name Constant ref int") => `(tactic| (k_here; k_dflt (refine' item_tupleT ?t ?a ?b ?c ?d ?_; (case t => exact News.isTup (by k_asm) (by k_mem)); (case a => decide); (case b => decide); (case c => rfl); (case d => rfl); k_whole)))
local macro_rules | `(tactic| walk_at "getAttr ref") => `(tactic| (k_here; k_dflt (first
  | ((with_reducible show wpAny _ _ (getAttr (Value.ref _) (PySem.Str.ofString "__class__") _) _ _ _); refine' get_class ?k1 ?k2 ?k3 ?k4 ?k5 ?k6 ?k7 ?k8 ?k9 ?_; (case k1 => k_asm); (case k2 => k_asm); (case k3 => k_inst); (case k4 => k_is); (case k5 => k_is); (case k6 => k_is); (case k7 => k_is); (case k8 => k_is); (case k9 => k_is); k_whole)
  | (refine' cls_val ?k1 ?k2 ?k3 ?k4 ?k5 ?k6 ?_; (case k1 => k_asm); (case k2 => k_asm); (case k3 => k_is); (case k4 => k_is); (case k5 => k_is); (case k6 => k_handed); k_whole))))
local macro_rules | `(tactic| walk_at "spliced") => `(tactic| (k_here; k_dflt (first | refine args_cons ?_ | refine args_nil ?_)))
local macro_rules | `(tactic| walk_at "eval Call Name cons nil") => `(tactic| (k_here; k_dflt (refine Call_ ?_)))
local macro_rules | `(tactic| walk_at "storeName") => `(tactic| (k_here; k_dflt (refine' stL ?F ?N ?q ?_; (case q => decide +kernel); (case F => k_asm); (case N => k_asm); k_whole; intro h' F' N'; (try k_sweep))))
local macro_rules | `(tactic| walk_at "getMethod ref") => `(tactic| (k_here; k_dflt (first
  | (refine' method_inst ?k1 ?k2 ?k3 ?k4 ?k5 ?k6 ?k7 ?_; (case k1 => k_asm); (case k2 => k_asm); (case k3 => k_inst); (case k4 => k_is); (case k5 => k_is); (case k6 => k_is); (case k7 => k_get); k_whole)
  | (refine' kmu_cm ?k1 ?k2 ?k3 ?k4 ?k5 ?k6 ?k7 ?k8 ?k9 ?k10 ?k11 ?k12 ?k13 ?_; (case k1 => k_asm); (case k2 => k_asm); (case k3 => k_asm); (case k4 => k_inst); (case k5 => k_is); (case k6 => k_is); (case k7 => k_is); (case k8 => k_is); (case k9 => k_is); (case k10 => k_is); (case k11 => decide +kernel); (case k12 => k_get); (case k13 => k_is); k_whole; intro q' h' F' N' l1; (try k_lt l1); (try k_sweep)))))
local macro_rules | `(tactic| k_mem) => `(tactic| (first | exact mem_hd | ktr_member | (refine mem_tl ?_; first | exact mem_hd | ktr_member | (refine mem_tl ?_; first | exact mem_hd | ktr_member | (refine mem_tl ?_; first | exact mem_hd | ktr_member | (refine mem_tl ?_; first | exact mem_hd | ktr_member | (refine mem_tl ?_; first | exact mem_hd | ktr_member | (refine mem_tl ?_; first | exact mem_hd | ktr_member | (refine mem_tl ?_; first | exact mem_hd | ktr_member | (refine mem_tl ?_; first | exact mem_hd | ktr_member | (refine mem_tl ?_; first | exact mem_hd | ktr_member | (refine mem_tl ?_; first | exact mem_hd | ktr_member | (refine mem_tl ?_; first | exact mem_hd | ktr_member | (refine mem_tl ?_; first | exact mem_hd | ktr_member | (refine mem_tl ?_; first | exact mem_hd | ktr_member | (refine mem_tl ?_; ktr_member))))))))))))))))
local macro_rules | `(tactic| walk_at "getMethod ref") => `(tactic| (k_here; (with_reducible show wpAny _ _ (getMethod (Value.ref _) (PySem.Str.ofString "__class__") _) _ _ _); k_dflt ((first | (with_reducible refine' method_usual (r := some (.builtin "object.__class__")) ?kX ?kI ?ka ?kb ?kc ?kd ?_) | (refine' method_usual (r := some (.builtin "object.__class__")) ?kX ?kI ?ka ?kb ?kc ?kd ?_)); (case kX => k_in); (case kI => k_inst); (case ka => k_is); (case kb => k_is); (case kc => k_is); (case kd => exact rfl); k_whole)))
local macro_rules | `(tactic| k_all) => `(tactic| exact ne_of_l1 (by assumption))
local macro_rules | `(tactic| k_in) => `(tactic| (refine Frag.In.keeps ?_ (Fr.keep (by with_reducible assumption)); with_reducible assumption))
local macro_rules | `(tactic| walk_at "callWith ref cons nil") => `(tactic| (k_here; k_dflt ((with_reducible refine' callWith_K0' ?kF ?kX ?kk ?_); (case kF => with_reducible assumption); (case kX => k_asm); (case kk => k_is); k_whole)))
local macro_rules | `(tactic| walk_at "binaryOp Mult int int") => `(tactic| (k_here; (with_reducible show wpAny _ _ (binaryOp _ (Value.int (OfNat.ofNat _) _) (Value.int (OfNat.ofNat _) _)) _ _ _); k_dflt ((with_reducible refine' mul_lit ?ke ?ka ?kb ?_); (case ke => krs_num); (case ka => decide); (case kb => decide); k_whole)))
local macro_rules | `(tactic| walk_at "binaryOp Add int int") => `(tactic| (k_here; (with_reducible show wpAny _ _ (binaryOp _ (Value.int (OfNat.ofNat _) _) (Value.int (OfNat.ofNat _) _)) _ _ _); k_dflt ((with_reducible refine' add_lit ?ke ?_); (case ke => krs_num); k_whole)))
local macro_rules | `(tactic| walk_at "binaryOp Sub int int") => `(tactic| (k_here; (with_reducible show wpAny _ _ (binaryOp _ (Value.int (OfNat.ofNat _) _) (Value.int (OfNat.ofNat _) _)) _ _ _); k_dflt ((with_reducible refine' sub_lit ?ke ?_); (case ke => krs_num); k_whole)))
local macro_rules | `(tactic| walk_at "binaryOp BitOr int int") => `(tactic| (k_here; (with_reducible show wpAny _ _ (binaryOp _ (Value.int (OfNat.ofNat _) _) (Value.int (OfNat.ofNat _) _)) _ _ _); k_dflt ((with_reducible refine' or_lit ?ke ?_); (case ke => krs_num); k_whole)))
local macro_rules | `(tactic| walk_at "binaryOp LShift int int") => `(tactic| (k_here; (with_reducible show wpAny _ _ (binaryOp _ (Value.int (OfNat.ofNat _) _) (Value.int (OfNat.ofNat _) _)) _ _ _); k_dflt ((with_reducible refine' shl_lit ?ka ?kb ?kc ?ke ?_); (case ka => decide); (case kb => decide); (case kc => decide); (case ke => krs_num); k_whole)))
local macro_rules | `(tactic| walk_at "call ref") => `(tactic| (k_here; (with_reducible show wpAny _ _ (call (Value.ref 600) _ _) _ _ _); k_dflt ((first | (with_reducible refine' sp_useP (norm_pt ?c0 ?c1) ?k1 ?k2 ?k3 ?k4 ?k5 ?kK ?kd ?ku ?_) | (refine' sp_useP (norm_pt ?c0 ?c1) ?k1 ?k2 ?k3 ?k4 ?k5 ?kK ?kd ?ku ?_)); (case k1 => k_asm); (case k2 => k_asm); (case k3 => k_asm); (case k4 => k_asm); (case k5 => k_asm); (case c0 => assumption); (case c1 => assumption); (case kK => first | exact rfl | assumption); (case kd => first | exact roomK (by with_reducible assumption) (Nat.le_of_ble_eq_true rfl) | exact roomL _ rfl | ktr_room); (case ku => first | exact unitK (by with_reducible assumption) (Nat.le_of_ble_eq_true rfl) | exact unitL _ rfl | ktr_units); k_whole; intro x9 d9 p9 k9 t1 t2 t3 h9 tk9 la9 lb9 lc9 F9 N9; (try dsimp only); (try k_sweep); (try k_fold))))
local macro_rules | `(tactic| walk_at "call ref") => `(tactic| (k_here; (with_reducible show wpAny _ _ (call (Value.ref 593) _ _) _ _ _); k_dflt ((first | (with_reducible refine' sp_useP (fuv_pt ?c0 ?c1) ?k1 ?k2 ?k3 ?k4 ?k5 ?kK ?kd ?ku ?_) | (refine' sp_useP (fuv_pt ?c0 ?c1) ?k1 ?k2 ?k3 ?k4 ?k5 ?kK ?kd ?ku ?_)); (case k1 => k_asm); (case k2 => k_asm); (case k3 => k_asm); (case k4 => k_asm); (case k5 => k_asm); (case c0 => assumption); (case c1 => assumption); (case kK => first | exact rfl | assumption); (case kd => first | exact roomK (by with_reducible assumption) (Nat.le_of_ble_eq_true rfl) | exact roomL _ rfl | ktr_room); (case ku => first | exact unitK (by with_reducible assumption) (Nat.le_of_ble_eq_true rfl) | exact unitL _ rfl | ktr_units); k_whole; intro x9 d9 p9 k9 t1 t2 t3 h9 tk9 la9 lb9 lc9 F9 N9; (try dsimp only); (try k_sweep); (try k_fold))))
local macro_rules | `(tactic| ktr_rel) => `(tactic| (first | exact (by assumption) | exact isPt_new | exact (isPt_tail (by assumption)) | exact (isPt_tail isPt_new) | exact (isPt_tail (isPt_tail (by assumption))) | exact (isPt_tail (isPt_tail isPt_new)) | exact (isPt_tail (isPt_tail (isPt_tail (by assumption)))) | exact (isPt_tail (isPt_tail (isPt_tail isPt_new))) | exact (isPt_tail (isPt_tail (isPt_tail (isPt_tail (by assumption))))) | exact (isPt_tail (isPt_tail (isPt_tail (isPt_tail isPt_new)))) | exact (isPt_tail (isPt_tail (isPt_tail (isPt_tail (isPt_tail (by assumption)))))) | exact (isPt_tail (isPt_tail (isPt_tail (isPt_tail (isPt_tail isPt_new))))) | exact (isPt_tail (isPt_tail (isPt_tail (isPt_tail (isPt_tail (isPt_tail (by assumption))))))) | exact (isPt_tail (isPt_tail (isPt_tail (isPt_tail (isPt_tail (isPt_tail isPt_new)))))) | exact (isPt_tail (isPt_tail (isPt_tail (isPt_tail (isPt_tail (isPt_tail (isPt_tail (by assumption)))))))) | exact (isPt_tail (isPt_tail (isPt_tail (isPt_tail (isPt_tail (isPt_tail (isPt_tail isPt_new))))))) | exact (isPt_tail (isPt_tail (isPt_tail (isPt_tail (isPt_tail (isPt_tail (isPt_tail (isPt_tail (by assumption))))))))) | exact (isPt_tail (isPt_tail (isPt_tail (isPt_tail (isPt_tail (isPt_tail (isPt_tail (isPt_tail isPt_new)))))))) | exact (isPt_tail (isPt_tail (isPt_tail (isPt_tail (isPt_tail (isPt_tail (isPt_tail (isPt_tail (isPt_tail (by assumption)))))))))) | exact (isPt_tail (isPt_tail (isPt_tail (isPt_tail (isPt_tail (isPt_tail (isPt_tail (isPt_tail (isPt_tail isPt_new)))))))))))
local macro_rules | `(tactic| walk_at "call ref") => `(tactic| (k_here; (with_reducible show wpAny _ _ (call (Value.ref 98) _ _) _ _ _); k_dflt ((first | (with_reducible refine' sp_useP (mul_pt ?c0 ?c1 ?c2 ?c3 ?c4 ?c5 ?c6 ?c7 ?c8) ?k1 ?k2 ?k3 ?k4 ?k5 ?kK ?kd ?ku ?_) | (refine' sp_useP (mul_pt ?c0 ?c1 ?c2 ?c3 ?c4 ?c5 ?c6 ?c7 ?c8) ?k1 ?k2 ?k3 ?k4 ?k5 ?kK ?kd ?ku ?_)); (case k1 => k_asm); (case k2 => k_asm); (case k3 => k_asm); (case k4 => k_asm); (case k5 => k_asm); (case c0 => ktr_rel); (case c1 => exact (unit_b _).1.1); (case c2 => exact (unit_b _).1.2); (case c3 => exact (unit_b _).2.1.1); (case c4 => exact (unit_b _).2.1.2); (case c5 => exact (unit_b _).2.2.1); (case c6 => exact (unit_b _).2.2.2); (case c7 => decide); (case c8 => decide); (case kK => first | exact rfl | assumption); (case kd => first | exact roomK (by with_reducible assumption) (Nat.le_of_ble_eq_true rfl) | exact roomL _ rfl | ktr_room); (case ku => first | exact unitK (by with_reducible assumption) (Nat.le_of_ble_eq_true rfl) | exact unitL _ rfl | ktr_units); k_whole; intro x9 d9 p9 k9 t1 t2 t3 h9 tk9 la9 lb9 lc9 F9 N9; (try dsimp only [PySem.W.CmpBack]); (try dsimp only); (try k_sweep); (try k_fold))))
local macro_rules | `(tactic| walk_at "call ref") => `(tactic| (k_here; (with_reducible show wpAny _ _ (call (Value.ref 84) _ _) _ _ _); k_dflt ((first | (with_reducible refine' sp_useP (add_pt ?c0 ?c1) ?k1 ?k2 ?k3 ?k4 ?k5 ?kK ?kd ?ku ?_) | (refine' sp_useP (add_pt ?c0 ?c1) ?k1 ?k2 ?k3 ?k4 ?k5 ?kK ?kd ?ku ?_)); (case k1 => k_asm); (case k2 => k_asm); (case k3 => k_asm); (case k4 => k_asm); (case k5 => k_asm); (case c0 => ktr_rel); (case c1 => ktr_rel); (case kK => first | exact rfl | assumption); (case kd => first | exact roomK (by with_reducible assumption) (Nat.le_of_ble_eq_true rfl) | exact roomL _ rfl | ktr_room); (case ku => first | exact unitK (by with_reducible assumption) (Nat.le_of_ble_eq_true rfl) | exact unitL _ rfl | ktr_units); k_whole; intro x9 d9 p9 k9 t1 t2 t3 h9 tk9 la9 lb9 lc9 F9 N9; (try dsimp only [PySem.W.CmpBack]); (try dsimp only); (try k_sweep); (try k_fold))))
local macro_rules | `(tactic| walk_at "call ref") => `(tactic| (k_here; (with_reducible show wpAny _ _ (call (Value.ref 586) _ _) _ _ _); k_dflt ((first | (with_reducible refine' sp_useV (xyz_cs ?c0 ?c1 ?c2 ?c3 ?c4 ?c5 ?c6 ?c7) ?k1 ?k2 ?k3 ?k4 ?k5 ?kK ?kd ?ku ?_) | (refine' sp_useV (xyz_cs ?c0 ?c1 ?c2 ?c3 ?c4 ?c5 ?c6 ?c7) ?k1 ?k2 ?k3 ?k4 ?k5 ?kK ?kd ?ku ?_)); (case k1 => k_asm); (case k2 => k_asm); (case k3 => k_asm); (case k4 => k_asm); (case k5 => k_asm); (case c0 => ktr_rel); (case c1 => exact (comp_b (out_raw (by assumption))).1.1); (case c2 => exact (comp_b (out_raw (by assumption))).1.2); (case c3 => exact (comp_b (out_raw (by assumption))).2.1.1); (case c4 => exact (comp_b (out_raw (by assumption))).2.1.2); (case c5 => exact (comp_b (out_raw (by assumption))).2.2.1); (case c6 => exact (comp_b (out_raw (by assumption))).2.2.2); (case c7 => exact (wrapL (by assumption) (by assumption) (out_raw (by assumption)) _ _ _ rfl rfl rfl).1); (case kK => first | exact rfl | assumption); (case kd => first | exact roomK (by with_reducible assumption) (Nat.le_of_ble_eq_true rfl) | exact roomL _ rfl | ktr_room); (case ku => first | exact unitK (by with_reducible assumption) (Nat.le_of_ble_eq_true rfl) | exact unitL _ rfl | ktr_units); k_whole; intro a9 u9 v9 t1 t2 t3 h9 tk9 la9 F9 N9; (try dsimp only); (try k_sweep); (try k_fold))))
local macro_rules | `(tactic| walk_at "call ref") => `(tactic| (k_here; k_dflt ((first | (with_reducible refine' sp_useIM (st_cs ) ?k1 ?k2 ?k3 ?k4 ?k5 ?kK ?kd ?ku ?kq ?_) | (refine' sp_useIM (st_cs ) ?k1 ?k2 ?k3 ?k4 ?k5 ?kK ?kd ?ku ?kq ?_)); (case k1 => k_asm); (case k2 => k_asm); (case k3 => k_asm); (case k4 => k_asm); (case k5 => k_asm); (case kq => k_mem); (case kK => first | exact rfl | assumption); (case kd => first | exact roomK (by with_reducible assumption) (Nat.le_of_ble_eq_true rfl) | exact roomL _ rfl | ktr_room); (case ku => first | exact unitK (by with_reducible assumption) (Nat.le_of_ble_eq_true rfl) | exact unitL _ rfl | ktr_units); k_whole; intro t9 h9 tk9 F9 N9; (try dsimp only); (try k_sweep); (try k_fold))))
local macro_rules | `(tactic| walk_at "call ref") => `(tactic| (k_here; k_dflt ((first | (with_reducible refine' sp_useCM (from_ij_int ?c0 ?c1 ?c2 ?c3 ?c4 ?c5) ?k1 ?k2 ?k3 ?k4 ?k5 ?kK ?kd ?ku ?kq ?_) | (refine' sp_useCM (from_ij_int ?c0 ?c1 ?c2 ?c3 ?c4 ?c5) ?k1 ?k2 ?k3 ?k4 ?k5 ?kK ?kd ?ku ?kq ?_)); (case k1 => k_asm); (case k2 => k_asm); (case k3 => k_asm); (case k4 => k_asm); (case k5 => k_asm); (case kq => k_mem); (case c0 => exact (wrapL (by assumption) (by assumption) (out_raw (by assumption)) _ _ _ rfl rfl rfl).2.1); (case c1 => exact (wrapL (by assumption) (by assumption) (out_raw (by assumption)) _ _ _ rfl rfl rfl).2.2.1); (case c2 => exact (clip_b _).1); (case c3 => exact (clip_b _).2); (case c4 => exact (clip_b _).1); (case c5 => exact (clip_b _).2); (case kK => first | exact rfl | assumption); (case kd => first | exact roomK (by with_reducible assumption) (Nat.le_of_ble_eq_true rfl) | exact roomL _ rfl | ktr_room); (case ku => first | exact unitK (by with_reducible assumption) (Nat.le_of_ble_eq_true rfl) | exact unitL _ rfl | ktr_units); k_whole; intro x9 d9 t9 k9 h9 tk9 la9 lb9 F9 N9; (try dsimp only); (try k_sweep); (try k_fold))))
theorem wrap_cs {tf ti tj : Tok} (f0 : 0 ≤ f) (f6 : f < 6) (ho : Beyond i j) : Sp 12 w p loose mean mg mb 255 news [.ref 561, .int f tf, .int i ti, .int j tj] (OutW w f news) := by
  unfold Sp
  k_fill
  intro dp un gd cn cs a1 ccd cl outer A₀ base h₀ L m1 s R B F X' N T hk' hdp hun hret
  k_dflt (refine' code_def ?k1 ?k2 ?k3 ?k4 ?k5 ?kA ?kF ?kK ?k6 ?k7 ?k8 ?k9 ?kB ?_ ?c2 ?c3 ?c4 ?c5; (case kA => exact rfl); (case kF => exact rfl); (case kK => first | assumption | exact rfl); (case k1 => k_asm); (case k2 => k_asm); (case k3 => k_asm); (case k4 => k_asm); (case k5 => k_asm); (case k6 => k_is); (case k7 => k_is); (case k8 => ktr_room); (case k9 => first | exact BindsTo.of_eq rfl | exact binds_K (by k_in) rfl (by k_is) rfl rfl rfl); (case c5 => decide); (case kB => exact locs rfl); (case c2 => exact rfl); (case c3 => exact rfl); (case c4 => exact rfl); k_whole; intro g' L' h' FG' F' N' B' X' T'; (try dsimp only); (try k_lift B'); (try k_fold))
  repeat' (first | (k_unfold; (try dsimp only)) | (k_end; wrow_close) | ((try dsimp only); walk1) | (leave1; walk_say "STEP leave1"; try dsimp only) | fail "no step")
  all_goals refine hret _ _ _ _ (by k_asm) (news_drop2 (c := [_,_,_,_,_,_,_,_,_,_,_,_,_,_,_,_]) (by k_asm)) ⟨_, _, ?_, ?_, ?_, _, _, _, _, rfl, rfl, lt_drop (c := [_,_,_,_,_,_,_,_,_,_,_,_,_,_,_,_]) (by assumption), by assumption⟩
  · exact (fin_nat (wrapL (by assumption) (by assumption) (out_raw (by assumption)) _ _ _ rfl rfl rfl).2.1 (wrapL (by assumption) (by assumption) (out_raw (by assumption)) _ _ _ rfl rfl rfl).2.2.1 (wrapL (by assumption) (by assumption) (out_raw (by assumption)) _ _ _ rfl rfl rfl).2.2.2).1
  · exact (fin_nat (wrapL (by assumption) (by assumption) (out_raw (by assumption)) _ _ _ rfl rfl rfl).2.1 (wrapL (by assumption) (by assumption) (out_raw (by assumption)) _ _ _ rfl rfl rfl).2.2.1 (wrapL (by assumption) (by assumption) (out_raw (by assumption)) _ _ _ rfl rfl rfl).2.2.2).2
  · exact PP_lt _ _ _ (clipn _) (clipn _)
end
end Mine
/- part S16 -/
set_option Elab.async false
set_option maxRecDepth 100000
set_option maxHeartbeats 2000000
namespace Mine
open PySem PySem.W PySem.Spec PySem.Calls PyProof.Rows
variable {w : World} {p : Program} {loose : List PySem.Str} {mean : ExcName → Option Value} {mg mb : PySem.Str → Option Value} {news : Led} {x dx : Addr} {v : Int} {t tk : Tok}
abbrev OutS (w : World) (b : Bool) (f i j : Int) (news : Led) : Value → Led → Prop := fun r n => ∃ f' q' : Nat, f' < 6 ∧ q' < 4 ^ 30 ∧ ((b = true ∧ f' = f.toNat ∧ q' = PP f.toNat i.toNat j.toNat) ∨ (b = false ∧ (f' : Int) ≠ f)) ∧ OutC w (cid f' q' 30) news r n
structure InF (i j : Int) : Prop where
  i0 : 0 ≤ i
  i1 : i < 1073741824
  j0 : 0 ≤ j
  j1 : j < 1073741824
section
variable {fa : Addr} {d : Nat} {vs : List Value} {f i j : Int} {b : Bool}
  {dp un : Nat} {gd : Option (List Code)} {cn : PySem.Str} {cs : Scope} {a : Addr} {ccd : Value} {cl : List (PySem.Str × Addr)} {outer : List Env} {A₀ : Around} {base h₀ : Heap} {L : Addr} {m : PySem.Str → Option Value} {s : Shared}
theorem sp_useWM {pos : List Value} {self : Value} {qa : Addr} {Q E : Value → Shared → Prop} (S : Sp d w p loose mean mg mb fa news (self :: pos) (OutW w f news)) (B : Below A₀ base outer h₀) (F : Fr h₀ L s.heap m) (X : (Mine.hd.heap_39 w.params).In h₀) (N : News h₀ L s.heap news) (T : Top p loose mean mg mb h₀) (hk : cs.kind = .function) (hdp : dp + d < recursionLimit) (hun : un + 20 * d < cLine) (hq : (qa, methodObj (.ref fa) self) ∈ news)
    (ret : ∀ (f' q' : Nat) (x dx : Addr) (t tk : Tok) h' tk', f' < 6 → (f' : Int) ≠ f → q' < 4 ^ 30 → (∀ p ∈ news, p.1 < dx) → dx < x → Fr h₀ L h' m → News h₀ L h' ((x, cellO dx) :: (dx, cellD w (cid f' q' 30 : Int) t tk) :: news) → Q (.ref x) { s with heap := h', toks := tk' }) :
    wpAny (model PySem.Challenge.rw_fb0049_01.row.prog w) (ktrTop dp un gd cn cs L a ccd cl outer) (call (.ref qa) pos) Q E s :=
  sp_use' S B F X N T hk hdp hun hq fun r n h' tk' F' N' o => by
    obtain ⟨f', q', g1, g2, g3, x, dx, t, tk, rfl, rfl, o1, o2⟩ := o
    exact ret f' q' x dx t tk h' tk' g1 g2 g3 o1 o2 F' N'
theorem sp_useSM {pos : List Value} {self : Value} {qa : Addr} {Q E : Value → Shared → Prop} (S : Sp d w p loose mean mg mb fa news (self :: pos) (OutS w b f i j news)) (B : Below A₀ base outer h₀) (F : Fr h₀ L s.heap m) (X : (Mine.hd.heap_39 w.params).In h₀) (N : News h₀ L s.heap news) (T : Top p loose mean mg mb h₀) (hk : cs.kind = .function) (hdp : dp + d < recursionLimit) (hun : un + 20 * d < cLine) (hq : (qa, methodObj (.ref fa) self) ∈ news)
    (ret : ∀ (f' q' : Nat) (x dx : Addr) (t tk : Tok) h' tk', f' < 6 → q' < 4 ^ 30 → ((b = true ∧ f' = f.toNat ∧ q' = PP f.toNat i.toNat j.toNat) ∨ (b = false ∧ (f' : Int) ≠ f)) → (∀ p ∈ news, p.1 < dx) → dx < x → Fr h₀ L h' m → News h₀ L h' ((x, cellO dx) :: (dx, cellD w (cid f' q' 30 : Int) t tk) :: news) → Q (.ref x) { s with heap := h', toks := tk' }) :
    wpAny (model PySem.Challenge.rw_fb0049_01.row.prog w) (ktrTop dp un gd cn cs L a ccd cl outer) (call (.ref qa) pos) Q E s :=
  sp_use' S B F X N T hk hdp hun hq fun r n h' tk' F' N' o => by
    obtain ⟨f', q', g1, g2, g3, x, dx, t, tk, rfl, rfl, o1, o2⟩ := o
    exact ret f' q' x dx t tk h' tk' g1 g2 g3 o1 o2 F' N'
end
section
variable {f i j : Int} {b : Bool}
local macro_rules | `(tactic| walk_at "eval Name") => `(tactic| (k_here; (with_reducible show wpAny _ _ (eval (Expr.Name _ _) (compEnvC _ _ _ _)) _ _ _); k_dflt (first
  | (name_kind "cell" "free"; refine kcf_cell (by k_asm) (by rfl) (by k_mem) (by k_asm) ?_)
  | (name_kind "local"; refine LCgL.ld_own (by k_asm) (by k_mem) (by assumption) (by assumption) ?_)
  | (name_kind "globalImplicit"; refine LCgL.ld_global (by k_asm) (by k_asm) (by k_asm) (by k_is) ?_))))
local macro_rules | `(tactic| walk_at "eval Name") => `(tactic| (k_here; (fail_if_success (with_reducible show wpAny _ _ (eval (Expr.Name _ _) (compEnvC _ _ _ _)) _ _ _)); k_dflt (first
  | (name_kind "local"; refine' nmL ?F ?q ?v ?_; (case F => k_asm); (case q => decide +kernel); (case v => rfl); k_whole)
  | (name_kind "cell"; refine' nmC ?N ?q ?c ?m ?d ?_; (case q => decide +kernel); (case N => k_asm); (case c => rfl); (case m => k_mem); (case d => k_asm); k_whole)
  | (name_kind "globalImplicit"; refine' nmK ?F ?X ?T ?q ?e ?_; (case q => decide +kernel); (case F => k_asm); (case X => k_asm); (case T => k_asm); (case e => k_is); k_whole)
  | (name_kind "globalImplicit"; refine' nmB ?F ?X ?T ?q ?e ?v ?n ?_; (case q => decide +kernel); (case F => k_asm); (case X => k_asm); (case T => k_asm); (case e => k_is); (case v => boot_fast); (case n => decide); k_whole))))
local macro_rules | `(tactic| walk_at "callWith ref") => `(tactic| (k_here; k_dflt (first
  | ((with_reducible refine' callWith_K ?k1 ?k2 ?_); (case k1 => k_asm); (case k2 => k_is); k_whole)
  | ((with_reducible refine' callWith_K0n ?kF ?kX ?kk ?_); (case kF => with_reducible assumption); (case kX => k_asm); (case kk => k_is); k_whole)
  | ((with_reducible refine' callWith_M ?k1 ?k2 ?k3 ?k4 ?_); (case k1 => k_asm); (case k2 => k_asm); (case k3 => k_mem); (case k4 => k_is); k_whole)
  | ((with_reducible refine' callWith_M0 ?k1 ?k2 ?_); (case k1 => k_meth); (case k2 => k_is); k_whole; try dsimp only [List.nil_append, List.cons_append]))))
local macro_rules | `(tactic| walk_at "loadName") => `(tactic| (k_here; k_dflt (refine' ldL ?F ?q ?v ?_; (case F => k_asm); (case q => decide +kernel); (case v => rfl); k_whole)))
local macro_rules | `(tactic| walk_at "subscriptTail Name Constant ref int") => `(tactic| (k_here; k_dflt (refine' item_tupleT ?t ?a ?b ?c ?d ?_; (case t => exact News.isTup (by k_asm) (by k_mem)); (case a => decide); (case b => decide); (case c => rfl); (case d => rfl); k_whole)))
local macro_rules | `(tactic| walk_at "getAttr ref") => `(tactic| (k_here; k_dflt (first
  | ((with_reducible show wpAny _ _ (getAttr (Value.ref _) (PySem.Str.ofString "__class__") _) _ _ _); refine' get_class ?k1 ?k2 ?k3 ?k4 ?k5 ?k6 ?k7 ?k8 ?k9 ?_; (case k1 => k_asm); (case k2 => k_asm); (case k3 => k_inst); (case k4 => k_is); (case k5 => k_is); (case k6 => k_is); (case k7 => k_is); (case k8 => k_is); (case k9 => k_is); k_whole)
  | (refine' cls_val ?k1 ?k2 ?k3 ?k4 ?k5 ?k6 ?_; (case k1 => k_asm); (case k2 => k_asm); (case k3 => k_is); (case k4 => k_is); (case k5 => k_is); (case k6 => k_handed); k_whole))))
local macro_rules | `(tactic| walk_at "spliced") => `(tactic| (k_here; k_dflt (first | refine args_cons ?_ | refine args_nil ?_)))
local macro_rules | `(tactic| walk_at "eval Call Name cons nil") => `(tactic| (k_here; k_dflt (refine Call_ ?_)))
local macro_rules | `(tactic| walk_at "storeName") => `(tactic| (k_here; k_dflt (refine' stL ?F ?N ?q ?_; (case q => decide +kernel); (case F => k_asm); (case N => k_asm); k_whole; intro h' F' N'; (try k_sweep))))
local macro_rules | `(tactic| walk_at "getMethod ref") => `(tactic| (k_here; k_dflt (first
  | (refine' method_inst ?k1 ?k2 ?k3 ?k4 ?k5 ?k6 ?k7 ?_; (case k1 => k_asm); (case k2 => k_asm); (case k3 => k_inst); (case k4 => k_is); (case k5 => k_is); (case k6 => k_is); (case k7 => k_get); k_whole)
  | (refine' kmu_cm ?k1 ?k2 ?k3 ?k4 ?k5 ?k6 ?k7 ?k8 ?k9 ?k10 ?k11 ?k12 ?k13 ?_; (case k1 => k_asm); (case k2 => k_asm); (case k3 => k_asm); (case k4 => k_inst); (case k5 => k_is); (case k6 => k_is); (case k7 => k_is); (case k8 => k_is); (case k9 => k_is); (case k10 => k_is); (case k11 => decide +kernel); (case k12 => k_get); (case k13 => k_is); k_whole; intro q' h' F' N' l1; (try k_lt l1); (try k_sweep)))))
local macro_rules | `(tactic| k_mem) => `(tactic| (first | exact mem_hd | ktr_member | (refine mem_tl ?_; first | exact mem_hd | ktr_member | (refine mem_tl ?_; first | exact mem_hd | ktr_member | (refine mem_tl ?_; first | exact mem_hd | ktr_member | (refine mem_tl ?_; first | exact mem_hd | ktr_member | (refine mem_tl ?_; first | exact mem_hd | ktr_member | (refine mem_tl ?_; first | exact mem_hd | ktr_member | (refine mem_tl ?_; first | exact mem_hd | ktr_member | (refine mem_tl ?_; first | exact mem_hd | ktr_member | (refine mem_tl ?_; first | exact mem_hd | ktr_member | (refine mem_tl ?_; first | exact mem_hd | ktr_member | (refine mem_tl ?_; first | exact mem_hd | ktr_member | (refine mem_tl ?_; first | exact mem_hd | ktr_member | (refine mem_tl ?_; first | exact mem_hd | ktr_member | (refine mem_tl ?_; ktr_member))))))))))))))))
local macro_rules | `(tactic| walk_at "getMethod ref") => `(tactic| (k_here; (with_reducible show wpAny _ _ (getMethod (Value.ref _) (PySem.Str.ofString "__class__") _) _ _ _); k_dflt ((first | (with_reducible refine' method_usual (r := some (.builtin "object.__class__")) ?kX ?kI ?ka ?kb ?kc ?kd ?_) | (refine' method_usual (r := some (.builtin "object.__class__")) ?kX ?kI ?ka ?kb ?kc ?kd ?_)); (case kX => k_in); (case kI => k_inst); (case ka => k_is); (case kb => k_is); (case kc => k_is); (case kd => exact rfl); k_whole)))
local macro_rules | `(tactic| k_all) => `(tactic| exact ne_of_l1 (by assumption))
local macro_rules | `(tactic| k_in) => `(tactic| (refine Frag.In.keeps ?_ (Fr.keep (by with_reducible assumption)); with_reducible assumption))
local macro_rules | `(tactic| walk_at "callWith ref cons nil") => `(tactic| (k_here; k_dflt ((with_reducible refine' callWith_K0' ?kF ?kX ?kk ?_); (case kF => with_reducible assumption); (case kX => k_asm); (case kk => k_is); k_whole)))
local macro_rules | `(tactic| walk_at "call ref") => `(tactic| (k_here; k_dflt ((first | (with_reducible refine' sp_useWM (wrap_cs ?c0 ?c1 ?c2) ?k1 ?k2 ?k3 ?k4 ?k5 ?kK ?kd ?ku ?kq ?_) | (refine' sp_useWM (wrap_cs ?c0 ?c1 ?c2) ?k1 ?k2 ?k3 ?k4 ?k5 ?kK ?kd ?ku ?kq ?_)); (case k1 => k_asm); (case k2 => k_asm); (case k3 => k_asm); (case k4 => k_asm); (case k5 => k_asm); (case kq => k_mem); (case c0 => assumption); (case c1 => assumption); (case c2 => assumption); (case kK => first | exact rfl | assumption); (case kd => first | exact roomK (by with_reducible assumption) (Nat.le_of_ble_eq_true rfl) | exact roomL _ rfl | ktr_room); (case ku => first | exact unitK (by with_reducible assumption) (Nat.le_of_ble_eq_true rfl) | exact unitL _ rfl | ktr_units); k_whole; intro f9 q9 x9 d9 t9 k9 h9 tk9 e1 e2 e3 la9 lb9 F9 N9; (try dsimp only); (try k_sweep); (try k_fold))))
local macro_rules | `(tactic| walk_at "call ref") => `(tactic| (k_here; k_dflt ((first | (with_reducible refine' sp_useCM (from_ij_int ?c0 ?c1 ?c2 ?c3 ?c4 ?c5) ?k1 ?k2 ?k3 ?k4 ?k5 ?kK ?kd ?ku ?kq ?_) | (refine' sp_useCM (from_ij_int ?c0 ?c1 ?c2 ?c3 ?c4 ?c5) ?k1 ?k2 ?k3 ?k4 ?k5 ?kK ?kd ?ku ?kq ?_)); (case k1 => k_asm); (case k2 => k_asm); (case k3 => k_asm); (case k4 => k_asm); (case k5 => k_asm); (case kq => k_mem); (case c0 => assumption); (case c1 => assumption); (case c2 => exact (InF.i0 (by assumption))); (case c3 => exact (InF.i1 (by assumption))); (case c4 => exact (InF.j0 (by assumption))); (case c5 => exact (InF.j1 (by assumption))); (case kK => first | exact rfl | assumption); (case kd => first | exact roomK (by with_reducible assumption) (Nat.le_of_ble_eq_true rfl) | exact roomL _ rfl | ktr_room); (case ku => first | exact unitK (by with_reducible assumption) (Nat.le_of_ble_eq_true rfl) | exact unitL _ rfl | ktr_units); k_whole; intro x9 d9 t9 k9 h9 tk9 la9 lb9 F9 N9; (try dsimp only); (try k_sweep); (try k_fold))))
theorem same_t {tf ti tj : Tok} (f0 : 0 ≤ f) (f6 : f < 6) (ho : InF i j) : Sp 13 w p loose mean mg mb 265 news [.ref 561, .int f tf, .int i ti, .int j tj, .bool true] (OutS w true f i j news) := by
  unfold Sp
  k_fill
  intro dp un gd cn cs a1 ccd cl outer A₀ base h₀ L m1 s R B F X' N T hk' hdp hun hret
  k_dflt (refine' code_def ?k1 ?k2 ?k3 ?k4 ?k5 ?kA ?kF ?kK ?k6 ?k7 ?k8 ?k9 ?kB ?_ ?c2 ?c3 ?c4 ?c5; (case kA => exact rfl); (case kF => exact rfl); (case kK => first | assumption | exact rfl); (case k1 => k_asm); (case k2 => k_asm); (case k3 => k_asm); (case k4 => k_asm); (case k5 => k_asm); (case k6 => k_is); (case k7 => k_is); (case k8 => ktr_room); (case k9 => first | exact BindsTo.of_eq rfl | exact binds_K (by k_in) rfl (by k_is) rfl rfl rfl); (case c5 => decide); (case kB => exact locs rfl); (case c2 => exact rfl); (case c3 => exact rfl); (case c4 => exact rfl); k_whole; intro g' L' h' FG' F' N' B' X' T'; (try dsimp only); (try k_lift B'); (try k_fold))
  repeat' (first | (k_unfold; (try dsimp only)) | (k_end; wrow_close) | ((try dsimp only); walk1) | (leave1; walk_say "STEP leave1"; try dsimp only) | fail "no step")
  all_goals refine hret _ _ _ _ (by k_asm) (news_drop2 (c := [_]) (by k_asm)) ⟨_, _, ?_, ?_, ?_, _, _, _, _, rfl, rfl, lt_drop (c := [_]) (by assumption), by assumption⟩
  · show f.toNat < 6
    omega
  · exact PP_lt _ _ _ (by have := ho.i1; have := ho.i0; omega) (by have := ho.j1; have := ho.j0; omega)
  · exact Or.inl ⟨rfl, rfl, rfl⟩
theorem same_f {tf ti tj : Tok} (f0 : 0 ≤ f) (f6 : f < 6) (ho : Beyond i j) : Sp 13 w p loose mean mg mb 265 news [.ref 561, .int f tf, .int i ti, .int j tj, .bool false] (OutS w false f i j news) := by
  unfold Sp
  k_fill
  intro dp un gd cn cs a1 ccd cl outer A₀ base h₀ L m1 s R B F X' N T hk' hdp hun hret
  k_dflt (refine' code_def ?k1 ?k2 ?k3 ?k4 ?k5 ?kA ?kF ?kK ?k6 ?k7 ?k8 ?k9 ?kB ?_ ?c2 ?c3 ?c4 ?c5; (case kA => exact rfl); (case kF => exact rfl); (case kK => first | assumption | exact rfl); (case k1 => k_asm); (case k2 => k_asm); (case k3 => k_asm); (case k4 => k_asm); (case k5 => k_asm); (case k6 => k_is); (case k7 => k_is); (case k8 => ktr_room); (case k9 => first | exact BindsTo.of_eq rfl | exact binds_K (by k_in) rfl (by k_is) rfl rfl rfl); (case c5 => decide); (case kB => exact locs rfl); (case c2 => exact rfl); (case c3 => exact rfl); (case c4 => exact rfl); k_whole; intro g' L' h' FG' F' N' B' X' T'; (try dsimp only); (try k_lift B'); (try k_fold))
  repeat' (first | (k_unfold; (try dsimp only)) | (k_end; wrow_close) | ((try dsimp only); walk1) | (leave1; walk_say "STEP leave1"; try dsimp only) | fail "no step")
  all_goals exact hret _ _ _ _ (by k_asm) (news_drop2 (c := [_]) (by k_asm)) ⟨_, _, by assumption, by assumption, Or.inr ⟨rfl, by assumption⟩, _, _, _, _, rfl, rfl, lt_drop (c := [_]) (by assumption), by assumption⟩
theorem same_cs {tf ti tj : Tok} (f0 : 0 ≤ f) (f6 : f < 6) (hi : b = true → InF i j) (ho : b = false → Beyond i j) : Sp 13 w p loose mean mg mb 265 news [.ref 561, .int f tf, .int i ti, .int j tj, .bool b] (OutS w b f i j news) := by
  cases b
  · exact same_f f0 f6 (ho rfl)
  · exact same_t f0 f6 (hi rfl)
end
end Mine
/- part S17 -/
set_option Elab.async false
set_option maxRecDepth 100000
set_option maxHeartbeats 2000000
namespace Mine
open PySem PySem.W PySem.Spec PySem.Calls PyProof.Rows
variable {w : World} {p : Program} {loose : List PySem.Str} {mean : ExcName → Option Value} {mg mb : PySem.Str → Option Value} {news : Led} {x dx : Addr} {v : Int} {t tk : Tok}
theorem size_b (l : Nat) (hl : l ≤ 30) : (1 : Int) ≤ 2 ^ (30 - (l : Int)).toNat ∧ (2 : Int) ^ (30 - (l : Int)).toNat ≤ 1073741824 := by
  rw [show (30 - (l : Int)).toNat = 30 - l by omega]
  have h1 : (1 : Nat) ≤ 2 ^ (30 - l) := Nat.one_le_two_pow
  have h2 : (2 : Nat) ^ (30 - l) ≤ 2 ^ 30 := Nat.pow_le_pow_right (by decide) (by omega)
  have e : ((2 ^ (30 - l) : Nat) : Int) = 2 ^ (30 - l) := by push_cast; rfl
  rw [← e]
  omega
def NB (c : Bool) (f : Nat) (i j : Int) (f' q' : Nat) : Prop := (c = true ∧ f' = f ∧ q' = PP f i.toNat j.toNat) ∨ (c = false ∧ f' ≠ f)
theorem NB.of {c : Bool} {f : Nat} {i j : Int} {f' q' : Nat} (e : (c = true ∧ f' = (f : Int).toNat ∧ q' = PP (f : Int).toNat i.toNat j.toNat) ∨ (c = false ∧ (f' : Int) ≠ f)) : NB c f i j f' q' := by
  rcases e with ⟨h1, h2, h3⟩ | ⟨h1, h2⟩
  · exact Or.inl ⟨h1, by simpa using h2, by simpa using h3⟩
  · exact Or.inr ⟨h1, fun h => h2 (by rw [h])⟩
theorem news_subl {h₀ h : Heap} {L : Addr} {l l' : Led} (hs : List.Sublist l l') (N : News h₀ L h l') : News h₀ L h l := fun p hp => N p (hs.subset hp)
theorem lt_at3 {d x : Addr} {a b c : Addr × Obj} {o : Obj} {l : Led} (la : ∀ p ∈ a :: b :: c :: (x, o) :: l, p.1 < d) : x < d := la (x, o) (.tail _ (.tail _ (.tail _ (.head _))))
theorem lt_sub {d : Addr} {l l' : Led} (hs : List.Sublist l l') (la : ∀ p ∈ l', p.1 < d) : ∀ p ∈ l, p.1 < d := fun p hp => la p (hs.subset hp)
abbrev sz (l : Nat) : Int := 2 ^ (30 - (l : Int)).toNat
abbrev tup4r (a b c d : Addr) : Obj := { cls := .type "tuple", data := .seq #[.ref a, .ref b, .ref c, .ref d] }
abbrev OutN (w : World) (f q l : Nat) (news : Led) : Value → Led → Prop := fun r n => ∃ (a x1 d1 x2 d2 x3 d3 x4 d4 : Addr) (t1 t2 t3 t4 k1 k2 k3 k4 : Tok) (f1 q1 f2 q2 f3 q3 f4 q4 : Nat), r = .ref a ∧
  n = (a, tup4r x1 x2 x3 x4) :: (x4, cellO d4) :: (d4, cellD w (cid f4 (q4 / 4 ^ (30 - l)) l : Int) t4 k4) :: (x3, cellO d3) :: (d3, cellD w (cid f3 (q3 / 4 ^ (30 - l)) l : Int) t3 k3) ::
    (x2, cellO d2) :: (d2, cellD w (cid f2 (q2 / 4 ^ (30 - l)) l : Int) t2 k2) :: (x1, cellO d1) :: (d1, cellD w (cid f1 (q1 / 4 ^ (30 - l)) l : Int) t1 k1) :: news ∧
  (f1 < 6 ∧ q1 < 4 ^ 30 ∧ NB (decide (0 ≤ (LY f q l : Int) - sz l)) f (LX f q l) ((LY f q l : Int) - sz l) f1 q1) ∧
  (f2 < 6 ∧ q2 < 4 ^ 30 ∧ NB (decide ((LX f q l : Int) + sz l < 1073741824)) f ((LX f q l : Int) + sz l) (LY f q l) f2 q2) ∧
  (f3 < 6 ∧ q3 < 4 ^ 30 ∧ NB (decide ((LY f q l : Int) + sz l < 1073741824)) f (LX f q l) ((LY f q l : Int) + sz l) f3 q3) ∧
  (f4 < 6 ∧ q4 < 4 ^ 30 ∧ NB (decide (0 ≤ (LX f q l : Int) - sz l)) f ((LX f q l : Int) - sz l) (LY f q l) f4 q4) ∧
  (∀ p ∈ news, p.1 < d1) ∧ d1 < x1 ∧ x1 < d2 ∧ d2 < x2 ∧ x2 < d3 ∧ d3 < x3 ∧ x3 < d4 ∧ d4 < x4 ∧ x4 < a
section
variable {f q l : Nat}
local macro_rules | `(tactic| walk_at "eval Name") => `(tactic| (k_here; (with_reducible show wpAny _ _ (eval (Expr.Name _ _) (compEnvC _ _ _ _)) _ _ _); k_dflt (first
  | (name_kind "cell" "free"; refine kcf_cell (by k_asm) (by rfl) (by k_mem) (by k_asm) ?_)
  | (name_kind "local"; refine LCgL.ld_own (by k_asm) (by k_mem) (by assumption) (by assumption) ?_)
  | (name_kind "globalImplicit"; refine LCgL.ld_global (by k_asm) (by k_asm) (by k_asm) (by k_is) ?_))))
local macro_rules | `(tactic| walk_at "eval Name") => `(tactic| (k_here; (fail_if_success (with_reducible show wpAny _ _ (eval (Expr.Name _ _) (compEnvC _ _ _ _)) _ _ _)); k_dflt (first
  | (name_kind "local"; refine' nmL ?F ?q ?v ?_; (case F => k_asm); (case q => decide +kernel); (case v => rfl); k_whole)
  | (name_kind "cell"; refine' nmC ?N ?q ?c ?m ?d ?_; (case q => decide +kernel); (case N => k_asm); (case c => rfl); (case m => k_mem); (case d => k_asm); k_whole)
  | (name_kind "globalImplicit"; refine' nmK ?F ?X ?T ?q ?e ?_; (case q => decide +kernel); (case F => k_asm); (case X => k_asm); (case T => k_asm); (case e => k_is); k_whole)
  | (name_kind "globalImplicit"; refine' nmB ?F ?X ?T ?q ?e ?v ?n ?_; (case q => decide +kernel); (case F => k_asm); (case X => k_asm); (case T => k_asm); (case e => k_is); (case v => boot_fast); (case n => decide); k_whole))))
local macro_rules | `(tactic| walk_at "callWith ref") => `(tactic| (k_here; k_dflt (first
  | ((with_reducible refine' callWith_K ?k1 ?k2 ?_); (case k1 => k_asm); (case k2 => k_is); k_whole)
  | ((with_reducible refine' callWith_K0n ?kF ?kX ?kk ?_); (case kF => with_reducible assumption); (case kX => k_asm); (case kk => k_is); k_whole)
  | ((with_reducible refine' callWith_M ?k1 ?k2 ?k3 ?k4 ?_); (case k1 => k_asm); (case k2 => k_asm); (case k3 => k_mem); (case k4 => k_is); k_whole)
  | ((with_reducible refine' callWith_M0 ?k1 ?k2 ?_); (case k1 => k_meth); (case k2 => k_is); k_whole; try dsimp only [List.nil_append, List.cons_append]))))
local macro_rules | `(tactic| walk_at "loadName") => `(tactic| (k_here; k_dflt (refine' ldL ?F ?q ?v ?_; (case F => k_asm); (case q => decide +kernel); (case v => rfl); k_whole)))
local macro_rules | `(tactic| walk_at "subscriptTail Name Constant ref int") => `(tactic| (k_here; k_dflt (refine' item_tupleT ?t ?a ?b ?c ?d ?_; (case t => exact News.isTup (by k_asm) (by k_mem)); (case a => decide); (case b => decide); (case c => rfl); (case d => rfl); k_whole)))
local macro_rules | `(tactic| walk_at "getAttr ref") => `(tactic| (k_here; k_dflt (first
  | ((with_reducible show wpAny _ _ (getAttr (Value.ref _) (PySem.Str.ofString "__class__") _) _ _ _); refine' get_class ?k1 ?k2 ?k3 ?k4 ?k5 ?k6 ?k7 ?k8 ?k9 ?_; (case k1 => k_asm); (case k2 => k_asm); (case k3 => k_inst); (case k4 => k_is); (case k5 => k_is); (case k6 => k_is); (case k7 => k_is); (case k8 => k_is); (case k9 => k_is); k_whole)
  | (refine' cls_val ?k1 ?k2 ?k3 ?k4 ?k5 ?k6 ?_; (case k1 => k_asm); (case k2 => k_asm); (case k3 => k_is); (case k4 => k_is); (case k5 => k_is); (case k6 => k_handed); k_whole))))
local macro_rules | `(tactic| walk_at "spliced") => `(tactic| (k_here; k_dflt (first | refine args_cons ?_ | refine args_nil ?_)))
local macro_rules | `(tactic| walk_at "eval Call Name cons nil") => `(tactic| (k_here; k_dflt (refine Call_ ?_)))
local macro_rules | `(tactic| walk_at "storeName") => `(tactic| (k_here; k_dflt (refine' stL ?F ?N ?q ?_; (case q => decide +kernel); (case F => k_asm); (case N => k_asm); k_whole; intro h' F' N'; (try k_sweep))))
local macro_rules | `(tactic| walk_at "getMethod ref") => `(tactic| (k_here; k_dflt (first
  | (refine' method_inst ?k1 ?k2 ?k3 ?k4 ?k5 ?k6 ?k7 ?_; (case k1 => k_asm); (case k2 => k_asm); (case k3 => k_inst); (case k4 => k_is); (case k5 => k_is); (case k6 => k_is); (case k7 => k_get); k_whole)
  | (refine' kmu_cm ?k1 ?k2 ?k3 ?k4 ?k5 ?k6 ?k7 ?k8 ?k9 ?k10 ?k11 ?k12 ?k13 ?_; (case k1 => k_asm); (case k2 => k_asm); (case k3 => k_asm); (case k4 => k_inst); (case k5 => k_is); (case k6 => k_is); (case k7 => k_is); (case k8 => k_is); (case k9 => k_is); (case k10 => k_is); (case k11 => decide +kernel); (case k12 => k_get); (case k13 => k_is); k_whole; intro q' h' F' N' l1; (try k_lt l1); (try k_sweep)))))
local macro_rules | `(tactic| k_mem) => `(tactic| (first | exact mem_hd | ktr_member | (refine mem_tl ?_; first | exact mem_hd | ktr_member | (refine mem_tl ?_; first | exact mem_hd | ktr_member | (refine mem_tl ?_; first | exact mem_hd | ktr_member | (refine mem_tl ?_; first | exact mem_hd | ktr_member | (refine mem_tl ?_; first | exact mem_hd | ktr_member | (refine mem_tl ?_; first | exact mem_hd | ktr_member | (refine mem_tl ?_; first | exact mem_hd | ktr_member | (refine mem_tl ?_; first | exact mem_hd | ktr_member | (refine mem_tl ?_; first | exact mem_hd | ktr_member | (refine mem_tl ?_; first | exact mem_hd | ktr_member | (refine mem_tl ?_; first | exact mem_hd | ktr_member | (refine mem_tl ?_; first | exact mem_hd | ktr_member | (refine mem_tl ?_; first | exact mem_hd | ktr_member | (refine mem_tl ?_; ktr_member))))))))))))))))
local macro_rules | `(tactic| walk_at "getMethod ref") => `(tactic| (k_here; (with_reducible show wpAny _ _ (getMethod (Value.ref _) (PySem.Str.ofString "__class__") _) _ _ _); k_dflt ((first | (with_reducible refine' method_usual (r := some (.builtin "object.__class__")) ?kX ?kI ?ka ?kb ?kc ?kd ?_) | (refine' method_usual (r := some (.builtin "object.__class__")) ?kX ?kI ?ka ?kb ?kc ?kd ?_)); (case kX => k_in); (case kI => k_inst); (case ka => k_is); (case kb => k_is); (case kc => k_is); (case kd => exact rfl); k_whole)))
local macro_rules | `(tactic| k_all) => `(tactic| exact ne_of_l1 (by assumption))
local macro_rules | `(tactic| k_in) => `(tactic| (refine Frag.In.keeps ?_ (Fr.keep (by with_reducible assumption)); with_reducible assumption))
local macro_rules | `(tactic| walk_at "callWith ref cons nil") => `(tactic| (k_here; k_dflt ((with_reducible refine' callWith_K0' ?kF ?kX ?kk ?_); (case kF => with_reducible assumption); (case kX => k_asm); (case kk => k_is); k_whole)))
theorem get_size_s2 {x dx : Addr} {v j : Int} {t t2 tk : Tok} (hx : (x, cellO dx) ∈ news) (hd : (dx, cellD w v t tk) ∈ news) (h0 : 0 ≤ j) (h1 : j ≤ 30) : Sp 2 w p loose mean mg mb 541 news [.ref x, .int j t2] (OutI (2 ^ (30 - j).toNat) news) := by
  unfold Sp
  k_fill
  intro dp un gd cn cs a ccd cl outer A₀ base h₀ L m s R B F X N T hk hdp hun hret
  k_dflt (refine' kp_rest ?k1 ?k2 ?k3 ?k4 ?k5 ?kA ?kF ?kK ?k6 ?k7 ?k8 ?kV ?kP ?kG ?kB ?_ ?c2 ?c3 ?c4 ?c5; (case kA => exact rfl); (case kF => exact rfl); (case kK => first | assumption | exact rfl); (case k1 => k_asm); (case k2 => k_asm); (case k3 => k_asm); (case k4 => k_asm); (case k5 => k_asm); (case k6 => k_is); (case k7 => k_is); (case k8 => ktr_room); (case kV => kl_lit); (case kP => exact rfl); (case kG => exact fun _ => rfl); (case kB => exact fun _ => locs rfl); (case c5 => decide); (case c2 => exact rfl); (case c3 => exact rfl); (case c4 => exact rfl); k_whole; intro D' g' L' h' l1 FG' F' N' B' X' T'; (try k_lt l1); (try dsimp only); (try k_lift B'); (try k_fold))
  k_steps
  all_goals exact hret _ news _ _ (by k_asm) (by first | k_asm | exact news_tl (by k_asm) | exact news_tl (news_tl (by k_asm)) | exact news_tl (news_tl (news_tl (by k_asm)))) (outI (by exact Int.one_mul _))
local macro_rules | `(tactic| ktr_rel) => `(tactic| (first | exact (by assumption) | exact isCell_new | exact (isCell_tail (by assumption)) | exact (isCell_tail isCell_new) | exact (isCell_tail (isCell_tail (by assumption))) | exact (isCell_tail (isCell_tail isCell_new)) | exact (isCell_tail (isCell_tail (isCell_tail (by assumption)))) | exact (isCell_tail (isCell_tail (isCell_tail isCell_new))) | exact (isCell_tail (isCell_tail (isCell_tail (isCell_tail (by assumption))))) | exact (isCell_tail (isCell_tail (isCell_tail (isCell_tail isCell_new)))) | exact (isCell_tail (isCell_tail (isCell_tail (isCell_tail (isCell_tail (by assumption)))))) | exact (isCell_tail (isCell_tail (isCell_tail (isCell_tail (isCell_tail isCell_new))))) | exact (isCell_tail (isCell_tail (isCell_tail (isCell_tail (isCell_tail (isCell_tail (by assumption))))))) | exact (isCell_tail (isCell_tail (isCell_tail (isCell_tail (isCell_tail (isCell_tail isCell_new)))))) | exact (isCell_tail (isCell_tail (isCell_tail (isCell_tail (isCell_tail (isCell_tail (isCell_tail (by assumption)))))))) | exact (isCell_tail (isCell_tail (isCell_tail (isCell_tail (isCell_tail (isCell_tail (isCell_tail isCell_new))))))) | exact (isCell_tail (isCell_tail (isCell_tail (isCell_tail (isCell_tail (isCell_tail (isCell_tail (isCell_tail (by assumption))))))))) | exact (isCell_tail (isCell_tail (isCell_tail (isCell_tail (isCell_tail (isCell_tail (isCell_tail (isCell_tail isCell_new)))))))) | exact (isCell_tail (isCell_tail (isCell_tail (isCell_tail (isCell_tail (isCell_tail (isCell_tail (isCell_tail (isCell_tail (by assumption)))))))))) | exact (isCell_tail (isCell_tail (isCell_tail (isCell_tail (isCell_tail (isCell_tail (isCell_tail (isCell_tail (isCell_tail isCell_new)))))))))))
local macro_rules | `(tactic| walk_at "call ref") => `(tactic| (k_here; (with_reducible show wpAny _ _ (call (Value.ref 372) _ _) _ _ _); k_dflt ((first | (with_reducible refine' sp_useI (level_cs ?c0 ?c1) ?k1 ?k2 ?k3 ?k4 ?k5 ?kK ?kd ?ku ?_) | (refine' sp_useI (level_cs ?c0 ?c1) ?k1 ?k2 ?k3 ?k4 ?k5 ?kK ?kd ?ku ?_)); (case k1 => k_asm); (case k2 => k_asm); (case k3 => k_asm); (case k4 => k_asm); (case k5 => k_asm); (case c0 => ktr_rel); (case c1 => assumption); (case kK => first | exact rfl | assumption); (case kd => first | exact roomK (by with_reducible assumption) (Nat.le_of_ble_eq_true rfl) | exact roomL _ rfl | ktr_room); (case ku => first | exact unitK (by with_reducible assumption) (Nat.le_of_ble_eq_true rfl) | exact unitL _ rfl | ktr_units); k_whole; intro t9 h9 tk9 F9 N9; (try dsimp only); (try k_sweep); (try k_fold))))
local macro_rules | `(tactic| walk_at "call ref") => `(tactic| (k_here; (with_reducible show wpAny _ _ (call (Value.ref 541) _ _) _ _ _); k_dflt ((first | (with_reducible refine' sp_useI (get_size_s2 ?c0 ?c1 ?c2 ?c3) ?k1 ?k2 ?k3 ?k4 ?k5 ?kK ?kd ?ku ?_) | (refine' sp_useI (get_size_s2 ?c0 ?c1 ?c2 ?c3) ?k1 ?k2 ?k3 ?k4 ?k5 ?kK ?kd ?ku ?_)); (case k1 => k_asm); (case k2 => k_asm); (case k3 => k_asm); (case k4 => k_asm); (case k5 => k_asm); (case c0 => assumption); (case c1 => assumption); (case c2 => omega); (case c3 => omega); (case kK => first | exact rfl | assumption); (case kd => first | exact roomK (by with_reducible assumption) (Nat.le_of_ble_eq_true rfl) | exact roomL _ rfl | ktr_room); (case ku => first | exact unitK (by with_reducible assumption) (Nat.le_of_ble_eq_true rfl) | exact unitL _ rfl | ktr_units); k_whole; intro t9 h9 tk9 F9 N9; (try dsimp only); (try k_sweep); (try k_fold))))
local macro_rules | `(tactic| walk_at "call ref") => `(tactic| (k_here; (with_reducible show wpAny _ _ (call (Value.ref 513) _ _) _ _ _); k_dflt ((first | (with_reducible refine' sp_useQ (to_face_cs ?c0 ?c1 ?c2 ?c3) ?k1 ?k2 ?k3 ?k4 ?k5 ?kK ?kd ?ku ?_) | (refine' sp_useQ (to_face_cs ?c0 ?c1 ?c2 ?c3) ?k1 ?k2 ?k3 ?k4 ?k5 ?kK ?kd ?ku ?_)); (case k1 => k_asm); (case k2 => k_asm); (case k3 => k_asm); (case k4 => k_asm); (case k5 => k_asm); (case c0 => ktr_rel); (case c1 => assumption); (case c2 => assumption); (case c3 => assumption); (case kK => first | exact rfl | assumption); (case kd => first | exact roomK (by with_reducible assumption) (Nat.le_of_ble_eq_true rfl) | exact roomL _ rfl | ktr_room); (case ku => first | exact unitK (by with_reducible assumption) (Nat.le_of_ble_eq_true rfl) | exact unitL _ rfl | ktr_units); k_whole; intro a9 o9 t1 t2 t3 t4 h9 tk9 la9 F9 N9; (try dsimp only); (try k_sweep); (try k_fold))))
local macro_rules | `(tactic| walk_at "call ref") => `(tactic| (k_here; k_dflt ((first | (with_reducible refine' sp_useSM (same_cs ?c0 ?c1 ?c2 ?c3) ?k1 ?k2 ?k3 ?k4 ?k5 ?kK ?kd ?ku ?kq ?_) | (refine' sp_useSM (same_cs ?c0 ?c1 ?c2 ?c3) ?k1 ?k2 ?k3 ?k4 ?k5 ?kK ?kd ?ku ?kq ?_)); (case k1 => k_asm); (case k2 => k_asm); (case k3 => k_asm); (case k4 => k_asm); (case k5 => k_asm); (case kq => k_mem); (case c0 => omega); (case c1 => omega); (case c2 => (intro hb9; have hb8 := of_decide_eq_true hb9; exact ⟨by omega, by omega, by omega, by omega⟩)); (case c3 => (intro hb9; have hb8 := of_decide_eq_false hb9; unfold Beyond; omega)); (case kK => first | exact rfl | assumption); (case kd => first | exact roomK (by with_reducible assumption) (Nat.le_of_ble_eq_true rfl) | exact roomL _ rfl | ktr_room); (case ku => first | exact unitK (by with_reducible assumption) (Nat.le_of_ble_eq_true rfl) | exact unitL _ rfl | ktr_units); k_whole; intro f9 q9 x9 d9 t9 k9 h9 tk9 e1 e2 e3 la9 lb9 F9 N9; (try dsimp only); (try k_sweep); (try k_fold))))
local macro_rules | `(tactic| walk_at "call ref") => `(tactic| (k_here; (with_reducible show wpAny _ _ (call (Value.ref 295) _ _) _ _ _); k_dflt ((first | (with_reducible refine' sp_useC (parent_cs ?c0 ?c1 ?c2 ?c3 ?c4) ?k1 ?k2 ?k3 ?k4 ?k5 ?kK ?kd ?ku ?_) | (refine' sp_useC (parent_cs ?c0 ?c1 ?c2 ?c3 ?c4) ?k1 ?k2 ?k3 ?k4 ?k5 ?kK ?kd ?ku ?_)); (case k1 => k_asm); (case k2 => k_asm); (case k3 => k_asm); (case k4 => k_asm); (case k5 => k_asm); (case c0 => ktr_rel); (case c1 => assumption); (case c2 => exact Nat.le_refl 30); (case c3 => assumption); (case c4 => assumption); (case kK => first | exact rfl | assumption); (case kd => first | exact roomK (by with_reducible assumption) (Nat.le_of_ble_eq_true rfl) | exact roomL _ rfl | ktr_room); (case ku => first | exact unitK (by with_reducible assumption) (Nat.le_of_ble_eq_true rfl) | exact unitL _ rfl | ktr_units); k_whole; intro x9 d9 t9 k9 h9 tk9 la9 lb9 F9 N9; (try dsimp only); (try k_sweep); (try k_fold))))
theorem edge_cs (hc : IsCell w news x f q l) (hf : f < 6) (hl : l ≤ 30) (hq : q < 4 ^ l) : Sp 20 w p loose mean mg mb 520 news [.ref x] (OutN w f q l news) := by
  have sz := size_b l hl
  have lb := L_small f q l hl hq
  have hc' := hc
  obtain ⟨dx, t, tk, hx, hd⟩ := hc'
  unfold Sp
  k_fill
  intro dp un gd cn cs a1 ccd cl outer A₀ base h₀ L m1 s R B F X' N T hk' hdp hun hret
  k_dflt (refine' code_def ?k1 ?k2 ?k3 ?k4 ?k5 ?kA ?kF ?kK ?k6 ?k7 ?k8 ?k9 ?kB ?_ ?c2 ?c3 ?c4 ?c5; (case kA => exact rfl); (case kF => exact rfl); (case kK => first | assumption | exact rfl); (case k1 => k_asm); (case k2 => k_asm); (case k3 => k_asm); (case k4 => k_asm); (case k5 => k_asm); (case k6 => k_is); (case k7 => k_is); (case k8 => ktr_room); (case k9 => first | exact BindsTo.of_eq rfl | exact binds_K (by k_in) rfl (by k_is) rfl rfl rfl); (case c5 => decide); (case kB => exact locs rfl); (case c2 => exact rfl); (case c3 => exact rfl); (case c4 => exact rfl); k_whole; intro g' L' h' FG' F' N' B' X' T'; (try dsimp only); (try k_lift B'); (try k_fold))
  repeat' (first | (k_unfold; (try dsimp only)) | (k_end; wrow_close) | ((try dsimp only); walk1) | (leave1; walk_say "STEP leave1"; try dsimp only) | fail "no step")
  all_goals refine hret _ _ _ _ (by k_asm) (news_subl (List.Sublist.cons₂ _ (List.Sublist.cons₂ _ (List.Sublist.cons₂ _ (List.Sublist.cons _ (List.Sublist.cons _ (List.Sublist.cons _ (List.Sublist.cons₂ _ (List.Sublist.cons₂ _ (List.Sublist.cons _ (List.Sublist.cons _ (List.Sublist.cons _ (List.Sublist.cons₂ _ (List.Sublist.cons₂ _ (List.Sublist.cons _ (List.Sublist.cons _ (List.Sublist.cons _ (List.Sublist.cons₂ _ (List.Sublist.cons₂ _ (List.Sublist.cons _ (List.Sublist.cons _ (List.Sublist.cons _ (List.Sublist.cons _ (List.Sublist.refl _))))))))))))))))))))))) (by k_asm)) ⟨_, _, _, _, _, _, _, _, _, _, _, _, _, _, _, _, _, _, _, _, _, _, _, _, _, rfl, rfl, ⟨by with_reducible assumption, by with_reducible assumption, NB.of (by with_reducible assumption)⟩, ⟨by with_reducible assumption, by with_reducible assumption, NB.of (by with_reducible assumption)⟩, ⟨by with_reducible assumption, by with_reducible assumption, NB.of (by with_reducible assumption)⟩, ⟨by with_reducible assumption, by with_reducible assumption, NB.of (by with_reducible assumption)⟩, lt_sub (List.Sublist.cons _ (List.Sublist.cons _ (List.Sublist.cons _ (List.Sublist.cons _ (List.Sublist.refl _))))) (by assumption), by assumption, lt_at3 (by with_reducible assumption), by assumption, lt_at3 (by with_reducible assumption), by assumption, lt_at3 (by with_reducible assumption), by assumption, And.left (by assumption)⟩
end
end Mine
/- part S18 -/
set_option Elab.async false
set_option maxRecDepth 100000
set_option maxHeartbeats 1000000
namespace Mine
open PySem PySem.W PySem.Spec PySem.Calls PyProof.Rows
theorem nb_fin {c : Bool} {f : Nat} {i j : Int} {f' q' l x' y' : Nat} (h : NB c f i j f' q') (hl : l ≤ 30) (hin : c = true → i.toNat < 1073741824 ∧ j.toNat < 1073741824 ∧ i.toNat / 2 ^ (30 - l) = x' ∧ j.toNat / 2 ^ (30 - l) = y') :
    (c = true ∧ f' = f ∧ q' / 4 ^ (30 - l) = P l (f % 2) x' y') ∨ (c = false ∧ f' ≠ f) := by
  rcases h with ⟨h1, h2, h3⟩ | h
  · obtain ⟨a, b, c2, d⟩ := hin h1
    refine Or.inl ⟨h1, h2, ?_⟩
    rw [h3]; unfold PP
    rw [P_div l _ _ _ hl (by omega) a b, c2, d]
  · exact Or.inr h
theorem sz_nat (l : Nat) (hl : l ≤ 30) : sz l = ((2 ^ (30 - l) : Nat) : Int) := by
  show (2 : Int) ^ (30 - (l : Int)).toNat = _
  rw [show (30 - (l : Int)).toNat = 30 - l by omega]; push_cast; rfl
theorem nb_right {f q l f' q' : Nat} (hl : l ≤ 30) (hq : q < 4 ^ l) (h : NB (decide ((LX f q l : Int) + sz l < 1073741824)) f ((LX f q l : Int) + sz l) (LY f q l) f' q') :
    (X l (f % 2) q + 1 < 2 ^ l ∧ f' = f ∧ q' / 4 ^ (30 - l) = P l (f % 2) (X l (f % 2) q + 1) (Y l (f % 2) q)) ∨ (¬ X l (f % 2) q + 1 < 2 ^ l ∧ f' ≠ f) := by
  obtain ⟨lx, ly⟩ := LX_div f q l hl hq
  have sm := L_small f q l hl hq
  obtain ⟨u1, u2⟩ := step_up (LX f q l) _ l hl rfl _ lx
  rw [sz_nat l hl] at h
  have e : (LX f q l : Int) + ((2 ^ (30 - l) : Nat) : Int) = ((LX f q l + 2 ^ (30 - l) : Nat) : Int) := by push_cast; rfl
  rw [e] at h
  rcases nb_fin (x' := X l (f % 2) q + 1) (y' := Y l (f % 2) q) h hl (fun hc => ⟨by have := of_decide_eq_true hc; omega, by omega, by rw [Int.toNat_natCast]; exact u1, by rw [Int.toNat_natCast]; exact ly⟩) with ⟨h1, h2, h3⟩ | ⟨h1, h2⟩
  · exact Or.inl ⟨u2.mp (by have := of_decide_eq_true h1; omega), h2, h3⟩
  · exact Or.inr ⟨fun hh => of_decide_eq_false h1 (by have := u2.mpr hh; omega), h2⟩
theorem nb_top {f q l f' q' : Nat} (hl : l ≤ 30) (hq : q < 4 ^ l) (h : NB (decide ((LY f q l : Int) + sz l < 1073741824)) f (LX f q l) ((LY f q l : Int) + sz l) f' q') :
    (Y l (f % 2) q + 1 < 2 ^ l ∧ f' = f ∧ q' / 4 ^ (30 - l) = P l (f % 2) (X l (f % 2) q) (Y l (f % 2) q + 1)) ∨ (¬ Y l (f % 2) q + 1 < 2 ^ l ∧ f' ≠ f) := by
  obtain ⟨lx, ly⟩ := LX_div f q l hl hq
  have sm := L_small f q l hl hq
  obtain ⟨u1, u2⟩ := step_up (LY f q l) _ l hl rfl _ ly
  rw [sz_nat l hl] at h
  have e : (LY f q l : Int) + ((2 ^ (30 - l) : Nat) : Int) = ((LY f q l + 2 ^ (30 - l) : Nat) : Int) := by push_cast; rfl
  rw [e] at h
  rcases nb_fin (x' := X l (f % 2) q) (y' := Y l (f % 2) q + 1) h hl (fun hc => ⟨by omega, by have := of_decide_eq_true hc; omega, by rw [Int.toNat_natCast]; exact lx, by rw [Int.toNat_natCast]; exact u1⟩) with ⟨h1, h2, h3⟩ | ⟨h1, h2⟩
  · exact Or.inl ⟨u2.mp (by have := of_decide_eq_true h1; omega), h2, h3⟩
  · exact Or.inr ⟨fun hh => of_decide_eq_false h1 (by have := u2.mpr hh; omega), h2⟩
theorem down_nat {i s : Nat} (h : (0 : Int) ≤ (i : Int) - (s : Int)) : ((i : Int) - (s : Int)).toNat = i - s ∧ s ≤ i := by omega
theorem nb_left {f q l f' q' : Nat} (hl : l ≤ 30) (hq : q < 4 ^ l) (h : NB (decide (0 ≤ (LX f q l : Int) - sz l)) f ((LX f q l : Int) - sz l) (LY f q l) f' q') :
    (0 < X l (f % 2) q ∧ f' = f ∧ q' / 4 ^ (30 - l) = P l (f % 2) (X l (f % 2) q - 1) (Y l (f % 2) q)) ∨ (¬ 0 < X l (f % 2) q ∧ f' ≠ f) := by
  obtain ⟨lx, ly⟩ := LX_div f q l hl hq
  have sm := L_small f q l hl hq
  obtain ⟨u2, u1⟩ := step_down (LX f q l) _ _ (Nat.two_pow_pos (30 - l)) lx
  rw [sz_nat l hl] at h
  rcases nb_fin (x' := X l (f % 2) q - 1) (y' := Y l (f % 2) q) h hl (fun hc => by
    obtain ⟨d1, d2⟩ := down_nat (of_decide_eq_true hc)
    exact ⟨by rw [d1]; exact Nat.lt_of_le_of_lt (Nat.sub_le _ _) sm.1, by omega, by rw [d1]; exact u1 d2, by rw [Int.toNat_natCast]; exact ly⟩) with ⟨h1, h2, h3⟩ | ⟨h1, h2⟩
  · exact Or.inl ⟨u2.mp (down_nat (of_decide_eq_true h1)).2, h2, h3⟩
  · exact Or.inr ⟨fun hh => of_decide_eq_false h1 (by have := u2.mpr hh; omega), h2⟩
theorem nb_bottom {f q l f' q' : Nat} (hl : l ≤ 30) (hq : q < 4 ^ l) (h : NB (decide (0 ≤ (LY f q l : Int) - sz l)) f (LX f q l) ((LY f q l : Int) - sz l) f' q') :
    (0 < Y l (f % 2) q ∧ f' = f ∧ q' / 4 ^ (30 - l) = P l (f % 2) (X l (f % 2) q) (Y l (f % 2) q - 1)) ∨ (¬ 0 < Y l (f % 2) q ∧ f' ≠ f) := by
  obtain ⟨lx, ly⟩ := LX_div f q l hl hq
  have sm := L_small f q l hl hq
  obtain ⟨u2, u1⟩ := step_down (LY f q l) _ _ (Nat.two_pow_pos (30 - l)) ly
  rw [sz_nat l hl] at h
  rcases nb_fin (x' := X l (f % 2) q) (y' := Y l (f % 2) q - 1) h hl (fun hc => by
    obtain ⟨d1, d2⟩ := down_nat (of_decide_eq_true hc)
    exact ⟨by omega, by rw [d1]; exact Nat.lt_of_le_of_lt (Nat.sub_le _ _) sm.2, by rw [Int.toNat_natCast]; exact lx, by rw [d1]; exact u1 d2⟩) with ⟨h1, h2, h3⟩ | ⟨h1, h2⟩
  · exact Or.inl ⟨u2.mp (down_nat (of_decide_eq_true h1)).2, h2, h3⟩
  · exact Or.inr ⟨fun hh => of_decide_eq_false h1 (by have := u2.mpr hh; omega), h2⟩
end Mine
/- part S19 -/
set_option Elab.async false
set_option maxRecDepth 100000
set_option maxHeartbeats 1000000
namespace Mine
open PySem PySem.W PySem.Spec PySem.Calls PyProof.Rows
variable {w : World} {p : Program} {loose : List PySem.Str} {mean : ExcName → Option Value} {mg mb : PySem.Str → Option Value} {news : Led} {x dx : Addr} {v : Int} {t tk : Tok}
def Told (base : Heap) (news : Led) (a : Addr) (vs : List Value) : Prop := base.IsList a vs.toArray ∨ ∃ n, (a, listOf vs.toArray n) ∈ news
theorem told_tail {base : Heap} {news : Led} {a : Addr} {vs : List Value} {p : Addr × Obj} (h : Told base news a vs) : Told base (p :: news) a vs := h.elim .inl fun ⟨n, hm⟩ => .inr ⟨n, .tail _ hm⟩
theorem told_list {A : Around} {base g h : Heap} {outer : List Env} {L : Addr} {m : PySem.Str → Option Value} {news : Led} {a : Addr} {vs : List Value} (N : News g L h news) (F : Fr g L h m) (B : Below A base outer g) (hT : Told base news a vs) : h.IsList a vs.toArray := by
  rcases hT with hl | ⟨n, hm⟩
  · exact stays_list F.keep (stays_list B.stays hl)
  · exact ⟨_, (N _ hm).1, rfl, n, rfl⟩
theorem told_all {base : Heap} {a : Addr} {vs : List Value} {g : Obj → Led} {o : Obj} (h : ∀ o, Told base (g o) a vs) : Told base (g o) a vs := h o
theorem updF_mem {d : Addr} {o : Obj} {l : Led} {g : Obj → Led} (U : UpdF d o l g) : (d, o) ∈ l := by
  induction U with
  | head _ => exact .head _
  | tail _ _ ih => exact .tail _ ih
theorem updF_upd {d : Addr} {o o' : Obj} {l : Led} {g : Obj → Led} (U : UpdF d o l g) : Upd d o o' l (g o') := by
  induction U with
  | head h => exact .head h
  | tail h _ ih => exact .tail h ih
theorem ints_one {k : Int} {t : Tok} : IntsAre [.int k t] [k] := .cons _ _ .nil
section
variable {prog : Program} {w : World} {A : Around} {E : Value → Shared → Prop} {s : Shared} {a b : Int} {t u : Tok} {Q : Value → Shared → Prop}
theorem fdivS (h0 : 0 < b) (hl : b.natAbs.log2 < 9000) (h : Q (.int (a.fdiv b) s.toks) { s with toks := s.toks + 1 }) : wpAny (model prog w) A (binaryOp .FloorDiv (.int a t) (.int b u)) Q E s :=
  floordiv_int (by omega) h (Or.inl (PyProof.noPylong_of_log2 hl))
theorem fmodS (h0 : 0 < b) (h : ∀ v, v = a.fmod b → 0 ≤ v → v < b → Q (.int v s.toks) { s with toks := s.toks + 1 }) : wpAny (model prog w) A (binaryOp .Mod (.int a t) (.int b u)) Q E s :=
  mod_int (by omega) (h _ rfl (fmod_lo a h0) (fmod_hi a h0))
end
section
variable {prog : Program} {w : World} {A : Around} {E : Value → Shared → Prop} {s : Shared} {h₀ : Heap} {L D : Addr} {m : PySem.Str → Option Value} {news news' : Led} {n : Nat} {k x : Int} {t u v : Tok}
theorem at_set {Q : Unit → Shared → Prop} (F : Fr h₀ L s.heap m) (N : News h₀ L s.heap news) (U : Upd D (listOf [.int k v].toArray n) (listOf [.int x u].toArray n) news news')
    (h : ∀ h', Fr h₀ L h' m → News h₀ L h' news' → Q () { s with heap := h' }) : wpAny (model prog w) A (setItem (.ref D) (.int 0 t) (.int x u)) Q E s :=
  ksa_set (vs := [.int k v]) (ns := [k]) F N U ints_one (by decide) (show (0 : Int) < ((1 : Nat) : Int) by decide) (by decide) fun h' F' N' _ _ _ => h h' F' N'
theorem at_sub {value slice : PySem.Expr} {Q : Value → Shared → Prop} (N : News h₀ L s.heap news) (hm : (D, listOf [.int k v].toArray n) ∈ news) (h : ∀ t, Q (.int k t) s)
    (hs : subscripted slice false (.ref D) (.int 0 u) = operate [.ref D, .int 0 u] (getItem (.ref D) (.int 0 u)) := by with_unfolding_all rfl) :
    wpAny (model prog w) A (subscriptTail value slice (.ref D) (.int 0 u)) Q E s := ksa_sub (ns := [k]) N hm ints_one (by decide) (show (0 : Int) < ((1 : Nat) : Int) by decide) (by decide) h hs
end
theorem log2_small {b : Int} (h0 : 0 < b) (h1 : b < 2 ^ 64) : b.natAbs.log2 < 9000 := by
  have : b.natAbs < 2 ^ 64 := by omega
  have := (Nat.log2_lt (by omega)).mpr this
  omega
theorem log2_seven {n : Nat} (h : n ≤ 2000) : ((7 : Int) ^ n).natAbs.log2 < 9000 := by
  rw [Int.natAbs_pow]
  have h1 : (Int.natAbs 7) ^ n < 2 ^ 9000 := by
    refine Nat.lt_of_le_of_lt (Nat.pow_le_pow_left (show Int.natAbs 7 ≤ 2 ^ 3 by decide) n) ?_
    rw [← Nat.pow_mul]
    exact Nat.pow_lt_pow_right (by decide) (by omega)
  exact (Nat.log2_lt (by have : 0 < (Int.natAbs 7) ^ n := Nat.pow_pos (by decide)
                         omega)).mpr h1
theorem fdiv_bnd {k n : Int} (h0 : 0 ≤ k) (h1 : k ≤ 2000) (hn : 0 < n) : 0 ≤ k.fdiv n ∧ k.fdiv n ≤ 2000 := by
  rw [Int.fdiv_eq_ediv_of_nonneg _ (Int.le_of_lt hn)]
  exact ⟨Int.ediv_nonneg h0 (Int.le_of_lt hn), Int.le_trans (Int.ediv_le_self _ h0) h1⟩
theorem seven_pos {n : Nat} : (0 : Int) < 7 ^ n := Int.pow_pos (by decide)
def SpT (d : Nat) (w : World) (p : Program) (loose : List PySem.Str) (mean : ExcName → Option Value) (mg mb : PySem.Str → Option Value) (f : Addr) (news : Led) (told : Addr) (vl : List Value) (G : Obj → Led) (vs : List Value) (Out : Value → Led → Prop) : Prop :=
  ∀ (dp un : Nat) (gd : Option (List Code)) (cn : PySem.Str) (cs : Scope) (a : Addr) (ccd : Value) (cl : List (PySem.Str × Addr)) (outer : List Env) (A₀ : Around) (base h₀ : Heap) (L : Addr) (m : PySem.Str → Option Value) (s : Shared) (R : Result → Shared → Prop),
    Below A₀ base outer h₀ → Fr h₀ L s.heap m → (Mine.hd.heap_39 w.params).In h₀ → News h₀ L s.heap news → Top p loose mean mg mb h₀ → (∀ o, Told base (G o) told vl) → cs.kind = .function → dp + d < recursionLimit → un + 20 * d < cLine →
    (∀ r news' h' tk', Fr h₀ L h' m → News h₀ L h' news' → Out r news' → R (.ok (.ret r)) { s with heap := h', toks := tk' }) →
    codeAny (model PySem.Challenge.rw_fb0049_01.row.prog w) (ktrTop dp un gd cn cs L a ccd cl outer) (.call (.ref f) ⟨vs, []⟩) R s
abbrev OutR (at_ : Addr) (k below : Int) (n : Nat) (G : Obj → Led) : Value → Led → Prop := fun r nw => ∃ (v : Int) (t u : Tok), r = .int v t ∧ 0 ≤ v ∧ v < below ∧ nw = G (listOf [.int (k + 1) u].toArray n)
local macro_rules | `(tactic| walk_at "eval Name") => `(tactic| (k_here; (with_reducible show wpAny _ _ (eval (Expr.Name _ _) (compEnvC _ _ _ _)) _ _ _); k_dflt (first
  | (name_kind "cell" "free"; refine kcf_cell (by k_asm) (by rfl) (by k_mem) (by k_asm) ?_)
  | (name_kind "local"; refine LCgL.ld_own (by k_asm) (by k_mem) (by assumption) (by assumption) ?_)
  | (name_kind "globalImplicit"; refine LCgL.ld_global (by k_asm) (by k_asm) (by k_asm) (by k_is) ?_))))
local macro_rules | `(tactic| walk_at "eval Name") => `(tactic| (k_here; (fail_if_success (with_reducible show wpAny _ _ (eval (Expr.Name _ _) (compEnvC _ _ _ _)) _ _ _)); k_dflt (first
  | (name_kind "local"; refine' nmL ?F ?q ?v ?_; (case F => k_asm); (case q => decide +kernel); (case v => rfl); k_whole)
  | (name_kind "cell"; refine' nmC ?N ?q ?c ?m ?d ?_; (case q => decide +kernel); (case N => k_asm); (case c => rfl); (case m => k_mem); (case d => k_asm); k_whole)
  | (name_kind "globalImplicit"; refine' nmK ?F ?X ?T ?q ?e ?_; (case q => decide +kernel); (case F => k_asm); (case X => k_asm); (case T => k_asm); (case e => k_is); k_whole)
  | (name_kind "globalImplicit"; refine' nmB ?F ?X ?T ?q ?e ?v ?n ?_; (case q => decide +kernel); (case F => k_asm); (case X => k_asm); (case T => k_asm); (case e => k_is); (case v => boot_fast); (case n => decide); k_whole))))
local macro_rules | `(tactic| walk_at "callWith ref") => `(tactic| (k_here; k_dflt (first
  | ((with_reducible refine' callWith_K ?k1 ?k2 ?_); (case k1 => k_asm); (case k2 => k_is); k_whole)
  | ((with_reducible refine' callWith_K0n ?kF ?kX ?kk ?_); (case kF => with_reducible assumption); (case kX => k_asm); (case kk => k_is); k_whole)
  | ((with_reducible refine' callWith_M ?k1 ?k2 ?k3 ?k4 ?_); (case k1 => k_asm); (case k2 => k_asm); (case k3 => k_mem); (case k4 => k_is); k_whole)
  | ((with_reducible refine' callWith_M0 ?k1 ?k2 ?_); (case k1 => k_meth); (case k2 => k_is); k_whole; try dsimp only [List.nil_append, List.cons_append]))))
local macro_rules | `(tactic| walk_at "loadName") => `(tactic| (k_here; k_dflt (refine' ldL ?F ?q ?v ?_; (case F => k_asm); (case q => decide +kernel); (case v => rfl); k_whole)))
local macro_rules | `(tactic| walk_at "subscriptTail Name Constant ref int") => `(tactic| (k_here; k_dflt (refine' item_tupleT ?t ?a ?b ?c ?d ?_; (case t => exact News.isTup (by k_asm) (by k_mem)); (case a => decide); (case b => decide); (case c => rfl); (case d => rfl); k_whole)))
local macro_rules | `(tactic| walk_at "getAttr ref") => `(tactic| (k_here; k_dflt (first
  | ((with_reducible show wpAny _ _ (getAttr (Value.ref _) (PySem.Str.ofString "__class__") _) _ _ _); refine' get_class ?k1 ?k2 ?k3 ?k4 ?k5 ?k6 ?k7 ?k8 ?k9 ?_; (case k1 => k_asm); (case k2 => k_asm); (case k3 => k_inst); (case k4 => k_is); (case k5 => k_is); (case k6 => k_is); (case k7 => k_is); (case k8 => k_is); (case k9 => k_is); k_whole)
  | (refine' cls_val ?k1 ?k2 ?k3 ?k4 ?k5 ?k6 ?_; (case k1 => k_asm); (case k2 => k_asm); (case k3 => k_is); (case k4 => k_is); (case k5 => k_is); (case k6 => k_handed); k_whole))))
local macro_rules | `(tactic| walk_at "spliced") => `(tactic| (k_here; k_dflt (first | refine args_cons ?_ | refine args_nil ?_)))
local macro_rules | `(tactic| walk_at "eval Call Name cons nil") => `(tactic| (k_here; k_dflt (refine Call_ ?_)))
local macro_rules | `(tactic| walk_at "storeName") => `(tactic| (k_here; k_dflt (refine' stL ?F ?N ?q ?_; (case q => decide +kernel); (case F => k_asm); (case N => k_asm); k_whole; intro h' F' N'; (try k_sweep))))
local macro_rules | `(tactic| walk_at "getMethod ref") => `(tactic| (k_here; k_dflt (first
  | (refine' method_inst ?k1 ?k2 ?k3 ?k4 ?k5 ?k6 ?k7 ?_; (case k1 => k_asm); (case k2 => k_asm); (case k3 => k_inst); (case k4 => k_is); (case k5 => k_is); (case k6 => k_is); (case k7 => k_get); k_whole)
  | (refine' kmu_cm ?k1 ?k2 ?k3 ?k4 ?k5 ?k6 ?k7 ?k8 ?k9 ?k10 ?k11 ?k12 ?k13 ?_; (case k1 => k_asm); (case k2 => k_asm); (case k3 => k_asm); (case k4 => k_inst); (case k5 => k_is); (case k6 => k_is); (case k7 => k_is); (case k8 => k_is); (case k9 => k_is); (case k10 => k_is); (case k11 => decide +kernel); (case k12 => k_get); (case k13 => k_is); k_whole; intro q' h' F' N' l1; (try k_lt l1); (try k_sweep)))))
local macro_rules | `(tactic| k_mem) => `(tactic| (first | exact updF_mem (by assumption) | exact mem_hd | ktr_member | (refine mem_tl ?_; first | exact updF_mem (by assumption) | exact mem_hd | ktr_member | (refine mem_tl ?_; first | exact updF_mem (by assumption) | exact mem_hd | ktr_member | (refine mem_tl ?_; first | exact updF_mem (by assumption) | exact mem_hd | ktr_member | (refine mem_tl ?_; first | exact updF_mem (by assumption) | exact mem_hd | ktr_member | (refine mem_tl ?_; first | exact updF_mem (by assumption) | exact mem_hd | ktr_member | (refine mem_tl ?_; first | exact updF_mem (by assumption) | exact mem_hd | ktr_member | (refine mem_tl ?_; first | exact updF_mem (by assumption) | exact mem_hd | ktr_member | (refine mem_tl ?_; first | exact updF_mem (by assumption) | exact mem_hd | ktr_member | (refine mem_tl ?_; first | exact updF_mem (by assumption) | exact mem_hd | ktr_member | (refine mem_tl ?_; first | exact updF_mem (by assumption) | exact mem_hd | ktr_member | (refine mem_tl ?_; first | exact updF_mem (by assumption) | exact mem_hd | ktr_member | (refine mem_tl ?_; first | exact updF_mem (by assumption) | exact mem_hd | ktr_member | (refine mem_tl ?_; first | exact updF_mem (by assumption) | exact mem_hd | ktr_member | (refine mem_tl ?_; ktr_member))))))))))))))))
local macro_rules | `(tactic| k_all) => `(tactic| exact ne_of_l1 (by assumption))
local macro_rules | `(tactic| k_in) => `(tactic| (refine Frag.In.keeps ?_ (Fr.keep (by with_reducible assumption)); with_reducible assumption))
local macro_rules | `(tactic| walk_at "call builtin:len") => `(tactic| (k_here; (with_reducible show wpAny _ _ (call (Value.builtin "len") [Value.ref _]) _ _ _); k_dflt ((first | (with_reducible refine' len_ints_fit ?k1 ?k2 ?k3 ?_) | (refine' len_ints_fit ?k1 ?k2 ?k3 ?_)); (case k1 => (refine' told_list ?N ?F ?B ?T; (case N => k_asm); (case F => k_asm); (case B => assumption); (case T => exact told_all (by assumption)))); (case k2 => assumption); (case k3 => omega); k_whole)))
local macro_rules | `(tactic| walk_at "subscriptTail Name BinOp ref int") => `(tactic| (k_here; k_dflt ((first | (with_reducible refine' item_anyK ?k1 ?k2 ?k4 ?k5 ?k6 ?_ ?k3) | (refine' item_anyK ?k1 ?k2 ?k4 ?k5 ?k6 ?_ ?k3)); (case k1 => (refine' told_list ?N ?F ?B ?T; (case N => k_asm); (case F => k_asm); (case B => assumption); (case T => exact told_all (by assumption)))); (case k2 => assumption); (case k3 => with_unfolding_all rfl); (case k4 => assumption); (case k5 => assumption); (case k6 => omega); k_whole; intro t9)))
local macro_rules | `(tactic| walk_at "subscriptTail Name Constant ref int") => `(tactic| (k_here; k_dflt ((first | (with_reducible refine' at_sub ?k1 ?k2 ?_ ?k3) | (refine' at_sub ?k1 ?k2 ?_ ?k3)); (case k1 => k_asm); (case k2 => exact updF_mem (by assumption)); (case k3 => with_unfolding_all rfl); k_whole; intro t9)))
local macro_rules | `(tactic| walk_at "setItem ref int") => `(tactic| (k_here; k_dflt ((first | (with_reducible refine' at_set ?k1 ?k2 ?k3 ?_) | (refine' at_set ?k1 ?k2 ?k3 ?_)); (case k1 => k_asm); (case k2 => k_asm); (case k3 => exact updF_upd (by assumption)); k_whole; intro h9 F9 N9; (try k_sweep))))
local macro_rules | `(tactic| walk_at "binaryOp FloorDiv int int") => `(tactic| (k_here; k_dflt ((with_reducible refine' fdivS ?k1 ?k2 ?_); (case k1 => first | omega | exact seven_pos); (case k2 => first | exact log2_small (by omega) (by omega) | (refine log2_seven ?_; omega)); k_whole)))
local macro_rules | `(tactic| walk_at "binaryOp Mod int int") => `(tactic| (k_here; k_dflt ((with_reducible refine' fmodS ?k1 ?_); (case k1 => omega); k_whole; intro v9 e9 z9 y9)))
local macro_rules | `(tactic| walk_at "binaryOp Pow int int") => `(tactic| (k_here; k_dflt ((with_reducible refine' pow_int_small ?k1 ?k2 ?k3 ?_); (case k1 => omega); (case k2 => omega); (case k3 => decide); k_whole)))
theorem drawn_cs {told at_ : Addr} {vl : List Value} {ns : List Int} {k below : Int} {tk tb : Tok} {n : Nat} {G : Obj → Led} (U : UpdF at_ (listOf [.int k tk].toArray n) news G) (hi : IntsAre vl ns) (hn0 : 0 < ns.length) (hn1 : ns.length ≤ 1000) (k0 : 0 ≤ k) (k1 : k ≤ 2000) (hb : 0 < below) :
    SpT 1 w p loose mean mg mb 607 news told vl G [.ref told, .ref at_, .int below tb] (OutR at_ k below n G) := by
  have hfd := fdiv_bnd (n := (ns.length : Nat)) k0 k1 (by omega)
  unfold SpT
  k_fill
  intro dp un gd cn cs a1 ccd cl outer A₀ base h₀ L m1 s R B F X' N T hT hk' hdp hun hret
  k_dflt (refine' code_def ?k1 ?k2 ?k3 ?k4 ?k5 ?kA ?kF ?kK ?k6 ?k7 ?k8 ?k9 ?kB ?_ ?c2 ?c3 ?c4 ?c5; (case kA => exact rfl); (case kF => exact rfl); (case kK => first | assumption | exact rfl); (case k1 => k_asm); (case k2 => k_asm); (case k3 => k_asm); (case k4 => k_asm); (case k5 => k_asm); (case k6 => k_is); (case k7 => k_is); (case k8 => ktr_room); (case k9 => first | exact BindsTo.of_eq rfl | exact binds_K (by k_in) rfl (by k_is) rfl rfl rfl); (case c5 => decide); (case kB => exact locs rfl); (case c2 => exact rfl); (case c3 => exact rfl); (case c4 => exact rfl); k_whole; intro g' L' h' FG' F' N' B' X' T'; (try dsimp only); (try k_lift B'); (try k_fold))
  repeat' (first | (k_unfold; (try dsimp only)) | (k_end; wrow_close) | ((try dsimp only); walk1) | (leave1; walk_say "STEP leave1"; try dsimp only) | fail "no step")
  all_goals exact hret _ _ _ _ (by k_asm) (by k_asm) ⟨_, _, _, rfl, by assumption, by assumption, rfl⟩
end Mine
/- part LW -/
set_option Elab.async false
set_option maxRecDepth 100000
set_option maxHeartbeats 1000000
namespace Mine
open PySem PySem.W PySem.Spec PySem.Calls PyProof.Rows
def Hold (P : Prop) : Prop := P
theorem Hold.of {P : Prop} (h : Hold P) : P := h
def TurnEnd (h₀ : Heap) (L : Addr) (J : (PySem.Str → Option Value) → Led → Prop) (adr : List Addr) (tl : Led) (s₁ : Shared) (Q : Flow → Shared → Prop) (f : Flow) (s₂ : Shared) : Prop :=
  match f with
  | .ret v => Q (.ret v) s₂
  | .brk => Q .next s₂
  | _ => ∃ h' tk m' pre, s₂ = { s₁ with heap := h', toks := tk } ∧ Fr h₀ L h' m' ∧ News h₀ L h' (pre ++ tl) ∧ pre.map (·.1) = adr ∧ J m' pre
theorem told_mono {base : Heap} {l l' : Led} {a : Addr} {vs : List Value} (h : Told base l a vs) (hs : ∀ p ∈ l, p ∈ l') : Told base l' a vs := h.elim .inl fun ⟨n, hm⟩ => .inr ⟨n, hs _ hm⟩
section
variable {prog : Program} {w : World} {A : Around} {E : Value → Shared → Prop} {s : Shared} {h₀ : Heap} {env : Env} {x : PySem.Str} {body : List Stmt} {Q : Flow → Shared → Prop} {L : Addr}
theorem TurnEnd.next {J : (PySem.Str → Option Value) → Led → Prop} {adr : List Addr} {tl pre : Led} {s₁ : Shared} {h' : Heap} {tk : Nat} {m' : PySem.Str → Option Value} (F : Fr h₀ L h' m') (N : News h₀ L h' (pre ++ tl)) (e : pre.map (·.1) = adr) (j : J m' pre) : TurnEnd h₀ L J adr tl s₁ Q .next { s₁ with heap := h', toks := tk } := ⟨h', tk, m', pre, rfl, F, N, e, j⟩
theorem TurnEnd.cont {J : (PySem.Str → Option Value) → Led → Prop} {adr : List Addr} {tl pre : Led} {s₁ : Shared} {h' : Heap} {tk : Nat} {m' : PySem.Str → Option Value} (F : Fr h₀ L h' m') (N : News h₀ L h' (pre ++ tl)) (e : pre.map (·.1) = adr) (j : J m' pre) : TurnEnd h₀ L J adr tl s₁ Q .cont { s₁ with heap := h', toks := tk } := ⟨h', tk, m', pre, rfl, F, N, e, j⟩
theorem loop_range' {r : Addr} {b₀ : Int} {t₀ u₀ v₀ : Tok} {n : Nat} {m₀ : PySem.Str → Option Value} {news : Led}
    (R : Nat → (PySem.Str → Option Value) → Led → Prop)
    (hh : A.handled = none) (hr : IsRange s.heap r 0 b₀ 1 t₀ u₀ v₀) (hsmall : Builtin.Range.small 0 b₀ 1 = true) (hn : Builtin.Range.rangeSize 0 b₀ 1 = (n : Int)) (F : Fr h₀ env.locals s.heap m₀) (N : News h₀ env.locals s.heap news) (hR : R 0 m₀ news)
    (turn : ∀ (i : Nat) (k : Int) t m₁ nx h tk own, i < n → OwnOff own (news.map (·.1)) → R i m₁ nx → Fr h₀ env.locals h (fun y => if y = x then some (.int k t) else m₁ y) → News h₀ env.locals h (nx ++ own) →
      wpAny (model prog w) A (execs body env) (InvPostN h₀ env.locals (R (i + 1)) own (news.map (·.1)) { s with heap := h, toks := tk } Q) E { s with heap := h, toks := tk })
    (done : ∀ m₁ nx h tk, R n m₁ nx → Fr h₀ env.locals h m₁ → News h₀ env.locals h nx → Q .next { s with heap := h, toks := tk }) :
    wpAny (model prog w) A (pyIter (.ref r)) (fun it s₂ => LoopAtV prog w A h₀ env x body Q E it s₂) E s := by
  refine wpAny_pyIter_range hr hsmall ?_
  have W : Walks prog w A s.heap.objs.size [s.heap.objs.size] [s.heap.objs.size] n (fun i v => i < n ∧ ∃ t, v = .int (0 + i * 1) t)
      (fun i h => IsRangeIter h s.heap.objs.size (0 + (i : Nat) * 1) ((n : Int) - (i : Nat)) 1) := (Walks.range hh _ 0 1 n).bound
  refine loop_invN (fun i m nx => R i m nx) W ?_ ?_ ?_ ?_ (by show IsRangeIter _ _ _ _ _; rw [hn]; simpa using Heap.get?_push_size _ rfl) (F.push _) (fun p hp => ⟨Heap.get?_push_of_some _ (N p hp).1, (N p hp).2⟩) hR ?_ ?_
  · intro hm
    exact absurd F.ns.lt ((List.mem_singleton.mp hm) ▸ Nat.lt_irrefl _)
  · intro b hb
    rw [List.mem_singleton.mp hb]
    exact next_is_new F
  · intro p hp hI
    exact absurd (Heap.lt_size (N p hp).1) ((List.mem_singleton.mp hI) ▸ Nat.lt_irrefl _)
  · intro p hp hI
    exact absurd (Heap.lt_size (N p hp).1) ((List.mem_singleton.mp hI) ▸ Nat.lt_irrefl _)
  · rintro i v m₁ news₁ h tk own hin ⟨_, t, rfl⟩ _ hsep hR' F₁ N₁
    exact turn i _ t m₁ news₁ h tk own hin hsep hR' F₁ N₁
  · exact done
theorem loop_range {base : Heap} {told : Addr} {vl : List Value} {r : Addr} {b₀ : Int} {t₀ u₀ v₀ : Tok} {n : Nat} {m₀ : PySem.Str → Option Value} {pre tl : Led}
    (R : Nat → (PySem.Str → Option Value) → Led → Prop)
    (hh : A.handled = none) (hr : IsRange s.heap r 0 b₀ 1 t₀ u₀ v₀) (hsmall : Builtin.Range.small 0 b₀ 1 = true) (hn : Builtin.Range.rangeSize 0 b₀ 1 = (n : Int)) (F : Fr h₀ env.locals s.heap m₀) (N : News h₀ env.locals s.heap (pre ++ tl)) (hT : Told base tl told vl) (hoff : ∀ p ∈ tl, ∀ q ∈ pre.map (·.1), p.1 ≠ q) (hR : R 0 m₀ pre)
    (turn : ∀ (i : Nat) (k : Int) t m₁ pre₁ h tk tl', i < n → Told base tl' told vl → (∀ p ∈ tl', ∀ q ∈ pre.map (·.1), p.1 ≠ q) → pre₁.map (·.1) = pre.map (·.1) → R i m₁ pre₁ → Fr h₀ env.locals h (fun y => if y = x then some (.int k t) else m₁ y) → News h₀ env.locals h (pre₁ ++ tl') →
      wpAny (model prog w) A (execs body env) (TurnEnd h₀ env.locals (R (i + 1)) (pre.map (·.1)) tl' { s with heap := h, toks := tk } Q) E { s with heap := h, toks := tk })
    (done : ∀ m₁ pre₁ h tk, pre₁.map (·.1) = pre.map (·.1) → R n m₁ pre₁ → Fr h₀ env.locals h m₁ → News h₀ env.locals h (pre₁ ++ tl) → Q .next { s with heap := h, toks := tk }) :
    wpAny (model prog w) A (pyIter (.ref r)) (fun it s₂ => LoopAtV prog w A h₀ env x body Q E it s₂) E s := by
  refine loop_range' (R := fun i m nx => ∃ pre₁, nx = pre₁ ++ tl ∧ pre₁.map (·.1) = pre.map (·.1) ∧ R i m pre₁) hh hr hsmall hn F N ⟨pre, rfl, rfl, hR⟩ ?_ ?_
  · rintro i k t m₁ nx h tk own hi ho ⟨pre₁, rfl, ha, hr₁⟩ F₁ N₁
    rw [List.append_assoc] at N₁
    refine wpAny_mono (turn i k t m₁ pre₁ h tk (tl ++ own) hi (told_mono hT fun p hp => List.mem_append.mpr (.inl hp)) (fun p hp q hq => ?_) ha hr₁ F₁ N₁) (fun f s₂ z => ?_) fun _ _ e => e
    · rcases List.mem_append.mp hp with hp | hp
      · exact hoff p hp q hq
      · exact ho p hp q (by rw [List.map_append]; exact List.mem_append.mpr (.inl hq))
    · have fin : (∃ h' tk' m' pre', s₂ = { s with heap := h', toks := tk' } ∧ Fr h₀ env.locals h' m' ∧ News h₀ env.locals h' (pre' ++ (tl ++ own)) ∧ pre'.map (·.1) = pre.map (·.1) ∧ R (i + 1) m' pre') →
          InvEndN h₀ env.locals (fun m nx => ∃ pre₁, nx = pre₁ ++ tl ∧ pre₁.map (·.1) = pre.map (·.1) ∧ R (i + 1) m pre₁) own ((pre ++ tl).map (·.1)) { s with heap := h, toks := tk } s₂ := by
        rintro ⟨h', tk', m', pre', rfl, F', N', e', j'⟩
        rw [← List.append_assoc] at N'
        exact ⟨h', tk', m', _, pre' ++ tl, rfl, F', N', fun p hp => List.mem_append.mpr (.inl hp), fun p hp => List.mem_append.mpr (.inr hp), by rw [List.map_append, List.map_append, e'], pre', rfl, e', j'⟩
      cases f with
      | ret v => exact z
      | brk => exact z
      | next => exact fin z
      | cont => exact fin z
  · rintro m₁ nx h tk ⟨pre₁, rfl, e, j⟩ F' N'
    exact done m₁ pre₁ h tk e j F' N'
end
end Mine
/- part LX1 -/
set_option Elab.async false
set_option maxRecDepth 100000
set_option maxHeartbeats 1000000
namespace Mine
open PySem PySem.W PySem.Spec PySem.Calls PyProof.Rows
theorem range_size (n : Nat) : Builtin.Range.rangeSize 0 (n : Int) 1 = n := by
  unfold Builtin.Range.rangeSize; simp; omega
theorem range_small (n : Nat) (h : (n : Int) ≤ 1000) : Builtin.Range.small 0 (n : Int) 1 = true := by
  have e := range_size n
  unfold Builtin.Range.small Builtin.Range.rangeFitsLong
  rw [e]
  simp
  omega
section
variable {prog : Program} {w : World} {A : Around} {E : Value → Shared → Prop} {s : Shared} {h₀ : Heap} {env : Env} {x : PySem.Str} {body : List Stmt} {Q : Flow → Shared → Prop} {L : Addr} {at_ c4 c3 c2 c1 : Addr} {o4 oL oF : Obj} {m₀ : PySem.Str → Option Value}
def Inv1 (x : PySem.Str) (m₀ : PySem.Str → Option Value) (at_ c4 c3 c2 c1 : Addr) (o4 oL oF : Obj) (i : Nat) (m₁ : PySem.Str → Option Value) (pre₁ : Led) : Prop :=
  ∃ (pl kk : Int) (tp u : Tok) (oP : Obj) (kv : Option Value), pre₁ = [(at_, listOf [Value.int kk u].toArray 0), (c4, o4), (c3, oP), (c2, oL), (c1, oF)] ∧ kk = 2 + (i : Int) ∧ oP.data = .cell (some (.int pl tp)) ∧ 0 ≤ pl ∧ pl < 4 ^ i ∧ m₁ = fun y => if y = x then kv else m₀ y
theorem turn_end1 {i : Nat} {tl : Led} {s₁ : Shared} {h' : Heap} {tk : Nat} {v kv : Option Value} {pl kk : Int} {tp u : Tok} {oP : Obj} (F : Fr h₀ L h' (fun y => if y = x then v else if y = x then kv else m₀ y))
    (N : News h₀ L h' ((at_, listOf [Value.int kk u].toArray 0) :: (c4, o4) :: (c3, oP) :: (c2, oL) :: (c1, oF) :: tl)) (hk : kk = 2 + ((i : Int) + 1)) (hd : oP.data = .cell (some (.int pl tp))) (h0 : 0 ≤ pl) (h1 : pl < 4 ^ (i + 1)) :
    TurnEnd h₀ L (Inv1 x m₀ at_ c4 c3 c2 c1 o4 oL oF (i + 1)) [at_, c4, c3, c2, c1] tl s₁ Q .next { s₁ with heap := h', toks := tk } :=
  TurnEnd.next F (pre := [(at_, listOf [Value.int kk u].toArray 0), (c4, o4), (c3, oP), (c2, oL), (c1, oF)]) N rfl ⟨pl, kk, tp, u, oP, v, rfl, by push_cast; omega, hd, h0, h1, by
    funext y
    by_cases h : y = x
    · simp [h]
    · simp [h]⟩
theorem loop1 {base : Heap} {told : Addr} {vl : List Value} {r : Addr} {b₀ : Int} {t₀ u₀ v₀ tp u : Tok} {ld : Led} {oP : Obj}
    (hh : A.handled = none) (hr : IsRange s.heap r 0 b₀ 1 t₀ u₀ v₀) (hb0 : 0 ≤ b₀) (hb1 : b₀ ≤ 1000) (F : Fr h₀ env.locals s.heap m₀) (N : News h₀ env.locals s.heap ((at_, listOf [Value.int 2 u].toArray 0) :: (c4, o4) :: (c3, oP) :: (c2, oL) :: (c1, oF) :: ld)) (hT : Told base ld told vl) (hd : oP.data = .cell (some (.int 0 tp)))
    (f0 : ∀ p ∈ ld, p.1 ≠ at_) (f4 : ∀ p ∈ ld, p.1 ≠ c4) (f3 : ∀ p ∈ ld, p.1 ≠ c3) (f2 : ∀ p ∈ ld, p.1 ≠ c2) (f1 : ∀ p ∈ ld, p.1 ≠ c1)
    (turn : ∀ (i : Nat) (k : Int) (kv : Option Value) (t : Tok) (pl kk : Int) (tp u : Tok) (oP : Obj) (h : Heap) (tk : Nat) (tl : Led), (i : Int) < b₀ → Told base tl told vl → (∀ p ∈ tl, p.1 ≠ at_) → (∀ p ∈ tl, p.1 ≠ c4) → (∀ p ∈ tl, p.1 ≠ c3) → (∀ p ∈ tl, p.1 ≠ c2) → (∀ p ∈ tl, p.1 ≠ c1) → kk = 2 + (i : Int) → oP.data = .cell (some (.int pl tp)) → 0 ≤ pl → pl < 4 ^ i →
      Fr h₀ env.locals h (fun y => if y = x then some (.int k t) else if y = x then kv else m₀ y) → News h₀ env.locals h ((at_, listOf [Value.int kk u].toArray 0) :: (c4, o4) :: (c3, oP) :: (c2, oL) :: (c1, oF) :: tl) →
      wpAny (model prog w) A (execs body env) (TurnEnd h₀ env.locals (Inv1 x m₀ at_ c4 c3 c2 c1 o4 oL oF (i + 1)) [at_, c4, c3, c2, c1] tl { s with heap := h, toks := tk } Q) E { s with heap := h, toks := tk })
    (done : ∀ (kv : Option Value) (pl kk : Int) (tp u : Tok) (oP : Obj) (h : Heap) (tk : Nat), kk = 2 + b₀ → oP.data = .cell (some (.int pl tp)) → 0 ≤ pl → pl < 4 ^ b₀.toNat → Fr h₀ env.locals h (fun y => if y = x then kv else m₀ y) → News h₀ env.locals h ((at_, listOf [Value.int kk u].toArray 0) :: (c4, o4) :: (c3, oP) :: (c2, oL) :: (c1, oF) :: ld) → Q .next { s with heap := h, toks := tk }) :
    wpAny (model prog w) A (pyIter (.ref r)) (fun it s₂ => LoopAtV prog w A h₀ env x body Q E it s₂) E s := by
  obtain ⟨n, rfl⟩ : ∃ n : Nat, b₀ = n := ⟨b₀.toNat, by omega⟩
  refine loop_range (n := n) (pre := [(at_, listOf [Value.int 2 u].toArray 0), (c4, o4), (c3, oP), (c2, oL), (c1, oF)]) (tl := ld) (Inv1 x m₀ at_ c4 c3 c2 c1 o4 oL oF) hh hr ?_ ?_ F N hT ?_ ⟨0, 2, tp, u, oP, m₀ x, rfl, rfl, hd, Int.le_refl _, by decide, ?_⟩ ?_ ?_
  · exact range_small n hb1
  · exact range_size n
  · intro p hp q hq
    simp only [List.map_cons, List.map_nil, List.mem_cons, List.not_mem_nil, or_false] at hq
    rcases hq with rfl | rfl | rfl | rfl | rfl
    · exact f0 p hp
    · exact f4 p hp
    · exact f3 p hp
    · exact f2 p hp
    · exact f1 p hp
  · funext y
    by_cases h : y = x
    · simp [h]
    · simp [h]
  · rintro i k t m₁ pre₁ h tk tl hi hT' hoff _ ⟨pl, kk, tp, u, oP, kv, rfl, hk, hd, h0, h1, rfl⟩ F₁ N₁
    exact turn i k kv t pl kk tp u oP h tk tl (by omega) hT' (fun p hp => hoff p hp _ (.head _)) (fun p hp => hoff p hp _ (.tail _ (.head _))) (fun p hp => hoff p hp _ (.tail _ (.tail _ (.head _)))) (fun p hp => hoff p hp _ (.tail _ (.tail _ (.tail _ (.head _))))) (fun p hp => hoff p hp _ (.tail _ (.tail _ (.tail _ (.tail _ (.head _)))))) hk hd h0 h1 F₁ N₁
  · rintro m₁ pre₁ h tk _ ⟨pl, kk, tp, u, oP, kv, rfl, hk, hd, h0, h1, rfl⟩ F₁ N₁
    exact done kv pl kk tp u oP h tk hk hd h0 (by rw [Int.toNat_natCast]; exact h1) F₁ N₁
end
end Mine
/- part LX2 -/
set_option Elab.async false
set_option maxRecDepth 100000
set_option maxHeartbeats 1000000
namespace Mine
open PySem PySem.W PySem.Spec PySem.Calls PyProof.Rows
section
variable {prog : Program} {w : World} {A : Around} {E : Value → Shared → Prop} {s : Shared} {h₀ : Heap} {L : Addr} {m : PySem.Str → Option Value} {news : Led}
theorem slice3 {value slice : PySem.Expr} {t : Addr} {x y z : Value} {u : Tok} {Q : Value → Shared → Prop} (F : Fr h₀ L s.heap m) (N : News h₀ L s.heap news) (hm : (t, tup3 x y z) ∈ news)
    (h : ∀ D h', Fr h₀ L h' m → News h₀ L h' ((D, tup2 y z) :: news) → (∀ p ∈ news, p.1 < D) → Q (.ref D) { s with heap := h' })
    (hs : subscripted slice false (.ref t) (.ref s.heap.objs.size) = operate [.ref s.heap.objs.size, .ref t] (getItem (.ref t) (.ref s.heap.objs.size)) := by with_unfolding_all rfl)
    (hg : ∀ r, letTemporaryGo value (.ref t) r = pure () := by intro _; with_unfolding_all rfl) :
    wpAny (model prog w) A (subscriptTail value slice (.ref t) (.ref s.heap.objs.size)) Q E { s with heap := s.heap.push { cls := .type "slice", data := .fields #[.int 1 u, .none, .none] } } :=
  slice_tuple_from (a := 1) F N (News.isTup N hm) (Nat.le_refl _) (show 1 ≤ 3 by decide) (fun h' F' N' => h _ h' F' N' fun p hp => Nat.lt_succ_of_lt (Heap.lt_size (N p hp).1)) hs hg
theorem slice3s {value slice : PySem.Expr} {t : Addr} {x y z : Value} {u : Tok} {Q : Value → Shared → Prop} {g : Heap} {a1 a2 a3 a4} (F : Fr h₀ L g m) (N : News h₀ L g news) (hm : (t, tup3 x y z) ∈ news)
    (h : ∀ D h', Fr h₀ L h' m → News h₀ L h' ((D, tup2 y z) :: news) → (∀ p ∈ news, p.1 < D) → Q (.ref D) { heap := h', gens := a1, drawn := a2, toks := a3, os := a4 })
    (hs : subscripted slice false (.ref t) (.ref g.objs.size) = operate [.ref g.objs.size, .ref t] (getItem (.ref t) (.ref g.objs.size)) := by with_unfolding_all rfl)
    (hg : ∀ r, letTemporaryGo value (.ref t) r = pure () := by intro _; with_unfolding_all rfl) :
    wpAny (model prog w) A (subscriptTail value slice (.ref t) (.ref g.objs.size)) Q E { heap := g.push { cls := .type "slice", data := .fields #[.int 1 u, .none, .none] }, gens := a1, drawn := a2, toks := a3, os := a4 } :=
  slice3 (s := { heap := g, gens := a1, drawn := a2, toks := a3, os := a4 }) F N hm h hs hg
end
end Mine
/- part LX3 -/
set_option Elab.async false
set_option maxRecDepth 100000
set_option maxHeartbeats 1000000
namespace Mine
open PySem PySem.W PySem.Spec PySem.Calls PyProof.Rows
abbrev sK : PySem.Str := PySem.Str.ofString "k"
abbrev nest8 (m₀ : PySem.Str → Option Value) (a1 a2 a3 a4 a5 a6 a7 a8 : Option Value) : PySem.Str → Option Value := fun y =>
  if y = PySem.Str.ofString "k" then a1 else if y = PySem.Str.ofString "power" then a2 else if y = PySem.Str.ofString "steps" then a3 else if y = PySem.Str.ofString "goal" then a4 else
  if y = PySem.Str.ofString "other" then a5 else if y = PySem.Str.ofString "way" then a6 else if y = PySem.Str.ofString "first" then a7 else if y = PySem.Str.ofString "second" then a8 else m₀ y
theorem nest8_eq {m' m₀ : PySem.Str → Option Value} (h : ∀ y, ¬ y = PySem.Str.ofString "k" → ¬ y = PySem.Str.ofString "power" → ¬ y = PySem.Str.ofString "steps" → ¬ y = PySem.Str.ofString "goal" → ¬ y = PySem.Str.ofString "other" → ¬ y = PySem.Str.ofString "way" → ¬ y = PySem.Str.ofString "first" → ¬ y = PySem.Str.ofString "second" → m' y = m₀ y) :
    ∃ a1 a2 a3 a4 a5 a6 a7 a8, m' = nest8 m₀ a1 a2 a3 a4 a5 a6 a7 a8 := by
  refine ⟨m' (PySem.Str.ofString "k"), m' (PySem.Str.ofString "power"), m' (PySem.Str.ofString "steps"), m' (PySem.Str.ofString "goal"), m' (PySem.Str.ofString "other"), m' (PySem.Str.ofString "way"), m' (PySem.Str.ofString "first"), m' (PySem.Str.ofString "second"), ?_⟩
  funext y
  show m' y = if _ then _ else _
  by_cases h1 : y = PySem.Str.ofString "k"
  · rw [if_pos h1, h1]
  rw [if_neg h1]
  by_cases h2 : y = PySem.Str.ofString "power"
  · rw [if_pos h2, h2]
  rw [if_neg h2]
  by_cases h3 : y = PySem.Str.ofString "steps"
  · rw [if_pos h3, h3]
  rw [if_neg h3]
  by_cases h4 : y = PySem.Str.ofString "goal"
  · rw [if_pos h4, h4]
  rw [if_neg h4]
  by_cases h5 : y = PySem.Str.ofString "other"
  · rw [if_pos h5, h5]
  rw [if_neg h5]
  by_cases h6 : y = PySem.Str.ofString "way"
  · rw [if_pos h6, h6]
  rw [if_neg h6]
  by_cases h7 : y = PySem.Str.ofString "first"
  · rw [if_pos h7, h7]
  rw [if_neg h7]
  by_cases h8 : y = PySem.Str.ofString "second"
  · rw [if_pos h8, h8]
  rw [if_neg h8]
  exact h y h1 h2 h3 h4 h5 h6 h7 h8
section
variable {prog : Program} {w : World} {A : Around} {E : Value → Shared → Prop} {s : Shared} {h₀ : Heap} {env : Env} {x : PySem.Str} {body : List Stmt} {Q : Flow → Shared → Prop} {L : Addr} {ma xa da at_ c4 c3 c2 c1 : Addr} {om ox od o4 o3 oL oF : Obj} {m₀ : PySem.Str → Option Value}
abbrev pre8 (ma xa da at_ c4 c3 c2 c1 : Addr) (om ox od o4 o3 oL oF : Obj) (kk : Int) (u : Tok) : Led := [(ma, om), (xa, ox), (da, od), (at_, listOf [Value.int kk u].toArray 0), (c4, o4), (c3, o3), (c2, oL), (c1, oF)]
def Inv2 (m₀ : PySem.Str → Option Value) (ma xa da at_ c4 c3 c2 c1 : Addr) (om ox od o4 o3 oL oF : Obj) (i : Nat) (m₁ : PySem.Str → Option Value) (pre₁ : Led) : Prop :=
  ∃ (kk : Int) (u : Tok), pre₁ = pre8 ma xa da at_ c4 c3 c2 c1 om ox od o4 o3 oL oF kk u ∧ 0 ≤ kk ∧ kk ≤ 100 + 10 * (i : Int) ∧ ∃ a1 a2 a3 a4 a5 a6 a7 a8, m₁ = nest8 m₀ a1 a2 a3 a4 a5 a6 a7 a8
abbrev End2 (h₀ : Heap) (L : Addr) (m₀ : PySem.Str → Option Value) (ma xa da at_ c4 c3 c2 c1 : Addr) (om ox od o4 o3 oL oF : Obj) (i : Nat) (tl : Led) (s₁ : Shared) (Q : Flow → Shared → Prop) : Flow → Shared → Prop :=
  TurnEnd h₀ L (Inv2 m₀ ma xa da at_ c4 c3 c2 c1 om ox od o4 o3 oL oF (i + 1)) [ma, xa, da, at_, c4, c3, c2, c1] tl s₁ Q
theorem turn_next2 {i : Nat} {tl : Led} {s₁ : Shared} {h' : Heap} {tk : Nat} {m' : PySem.Str → Option Value} {kk : Int} {u : Tok} (F : Fr h₀ L h' m')
    (N : News h₀ L h' ((ma, om) :: (xa, ox) :: (da, od) :: (at_, listOf [Value.int kk u].toArray 0) :: (c4, o4) :: (c3, o3) :: (c2, oL) :: (c1, oF) :: tl)) (h0 : 0 ≤ kk) (h1 : kk ≤ 110 + 10 * (i : Int)) (hm : ∃ a1 a2 a3 a4 a5 a6 a7 a8, m' = nest8 m₀ a1 a2 a3 a4 a5 a6 a7 a8) :
    End2 h₀ L m₀ ma xa da at_ c4 c3 c2 c1 om ox od o4 o3 oL oF i tl s₁ Q .next { s₁ with heap := h', toks := tk } :=
  TurnEnd.next F (pre := pre8 ma xa da at_ c4 c3 c2 c1 om ox od o4 o3 oL oF kk u) N rfl ⟨kk, u, rfl, h0, by push_cast; omega, hm⟩
theorem turn_cont2 {i : Nat} {tl : Led} {s₁ : Shared} {h' : Heap} {tk : Nat} {m' : PySem.Str → Option Value} {kk : Int} {u : Tok} (F : Fr h₀ L h' m')
    (N : News h₀ L h' ((ma, om) :: (xa, ox) :: (da, od) :: (at_, listOf [Value.int kk u].toArray 0) :: (c4, o4) :: (c3, o3) :: (c2, oL) :: (c1, oF) :: tl)) (h0 : 0 ≤ kk) (h1 : kk ≤ 110 + 10 * (i : Int)) (hm : ∃ a1 a2 a3 a4 a5 a6 a7 a8, m' = nest8 m₀ a1 a2 a3 a4 a5 a6 a7 a8) :
    End2 h₀ L m₀ ma xa da at_ c4 c3 c2 c1 om ox od o4 o3 oL oF i tl s₁ Q .cont { s₁ with heap := h', toks := tk } :=
  TurnEnd.cont F (pre := pre8 ma xa da at_ c4 c3 c2 c1 om ox od o4 o3 oL oF kk u) N rfl ⟨kk, u, rfl, h0, by push_cast; omega, hm⟩
theorem loop2 {base : Heap} {told : Addr} {vl : List Value} {r : Addr} {b₀ kk₀ : Int} {t₀ u₀ v₀ u : Tok} {ld : Led}
    (hh : A.handled = none) (hr : IsRange s.heap r 0 b₀ 1 t₀ u₀ v₀) (hb0 : 0 ≤ b₀) (hb1 : b₀ ≤ 4) (F : Fr h₀ env.locals s.heap m₀) (N : News h₀ env.locals s.heap ((ma, om) :: (xa, ox) :: (da, od) :: (at_, listOf [Value.int kk₀ u].toArray 0) :: (c4, o4) :: (c3, o3) :: (c2, oL) :: (c1, oF) :: ld)) (hT : Told base ld told vl) (hk0 : 0 ≤ kk₀) (hk1 : kk₀ ≤ 100)
    (fm : ∀ p ∈ ld, p.1 ≠ ma) (fx : ∀ p ∈ ld, p.1 ≠ xa) (fd : ∀ p ∈ ld, p.1 ≠ da) (f0 : ∀ p ∈ ld, p.1 ≠ at_) (f4 : ∀ p ∈ ld, p.1 ≠ c4) (f3 : ∀ p ∈ ld, p.1 ≠ c3) (f2 : ∀ p ∈ ld, p.1 ≠ c2) (f1 : ∀ p ∈ ld, p.1 ≠ c1) (hx : x = PySem.Str.ofString "k")
    (turn : ∀ (i : Nat) (k : Int) (a1 a2 a3 a4 a5 a6 a7 a8 : Option Value) (t : Tok) (kk : Int) (u : Tok) (h : Heap) (tk : Nat) (tl : Led), (i : Int) < b₀ → Told base tl told vl → (∀ p ∈ tl, p.1 ≠ at_) → 0 ≤ kk → kk ≤ 100 + 10 * (i : Int) →
      Fr h₀ env.locals h (fun y => if y = PySem.Str.ofString "k" then some (.int k t) else nest8 m₀ a1 a2 a3 a4 a5 a6 a7 a8 y) → News h₀ env.locals h ((ma, om) :: (xa, ox) :: (da, od) :: (at_, listOf [Value.int kk u].toArray 0) :: (c4, o4) :: (c3, o3) :: (c2, oL) :: (c1, oF) :: tl) →
      wpAny (model prog w) A (execs body env) (End2 h₀ env.locals m₀ ma xa da at_ c4 c3 c2 c1 om ox od o4 o3 oL oF i tl { s with heap := h, toks := tk } Q) E { s with heap := h, toks := tk })
    (done : ∀ (a1 a2 a3 a4 a5 a6 a7 a8 : Option Value) (kk : Int) (u : Tok) (h : Heap) (tk : Nat), Fr h₀ env.locals h (nest8 m₀ a1 a2 a3 a4 a5 a6 a7 a8) → News h₀ env.locals h ((ma, om) :: (xa, ox) :: (da, od) :: (at_, listOf [Value.int kk u].toArray 0) :: (c4, o4) :: (c3, o3) :: (c2, oL) :: (c1, oF) :: ld) → Q .next { s with heap := h, toks := tk }) :
    wpAny (model prog w) A (pyIter (.ref r)) (fun it s₂ => LoopAtV prog w A h₀ env x body Q E it s₂) E s := by
  subst hx
  obtain ⟨n, rfl⟩ : ∃ n : Nat, b₀ = n := ⟨b₀.toNat, by omega⟩
  refine loop_range (n := n) (pre := pre8 ma xa da at_ c4 c3 c2 c1 om ox od o4 o3 oL oF kk₀ u) (tl := ld) (Inv2 m₀ ma xa da at_ c4 c3 c2 c1 om ox od o4 o3 oL oF) hh hr (range_small n (by omega)) (range_size n) F N hT ?_ ⟨kk₀, u, rfl, hk0, by push_cast; omega, nest8_eq fun _ _ _ _ _ _ _ _ _ => rfl⟩ ?_ ?_
  · intro p hp q hq
    simp only [List.map_cons, List.map_nil, List.mem_cons, List.not_mem_nil, or_false] at hq
    rcases hq with rfl | rfl | rfl | rfl | rfl | rfl | rfl | rfl
    · exact fm p hp
    · exact fx p hp
    · exact fd p hp
    · exact f0 p hp
    · exact f4 p hp
    · exact f3 p hp
    · exact f2 p hp
    · exact f1 p hp
  · rintro i k t m₁ pre₁ h tk tl hi hT' hoff _ ⟨kk, u, rfl, h0, h1, a1, a2, a3, a4, a5, a6, a7, a8, rfl⟩ F₁ N₁
    exact turn i k a1 a2 a3 a4 a5 a6 a7 a8 t kk u h tk tl (by omega) hT' (fun p hp => hoff p hp _ (.tail _ (.tail _ (.tail _ (.head _))))) h0 h1 F₁ N₁
  · rintro m₁ pre₁ h tk _ ⟨kk, u, rfl, h0, h1, a1, a2, a3, a4, a5, a6, a7, a8, rfl⟩ F₁ N₁
    exact done a1 a2 a3 a4 a5 a6 a7 a8 kk u h tk F₁ N₁

def JK (x : PySem.Str) (m₀ : PySem.Str → Option Value) (news : Led) (l : Nat) (steps : Int) (n : Nat) (m₁ : PySem.Str → Option Value) (nx : Led) : Prop :=
  ∃ (j : Nat) (t : Tok), nx = news ∧ n = l - j ∧ j ≤ l ∧ (j = 0 ∨ (4 : Int) ^ (j - 1) < steps) ∧ m₁ = fun y => if y = x then some (.int (j : Int) t) else m₀ y
theorem while_end {news : Led} {l j n : Nat} {steps v : Int} {t t' : Tok} {h' : Heap} {tk : Nat} (F : Fr h₀ L h' (fun y => if y = x then some (.int v t') else if y = x then some (.int (j : Int) t) else m₀ y)) (N : News h₀ L h' news) (hn : n = l - j) (hv : v = (j : Int) + 1) (hlt : (4 : Int) ^ (j : Int).toNat < steps) (hs : steps ≤ 4 ^ l) :
    WhileStep h₀ L s (JK x m₀ news l steps) n .next { s with heap := h', toks := tk } := by
  rw [Int.toNat_natCast] at hlt
  have hj : j < l := by
    refine Nat.lt_of_not_le fun hle => ?_
    have h4 : (4 : Nat) ^ l ≤ 4 ^ j := Nat.pow_le_pow_right (by decide) hle
    have e1 : ((4 ^ l : Nat) : Int) = 4 ^ l := by push_cast; rfl
    have e2 : ((4 ^ j : Nat) : Int) = 4 ^ j := by push_cast; rfl
    omega
  refine WhileStep.intro F N (n' := l - (j + 1)) (by omega) ⟨j + 1, t', rfl, rfl, hj, .inr (by rw [Nat.add_sub_cancel]; exact hlt), ?_⟩
  funext y
  by_cases h : y = x
  · simp [h, hv]
  · simp [h]
theorem while4 {test : PySem.Expr} {pos : Pos} {news : Led} {l : Nat} {steps : Int} {t0 : Tok} (F : Fr h₀ L s.heap (fun y => if y = x then some (.int 0 t0) else m₀ y)) (N : News h₀ L s.heap news)
    (turn : ∀ (j : Nat) (t : Tok) (n : Nat) h₁ tk₁, j ≤ l → (j = 0 ∨ (4 : Int) ^ (j - 1) < steps) → n = l - j → Fr h₀ L h₁ (fun y => if y = x then some (.int (j : Int) t) else m₀ y) → News h₀ L h₁ news →
      wpAny (model prog w) A (isTrue test env (eval test env)) (fun b s₂ =>
        if b = true then wpAny (model prog w) A (execs body env) (WhileStep h₀ L s (JK x m₀ news l steps) n) E s₂ else Q .next s₂) E { s with heap := h₁, toks := tk₁ })
    (hE : PassesOwn (model prog w) A env E := by passes_own) :
    wpAny (model prog w) A (exec (.While test body [] pos) env) Q E s := by
  refine While_inv (JK x m₀ news l steps) (n₀ := l) F N ⟨0, t0, rfl, rfl, Nat.zero_le _, .inl rfl, rfl⟩ ?_ hE
  rintro n m₁ news₁ h₁ tk₁ F₁ N₁ ⟨j, t, rfl, hn, hj, hp, rfl⟩
  exact turn j t n h₁ tk₁ hj hp hn F₁ N₁
end
end Mine
/- part LX4 -/
set_option Elab.async false
set_option maxRecDepth 100000
set_option maxHeartbeats 1000000
namespace Mine
open PySem PySem.W PySem.Spec PySem.Calls PyProof.Rows
section
variable {prog : Program} {w : World} {A : Around} {E : Value → Shared → Prop} {s : Shared} {h₀ : Heap} {env : Env} {L : Addr} {m : PySem.Str → Option Value} {news : Led} {Q : Value → Shared → Prop}
theorem max_one {b : Int} {t u : Tok} (hh : A.handled = none) (F : Fr h₀ L s.heap m) (N : News h₀ L s.heap news) (h : ∀ v h' tk t', 1 ≤ v → Fr h₀ L h' m → News h₀ L h' news → Q (.int v t') { s with heap := h', toks := tk }) :
    wpAny (model prog w) A (call (.builtin "max") [.int 1 t, .int b u]) Q E s := by
  refine max_two_N hh F N fun h' tk F' N' => ?_
  exact h _ h' tk _ (by split <;> omega) F' N'
theorem pick3 {value slice : PySem.Expr} {D : Addr} {a b c k : Int} {ta tb tc u : Tok} {n : Nat} (N : News h₀ L s.heap news) (hm : (D, listOf [Value.int a ta, Value.int b tb, Value.int c tc].toArray n) ∈ news) (h0 : 0 ≤ k) (h3 : k < 3) (ha : 1 ≤ a) (hb : 1 ≤ b) (hc : 1 ≤ c) (h : ∀ v t, 1 ≤ v → Q (.int v t) s)
    (hs : subscripted slice false (.ref D) (.int k u) = operate [.ref D, .int k u] (getItem (.ref D) (.int k u)) := by with_unfolding_all rfl) :
    wpAny (model prog w) A (subscriptTail value slice (.ref D) (.int k u)) Q E s :=
  ksa_sub (ns := [a, b, c]) N hm (.cons _ _ (.cons _ _ (.cons _ _ .nil))) h0 (show k < ((3 : Nat) : Int) by omega) (by omega) (fun t => h _ t (by
    have : k = 0 ∨ k = 1 ∨ k = 2 := by omega
    rcases this with rfl | rfl | rfl
    · exact ha
    · exact hb
    · exact hc)) hs
def PG (h₀ : Heap) (L : Addr) (m : PySem.Str → Option Value) (news : Led) (a b c : Int) (s : Shared) (v : Value) (s' : Shared) : Prop :=
  ∃ g t h' tk, v = .int g t ∧ s' = { s with heap := h', toks := tk } ∧ Fr h₀ L h' m ∧ News h₀ L h' news ∧ ((g = a + b ∧ a + b < c) ∨ g = a - b)
theorem ifexp_goal {test body orelse : PySem.Expr} {pos : Pos} {a b c : Int} (F : Fr h₀ L s.heap m) (N : News h₀ L s.heap news) (hb : 1 ≤ b) (hc : 0 ≤ a ∧ a < c)
    (h1 : wpAny (model prog w) A (isTrue test env (eval test env)) (fun x s₂ => if x = true then wpAny (model prog w) A (eval body env) (PG h₀ L m news a b c s) E s₂ else wpAny (model prog w) A (eval orelse env) (PG h₀ L m news a b c s) E s₂) E s)
    (h2 : ∀ g t h' tk, Fr h₀ L h' m → News h₀ L h' news → ((g = a + b ∧ a + b < c) ∨ g = a - b) → Q (.int g t) { s with heap := h', toks := tk }) :
    wpAny (model prog w) A (eval (.IfExp test body orelse pos) env) Q E s := by
  refine IfExp_ (wpAny_mono h1 (fun x s₂ h => ?_) fun _ _ e => e)
  have pg : ∀ v s', PG h₀ L m news a b c s v s' → Q v s' := by
    rintro v s' ⟨g, t, h', tk, rfl, rfl, F', N', d⟩
    exact h2 g t h' tk F' N' d
  cases x with
  | true =>
    simp only [if_true] at h ⊢
    exact wpAny_mono h pg fun _ _ e => e
  | false =>
    simp only [Bool.false_eq_true, if_false] at h ⊢
    exact wpAny_mono h pg fun _ _ e => e
theorem steps_of {q l : Nat} {g steps : Int} (h1 : 1 ≤ steps) (hq : q < 4 ^ l) (h : (g = (q : Int) + steps ∧ (q : Int) + steps < 4 ^ (l : Int).toNat) ∨ g = (q : Int) - steps) (h0 : ¬ g < 0) :
    ∃ q' : Nat, g = q' ∧ q' < 4 ^ l ∧ ((q' : Int) = q + steps ∨ (q : Int) = q' + steps) := by
  rw [Int.toNat_natCast] at h
  have e : ((4 ^ l : Nat) : Int) = 4 ^ l := by push_cast; rfl
  rcases h with ⟨h2, h3⟩ | h2
  · exact ⟨g.toNat, by omega, by omega, by omega⟩
  · exact ⟨g.toNat, by omega, by omega, by omega⟩
end
end Mine
/- part LX5 -/
set_option Elab.async false
set_option maxRecDepth 100000
set_option maxHeartbeats 1000000
namespace Mine
open PySem PySem.W PySem.Spec PySem.Calls PyProof.Rows
section
variable {prog : Program} {w : World} {A : Around} {E : Value → Shared → Prop} {s : Shared} {h₀ : Heap} {env : Env} {L : Addr} {m : PySem.Str → Option Value} {news : Led} {Q : Value → Shared → Prop}
theorem ifexp_nat {test body orelse : PySem.Expr} {pos : Pos} {q l : Nat} {b : Int} (hq : q < 4 ^ l) (hb : 1 ≤ b) (F : Fr h₀ L s.heap m) (N : News h₀ L s.heap news)
    (h1 : wpAny (model prog w) A (isTrue test env (eval test env)) (fun x s₂ => if x = true then wpAny (model prog w) A (eval body env) (PG h₀ L m news q b (4 ^ (l : Int).toNat) s) E s₂ else wpAny (model prog w) A (eval orelse env) (PG h₀ L m news q b (4 ^ (l : Int).toNat) s) E s₂) E s)
    (h2 : ∀ g t h' tk, Fr h₀ L h' m → News h₀ L h' news → ((g = (q : Int) + b ∧ (q : Int) + b < 4 ^ (l : Int).toNat) ∨ g = (q : Int) - b) → Q (.int g t) { s with heap := h', toks := tk }) :
    wpAny (model prog w) A (eval (.IfExp test body orelse pos) env) Q E s := by
  refine ifexp_goal F N hb ⟨by omega, ?_⟩ h1 h2
  rw [Int.toNat_natCast]
  have e : ((4 ^ l : Nat) : Int) = 4 ^ l := by push_cast; rfl
  omega
theorem pow_is {a b c : Int} {t u : Tok} (h0 : 0 ≤ b) (h1 : b ≤ 1000000) (h2 : a.natAbs < 2 ^ 64) (e : a ^ b.toNat = c) (h : Q (.int c s.toks) { s with toks := s.toks + 1 }) : wpAny (model prog w) A (binaryOp .Pow (.int a t) (.int b u)) Q E s := by
  subst e; exact pow_int_small h0 h1 h2 h
theorem shr_is {a b c : Int} {t u : Tok} (h0 : 0 ≤ b) (e : a.fdiv (2 ^ b.toNat) = c) (h : Q (.int c s.toks) { s with toks := s.toks + 1 }) : wpAny (model prog w) A (binaryOp .RShift (.int a t) (.int b u)) Q E s := by
  subst e; exact rshift_int h0 h
end
end Mine
/- part LX6 -/
set_option Elab.async false
set_option maxRecDepth 100000
set_option maxHeartbeats 1000000
namespace Mine
open PySem PySem.W PySem.Spec PySem.Calls PyProof.Rows
section
variable {prog : Program} {w : World} {A : Around} {E : Value → Shared → Prop} {s : Shared} {h₀ : Heap} {env : Env} {L : Addr} {m : PySem.Str → Option Value} {news : Led}
theorem notin01 {t : Addr} {a : Int} {u t0 t1 : Tok} {Q : Value → Shared → Prop} (N : News h₀ L s.heap news) (hm : (t, tup2 (.int 0 t0) (.int 1 t1)) ∈ news) (ha : 0 ≤ a ∧ a ≤ 1) (h : Q (.bool false) s) : wpAny (model prog w) A (compareOp .NotIn (.int a u) (.ref t)) Q E s := by
  refine notin_tuple_ints (ns := [0, 1]) (News.isTup N hm) (.cons _ _ (.cons _ _ .nil)) ?_
  have e : (!([(0 : Int), 1].any (· == a))) = false := by
    have : a = 0 ∨ a = 1 := by omega
    rcases this with rfl | rfl <;> rfl
  rw [e]; exact h
variable {x : PySem.Str} {body : List Stmt} {Q : Flow → Shared → Prop} {m₀ : PySem.Str → Option Value}
theorem while4' {test : PySem.Expr} {pos : Pos} {l : Nat} {steps : Int} {t0 : Tok} (hs : steps ≤ 4 ^ l) (F : Fr h₀ L s.heap (fun y => if y = x then some (.int 0 t0) else m₀ y)) (N : News h₀ L s.heap news)
    (turn : ∀ (j : Nat) (t : Tok) (n : Nat) h₁ tk₁, j ≤ l → (4 : Int) ^ (j : Int).toNat < steps → n = l - j → Fr h₀ L h₁ (fun y => if y = x then some (.int (j : Int) t) else m₀ y) → News h₀ L h₁ news →
      wpAny (model prog w) A (isTrue test env (eval test env)) (fun b s₂ =>
        if b = true then wpAny (model prog w) A (execs body env) (WhileStep h₀ L s (JK x m₀ news l steps) n) E s₂ else Q .next s₂) E { s with heap := h₁, toks := tk₁ })
    (done : ∀ (j : Nat) (t : Tok) h₁ tk₁, j ≤ l → steps ≤ (4 : Int) ^ (j : Int).toNat → Fr h₀ L h₁ (fun y => if y = x then some (.int (j : Int) t) else m₀ y) → News h₀ L h₁ news →
      wpAny (model prog w) A (isTrue test env (eval test env)) (fun b s₂ =>
        if b = true then wpAny (model prog w) A (execs body env) (fun _ _ => False) E s₂ else Q .next s₂) E { s with heap := h₁, toks := tk₁ })
    (hE : PassesOwn (model prog w) A env E := by passes_own) :
    wpAny (model prog w) A (exec (.While test body [] pos) env) Q E s := by
  refine while4 (l := l) (steps := steps) F N (fun j t n h₁ tk₁ hj _ hn F₁ N₁ => ?_) hE
  by_cases hlt : (4 : Int) ^ (j : Int).toNat < steps
  · exact turn j t n h₁ tk₁ hj hlt hn F₁ N₁
  · refine wpAny_mono (done j t h₁ tk₁ hj (by omega) F₁ N₁) (fun b s₂ h => ?_) fun _ _ e => e
    cases b with
    | false => exact h
    | true =>
      simp only [if_true] at h ⊢
      exact wpAny_mono h (fun _ _ x => x.elim) fun _ _ e => e
end
end Mine
/- part LC -/
set_option Elab.async false
set_option maxRecDepth 100000
set_option maxHeartbeats 1000000
namespace Mine
open PySem PySem.W PySem.Spec PySem.Calls PyProof.Rows
inductive All2 {α β : Type} (R : α → β → Prop) : List α → List β → Prop
  | nil : All2 R [] []
  | cons {a b l k} : R a b → All2 R l k → All2 R (a :: l) (b :: k)
theorem All2.length {α β : Type} {R : α → β → Prop} {l : List α} {k : List β} (h : All2 R l k) : k.length = l.length := by
  induction h with
  | nil => rfl
  | cons _ _ ih => simp [ih]
theorem All2.snoc {α β : Type} {R : α → β → Prop} {l : List α} {k : List β} {a : α} {b : β} (h : All2 R l k) (r : R a b) : All2 R (l ++ [a]) (k ++ [b]) := by
  induction h with
  | nil => exact .cons r .nil
  | cons r0 _ ih => exact .cons r0 ih
def StepT (h₀ : Heap) (L : Addr) (m : PySem.Str → Option Value) (s : Shared) (led : Led) (bt : Bool) (K : Shared → Prop) (ok : Bool) (s' : Shared) : Prop :=
  ∃ h' tk', s' = { s with heap := h', toks := tk' } ∧ Fr h₀ L h' m ∧ News h₀ L h' led ∧ ok = bt ∧ (ok = true → K s')
def StepE (h₀ : Heap) (L : Addr) (m : PySem.Str → Option Value) (s : Shared) (led : Led) (R : Value → Prop) (y : Value) (s' : Shared) : Prop :=
  ∃ h' tk', s' = { s with heap := h', toks := tk' } ∧ Fr h₀ L h' m ∧ News h₀ L h' led ∧ R y
theorem StepT.intro {h₀ : Heap} {L : Addr} {m : PySem.Str → Option Value} {s : Shared} {led : Led} {bt ok : Bool} {K : Shared → Prop} {h' : Heap} {tk' : Nat} (F : Fr h₀ L h' m) (N : News h₀ L h' led) (e : ok = bt) (k : ok = true → K { s with heap := h', toks := tk' }) : StepT h₀ L m s led bt K ok { s with heap := h', toks := tk' } := ⟨h', tk', rfl, F, N, e, k⟩
theorem StepE.intro {h₀ : Heap} {L : Addr} {m : PySem.Str → Option Value} {s : Shared} {led : Led} {R : Value → Prop} {y : Value} {h' : Heap} {tk' : Nat} (F : Fr h₀ L h' m) (N : News h₀ L h' led) (r : R y) : StepE h₀ L m s led R y { s with heap := h', toks := tk' } := ⟨h', tk', rfl, F, N, r⟩
section
variable {prog : Program} {w : World} {A : Around} {s : Shared} {h₀ : Heap} {L : Addr} {m : PySem.Str → Option Value} {env : Env} {τ : Type}
theorem comp_T {ct elt : PySem.Expr} {x : PySem.Str} {scope : Scope} {cl : List (PySem.Str × Addr)} {S : Led → Prop} {Fin : List Value → Led → Prop} {news : Led} {its : Array Value} {n : Nat} (ts : List τ) (val : τ → Value) (b : τ → Bool) (R : τ → Value → Prop)
    (hits : its = (ts.map val).toArray) (hn : n = ts.length) (hS : S news)
    (step : ∀ t ∈ ts, ∀ (I C D : Addr) (oI oC : Obj) (ys : List Value) (m₂ : PySem.Str → Option Value) (h : Heap) (tk : Nat) (E' : Value → Shared → Prop), LCg.NsObj oC m₂ → m₂ x = some (val t) → Fr h₀ L h m → News h₀ L h ((I, oI) :: (C, oC) :: (D, LCg.lst ys) :: news) → LCg.Off3 I C D news → ((@Ne Nat I C) ∧ (@Ne Nat I D) ∧ (@Ne Nat C D)) →
      wpAny (model prog w) A (isTrue ct (compEnvC scope cl C env) (eval ct (compEnvC scope cl C env))) (StepT h₀ L m { s with heap := h, toks := tk } ((I, oI) :: (C, oC) :: (D, LCg.lst ys) :: news) (b t) (fun s' => wpAny (model prog w) A (eval elt (compEnvC scope cl C env)) (StepE h₀ L m { s with heap := h, toks := tk } ((I, oI) :: (C, oC) :: (D, LCg.lst ys) :: news) (R t)) E' s')) E' { s with heap := h, toks := tk })
    (fin : ∀ zs, All2 R (ts.filter b) zs → Fin zs news) :
    LCt.CompRestT prog w A h₀ L m env ct elt x scope cl s S (fun i v => its[i]? = some v) Fin n 0 [] news := by
  subst hn
  suffices H : ∀ k i ys, i + k = ts.length → All2 R ((ts.take i).filter b) ys → LCt.CompRestT prog w A h₀ L m env ct elt x scope cl s S (fun i v => its[i]? = some v) Fin k i ys news from
    H ts.length 0 [] (Nat.zero_add _) (by simpa using All2.nil)
  intro k
  induction k with
  | zero =>
    intro i ys hi hy
    have : ts.take i = ts := List.take_of_length_le (by omega)
    rw [this] at hy
    exact LCt.CompRestT.zero (fin ys hy)
  | succ k ih =>
    intro i ys hi hy
    have hlt : i < ts.length := by omega
    refine LCt.CompRestT.succ fun v I oI C oC D m₂ h tk E' hP hC hx F N off ne => ?_
    have hv : v = val ts[i] := by
      rw [hits, List.getElem?_toArray, List.getElem?_map, List.getElem?_eq_getElem hlt] at hP
      exact (Option.some.inj hP).symm
    subst hv
    refine wpAny_mono (step ts[i] (List.getElem_mem hlt) I C D oI oC ys m₂ h tk E' hC hx F N off ne) (fun ok s' hs => ?_) fun _ _ e => e
    obtain ⟨h', tk', rfl, F', N', e, kk⟩ := hs
    have take1 : ts.take (i + 1) = ts.take i ++ [ts[i]] := by rw [List.take_add_one, List.getElem?_eq_getElem hlt]; rfl
    cases ok with
    | true =>
      simp only [if_true]
      refine wpAny_mono (kk rfl) (fun y s'' hs => ?_) fun _ _ e => e
      obtain ⟨h'', tk'', rfl, F'', N'', r⟩ := hs
      refine LCg.CompEnd.intro F'' N'' news (fun _ hp => hp) off hS (ih (i + 1) (ys ++ [y]) (by omega) ?_)
      rw [take1, List.filter_append]
      have : [ts[i]].filter b = [ts[i]] := by simp [← e]
      rw [this]; exact hy.snoc r
    | false =>
      simp only [Bool.false_eq_true, if_false]
      refine LCg.CompEnd.intro F' N' news (fun _ hp => hp) off hS (ih (i + 1) ys (by omega) ?_)
      rw [take1, List.filter_append]
      have : [ts[i]].filter b = [] := by simp [← e]
      rw [this, List.append_nil]; exact hy
theorem comp_U {elt : PySem.Expr} {x : PySem.Str} {scope : Scope} {cl : List (PySem.Str × Addr)} {S : Led → Prop} {Fin : List Value → Led → Prop} {news : Led} {its : Array Value} {n : Nat} (ts : List τ) (val : τ → Value) (R : τ → Value → Prop)
    (hits : its = (ts.map val).toArray) (hn : n = ts.length) (hS : S news)
    (step : ∀ t ∈ ts, ∀ (I C D : Addr) (oI oC : Obj) (ys : List Value) (m₂ : PySem.Str → Option Value) (h : Heap) (tk : Nat) (E' : Value → Shared → Prop), LCg.NsObj oC m₂ → m₂ x = some (val t) → Fr h₀ L h m → News h₀ L h ((I, oI) :: (C, oC) :: (D, LCg.lst ys) :: news) → LCg.Off3 I C D news → ((@Ne Nat I C) ∧ (@Ne Nat I D) ∧ (@Ne Nat C D)) →
      wpAny (model prog w) A (eval elt (compEnvC scope cl C env)) (StepE h₀ L m { s with heap := h, toks := tk } ((I, oI) :: (C, oC) :: (D, LCg.lst ys) :: news) (R t)) E' { s with heap := h, toks := tk })
    (fin : ∀ zs, All2 R ts zs → Fin zs news) :
    LCg.CompRest prog w A h₀ L m env elt x scope cl s S (fun i v => its[i]? = some v) Fin n 0 [] news := by
  subst hn
  suffices H : ∀ k i ys, i + k = ts.length → All2 R (ts.take i) ys → LCg.CompRest prog w A h₀ L m env elt x scope cl s S (fun i v => its[i]? = some v) Fin k i ys news from
    H ts.length 0 [] (Nat.zero_add _) (by simpa using All2.nil)
  intro k
  induction k with
  | zero =>
    intro i ys hi hy
    have : ts.take i = ts := List.take_of_length_le (by omega)
    rw [this] at hy
    exact LCg.CompRest.zero (fin ys hy)
  | succ k ih =>
    intro i ys hi hy
    have hlt : i < ts.length := by omega
    refine LCg.CompRest.succ fun v I oI C oC D m₂ h tk E' hP hC hx F N off ne => ?_
    have hv : v = val ts[i] := by
      rw [hits, List.getElem?_toArray, List.getElem?_map, List.getElem?_eq_getElem hlt] at hP
      exact (Option.some.inj hP).symm
    subst hv
    refine wpAny_mono (step ts[i] (List.getElem_mem hlt) I C D oI oC ys m₂ h tk E' hC hx F N off ne) (fun y s'' hs => ?_) fun _ _ e => e
    obtain ⟨h'', tk'', rfl, F'', N'', r⟩ := hs
    have take1 : ts.take (i + 1) = ts.take i ++ [ts[i]] := by rw [List.take_add_one, List.getElem?_eq_getElem hlt]; rfl
    refine LCg.CompEnd.intro F'' N'' news (fun _ hp => hp) off hS (ih (i + 1) (ys ++ [y]) (by omega) ?_)
    rw [take1]; exact hy.snoc r
end
end Mine
/- part LS -/
set_option Elab.async false
set_option maxRecDepth 100000
set_option maxHeartbeats 1000000
namespace Mine
open PySem PySem.W PySem.Spec PySem.Calls PyProof.Rows
theorem firstMet_take {ns : List Int} (hn : ns.Nodup) : ∀ i, i ≤ ns.length → firstMet (fun i => ns.getD i 0) i = ns.take i := by
  intro i
  induction i with
  | zero => intro _; rfl
  | succ i ih =>
    intro hi
    have hlt : i < ns.length := hi
    rw [firstMet_succ, ih (by omega), List.take_add_one, List.getElem?_eq_getElem hlt]
    have e : ns.getD i 0 = ns[i] := by simp [List.getD, List.getElem?_eq_getElem hlt]
    rw [e]
    unfold step_dedup
    have ha : (ns.take i).any (· == ns[i]) = false := by
      rw [List.any_eq_false]
      intro x hx hc
      have hxe : x = ns[i] := by simpa using hc
      obtain ⟨j, hj, hje⟩ := List.getElem_of_mem hx
      rw [List.length_take] at hj
      rw [List.getElem_take] at hje
      exact (List.pairwise_iff_getElem.mp hn) j i (by omega) hlt (by omega) (hje.trans hxe)
    rw [ha]; rfl
section
variable {prog : Program} {w : World} {A : Around} {E : Value → Shared → Prop} {s : Shared} {h₀ : Heap} {L : Addr} {m : PySem.Str → Option Value} {news : Led}
theorem set_ledger {l : Addr} {vs : List Value} {ns : List Int} {n : Nat} {Q : Value → Shared → Prop} (F : Fr h₀ L s.heap m) (N : News h₀ L s.heap news) (hh : A.handled = none) (hm : (l, listOf vs.toArray n) ∈ news) (hi : IntsAre vs ns) (hb : ns.length ≤ 100) (hn : ns.Nodup)
    (h : ∀ D h' (tk : Nat) o, Fr h₀ L h' m → News h₀ L h' ((D, o) :: news) → (∀ p ∈ news, p.1 < D) → Obj.SetObjOf (PySem.intKind prog w) o (fun k' => ns.any (· == k')) ns.length → Q (.ref D) { s with heap := h', toks := tk }) :
    wpAny (model prog w) A (call (.type "set") [.ref l]) Q E s := by
  have hl' : s.heap.IsList l vs.toArray := PySem.IsL.isList (n := n) (N _ hm).1
  have hvn : vs.length = ns.length := IntsAre.length hi
  have hsz : vs.toArray.size = vs.length := List.size_toArray
  refine PySem.call_set_list (items := vs.toArray) (ns := ns) hh hl' (by simpa using hi) (by rw [hsz, hvn]; unfold scanBound; omega) fun h' tk hS hk => ?_
  rw [hsz, hvn, firstMet_take hn _ (Nat.le_refl _), List.take_length] at hS
  obtain ⟨o, ho, hso⟩ := hS.objOf
  obtain ⟨oL, _, _, hL, _⟩ := F.ns
  have hLlt : L < s.heap.objs.size := Heap.lt_size hL
  refine h _ h' tk o ⟨F.ns.at' fun o' e => hk L o' hLlt e, fun b o' e => hk b o' (Heap.lt_size (F.keep b o' e)) (F.keep b o' e), F.above⟩ (fun p hp => ?_) (fun p hp => Heap.lt_size (N p hp).1) hso
  rcases List.mem_cons.mp hp with rfl | hp
  · exact ⟨ho, Ne.symm (Nat.ne_of_lt hLlt), next_is_new F⟩
  · exact ⟨hk _ _ (Heap.lt_size (N p hp).1) (N p hp).1, (N p hp).2⟩
theorem set_len {D : Addr} {o : Obj} {S : Int → Bool} {k : Nat} {Q : Value → Shared → Prop} (N : News h₀ L s.heap ((D, o) :: news)) (hso : Obj.SetObjOf (PySem.intKind prog w) o S k) (hb : k ≤ 100) (h : ∀ t s', s' = { s with toks := s.toks + 1 + 1 } → Q (.int (k : Nat) t) s') :
    wpAny (model prog w) A (call (.builtin "len") [.ref D]) Q E s :=
  len_sl1 (own := []) N hso (by omega) (h _ _ rfl)
theorem list_len {D : Addr} {vs : List Value} {Q : Value → Shared → Prop} (N : News h₀ L s.heap news) (hm : (D, LCg.lst vs) ∈ news) (hb : vs.length ≤ 100) (h : ∀ t s', s' = { s with toks := s.toks + 1 + 1 } → Q (.int (vs.length : Nat) t) s') :
    wpAny (model prog w) A (call (.builtin "len") [.ref D]) Q E s := by
  refine Calls.call_len_list (items := vs.toArray) (PySem.IsL.isList (n := vs.length) (N _ hm).1) (by rw [List.size_toArray]; omega) ?_
  rw [List.size_toArray]
  exact h _ _ rfl
end
end Mine
/- part LN -/
set_option Elab.async false
set_option maxRecDepth 100000
set_option maxHeartbeats 1000000
namespace Mine
open PySem PySem.W PySem.Spec PySem.Calls PyProof.Rows
abbrev T3 := Addr × Nat × Nat
def cellsIn (f : Nat) (ts : List T3) : List T3 := ts.filter fun t => decide (t.2.1 = f)
theorem cellsIn_yes {f f1 : Nat} {x : Addr} {q : Nat} {ts : List T3} (h : f1 = f) : cellsIn f ((x, f1, q) :: ts) = (x, f1, q) :: cellsIn f ts := by unfold cellsIn; simp [h]
theorem cellsIn_no {f f1 : Nat} {x : Addr} {q : Nat} {ts : List T3} (h : f1 ≠ f) : cellsIn f ((x, f1, q) :: ts) = cellsIn f ts := by unfold cellsIn; simp [h]
def Good (f q l : Nat) (ts : List T3) (n : Nat) (S : List Nat) : Prop := (∀ t ∈ ts, t.2.1 = f ∧ t.2.2 < 4 ^ l ∧ way l (f % 2) q t.2.2 = 1 ∧ t.2.2 ∈ S) ∧ (ts.map fun t => t.2.2).Nodup ∧ ts.length = n
theorem good_step {f q l n : Nat} {ts : List T3} {S : List Nat} {c : Prop} [Decidable c] {x : Addr} {f1 q1 p : Nat} (h : Good f q l (cellsIn f ts) n S) (hc : (c ∧ f1 = f ∧ q1 = p) ∨ (¬ c ∧ f1 ≠ f)) (hp : c → p < 4 ^ l ∧ way l (f % 2) q p = 1 ∧ p ∉ S) :
    ∃ S', Good f q l (cellsIn f ((x, f1, q1) :: ts)) ((if c then 1 else 0) + n) S' ∧ ∀ r ∈ S', r ∈ S ∨ (c ∧ r = p) := by
  obtain ⟨h1, h2, h3⟩ := h
  rcases hc with ⟨hc, rfl, rfl⟩ | ⟨hc, hf⟩
  · obtain ⟨p1, p2, p3⟩ := hp hc
    refine ⟨q1 :: S, ⟨?_, ?_, ?_⟩, ?_⟩
    · rw [cellsIn_yes rfl]
      intro t ht
      rcases List.mem_cons.mp ht with rfl | ht
      · exact ⟨rfl, p1, p2, .head _⟩
      · obtain ⟨a, b, c, d⟩ := h1 t ht; exact ⟨a, b, c, .tail _ d⟩
    · rw [cellsIn_yes rfl, List.map_cons, List.nodup_cons]
      refine ⟨fun hm => ?_, h2⟩
      obtain ⟨t, ht, e⟩ := List.mem_map.mp hm
      have e' : t.2.2 = q1 := e
      exact p3 (e' ▸ (h1 t ht).2.2.2)
    · rw [cellsIn_yes rfl, List.length_cons, h3, if_pos hc]; omega
    · intro r hr
      rcases List.mem_cons.mp hr with rfl | hr
      · exact .inr ⟨hc, rfl⟩
      · exact .inl hr
  · refine ⟨S, ⟨?_, ?_, ?_⟩, fun r hr => .inl hr⟩
    · rw [cellsIn_no hf]; exact h1
    · rw [cellsIn_no hf]; exact h2
    · rw [cellsIn_no hf, h3, if_neg hc]; omega
theorem nb_all {f q l : Nat} {x1 x2 x3 x4 : Addr} {f1 q1 f2 q2 f3 q3 f4 q4 : Nat} (hl : l ≤ 30) (hq : q < 4 ^ l)
    (n1 : NB (decide (0 ≤ (LY f q l : Int) - sz l)) f (LX f q l) ((LY f q l : Int) - sz l) f1 q1)
    (n2 : NB (decide ((LX f q l : Int) + sz l < 1073741824)) f ((LX f q l : Int) + sz l) (LY f q l) f2 q2)
    (n3 : NB (decide ((LY f q l : Int) + sz l < 1073741824)) f (LX f q l) ((LY f q l : Int) + sz l) f3 q3)
    (n4 : NB (decide (0 ≤ (LX f q l : Int) - sz l)) f ((LX f q l : Int) - sz l) (LY f q l) f4 q4) :
    ∃ S, Good f q l (cellsIn f [(x1, f1, q1 / 4 ^ (30 - l)), (x2, f2, q2 / 4 ^ (30 - l)), (x3, f3, q3 / 4 ^ (30 - l)), (x4, f4, q4 / 4 ^ (30 - l))])
      ((if 0 < Y l (f % 2) q then 1 else 0) + ((if X l (f % 2) q + 1 < 2 ^ l then 1 else 0) + ((if Y l (f % 2) q + 1 < 2 ^ l then 1 else 0) + ((if 0 < X l (f % 2) q then 1 else 0) + 0)))) S := by
  have ho : f % 2 < 4 := by omega
  have hx := X_lt l (f % 2) q ho hq
  have hy := Y_lt l (f % 2) q ho hq
  have g0 : Good f q l (cellsIn f []) 0 [] := ⟨(fun t ht => by simp [cellsIn] at ht), List.nodup_nil, rfl⟩
  have pl : ∀ a b, a < 2 ^ l → b < 2 ^ l → P l (f % 2) a b < 4 ^ l := fun a b ha hb => (P_lt l (f % 2) a b ho ha hb).1
  obtain ⟨S4, g4, s4⟩ := good_step (x := x4) g0 (nb_left hl hq n4) fun c => ⟨pl _ _ (by omega) hy, near_one ho (by omega) hy (.inr ⟨rfl, .inr (by omega)⟩), fun h => nomatch h⟩
  obtain ⟨S3, g3, s3⟩ := good_step (x := x3) g4 (nb_top hl hq n3) fun c => ⟨pl _ _ hx c, near_one ho hx c (.inl ⟨rfl, .inl rfl⟩), fun h => by
    rcases s4 _ h with h | ⟨c4, h⟩
    · exact nomatch h
    · have := P_inj ho hx c (by omega) hy h; omega⟩
  obtain ⟨S2, g2, s2⟩ := good_step (x := x2) g3 (nb_right hl hq n2) fun c => ⟨pl _ _ c hy, near_one ho c hy (.inr ⟨rfl, .inl rfl⟩), fun h => by
    rcases s3 _ h with h | ⟨c3, h⟩
    · rcases s4 _ h with h | ⟨c4, h⟩
      · exact nomatch h
      · have := P_inj ho c hy (by omega) hy h; omega
    · have := P_inj ho c hy hx c3 h; omega⟩
  obtain ⟨S1, g1, s1⟩ := good_step (x := x1) g2 (nb_bottom hl hq n1) fun c => ⟨pl _ _ hx (by omega), near_one ho hx (by omega) (.inl ⟨rfl, .inr (by omega)⟩), fun h => by
    rcases s2 _ h with h | ⟨c2, h⟩
    · rcases s3 _ h with h | ⟨c3, h⟩
      · rcases s4 _ h with h | ⟨c4, h⟩
        · exact nomatch h
        · have := P_inj ho hx (by omega) (by omega) hy h; omega
      · have := P_inj ho hx (by omega) hx c3 h; omega
    · have := P_inj ho hx (by omega) c2 hy h; omega⟩
  exact ⟨S1, g1⟩
end Mine
/- part LN2 -/
set_option Elab.async false
set_option maxRecDepth 100000
set_option maxHeartbeats 1000000
namespace Mine
open PySem PySem.W PySem.Spec PySem.Calls PyProof.Rows
abbrev EdgeRet (w : World) (f q l : Nat) (news : Led) (h₀ : Heap) (L : Addr) (m : PySem.Str → Option Value) (s : Shared) (Q : Value → Shared → Prop) : Prop :=
  ∀ (a x1 d1 x2 d2 x3 d3 x4 d4 : Addr) (t1 t2 t3 t4 k1 k2 k3 k4 : Tok) (f1 q1 f2 q2 f3 q3 f4 q4 : Nat) (h' : Heap) (tk' : Nat),
  (f1 < 6 ∧ q1 < 4 ^ 30 ∧ NB (decide (0 ≤ (LY f q l : Int) - sz l)) f (LX f q l) ((LY f q l : Int) - sz l) f1 q1) →
  (f2 < 6 ∧ q2 < 4 ^ 30 ∧ NB (decide ((LX f q l : Int) + sz l < 1073741824)) f ((LX f q l : Int) + sz l) (LY f q l) f2 q2) →
  (f3 < 6 ∧ q3 < 4 ^ 30 ∧ NB (decide ((LY f q l : Int) + sz l < 1073741824)) f (LX f q l) ((LY f q l : Int) + sz l) f3 q3) →
  (f4 < 6 ∧ q4 < 4 ^ 30 ∧ NB (decide (0 ≤ (LX f q l : Int) - sz l)) f ((LX f q l : Int) - sz l) (LY f q l) f4 q4) →
  (∀ p ∈ news, p.1 < d1) ∧ d1 < x1 ∧ x1 < d2 ∧ d2 < x2 ∧ x2 < d3 ∧ d3 < x3 ∧ x3 < d4 ∧ d4 < x4 ∧ x4 < a → Fr h₀ L h' m →
  News h₀ L h' ((a, tup4r x1 x2 x3 x4) :: (x4, cellO d4) :: (d4, cellD w (cid f4 (q4 / 4 ^ (30 - l)) l : Int) t4 k4) :: (x3, cellO d3) :: (d3, cellD w (cid f3 (q3 / 4 ^ (30 - l)) l : Int) t3 k3) ::
    (x2, cellO d2) :: (d2, cellD w (cid f2 (q2 / 4 ^ (30 - l)) l : Int) t2 k2) :: (x1, cellO d1) :: (d1, cellD w (cid f1 (q1 / 4 ^ (30 - l)) l : Int) t1 k1) :: news) → Q (.ref a) { s with heap := h', toks := tk' }
theorem sp_useN {fa : Addr} {d : Nat} {vs : List Value} {w : World} {p : Program} {loose : List PySem.Str} {mean : ExcName → Option Value} {mg mb : PySem.Str → Option Value} {news : Led} {f q l : Nat}
  {dp un : Nat} {gd : Option (List Code)} {cn : PySem.Str} {cs : Scope} {a : Addr} {ccd : Value} {cl : List (PySem.Str × Addr)} {outer : List Env} {A₀ : Around} {base h₀ : Heap} {L : Addr} {m : PySem.Str → Option Value} {s : Shared} {Q E : Value → Shared → Prop}
  (S : Sp d w p loose mean mg mb fa news vs (OutN w f q l news)) (B : Below A₀ base outer h₀) (F : Fr h₀ L s.heap m) (X : (Mine.hd.heap_39 w.params).In h₀) (N : News h₀ L s.heap news) (T : Top p loose mean mg mb h₀) (hk : cs.kind = .function) (hdp : dp + d < recursionLimit) (hun : un + 20 * d < cLine)
    (ret : EdgeRet w f q l news h₀ L m s Q) :
    wpAny (model PySem.Challenge.rw_fb0049_01.row.prog w) (ktrTop dp un gd cn cs L a ccd cl outer) (call (.ref fa) vs) Q E s :=
  sp_use S B F X N T hk hdp hun fun r n h' tk' F' N' o => by
    obtain ⟨a, x1, d1, x2, d2, x3, d3, x4, d4, t1, t2, t3, t4, k1, k2, k3, k4, f1, q1, f2, q2, f3, q3, f4, q4, rfl, rfl, n1, n2, n3, n4, lt⟩ := o
    exact ret a x1 d1 x2 d2 x3 d3 x4 d4 t1 t2 t3 t4 k1 k2 k3 k4 f1 q1 f2 q2 f3 q3 f4 q4 h' tk' n1 n2 n3 n4 lt F' N'
theorem Hold.four {prog : Program} {w : World} {A : Around} {h₀ : Heap} {L : Addr} {m : PySem.Str → Option Value} {env : Env} {ct elt : PySem.Expr} {x : PySem.Str} {scope : Scope} {cl : List (PySem.Str × Addr)} {s : Shared} {S : Led → Prop} {Pr : Nat → Value → Prop} {Fin : List Value → Led → Prop} {a b c d : Value} {news : Led}
  (h : Hold (LCt.CompRestT prog w A h₀ L m env ct elt x scope cl s S Pr Fin #[a, b, c, d].size 0 [] news)) : LCt.CompRestT prog w A h₀ L m env ct elt x scope cl s S Pr Fin #[a, b, c, d].size 0 [] news := h
theorem small_size {vs : List Value} (h : vs.length ≤ 100) : vs.toArray.size ≤ sizeLine := by rw [List.size_toArray, sizeLine_eq]; omega
theorem mid_shr (f q l : Nat) (hl : l ≤ 30) : (MX f q l : Int).fdiv (2 ^ (31 - (l : Int)).toNat) = (X l (f % 2) q : Int) ∧ (MY f q l : Int).fdiv (2 ^ (31 - (l : Int)).toNat) = (Y l (f % 2) q : Int) := by
  rw [show (31 - (l : Int)).toNat = 31 - l by omega, Int.fdiv_eq_ediv_of_nonneg _ (Int.le_of_lt (kbt_pos _)), Int.fdiv_eq_ediv_of_nonneg _ (Int.le_of_lt (kbt_pos _))]
  unfold MX MY
  rw [← i2, ← Int.natCast_ediv, ← Int.natCast_ediv, (mid_mod l _ hl).2, (mid_mod l _ hl).2]
  exact ⟨rfl, rfl⟩
abbrev T2 := Nat × Tok
theorem count2 {b : T2 → Bool} {R : T2 → Value → Prop} {u v : T2} {zs : List Value} (h : All2 R ([u, v].filter b) zs) : zs.length = (if b u = true then 1 else 0) + (if b v = true then 1 else 0) := by
  rw [h.length]
  cases hu : b u <;> cases hv : b v <;> simp [hu, hv]
theorem pow2n (l : Nat) : ((2 ^ l : Nat) : Int) = 2 ^ (l : Int).toNat := by rw [Int.toNat_natCast]; push_cast; rfl
theorem IsCell.up {w : World} {news news' : Led} {x : Addr} {f q l : Nat} (h : IsCell w news x f q l) (hs : ∀ p ∈ news, p ∈ news') : IsCell w news' x f q l := by
  obtain ⟨dx, t, tk, a, b⟩ := h; exact ⟨dx, t, tk, hs _ a, hs _ b⟩
end Mine
/- part LN3 -/
set_option Elab.async false
set_option maxRecDepth 100000
set_option maxHeartbeats 1000000
namespace Mine
open PySem PySem.W PySem.Spec PySem.Calls PyProof.Rows
theorem place_lt {q l : Nat} (hl : l ≤ 30) (h : q < 4 ^ 30) : q / 4 ^ (30 - l) < 4 ^ l := by
  rw [Nat.div_lt_iff_lt_mul (Nat.pow_pos (by decide)), ← Nat.pow_add, show l + (30 - l) = 30 by omega]; exact h
theorem edge_cells {w : World} {news : Led} {l : Nat} {a x1 d1 x2 d2 x3 d3 x4 d4 : Addr} {t1 t2 t3 t4 k1 k2 k3 k4 : Tok} {f1 q1 f2 q2 f3 q3 f4 q4 : Nat} {h₀ h : Heap} {L : Addr} (_N : News h₀ L h ((a, tup4r x1 x2 x3 x4) :: (x4, cellO d4) :: (d4, cellD w (cid f4 (q4 / 4 ^ (30 - l)) l : Int) t4 k4) :: (x3, cellO d3) :: (d3, cellD w (cid f3 (q3 / 4 ^ (30 - l)) l : Int) t3 k3) ::
        (x2, cellO d2) :: (d2, cellD w (cid f2 (q2 / 4 ^ (30 - l)) l : Int) t2 k2) :: (x1, cellO d1) :: (d1, cellD w (cid f1 (q1 / 4 ^ (30 - l)) l : Int) t1 k1) :: news)) (hl : l ≤ 30) (c1 : f1 < 6 ∧ q1 < 4 ^ 30) (c2 : f2 < 6 ∧ q2 < 4 ^ 30) (c3 : f3 < 6 ∧ q3 < 4 ^ 30) (c4 : f4 < 6 ∧ q4 < 4 ^ 30) :
    ∀ t ∈ [(x1, f1, q1 / 4 ^ (30 - l)), (x2, f2, q2 / 4 ^ (30 - l)), (x3, f3, q3 / 4 ^ (30 - l)), (x4, f4, q4 / 4 ^ (30 - l))],
      IsCell w ((a, tup4r x1 x2 x3 x4) :: (x4, cellO d4) :: (d4, cellD w (cid f4 (q4 / 4 ^ (30 - l)) l : Int) t4 k4) :: (x3, cellO d3) :: (d3, cellD w (cid f3 (q3 / 4 ^ (30 - l)) l : Int) t3 k3) ::
        (x2, cellO d2) :: (d2, cellD w (cid f2 (q2 / 4 ^ (30 - l)) l : Int) t2 k2) :: (x1, cellO d1) :: (d1, cellD w (cid f1 (q1 / 4 ^ (30 - l)) l : Int) t1 k1) :: news) t.1 t.2.1 t.2.2 l ∧ t.2.1 < 6 ∧ t.2.2 < 4 ^ l := by
  intro t ht
  simp only [List.mem_cons, List.not_mem_nil, or_false] at ht
  rcases ht with rfl | rfl | rfl | rfl
  · exact ⟨isCell_tail (isCell_tail (isCell_tail (isCell_tail (isCell_tail (isCell_tail (isCell_tail isCell_new)))))), c1.1, place_lt hl c1.2⟩
  · exact ⟨isCell_tail (isCell_tail (isCell_tail (isCell_tail (isCell_tail isCell_new)))), c2.1, place_lt hl c2.2⟩
  · exact ⟨isCell_tail (isCell_tail (isCell_tail isCell_new)), c3.1, place_lt hl c3.2⟩
  · exact ⟨isCell_tail isCell_new, c4.1, place_lt hl c4.2⟩
theorem all2_ref {bs : List T3} {zs : List Value} (h : All2 (fun t y => y = Value.ref t.1) bs zs) : zs = bs.map fun t => Value.ref t.1 := by
  induction h with
  | nil => rfl
  | cons r _ ih => rw [List.map_cons, ← ih, r]
theorem good_len {f q l n : Nat} {bs : List T3} {S : List Nat} (h : Good f q l bs n S) : bs.length = n := h.2.2
theorem good_cells {f q l n : Nat} {ts : List T3} {S : List Nat} {w : World} {led : Led} (h : Good f q l (cellsIn f ts) n S) (hc : ∀ t ∈ ts, IsCell w led t.1 t.2.1 t.2.2 l ∧ t.2.1 < 6 ∧ t.2.2 < 4 ^ l) :
    ∀ t ∈ cellsIn f ts, IsCell w led t.1 f t.2.2 l ∧ t.2.2 < 4 ^ l ∧ way l (f % 2) q t.2.2 = 1 := by
  intro t ht
  obtain ⟨a, b, c, _⟩ := h.1 t ht
  have := (hc t (List.mem_filter.mp ht).1).1
  rw [a] at this
  exact ⟨this, b, c⟩
end Mine
/- part LN4 -/
set_option Elab.async false
set_option maxRecDepth 100000
set_option maxHeartbeats 1000000
namespace Mine
open PySem PySem.W PySem.Spec PySem.Calls PyProof.Rows
abbrev vI (t : T2) : Value := Value.int (t.1 : Int) t.2
theorem all2_pairs {Pp : Nat → Prop} {bs : List T3} {ps : List Value} (h : All2 (fun t y => ∃ tk, y = Value.int (t.2.2 : Int) tk) bs ps) (hp : ∀ t ∈ bs, Pp t.2.2) :
    ∃ ts : List T2, ps = ts.map vI ∧ (ts.map fun t => t.1) = (bs.map fun t => t.2.2) ∧ ∀ t ∈ ts, Pp t.1 := by
  induction h with
  | nil => exact ⟨[], rfl, rfl, fun _ h => nomatch h⟩
  | cons r _ ih =>
    obtain ⟨ts, e1, e2, e3⟩ := ih fun t ht => hp t (.tail _ ht)
    obtain ⟨tk, rfl⟩ := r
    exact ⟨(_, tk) :: ts, by rw [e1]; rfl, by rw [List.map_cons, List.map_cons, e2], fun t ht => by
      rcases List.mem_cons.mp ht with rfl | ht
      · exact hp _ (.head _)
      · exact e3 t ht⟩
theorem ints_pairs : ∀ ts : List T2, IntsAre (ts.map vI) (ts.map fun t => (t.1 : Int))
  | [] => .nil
  | _ :: ts => .cons _ _ (ints_pairs ts)
theorem nodup_cast {ts : List T2} {bs : List T3} (e : (ts.map fun t => t.1) = (bs.map fun t => t.2.2)) (h : (bs.map fun t => t.2.2).Nodup) : (ts.map fun t => (t.1 : Int)).Nodup := by
  rw [← e] at h
  have : (ts.map fun t => (t.1 : Int)) = (ts.map fun t => t.1).map fun n : Nat => (n : Int) := by rw [List.map_map]; rfl
  rw [this]
  exact List.Pairwise.map _ (fun a b hab he => hab (Int.ofNat_inj.mp he)) h
theorem all2_none {α β : Type} {R : α → β → Prop} {l : List α} {zs : List β} (h : All2 R (l.filter fun _ => false) zs) : zs = [] := by
  have e : (l.filter fun _ => false) = [] := by simp
  rw [e] at h
  cases h; rfl
theorem odd_fmod {n q : Nat} (h : (q + n) % 2 = 1) : ((n : Int) - (q : Int)).fmod 2 = 1 := by
  rw [Int.fmod_eq_emod_of_nonneg _ (by decide)]; omega
end Mine
/- part LawAll -/
set_option Elab.async false
set_option maxRecDepth 100000
set_option maxHeartbeats 400000000
namespace Mine
open PySem PySem.W PySem.Spec PySem.Calls PyProof.Rows
theorem wp_merge {α : Type} {β : Type} {M : Model} {A : Around} {E : Value → Shared → Prop} {s : Shared} {c : Sem β} {Q : β → Shared → Prop} (P : β → Shared → Prop) (h1 : wpAny M A c P E s) (h2 : ∀ v s', P v s' → Q v s') : wpAny M A c Q E s := wpAny_mono h1 h2 fun _ _ e => e
def Start (base h₀ : Heap) (L : Addr) (m : PySem.Str → Option Value) (s : Shared) (pre : Led) (v : Value) (s' : Shared) : Prop :=
  ∃ (told : Addr) (ld : Led) (vl : List Value) (ns : List Int) (h' : Heap) (tk : Nat), v = .ref told ∧ s' = { s with heap := h', toks := tk } ∧ Fr h₀ L h' m ∧ News h₀ L h' (pre ++ ld) ∧ Told base ld told vl ∧ IntsAre vl ns ∧ 0 < ns.length ∧ ns.length ≤ 1000 ∧ ∀ p ∈ ld, ∀ q ∈ pre, q.1 < p.1
theorem envOfC_eq (name : PySem.Str) (scope : Scope) (L a : Addr) (cd : Value) : envOfC name scope L a cd = envX name scope L a cd (cellsFrom (L + 1) scope.names []) := rfl
theorem deep_caller (cn : PySem.Str) (cs : Scope) (L a : Addr) (ccd : Value) (cl : List (PySem.Str × Addr)) : callerA.deeper (envX cn cs L a ccd cl) = ktrTop (callerA.depth + 1) (callerA.units + 3) callerA.guards cn cs L a ccd cl [] := rfl
theorem start_merge {A₀ : Around} {outer : List Env} {M : Model} {A : Around} {E : Value → Shared → Prop} {s : Shared} {c : Sem Value} {base h₀ : Heap} {L : Addr} {m : PySem.Str → Option Value} {pre : Led} {Q : Value → Shared → Prop} (B : Below A₀ base outer h₀) (F : Fr h₀ L s.heap m) (N : News h₀ L s.heap pre)
    (h1 : wpAny M A c (Start base h₀ L m s pre) E s) (h2 : ∀ told ld vl ns h' tk, Fr h₀ L h' m → News h₀ L h' (pre ++ ld) → Told base ld told vl → IntsAre vl ns → 0 < ns.length → ns.length ≤ 1000 → (∀ p ∈ ld, ∀ q ∈ pre, q.1 < p.1) → Q (.ref told) {s with heap := h', toks := tk}) : wpAny M A c Q E s :=
  wp_merge (α := Unit) _ h1 fun v s' h => by
    obtain ⟨told, ld, vl, ns, h', tk, rfl, rfl, a, b, c, d, e, f, g⟩ := h
    exact h2 told ld vl ns h' tk a b c d e f g
theorem news_end {h₀ h : Heap} {L : Addr} {x : Addr × Obj} {l : Led} (N : News h₀ L h (x :: l)) : News h₀ L h (l ++ [x]) := fun p hp => N p (by
  rcases List.mem_append.mp hp with h | h
  · exact .tail _ h
  · rw [List.mem_singleton.mp h]; exact .head _)
theorem three_start {base h₀ h : Heap} {L : Addr} {m : PySem.Str → Option Value} {s : Shared} {pre : Led} {l : Addr} {x y z : Int} {a b c : Tok} {tk : Nat} (F : Fr h₀ L h m) (N : News h₀ L h ((l, listOf #[.int x a, .int y b, .int z c] 0) :: pre)) (hlt : ∀ q ∈ pre, q.1 < l) : Start base h₀ L m s pre (.ref l) { s with heap := h, toks := tk } :=
  ⟨l, [(l, listOf [.int x a, .int y b, .int z c].toArray 0)], [.int x a, .int y b, .int z c], [x, y, z], h, tk, rfl, rfl, F, news_end N, .inr ⟨0, .head _⟩, .cons _ _ (.cons _ _ (.cons _ _ .nil)), Nat.succ_pos _, Nat.le_of_ble_eq_true rfl, fun p hp q hq => by rw [List.mem_singleton.mp hp]; exact hlt q hq⟩
theorem sp_useR {told at_ : Addr} {vl : List Value} {k below : Int} {n d : Nat} {G : Obj → Led} {w : World} {p : Program} {loose : List PySem.Str} {mean : ExcName → Option Value} {mg mb : PySem.Str → Option Value} {news : Led} {f : Addr} {vs : List Value}
  {dp un : Nat} {gd : Option (List Code)} {cn : PySem.Str} {cs : Scope} {a : Addr} {ccd : Value} {cl : List (PySem.Str × Addr)} {outer : List Env} {A₀ : Around} {base h₀ : Heap} {L : Addr} {m : PySem.Str → Option Value} {s : Shared} {Q E : Value → Shared → Prop}
  (S : SpT d w p loose mean mg mb f news told vl G vs (OutR at_ k below n G)) (B : Below A₀ base outer h₀) (F : Fr h₀ L s.heap m) (X : (Mine.hd.heap_39 w.params).In h₀) (N : News h₀ L s.heap news) (T : Top p loose mean mg mb h₀) (hT : ∀ o, Told base (G o) told vl) (hk : cs.kind = .function) (hdp : dp + d < recursionLimit) (hun : un + 20 * d < cLine)
    (ret : ∀ v t u h' tk', 0 ≤ v → v < below → Fr h₀ L h' m → News h₀ L h' (G (listOf [.int (k + 1) u].toArray n)) → Q (.int v t) { s with heap := h', toks := tk' }) :
    wpAny (model PySem.Challenge.rw_fb0049_01.row.prog w) (ktrTop dp un gd cn cs L a ccd cl outer) (call (.ref f) vs) Q E s :=
  wpAny_call (S _ _ _ _ _ _ _ _ _ _ _ _ _ _ _ _ B F X N T hT hk hdp hun fun r n h' tk' F' N' o => by
    obtain ⟨v, t, u, rfl, h0, h1, rfl⟩ := o
    exact ret v t u h' tk' h0 h1 F' N')
theorem ne_of_g1 {l : Led} {c : Addr} (h : ∀ p ∈ l, c < p.1) : ∀ p ∈ l, p.1 ≠ c := fun p hp e => Nat.lt_irrefl _ (e ▸ h p hp)
theorem split4l {ld : Led} {a b c d : Addr} {oa ob oc od : Obj} (h : ∀ p ∈ ld, ∀ q ∈ [(a, oa), (b, ob), (c, oc), (d, od)], q.1 < p.1) : (∀ p ∈ ld, a < p.1) ∧ (∀ p ∈ ld, b < p.1) ∧ (∀ p ∈ ld, c < p.1) ∧ (∀ p ∈ ld, d < p.1) :=
  ⟨fun p hp => h p hp (a, oa) (.head _), fun p hp => h p hp (b, ob) (.tail _ (.head _)), fun p hp => h p hp (c, oc) (.tail _ (.tail _ (.head _))), fun p hp => h p hp (d, od) (.tail _ (.tail _ (.tail _ (.head _))))⟩
theorem pow4s {pl v : Int} {i : Nat} (h0 : 0 ≤ pl) (h1 : pl < 4 ^ i) (v0 : 0 ≤ v) (v1 : v < 4) : 0 ≤ 4 * pl + v ∧ 4 * pl + v < 4 ^ (i + 1) := by
  rw [Int.pow_succ]; omega
theorem nat_of {v b : Int} (h1 : v < b) (h0 : 0 ≤ v) : ∃ f : Nat, v = f ∧ (f : Int) < b := ⟨v.toNat, by omega, by omega⟩
theorem lev_of {v : Int} (h1 : v < 30) (h0 : 0 ≤ v) : ∃ l : Nat, 1 + v = l ∧ 1 ≤ l ∧ l ≤ 30 := ⟨(1 + v).toNat, by omega, by omega, by omega⟩
theorem plc_of {v : Int} {l : Nat} (h1 : v < 4 ^ (l : Int).toNat) (h0 : 0 ≤ v) : ∃ q : Nat, v = q ∧ q < 4 ^ l := by
  rw [Int.toNat_natCast] at h1
  have : ((4 ^ l : Nat) : Int) = 4 ^ l := by push_cast; rfl
  exact ⟨v.toNat, by omega, by omega⟩
theorem mid_f (l x : Nat) (hl : l ≤ 30) : (mid l x : Int).fmod (2 ^ (31 - l)) = 2 ^ (30 - l) := by
  rw [Int.fmod_eq_emod_of_nonneg _ (Int.le_of_lt (kbt_pos _)), ← i2, ← i2, ← Int.natCast_emod, (mid_mod l x hl).1]
theorem mid_fmod (f q l : Nat) (hl : l ≤ 30) : (MX f q l : Int).fmod (2 ^ (31 - (l : Int)).toNat) = 2 ^ (30 - (l : Int)).toNat ∧ (MY f q l : Int).fmod (2 ^ (31 - (l : Int)).toNat) = 2 ^ (30 - (l : Int)).toNat := by
  rw [show (31 - (l : Int)).toNat = 31 - l by omega, show (30 - (l : Int)).toNat = 30 - l by omega]
  unfold MX MY
  exact ⟨mid_f l _ hl, mid_f l _ hl⟩
section
variable {prog : Program} {w : World} {A : Around} {E : Value → Shared → Prop} {s : Shared} {a b c : Int} {t u : Tok} {Q : Value → Shared → Prop}
theorem mod_is (h0 : 0 < b) (e : a.fmod b = c) (h : Q (.int c s.toks) { s with toks := s.toks + 1 }) : wpAny (model prog w) A (binaryOp .Mod (.int a t) (.int b u)) Q E s := by
  subst e; exact mod_int (by omega) h
end
theorem allLt_up {d x : Addr} {l : Led} (hd : d < x) (h : AllLt d l) : ∀ p ∈ l, p.1 ≠ x := fun p hp => Nat.ne_of_lt (Nat.lt_trans (ktn_ltOf h p hp) hd)
local macro_rules | `(tactic| walk_at "eval Name") => `(tactic| (k_here; (with_reducible show wpAny _ _ (eval (Expr.Name _ _) (compEnvC _ _ _ _)) _ _ _); k_dflt (first
  | (name_kind "cell" "free"; refine kcf_cell (by k_asm) (by rfl) (by k_mem) (by k_asm) ?_)
  | (name_kind "local"; refine LCgL.ld_own (by k_asm) (by k_mem) (by assumption) (by assumption) ?_)
  | (name_kind "globalImplicit"; refine LCgL.ld_global (by k_asm) (by k_asm) (by k_asm) (by k_is) ?_))))
local macro_rules | `(tactic| walk_at "eval Name") => `(tactic| (k_here; (fail_if_success (with_reducible show wpAny _ _ (eval (Expr.Name _ _) (compEnvC _ _ _ _)) _ _ _)); k_dflt (first
  | (name_kind "local"; refine' nmL ?F ?q ?v ?_; (case F => k_asm); (case q => decide +kernel); (case v => rfl); k_whole)
  | (name_kind "cell"; refine' nmC ?N ?q ?c ?m ?d ?_; (case q => decide +kernel); (case N => k_asm); (case c => rfl); (case m => k_mem); (case d => k_asm); k_whole)
  | (name_kind "globalImplicit"; refine' nmK ?F ?X ?T ?q ?e ?_; (case q => decide +kernel); (case F => k_asm); (case X => k_asm); (case T => k_asm); (case e => k_is); k_whole)
  | (name_kind "globalImplicit"; refine' nmB ?F ?X ?T ?q ?e ?v ?n ?_; (case q => decide +kernel); (case F => k_asm); (case X => k_asm); (case T => k_asm); (case e => k_is); (case v => boot_fast); (case n => decide); k_whole))))
local macro_rules | `(tactic| walk_at "callWith ref") => `(tactic| (k_here; k_dflt (first
  | ((with_reducible refine' callWith_K ?k1 ?k2 ?_); (case k1 => k_asm); (case k2 => k_is); k_whole)
  | ((with_reducible refine' callWith_K0n ?kF ?kX ?kk ?_); (case kF => with_reducible assumption); (case kX => k_asm); (case kk => k_is); k_whole)
  | ((with_reducible refine' callWith_M ?k1 ?k2 ?k3 ?k4 ?_); (case k1 => k_asm); (case k2 => k_asm); (case k3 => k_mem); (case k4 => k_is); k_whole)
  | ((with_reducible refine' callWith_M0 ?k1 ?k2 ?_); (case k1 => k_meth); (case k2 => k_is); k_whole; try dsimp only [List.nil_append, List.cons_append]))))
local macro_rules | `(tactic| walk_at "loadName") => `(tactic| (k_here; k_dflt (refine' ldL ?F ?q ?v ?_; (case F => k_asm); (case q => decide +kernel); (case v => rfl); k_whole)))
local macro_rules | `(tactic| walk_at "subscriptTail Name Constant ref int") => `(tactic| (k_here; k_dflt (refine' item_tupleT ?t ?a ?b ?c ?d ?_; (case t => exact News.isTup (by k_asm) (by k_mem)); (case a => decide); (case b => decide); (case c => rfl); (case d => rfl); k_whole)))
local macro_rules | `(tactic| walk_at "getAttr ref") => `(tactic| (k_here; k_dflt (first
  | ((with_reducible show wpAny _ _ (getAttr (Value.ref _) (PySem.Str.ofString "__class__") _) _ _ _); refine' get_class ?k1 ?k2 ?k3 ?k4 ?k5 ?k6 ?k7 ?k8 ?k9 ?_; (case k1 => k_asm); (case k2 => k_asm); (case k3 => k_inst); (case k4 => k_is); (case k5 => k_is); (case k6 => k_is); (case k7 => k_is); (case k8 => k_is); (case k9 => k_is); k_whole)
  | (refine' cls_val ?k1 ?k2 ?k3 ?k4 ?k5 ?k6 ?_; (case k1 => k_asm); (case k2 => k_asm); (case k3 => k_is); (case k4 => k_is); (case k5 => k_is); (case k6 => k_handed); k_whole))))
local macro_rules | `(tactic| walk_at "spliced") => `(tactic| (k_here; k_dflt (first | refine args_cons ?_ | refine args_nil ?_)))
local macro_rules | `(tactic| walk_at "eval Call Name cons nil") => `(tactic| (k_here; k_dflt (refine Call_ ?_)))
local macro_rules | `(tactic| walk_at "storeName") => `(tactic| (k_here; k_dflt (refine' stL ?F ?N ?q ?_; (case q => decide +kernel); (case F => k_asm); (case N => k_asm); k_whole; intro h' F' N'; (try k_sweep))))
local macro_rules | `(tactic| walk_at "getMethod ref") => `(tactic| (k_here; k_dflt (first
  | (refine' method_inst ?k1 ?k2 ?k3 ?k4 ?k5 ?k6 ?k7 ?_; (case k1 => k_asm); (case k2 => k_asm); (case k3 => k_inst); (case k4 => k_is); (case k5 => k_is); (case k6 => k_is); (case k7 => k_get); k_whole)
  | (refine' kmu_cm ?k1 ?k2 ?k3 ?k4 ?k5 ?k6 ?k7 ?k8 ?k9 ?k10 ?k11 ?k12 ?k13 ?_; (case k1 => k_asm); (case k2 => k_asm); (case k3 => k_asm); (case k4 => k_inst); (case k5 => k_is); (case k6 => k_is); (case k7 => k_is); (case k8 => k_is); (case k9 => k_is); (case k10 => k_is); (case k11 => decide +kernel); (case k12 => k_get); (case k13 => k_is); k_whole; intro q' h' F' N' l1; (try k_lt l1); (try k_sweep)))))
local macro_rules | `(tactic| k_mem) => `(tactic| (first | exact mem_hd | ktr_member | (refine mem_tl ?_; first | exact mem_hd | ktr_member | (refine mem_tl ?_; first | exact mem_hd | ktr_member | (refine mem_tl ?_; first | exact mem_hd | ktr_member | (refine mem_tl ?_; first | exact mem_hd | ktr_member | (refine mem_tl ?_; first | exact mem_hd | ktr_member | (refine mem_tl ?_; first | exact mem_hd | ktr_member | (refine mem_tl ?_; first | exact mem_hd | ktr_member | (refine mem_tl ?_; first | exact mem_hd | ktr_member | (refine mem_tl ?_; first | exact mem_hd | ktr_member | (refine mem_tl ?_; first | exact mem_hd | ktr_member | (refine mem_tl ?_; first | exact mem_hd | ktr_member | (refine mem_tl ?_; first | exact mem_hd | ktr_member | (refine mem_tl ?_; first | exact mem_hd | ktr_member | (refine mem_tl ?_; ktr_member))))))))))))))))
local macro_rules | `(tactic| k_all) => `(tactic| first | assumption | exact ne_of_l1 (by assumption) | exact ne_of_g1 (by assumption))
local macro_rules | `(tactic| k_in) => `(tactic| (refine Frag.In.keeps ?_ (Fr.keep (by with_reducible assumption)); with_reducible assumption))
local macro_rules | `(tactic| walk_at "callWith ref cons nil") => `(tactic| (k_here; k_dflt ((with_reducible refine' callWith_K0' ?kF ?kX ?kk ?_); (case kF => with_reducible assumption); (case kX => k_asm); (case kk => k_is); k_whole)))
local macro_rules | `(tactic| walk_at "call ref") => `(tactic| (k_here; (with_reducible show wpAny _ _ (call (Value.ref 607) _ _) _ _ _); k_dflt ((first | (with_reducible refine' sp_useR (drawn_cs ?c0 ?c1 ?c2 ?c3 ?c4 ?c5 ?c6) ?k1 ?k2 ?k3 ?k4 ?k5 ?kT ?kK ?kd ?ku ?_) | (refine' sp_useR (drawn_cs ?c0 ?c1 ?c2 ?c3 ?c4 ?c5 ?c6) ?k1 ?k2 ?k3 ?k4 ?k5 ?kT ?kK ?kd ?ku ?_)); (case k1 => k_asm); (case k2 => k_asm); (case k3 => k_asm); (case k4 => k_asm); (case k5 => k_asm); (case c0 => k_updF); (case kT => ((rename Told _ _ _ _ => tz9); intro o9; (try dsimp only); (first | exact tz9 | exact (told_tail tz9) | exact (told_tail (told_tail tz9)) | exact (told_tail (told_tail (told_tail tz9))) | exact (told_tail (told_tail (told_tail (told_tail tz9)))) | exact (told_tail (told_tail (told_tail (told_tail (told_tail tz9))))) | exact (told_tail (told_tail (told_tail (told_tail (told_tail (told_tail tz9)))))) | exact (told_tail (told_tail (told_tail (told_tail (told_tail (told_tail (told_tail tz9))))))) | exact (told_tail (told_tail (told_tail (told_tail (told_tail (told_tail (told_tail (told_tail tz9)))))))) | exact (told_tail (told_tail (told_tail (told_tail (told_tail (told_tail (told_tail (told_tail (told_tail tz9))))))))) | exact (told_tail (told_tail (told_tail (told_tail (told_tail (told_tail (told_tail (told_tail (told_tail (told_tail tz9)))))))))) | exact (told_tail (told_tail (told_tail (told_tail (told_tail (told_tail (told_tail (told_tail (told_tail (told_tail (told_tail tz9))))))))))) | exact (told_tail (told_tail (told_tail (told_tail (told_tail (told_tail (told_tail (told_tail (told_tail (told_tail (told_tail (told_tail tz9)))))))))))) | exact (told_tail (told_tail (told_tail (told_tail (told_tail (told_tail (told_tail (told_tail (told_tail (told_tail (told_tail (told_tail (told_tail tz9))))))))))))) | exact (told_tail (told_tail (told_tail (told_tail (told_tail (told_tail (told_tail (told_tail (told_tail (told_tail (told_tail (told_tail (told_tail (told_tail tz9)))))))))))))) | exact (told_tail (told_tail (told_tail (told_tail (told_tail (told_tail (told_tail (told_tail (told_tail (told_tail (told_tail (told_tail (told_tail (told_tail (told_tail tz9))))))))))))))) | exact (told_tail (told_tail (told_tail (told_tail (told_tail (told_tail (told_tail (told_tail (told_tail (told_tail (told_tail (told_tail (told_tail (told_tail (told_tail (told_tail tz9)))))))))))))))) | exact (told_tail (told_tail (told_tail (told_tail (told_tail (told_tail (told_tail (told_tail (told_tail (told_tail (told_tail (told_tail (told_tail (told_tail (told_tail (told_tail (told_tail tz9))))))))))))))))) | exact (told_tail (told_tail (told_tail (told_tail (told_tail (told_tail (told_tail (told_tail (told_tail (told_tail (told_tail (told_tail (told_tail (told_tail (told_tail (told_tail (told_tail (told_tail tz9)))))))))))))))))) | exact (told_tail (told_tail (told_tail (told_tail (told_tail (told_tail (told_tail (told_tail (told_tail (told_tail (told_tail (told_tail (told_tail (told_tail (told_tail (told_tail (told_tail (told_tail (told_tail tz9))))))))))))))))))) | exact (told_tail (told_tail (told_tail (told_tail (told_tail (told_tail (told_tail (told_tail (told_tail (told_tail (told_tail (told_tail (told_tail (told_tail (told_tail (told_tail (told_tail (told_tail (told_tail (told_tail tz9)))))))))))))))))))) | exact (told_tail (told_tail (told_tail (told_tail (told_tail (told_tail (told_tail (told_tail (told_tail (told_tail (told_tail (told_tail (told_tail (told_tail (told_tail (told_tail (told_tail (told_tail (told_tail (told_tail (told_tail tz9))))))))))))))))))))) | exact (told_tail (told_tail (told_tail (told_tail (told_tail (told_tail (told_tail (told_tail (told_tail (told_tail (told_tail (told_tail (told_tail (told_tail (told_tail (told_tail (told_tail (told_tail (told_tail (told_tail (told_tail (told_tail tz9)))))))))))))))))))))) | exact (told_tail (told_tail (told_tail (told_tail (told_tail (told_tail (told_tail (told_tail (told_tail (told_tail (told_tail (told_tail (told_tail (told_tail (told_tail (told_tail (told_tail (told_tail (told_tail (told_tail (told_tail (told_tail (told_tail tz9))))))))))))))))))))))) | exact (told_tail (told_tail (told_tail (told_tail (told_tail (told_tail (told_tail (told_tail (told_tail (told_tail (told_tail (told_tail (told_tail (told_tail (told_tail (told_tail (told_tail (told_tail (told_tail (told_tail (told_tail (told_tail (told_tail (told_tail tz9)))))))))))))))))))))))) | exact (told_tail (told_tail (told_tail (told_tail (told_tail (told_tail (told_tail (told_tail (told_tail (told_tail (told_tail (told_tail (told_tail (told_tail (told_tail (told_tail (told_tail (told_tail (told_tail (told_tail (told_tail (told_tail (told_tail (told_tail (told_tail tz9)))))))))))))))))))))))))))); (case c1 => assumption); (case c2 => assumption); (case c3 => assumption); (case c4 => omega); (case c5 => omega); (case c6 => omega); (case kK => first | exact rfl | assumption); (case kd => first | exact roomK (by with_reducible assumption) (Nat.le_of_ble_eq_true rfl) | exact roomL _ rfl | ktr_room); (case ku => first | exact unitK (by with_reducible assumption) (Nat.le_of_ble_eq_true rfl) | exact unitL _ rfl | ktr_units); k_whole; intro v9 t9 u9 h9 tk9 z9 y9 F9 N9; (try dsimp only at N9); (try dsimp only); (try k_sweep); (try k_fold))))
local macro_rules | `(tactic| walk_at "pyIter ref") => `(tactic| (k_here; refine Hold.of ?_))
local macro_rules | `(tactic| walk_at "binaryOp Mod int int") => `(tactic| (k_here; k_dflt ((with_reducible refine' mod_is ?k1 ?k2 ?_); (case k2 => with_reducible assumption); (case k1 => exact kbt_pos _); k_whole)))
local macro_rules | `(tactic| walk_at "binaryOp Pow int int") => `(tactic| (k_here; k_dflt ((with_reducible refine' pow_int_small ?k1 ?k2 ?k3 ?_); (case k1 => omega); (case k2 => omega); (case k3 => decide); k_whole)))
local macro_rules | `(tactic| walk_at "eval ListComp") => `(tactic| (k_here; lct_look; k_dflt (refine Mine.ListComp_UT2 (F₀ := by k_asm) (by with_unfolding_all rfl) (by decide) (by rfl) (by decide) (by rfl) ?_); k_whole))
local macro_rules | `(tactic| walk_at "CompSrcTT") => `(tactic| (k_here; k_dflt (refine Mine.CompSrcTT.ledger (by rfl) (by k_asm) (by k_asm) (by k_mem) (by exact Nat.le_of_ble_eq_true rfl) ?_; intro g'; lct_lit)))
local macro_rules | `(tactic| walk_at "subscriptTail Name Slice ref ref") => `(tactic| (k_here; k_dflt ((first | (with_reducible refine' slice3s ?F ?N ?l ?_ ?s ?t) | (refine' slice3s ?F ?N ?l ?_ ?s ?t)); (case F => k_asm); (case N => k_asm); (case l => k_mem); (case s => with_unfolding_all rfl); (case t => (intro _; with_unfolding_all rfl)); k_whole; intro D' h' F' N' l1; (try k_lt l1); (try k_sweep))))
local macro_rules | `(tactic| walk_at "CompEnd") => `(tactic| (k_here; refine' LCg.CompEnd.intro ?kF ?kN _ (fun _ hp => hp) ?ko ?kS ?_; (case kF => k_asm); (case kN => k_asm); (case ko => assumption); (case kS => first | assumption | lcg_src); (try dsimp only)))
local macro_rules | `(tactic| walk_at "CompEnd") => `(tactic| exact absurd rfl (by with_reducible assumption))
local macro_rules | `(tactic| walk_at "call builtin:max") => `(tactic| (k_here; k_dflt ((first | (with_reducible refine' max_one ?k1 ?k2 ?k3 ?_) | (refine' max_one ?k1 ?k2 ?k3 ?_)); (case k1 => rfl); (case k2 => k_asm); (case k3 => k_asm); k_whole; intro v9 h9 tk9 t9 z9 F9 N9; (try dsimp only); (try k_sweep))))
local macro_rules | `(tactic| walk_at "subscriptTail") => `(tactic| (k_here; (with_reducible show wpAny _ _ (subscriptTail _ _ (Value.ref _) (Value.int _ _)) _ _ _); k_dflt ((first | (with_reducible refine' pick3 ?k1 ?k2 ?k3 ?k4 ?k5 ?k6 ?k7 ?_ ?k8) | (refine' pick3 ?k1 ?k2 ?k3 ?k4 ?k5 ?k6 ?k7 ?_ ?k8)); (case k1 => k_asm); (case k2 => k_mem); (case k3 => assumption); (case k4 => assumption); (case k5 => omega); (case k6 => assumption); (case k7 => assumption); (case k8 => with_unfolding_all rfl); k_whole; intro v9 t9 z9)))
local macro_rules | `(tactic| walk_at "binaryOp FloorDiv int int") => `(tactic| (k_here; k_dflt ((with_reducible refine' fdivS ?k1 ?k2 ?_); (case k1 => decide); (case k2 => exact log2_small (by decide) (by decide)); k_whole)))
local macro_rules | `(tactic| walk_at "eval IfExp") => `(tactic| (k_here; refine Hold.of ?_))
local macro_rules | `(tactic| walk_at "binaryOp Mod int int") => `(tactic| (k_here; k_dflt ((with_reducible refine' mod_is ?k1 ?k2 ?_); (case k2 => with_reducible assumption); (case k1 => first | exact kbt_pos _ | decide); k_whole)))
local macro_rules | `(tactic| walk_at "binaryOp Pow int int") => `(tactic| (k_here; k_dflt ((with_reducible refine' pow_is ?k1 ?k2 ?k3 ?k4 ?_); (case k4 => with_reducible assumption); (case k1 => decide); (case k2 => decide); (case k3 => omega); k_whole)))
local macro_rules | `(tactic| walk_at "binaryOp RShift int int") => `(tactic| (k_here; k_dflt ((with_reducible refine' shr_is ?k1 ?k2 ?_); (case k2 => exact shr_div _ _ _ (by assumption)); (case k1 => omega); k_whole)))
local macro_rules | `(tactic| walk_at "binaryOp Sub int int") => `(tactic| (k_here; k_dflt ((with_reducible refine' sub_lit ?ke ?_); (case ke => with_reducible assumption); k_whole)))
local macro_rules | `(tactic| walk_at "exec While") => `(tactic| (k_here; refine Hold.of ?_))
local macro_rules | `(tactic| walk_at "loadName") => `(tactic| (k_here; k_dflt ((first | (with_reducible refine' wpAny_loadName_local ?a ?b (Fr.ns ?F) ?v ?_) | (refine' wpAny_loadName_local ?a ?b (Fr.ns ?F) ?v ?_)); (case F => k_asm); (case a => rfl); (case b => rfl); (case v => rfl); k_whole)))
local macro_rules | `(tactic| walk_at "compareOp NotIn int ref") => `(tactic| (k_here; k_dflt ((first | (with_reducible refine' notin01 ?k1 ?k2 ?k3 ?_) | (refine' notin01 ?k1 ?k2 ?k3 ?_)); (case k1 => k_asm); (case k2 => k_mem); (case k3 => assumption); k_whole)))
local macro_rules | `(tactic| walk_at "call ref") => `(tactic| (k_here; (with_reducible show wpAny _ _ (call (Value.ref 614) _ _) _ _ _); k_dflt ((first | (with_reducible refine' sp_useC (law_cell_cs ?c0 ?c1 ?c2) ?k1 ?k2 ?k3 ?k4 ?k5 ?kK ?kd ?ku ?_) | (refine' sp_useC (law_cell_cs ?c0 ?c1 ?c2) ?k1 ?k2 ?k3 ?k4 ?k5 ?kK ?kd ?ku ?_)); (case k1 => k_asm); (case k2 => k_asm); (case k3 => k_asm); (case k4 => k_asm); (case k5 => k_asm); (case c0 => assumption); (case c1 => assumption); (case c2 => assumption); (case kK => first | exact rfl | assumption); (case kd => first | exact roomK (by with_reducible assumption) (Nat.le_of_ble_eq_true rfl) | exact roomL _ rfl | ktr_room); (case ku => first | exact unitK (by with_reducible assumption) (Nat.le_of_ble_eq_true rfl) | exact unitL _ rfl | ktr_units); k_whole; intro x9 d9 t9 k9 h9 tk9 la9 lb9 F9 N9; (try k_lt la9); (try k_lt2 lb9); (try dsimp only); (try k_sweep); (try k_fold))))
local macro_rules | `(tactic| ktr_rel) => `(tactic| (first | exact (by assumption) | exact isCell_new | exact (isCell_tail (by assumption)) | exact (isCell_tail isCell_new) | exact (isCell_tail (isCell_tail (by assumption))) | exact (isCell_tail (isCell_tail isCell_new)) | exact (isCell_tail (isCell_tail (isCell_tail (by assumption)))) | exact (isCell_tail (isCell_tail (isCell_tail isCell_new))) | exact (isCell_tail (isCell_tail (isCell_tail (isCell_tail (by assumption))))) | exact (isCell_tail (isCell_tail (isCell_tail (isCell_tail isCell_new)))) | exact (isCell_tail (isCell_tail (isCell_tail (isCell_tail (isCell_tail (by assumption)))))) | exact (isCell_tail (isCell_tail (isCell_tail (isCell_tail (isCell_tail isCell_new))))) | exact (isCell_tail (isCell_tail (isCell_tail (isCell_tail (isCell_tail (isCell_tail (by assumption))))))) | exact (isCell_tail (isCell_tail (isCell_tail (isCell_tail (isCell_tail (isCell_tail isCell_new)))))) | exact (isCell_tail (isCell_tail (isCell_tail (isCell_tail (isCell_tail (isCell_tail (isCell_tail (by assumption)))))))) | exact (isCell_tail (isCell_tail (isCell_tail (isCell_tail (isCell_tail (isCell_tail (isCell_tail isCell_new))))))) | exact (isCell_tail (isCell_tail (isCell_tail (isCell_tail (isCell_tail (isCell_tail (isCell_tail (isCell_tail (by assumption))))))))) | exact (isCell_tail (isCell_tail (isCell_tail (isCell_tail (isCell_tail (isCell_tail (isCell_tail (isCell_tail isCell_new)))))))) | exact (isCell_tail (isCell_tail (isCell_tail (isCell_tail (isCell_tail (isCell_tail (isCell_tail (isCell_tail (isCell_tail (by assumption)))))))))) | exact (isCell_tail (isCell_tail (isCell_tail (isCell_tail (isCell_tail (isCell_tail (isCell_tail (isCell_tail (isCell_tail isCell_new))))))))) | exact (isCell_tail (isCell_tail (isCell_tail (isCell_tail (isCell_tail (isCell_tail (isCell_tail (isCell_tail (isCell_tail (isCell_tail (by assumption))))))))))) | exact (isCell_tail (isCell_tail (isCell_tail (isCell_tail (isCell_tail (isCell_tail (isCell_tail (isCell_tail (isCell_tail (isCell_tail isCell_new)))))))))) | exact (isCell_tail (isCell_tail (isCell_tail (isCell_tail (isCell_tail (isCell_tail (isCell_tail (isCell_tail (isCell_tail (isCell_tail (isCell_tail (by assumption)))))))))))) | exact (isCell_tail (isCell_tail (isCell_tail (isCell_tail (isCell_tail (isCell_tail (isCell_tail (isCell_tail (isCell_tail (isCell_tail (isCell_tail isCell_new))))))))))) | exact (isCell_tail (isCell_tail (isCell_tail (isCell_tail (isCell_tail (isCell_tail (isCell_tail (isCell_tail (isCell_tail (isCell_tail (isCell_tail (isCell_tail (by assumption))))))))))))) | exact (isCell_tail (isCell_tail (isCell_tail (isCell_tail (isCell_tail (isCell_tail (isCell_tail (isCell_tail (isCell_tail (isCell_tail (isCell_tail (isCell_tail isCell_new)))))))))))) | exact (isCell_tail (isCell_tail (isCell_tail (isCell_tail (isCell_tail (isCell_tail (isCell_tail (isCell_tail (isCell_tail (isCell_tail (isCell_tail (isCell_tail (isCell_tail (by assumption)))))))))))))) | exact (isCell_tail (isCell_tail (isCell_tail (isCell_tail (isCell_tail (isCell_tail (isCell_tail (isCell_tail (isCell_tail (isCell_tail (isCell_tail (isCell_tail (isCell_tail isCell_new))))))))))))) | exact (isCell_tail (isCell_tail (isCell_tail (isCell_tail (isCell_tail (isCell_tail (isCell_tail (isCell_tail (isCell_tail (isCell_tail (isCell_tail (isCell_tail (isCell_tail (isCell_tail (by assumption))))))))))))))) | exact (isCell_tail (isCell_tail (isCell_tail (isCell_tail (isCell_tail (isCell_tail (isCell_tail (isCell_tail (isCell_tail (isCell_tail (isCell_tail (isCell_tail (isCell_tail (isCell_tail isCell_new)))))))))))))) | exact (isCell_tail (isCell_tail (isCell_tail (isCell_tail (isCell_tail (isCell_tail (isCell_tail (isCell_tail (isCell_tail (isCell_tail (isCell_tail (isCell_tail (isCell_tail (isCell_tail (isCell_tail (by assumption)))))))))))))))) | exact (isCell_tail (isCell_tail (isCell_tail (isCell_tail (isCell_tail (isCell_tail (isCell_tail (isCell_tail (isCell_tail (isCell_tail (isCell_tail (isCell_tail (isCell_tail (isCell_tail (isCell_tail isCell_new))))))))))))))) | exact (isCell_tail (isCell_tail (isCell_tail (isCell_tail (isCell_tail (isCell_tail (isCell_tail (isCell_tail (isCell_tail (isCell_tail (isCell_tail (isCell_tail (isCell_tail (isCell_tail (isCell_tail (isCell_tail (by assumption))))))))))))))))) | exact (isCell_tail (isCell_tail (isCell_tail (isCell_tail (isCell_tail (isCell_tail (isCell_tail (isCell_tail (isCell_tail (isCell_tail (isCell_tail (isCell_tail (isCell_tail (isCell_tail (isCell_tail (isCell_tail isCell_new)))))))))))))))) | exact (isCell_tail (isCell_tail (isCell_tail (isCell_tail (isCell_tail (isCell_tail (isCell_tail (isCell_tail (isCell_tail (isCell_tail (isCell_tail (isCell_tail (isCell_tail (isCell_tail (isCell_tail (isCell_tail (isCell_tail (by assumption)))))))))))))))))) | exact (isCell_tail (isCell_tail (isCell_tail (isCell_tail (isCell_tail (isCell_tail (isCell_tail (isCell_tail (isCell_tail (isCell_tail (isCell_tail (isCell_tail (isCell_tail (isCell_tail (isCell_tail (isCell_tail (isCell_tail isCell_new))))))))))))))))) | exact (isCell_tail (isCell_tail (isCell_tail (isCell_tail (isCell_tail (isCell_tail (isCell_tail (isCell_tail (isCell_tail (isCell_tail (isCell_tail (isCell_tail (isCell_tail (isCell_tail (isCell_tail (isCell_tail (isCell_tail (isCell_tail (by assumption))))))))))))))))))) | exact (isCell_tail (isCell_tail (isCell_tail (isCell_tail (isCell_tail (isCell_tail (isCell_tail (isCell_tail (isCell_tail (isCell_tail (isCell_tail (isCell_tail (isCell_tail (isCell_tail (isCell_tail (isCell_tail (isCell_tail (isCell_tail isCell_new)))))))))))))))))) | exact (isCell_tail (isCell_tail (isCell_tail (isCell_tail (isCell_tail (isCell_tail (isCell_tail (isCell_tail (isCell_tail (isCell_tail (isCell_tail (isCell_tail (isCell_tail (isCell_tail (isCell_tail (isCell_tail (isCell_tail (isCell_tail (isCell_tail (by assumption)))))))))))))))))))) | exact (isCell_tail (isCell_tail (isCell_tail (isCell_tail (isCell_tail (isCell_tail (isCell_tail (isCell_tail (isCell_tail (isCell_tail (isCell_tail (isCell_tail (isCell_tail (isCell_tail (isCell_tail (isCell_tail (isCell_tail (isCell_tail (isCell_tail isCell_new))))))))))))))))))) | exact (isCell_tail (isCell_tail (isCell_tail (isCell_tail (isCell_tail (isCell_tail (isCell_tail (isCell_tail (isCell_tail (isCell_tail (isCell_tail (isCell_tail (isCell_tail (isCell_tail (isCell_tail (isCell_tail (isCell_tail (isCell_tail (isCell_tail (isCell_tail (by assumption))))))))))))))))))))) | exact (isCell_tail (isCell_tail (isCell_tail (isCell_tail (isCell_tail (isCell_tail (isCell_tail (isCell_tail (isCell_tail (isCell_tail (isCell_tail (isCell_tail (isCell_tail (isCell_tail (isCell_tail (isCell_tail (isCell_tail (isCell_tail (isCell_tail (isCell_tail isCell_new)))))))))))))))))))) | exact (isCell_tail (isCell_tail (isCell_tail (isCell_tail (isCell_tail (isCell_tail (isCell_tail (isCell_tail (isCell_tail (isCell_tail (isCell_tail (isCell_tail (isCell_tail (isCell_tail (isCell_tail (isCell_tail (isCell_tail (isCell_tail (isCell_tail (isCell_tail (isCell_tail (by assumption)))))))))))))))))))))) | exact (isCell_tail (isCell_tail (isCell_tail (isCell_tail (isCell_tail (isCell_tail (isCell_tail (isCell_tail (isCell_tail (isCell_tail (isCell_tail (isCell_tail (isCell_tail (isCell_tail (isCell_tail (isCell_tail (isCell_tail (isCell_tail (isCell_tail (isCell_tail (isCell_tail isCell_new))))))))))))))))))))) | exact (isCell_tail (isCell_tail (isCell_tail (isCell_tail (isCell_tail (isCell_tail (isCell_tail (isCell_tail (isCell_tail (isCell_tail (isCell_tail (isCell_tail (isCell_tail (isCell_tail (isCell_tail (isCell_tail (isCell_tail (isCell_tail (isCell_tail (isCell_tail (isCell_tail (isCell_tail (by assumption))))))))))))))))))))))) | exact (isCell_tail (isCell_tail (isCell_tail (isCell_tail (isCell_tail (isCell_tail (isCell_tail (isCell_tail (isCell_tail (isCell_tail (isCell_tail (isCell_tail (isCell_tail (isCell_tail (isCell_tail (isCell_tail (isCell_tail (isCell_tail (isCell_tail (isCell_tail (isCell_tail (isCell_tail isCell_new)))))))))))))))))))))) | exact (isCell_tail (isCell_tail (isCell_tail (isCell_tail (isCell_tail (isCell_tail (isCell_tail (isCell_tail (isCell_tail (isCell_tail (isCell_tail (isCell_tail (isCell_tail (isCell_tail (isCell_tail (isCell_tail (isCell_tail (isCell_tail (isCell_tail (isCell_tail (isCell_tail (isCell_tail (isCell_tail (by assumption)))))))))))))))))))))))) | exact (isCell_tail (isCell_tail (isCell_tail (isCell_tail (isCell_tail (isCell_tail (isCell_tail (isCell_tail (isCell_tail (isCell_tail (isCell_tail (isCell_tail (isCell_tail (isCell_tail (isCell_tail (isCell_tail (isCell_tail (isCell_tail (isCell_tail (isCell_tail (isCell_tail (isCell_tail (isCell_tail isCell_new)))))))))))))))))))))))))
local macro_rules | `(tactic| walk_at "call ref") => `(tactic| (k_here; (with_reducible show wpAny _ _ (call (Value.ref 506) _ _) _ _ _); k_dflt ((first | (with_reducible refine' sp_useT (center_cs ?c0 ?c1 ?c2 ?c3) ?k1 ?k2 ?k3 ?k4 ?k5 ?kK ?kd ?ku ?_) | (refine' sp_useT (center_cs ?c0 ?c1 ?c2 ?c3) ?k1 ?k2 ?k3 ?k4 ?k5 ?kK ?kd ?ku ?_)); (case k1 => k_asm); (case k2 => k_asm); (case k3 => k_asm); (case k4 => k_asm); (case k5 => k_asm); (case c0 => ktr_rel); (case c1 => assumption); (case c2 => assumption); (case c3 => assumption); (case kK => first | exact rfl | assumption); (case kd => first | exact roomK (by with_reducible assumption) (Nat.le_of_ble_eq_true rfl) | exact roomL _ rfl | ktr_room); (case ku => first | exact unitK (by with_reducible assumption) (Nat.le_of_ble_eq_true rfl) | exact unitL _ rfl | ktr_units); k_whole; intro a9 t1 t2 t3 h9 tk9 la9 F9 N9; (try k_lt la9); (try dsimp only); (try k_sweep); (try k_fold))))
local macro_rules | `(tactic| walk_at "call ref") => `(tactic| (k_here; (with_reducible show wpAny _ _ (call (Value.ref 621) _ _) _ _ _); k_dflt ((first | (with_reducible refine' sp_useI (law_place_cs ?c0 ?c1 ?c2 ?c3) ?k1 ?k2 ?k3 ?k4 ?k5 ?kK ?kd ?ku ?_) | (refine' sp_useI (law_place_cs ?c0 ?c1 ?c2 ?c3) ?k1 ?k2 ?k3 ?k4 ?k5 ?kK ?kd ?ku ?_)); (case k1 => k_asm); (case k2 => k_asm); (case k3 => k_asm); (case k4 => k_asm); (case k5 => k_asm); (case c0 => ktr_rel); (case c1 => assumption); (case c2 => assumption); (case c3 => assumption); (case kK => first | exact rfl | assumption); (case kd => first | exact roomK (by with_reducible assumption) (Nat.le_of_ble_eq_true rfl) | exact roomL _ rfl | ktr_room); (case ku => first | exact unitK (by with_reducible assumption) (Nat.le_of_ble_eq_true rfl) | exact unitL _ rfl | ktr_units); k_whole; intro t9 h9 tk9 F9 N9; (try dsimp only); (try k_sweep); (try k_fold))))
local macro_rules | `(tactic| walk_at "call ref") => `(tactic| (k_here; (with_reducible show wpAny _ _ (call (Value.ref 628) _ _) _ _ _); k_dflt ((first | (with_reducible refine' sp_useI (law_way_cs ?c0 ?c1 ?c2 ?c3 ?c4 ?c5) ?k1 ?k2 ?k3 ?k4 ?k5 ?kK ?kd ?ku ?_) | (refine' sp_useI (law_way_cs ?c0 ?c1 ?c2 ?c3 ?c4 ?c5) ?k1 ?k2 ?k3 ?k4 ?k5 ?kK ?kd ?ku ?_)); (case k1 => k_asm); (case k2 => k_asm); (case k3 => k_asm); (case k4 => k_asm); (case k5 => k_asm); (case c0 => ktr_rel); (case c1 => ktr_rel); (case c2 => assumption); (case c3 => assumption); (case c4 => assumption); (case c5 => assumption); (case kK => first | exact rfl | assumption); (case kd => first | exact roomK (by with_reducible assumption) (Nat.le_of_ble_eq_true rfl) | exact roomL _ rfl | ktr_room); (case ku => first | exact unitK (by with_reducible assumption) (Nat.le_of_ble_eq_true rfl) | exact unitL _ rfl | ktr_units); k_whole; intro t9 h9 tk9 F9 N9; (try dsimp only); (try k_sweep); (try k_fold))))
local macro_rules | `(tactic| walk_at "call ref") => `(tactic| (k_here; (with_reducible show wpAny _ _ (call (Value.ref 295) _ _) _ _ _); k_dflt ((first | (with_reducible refine' sp_useC (parent_cs ?c0 ?c1 ?c2 ?c3 ?c4) ?k1 ?k2 ?k3 ?k4 ?k5 ?kK ?kd ?ku ?_) | (refine' sp_useC (parent_cs ?c0 ?c1 ?c2 ?c3 ?c4) ?k1 ?k2 ?k3 ?k4 ?k5 ?kK ?kd ?ku ?_)); (case k1 => k_asm); (case k2 => k_asm); (case k3 => k_asm); (case k4 => k_asm); (case k5 => k_asm); (case c0 => ktr_rel); (case c1 => assumption); (case c2 => assumption); (case c3 => assumption); (case c4 => assumption); (case kK => first | exact rfl | assumption); (case kd => first | exact roomK (by with_reducible assumption) (Nat.le_of_ble_eq_true rfl) | exact roomL _ rfl | ktr_room); (case ku => first | exact unitK (by with_reducible assumption) (Nat.le_of_ble_eq_true rfl) | exact unitL _ rfl | ktr_units); k_whole; intro x9 d9 t9 k9 h9 tk9 la9 lb9 F9 N9; (try k_lt la9); (try k_lt2 lb9); (try dsimp only); (try k_sweep); (try k_fold))))
local macro_rules | `(tactic| walk_at "call ref") => `(tactic| (k_here; (with_reducible show wpAny _ _ (call (Value.ref 520) _ _) _ _ _); k_dflt ((first | (with_reducible refine' sp_useN (edge_cs ?c0 ?c1 ?c2 ?c3) ?k1 ?k2 ?k3 ?k4 ?k5 ?kK ?kd ?ku ?_) | (refine' sp_useN (edge_cs ?c0 ?c1 ?c2 ?c3) ?k1 ?k2 ?k3 ?k4 ?k5 ?kK ?kd ?ku ?_)); (case k1 => k_asm); (case k2 => k_asm); (case k3 => k_asm); (case k4 => k_asm); (case k5 => k_asm); (case c0 => ktr_rel); (case c1 => assumption); (case c2 => assumption); (case c3 => assumption); (case kK => first | exact rfl | assumption); (case kd => first | exact roomK (by with_reducible assumption) (Nat.le_of_ble_eq_true rfl) | exact roomL _ rfl | ktr_room); (case ku => first | exact unitK (by with_reducible assumption) (Nat.le_of_ble_eq_true rfl) | exact unitL _ rfl | ktr_units); k_whole; refine Hold.of ?_)))
local macro_rules | `(tactic| walk_at "exec Assign cons ListComp") => `(tactic| (k_here; lct_look; k_dflt (refine Mine.Assign_ListComp_UT2 (F₀ := by k_asm) (by rfl) (by with_unfolding_all rfl) (by with_unfolding_all rfl) (by decide) (by rfl) (by decide) (by rfl) (by rfl) (by rfl) ?_); k_whole))
local macro_rules | `(tactic| walk_at "CompSrcTT") => `(tactic| (k_here; k_dflt (refine Mine.CompSrcTT.ledger (by rfl) (by k_asm) (by k_asm) (by k_mem) (by exact Nat.le_of_ble_eq_true rfl) ?_; intro g'; refine Hold.four ?_)))
local macro_rules | `(tactic| walk_at "call ref") => `(tactic| (k_here; (with_reducible show wpAny _ _ (call (Value.ref 351) _ _) _ _ _); k_dflt ((first | (with_reducible refine' sp_useI (face_cs ?c0 ?c1 ?c2) ?k1 ?k2 ?k3 ?k4 ?k5 ?kK ?kd ?ku ?_) | (refine' sp_useI (face_cs ?c0 ?c1 ?c2) ?k1 ?k2 ?k3 ?k4 ?k5 ?kK ?kd ?ku ?_)); (case k1 => k_asm); (case k2 => k_asm); (case k3 => k_asm); (case k4 => k_asm); (case k5 => k_asm); (case c0 => ktr_rel); (case c1 => assumption); (case c2 => assumption); (case kK => first | exact rfl | assumption); (case kd => first | exact roomK (by with_reducible assumption) (Nat.le_of_ble_eq_true rfl) | exact roomL _ rfl | ktr_room); (case ku => first | exact unitK (by with_reducible assumption) (Nat.le_of_ble_eq_true rfl) | exact unitL _ rfl | ktr_units); k_whole; intro t9 h9 tk9 F9 N9; (try dsimp only); (try k_sweep); (try k_fold))))
local macro_rules | `(tactic| walk_at "exec Assign cons ListComp") => `(tactic| (k_here; lcf_look; (with_reducible show wpAny _ _ (exec (Stmt.Assign _ (Expr.ListComp _ [⟨_, Expr.Subscript _ _ _, _, _⟩] _ _) _) _) _ _ _); k_dflt (refine Mine.Assign_ListComp_UT (F₀ := by k_asm) (by rfl) (by with_unfolding_all rfl) (by with_unfolding_all rfl) (by decide) (by rfl) (by decide) (by rfl) (by rfl) (by rfl) ?_); k_whole))
local macro_rules | `(tactic| walk_at "CompSrcT") => `(tactic| (k_here; (with_reducible show Mine.CompSrcT _ _ _ _ _ _ _ _ _ _ _ _ _ _); k_dflt (refine Mine.CompSrcT.ledger (by rfl) (by k_asm) (by k_asm) (by k_mem) (by exact Nat.le_of_ble_eq_true rfl) ?_; intro g'; lcg_lit)))
local macro_rules | `(tactic| walk_at "binaryOp RShift int int") => `(tactic| (k_here; k_dflt ((with_reducible refine' shr_is ?k1 ?k2 ?_); (case k2 => with_reducible assumption); (case k1 => omega); k_whole)))
local macro_rules | `(tactic| walk_at "call builtin:len") => `(tactic| (k_here; (with_reducible show wpAny _ _ (call (Value.builtin "len") [Value.ref _]) _ _ _); k_dflt ((first | (with_reducible refine' list_len ?k1 ?k2 ?k3 ?_) | (refine' list_len ?k1 ?k2 ?k3 ?_)); (case k1 => k_asm); (case k2 => k_mem); (case k3 => assumption); k_whole; intro t9 s9 e9; subst e9)))
local macro_rules | `(tactic| walk_at "CompSrcT") => `(tactic| (k_here; (with_reducible show LCt.CompSrcT _ _ _ _ _ _ _ _ _ _ _ _ _ _ _); k_dflt (refine LCt.CompSrcT.ledger (by rfl) (by k_asm) (by k_asm) (by k_mem) (by first | exact Nat.le_of_ble_eq_true rfl | exact small_size (by assumption)) ?_; intro g'; refine Hold.of ?_)))
local macro_rules | `(tactic| walk_at "eval ListComp") => `(tactic| (k_here; lct_look; (with_reducible show wpAny _ _ (eval (Expr.ListComp _ [⟨_, Expr.Name _ _, _, _⟩] _ _) _) _ _ _); k_dflt (refine LCt.ListComp_T (F₀ := by k_asm) (by with_unfolding_all rfl) (by decide) (by rfl) (by decide) (by rfl) ?_); k_whole))
local macro_rules | `(tactic| walk_at "exec Assign cons ListComp") => `(tactic| (k_here; lcf_look; (with_reducible show wpAny _ _ (exec (Stmt.Assign _ (Expr.ListComp _ [⟨_, Expr.Name _ _, _, _⟩] _ _) _) _) _ _ _); k_dflt (refine LCg.Assign_ListComp_U (F₀ := by k_asm) (by rfl) (by with_unfolding_all rfl) (by with_unfolding_all rfl) (by decide) (by rfl) (by decide) (by rfl) (by rfl) (by rfl) ?_); k_whole))
local macro_rules | `(tactic| walk_at "CompSrc") => `(tactic| (k_here; k_dflt (refine LCg.CompSrc.ledger (by rfl) (by k_asm) (by k_asm) (by k_mem) (by exact small_size (by assumption)) ?_; intro g'; refine Hold.of ?_)))
local macro_rules | `(tactic| walk_at "call type:set cons nil") => `(tactic| (k_here; k_dflt ((first | (with_reducible refine' set_ledger ?k1 ?k2 ?k3 ?k4 ?k5 ?k6 ?k7 ?_) | (refine' set_ledger ?k1 ?k2 ?k3 ?k4 ?k5 ?k6 ?k7 ?_)); (case k1 => k_asm); (case k2 => k_asm); (case k3 => rfl); (case k4 => k_mem); (case k5 => assumption); (case k6 => assumption); (case k7 => assumption); k_whole; intro D' h' tk' o' F' N' l1 hso'; (try k_sweep))))
local macro_rules | `(tactic| walk_at "call builtin:len") => `(tactic| (k_here; (with_reducible show wpAny _ _ (call (Value.builtin "len") [Value.ref _]) _ _ _); k_dflt ((first | (with_reducible refine' set_len ?k1 ?k2 ?k3 ?_) | (refine' set_len ?k1 ?k2 ?k3 ?_)); (case k1 => k_asm); (case k2 => assumption); (case k3 => assumption); k_whole; intro t9 s9 e9; subst e9)))
local macro_rules | `(tactic| walk_at "newList") => `(tactic| (k_here; k_dflt ((first | (with_reducible refine' newList_K ?k1 ?k2 ?_ ?k3) | (refine' newList_K ?k1 ?k2 ?_ ?k3)); (case k1 => k_asm); (case k2 => k_asm); (case k3 => exact Nat.le_of_ble_eq_true rfl); k_whole; intro l' h' F' N' l1; (try k_lt l1); (try k_sweep))))
theorem len_no {n z z' a b c d : Nat} (h : n = a + (b + (c + (d + 0)))) (h1 : z = d + a) (h2 : z' = b + c) (h3 : (n : Int) ≠ (z : Int) + (z' : Int)) : False := by omega
theorem len_no2 {α β γ : Type} {f : α → β} {g : α → γ} {ts : List α} (h : (((ts.map f).length : Nat) : Int) ≠ ((ts.map g).length : Nat)) : False := h (by rw [List.length_map, List.length_map])
theorem law_post (w : List Int) : PySem.Challenge.rw_fb0049_01.row.claim.post [ofPy (PyData.list (List.map PyData.int w))] (.bool true) [ofPy (PyData.list (List.map PyData.int w))] = true := by exact postW_of (by wrow_shape) (by wtm_val) (by w_fin)
theorem law_all : PySem.Challenge.rw_fb0049_01.Holds := Mine.hd (by
  w_strict k_go0
  rw [envOfC_eq, deep_caller]
  all_goals (try k_fold)
  iterate 4 (first | (k_unfold; (try dsimp only)) | (k_end; first | exact absurd rfl (by with_reducible assumption) | exact (len_no2 (by with_reducible assumption)).elim | exact goodW_bool (by assumption) (by assumption) (raisesW_false allW_false_nil) (law_post _) | wrow_close) | ((try dsimp only); walk1) | (leave1; walk_say "STEP leave1"; try dsimp only) | fail "no step")
  rename Fr _ _ _ _ => F9
  rename News _ _ _ _ => N9
  rename Below _ _ _ _ => B9
  refine start_merge B9 F9 N9 ?_ ?_
  · repeat' ((fail_if_success (with_reducible (first | show Hold _ | show TurnEnd _ _ _ _ _ _ _ _ _ | show StepT _ _ _ _ _ _ _ _ _ | show StepE _ _ _ _ _ _ _ _ | show WhileStep _ _ _ _ _ _ _ | show PG _ _ _ _ _ _ _ _ _ _ | show Start _ _ _ _ _ _ _ _))); (first | (k_unfold; (try dsimp only)) | (k_end; first | exact absurd rfl (by with_reducible assumption) | exact (len_no2 (by with_reducible assumption)).elim | exact goodW_bool (by assumption) (by assumption) (raisesW_false allW_false_nil) (law_post _) | wrow_close) | ((try dsimp only); walk1) | (leave1; walk_say "STEP leave1"; try dsimp only) | fail "no step"))
    · exact ⟨_, [], _, _, _, _, rfl, rfl, by k_asm, by rw [List.append_nil]; k_asm, .inl (by assumption), by assumption, by assumption, by omega, fun _ h => nomatch h⟩
    · exact three_start (by k_asm) (by k_asm) (by
        intro q hq
        simp only [List.mem_cons, List.not_mem_nil, or_false] at hq
        rcases hq with rfl | rfl | rfl | rfl <;> (show @LT.lt Nat _ _ _; omega))
  · rename IntsAre _ _ => iz
    clear iz
    intro told ld vl ns h1 tk F9 N9 T9 I9 l9 m9 p9
    obtain ⟨q1, q2, q3, q4⟩ := split4l p9
    clear p9
    simp only [List.cons_append, List.nil_append] at N9
    try dsimp only
    try k_fold
    repeat' ((fail_if_success (with_reducible (first | show Hold _ | show TurnEnd _ _ _ _ _ _ _ _ _ | show StepT _ _ _ _ _ _ _ _ _ | show StepE _ _ _ _ _ _ _ _ | show WhileStep _ _ _ _ _ _ _ | show PG _ _ _ _ _ _ _ _ _ _ | show Start _ _ _ _ _ _ _ _))); (first | (k_unfold; (try dsimp only)) | (k_end; first | exact absurd rfl (by with_reducible assumption) | exact (len_no2 (by with_reducible assumption)).elim | exact goodW_bool (by assumption) (by assumption) (raisesW_false allW_false_nil) (law_post _) | wrow_close) | ((try dsimp only); walk1) | (leave1; walk_say "STEP leave1"; try dsimp only) | fail "no step"))
    unfold Hold
    rename IsRange _ _ _ _ _ _ _ _ => r9
    rename Fr _ _ _ _ => F9
    rename News _ _ _ _ => N9
    refine' loop1 rfl r9 ?b0 ?b1 F9 (news_subl (.cons _ (.cons _ (List.Sublist.refl _))) N9) ?T ?d ?f0 ?f4 ?f3 ?f2 ?f1 ?turn ?done
    case b0 => omega
    case b1 => omega
    case T => assumption
    case d => assumption
    case f0 => exact allLt_ne (And.right (And.right (And.right (And.right (by assumption)))))
    case f4 => exact ne_of_g1 (by assumption)
    case f3 => exact ne_of_g1 (by assumption)
    case f2 => exact ne_of_g1 (by assumption)
    case f1 => exact ne_of_g1 (by assumption)
    case turn =>
      clear r9 F9 N9
      intro i k kv t pl kk tp u oP h tk tl hi T9 f0 f4 f3 f2 f1 hk hd h0 h1 F9 N9
      try dsimp only
      try k_fold
      repeat' ((fail_if_success (with_reducible (first | show Hold _ | show TurnEnd _ _ _ _ _ _ _ _ _ | show StepT _ _ _ _ _ _ _ _ _ | show StepE _ _ _ _ _ _ _ _ | show WhileStep _ _ _ _ _ _ _ | show PG _ _ _ _ _ _ _ _ _ _ | show Start _ _ _ _ _ _ _ _))); (first | (k_unfold; (try dsimp only)) | (k_end; first | exact absurd rfl (by with_reducible assumption) | exact (len_no2 (by with_reducible assumption)).elim | exact goodW_bool (by assumption) (by assumption) (raisesW_false allW_false_nil) (law_post _) | wrow_close) | ((try dsimp only); walk1) | (leave1; walk_say "STEP leave1"; try dsimp only) | fail "no step"))
      exact turn_end1 (by k_asm) (by k_asm) (by omega) (by assumption) (And.left (pow4s (by assumption) (by assumption) (by assumption) (by assumption))) (And.right (pow4s (by assumption) (by assumption) (by assumption) (by assumption)))
    case done =>
      clear r9 F9 N9
      intro kv pl kk tp u oP h tk hk hd h0 h1 F9 N9
      try dsimp only
      try k_fold
      rename (_ : Int) < 6 => y6
      rename (_ : Int) < 30 => y30
      obtain ⟨l, el, hl0, hl⟩ := lev_of y30 (by assumption)
      rename Obj.data _ = Data.cell (some (Value.int (1 + _) _)) => dl
      rename _ = 2 + (1 + _) => hk
      rename _ < 4 ^ _ => h1
      rw [el] at dl hk h1
      obtain ⟨q, rfl, hq⟩ := plc_of h1 (by assumption)
      obtain ⟨f, rfl, hf⟩ := nat_of y6 (by assumption)
      have hf6 : f < 6 := by omega
      have md := mid_fmod f q l hl
      obtain ⟨md1, md2⟩ := md
      clear y30 y6 h1 el hf
      repeat' ((fail_if_success (with_reducible (first | show Hold _ | show TurnEnd _ _ _ _ _ _ _ _ _ | show StepT _ _ _ _ _ _ _ _ _ | show StepE _ _ _ _ _ _ _ _ | show WhileStep _ _ _ _ _ _ _ | show PG _ _ _ _ _ _ _ _ _ _ | show Start _ _ _ _ _ _ _ _))); (first | (k_unfold; (try dsimp only)) | (k_end; first | exact absurd rfl (by with_reducible assumption) | exact (len_no2 (by with_reducible assumption)).elim | exact goodW_bool (by assumption) (by assumption) (raisesW_false allW_false_nil) (law_post _) | wrow_close) | ((try dsimp only); walk1) | (leave1; walk_say "STEP leave1"; try dsimp only) | fail "no step"))
      unfold Hold
      rename IsRange _ _ _ _ _ _ _ _ => r9
      rename Fr _ _ _ _ => F9
      rename News _ _ _ _ => N9
      refine' loop2 rfl r9 ?b0 ?b1 F9 (news_subl (.cons _ (.cons _ (.cons _ (List.Sublist.refl _)))) N9) ?T ?k0 ?k1 ?fm ?fx ?fd ?f0 ?f4 ?f3 ?f2 ?f1 rfl ?turn ?done
      case b0 => omega
      case b1 => omega
      case T => assumption
      case k0 => omega
      case k1 => omega
      case fm => exact allLt_ne (And.right (And.right (And.right (And.right (And.right (And.right (And.right (by assumption))))))))
      case fd => exact allLt_ne (And.right (And.right (And.right (And.right (And.right (by assumption))))))
      case fx => exact allLt_up (by assumption) (And.right (And.right (And.right (And.right (And.right (by assumption))))))
      case f0 => exact allLt_ne (And.right (And.right (And.right (And.right (by assumption)))))
      case f4 => exact ne_of_g1 (by assumption)
      case f3 => exact ne_of_g1 (by assumption)
      case f2 => exact ne_of_g1 (by assumption)
      case f1 => exact ne_of_g1 (by assumption)
      case turn =>
        clear r9 F9 N9
        rename Told _ _ _ _ => tz
        clear tz
        intro i k a1 a2 a3 a4 a5 a6 a7 a8 t kk u h tk tl hi T9 f0 k0 k1 F9 N9
        try dsimp only
        try k_fold
        repeat' ((fail_if_success (with_reducible (first | show Hold _ | show TurnEnd _ _ _ _ _ _ _ _ _ | show StepT _ _ _ _ _ _ _ _ _ | show StepE _ _ _ _ _ _ _ _ | show WhileStep _ _ _ _ _ _ _ | show PG _ _ _ _ _ _ _ _ _ _ | show Start _ _ _ _ _ _ _ _))); (first | (k_unfold; (try dsimp only)) | (k_end; first | exact absurd rfl (by with_reducible assumption) | exact (len_no2 (by with_reducible assumption)).elim | exact goodW_bool (by assumption) (by assumption) (raisesW_false allW_false_nil) (law_post _) | wrow_close) | ((try dsimp only); walk1) | (leave1; walk_say "STEP leave1"; try dsimp only) | fail "no step"))
        unfold Hold
        rename Fr _ _ _ _ => F9
        rename News _ _ _ _ => N9
        rename (1 : Int) ≤ _ => hs1
        have N8 := news_tl N9
        clear N9
        refine ifexp_nat hq hs1 F9 N8 ?_ ?_
        · repeat' ((fail_if_success (with_reducible (first | show Hold _ | show TurnEnd _ _ _ _ _ _ _ _ _ | show StepT _ _ _ _ _ _ _ _ _ | show StepE _ _ _ _ _ _ _ _ | show WhileStep _ _ _ _ _ _ _ | show PG _ _ _ _ _ _ _ _ _ _ | show Start _ _ _ _ _ _ _ _))); (first | (k_unfold; (try dsimp only)) | (k_end; first | exact absurd rfl (by with_reducible assumption) | exact (len_no2 (by with_reducible assumption)).elim | exact goodW_bool (by assumption) (by assumption) (raisesW_false allW_false_nil) (law_post _) | wrow_close) | ((try dsimp only); walk1) | (leave1; walk_say "STEP leave1"; try dsimp only) | fail "no step"))
          all_goals first | exact ⟨_, _, _, _, rfl, rfl, by k_asm, by k_asm, .inl ⟨rfl, by assumption⟩⟩ | exact ⟨_, _, _, _, rfl, rfl, by k_asm, by k_asm, .inr rfl⟩
        · clear F9 N8
          intro g tg h tk F9 N9 dz
          by_cases hg : g < 0
          · try dsimp only
            repeat' ((fail_if_success (with_reducible (first | show Hold _ | show TurnEnd _ _ _ _ _ _ _ _ _ | show StepT _ _ _ _ _ _ _ _ _ | show StepE _ _ _ _ _ _ _ _ | show WhileStep _ _ _ _ _ _ _ | show PG _ _ _ _ _ _ _ _ _ _ | show Start _ _ _ _ _ _ _ _))); (first | (k_unfold; (try dsimp only)) | (k_end; first | exact absurd rfl (by with_reducible assumption) | exact (len_no2 (by with_reducible assumption)).elim | exact goodW_bool (by assumption) (by assumption) (raisesW_false allW_false_nil) (law_post _) | wrow_close) | ((try dsimp only); walk1) | (leave1; walk_say "STEP leave1"; try dsimp only) | fail "no step"))
            exact turn_cont2 (by k_asm) (by k_asm) (by omega) (by omega) (nest8_eq (by (intro y n1 n2 n3 n4 n5 n6 n7 n8; simp only [nest8, n1, n2, n3, n4, n5, n6, n7, n8, if_false])))
          · obtain ⟨q', rfl, hq', hdj⟩ := steps_of hs1 hq dz hg
            obtain ⟨P2, eP, hWb, hP, hW1, hW2⟩ := big_facts (f := f) hl hq hq' hs1 hdj
            try dsimp only
            repeat' ((fail_if_success (with_reducible (first | show Hold _ | show TurnEnd _ _ _ _ _ _ _ _ _ | show StepT _ _ _ _ _ _ _ _ _ | show StepE _ _ _ _ _ _ _ _ | show WhileStep _ _ _ _ _ _ _ | show PG _ _ _ _ _ _ _ _ _ _ | show Start _ _ _ _ _ _ _ _))); (first | (k_unfold; (try dsimp only)) | (k_end; first | exact absurd rfl (by with_reducible assumption) | exact (len_no2 (by with_reducible assumption)).elim | exact goodW_bool (by assumption) (by assumption) (raisesW_false allW_false_nil) (law_post _) | wrow_close) | ((try dsimp only); walk1) | (leave1; walk_say "STEP leave1"; try dsimp only) | fail "no step"))
            all_goals first | (exfalso; omega) | skip
            unfold Hold
            rename Fr _ _ _ _ => F9
            rename News _ _ _ _ => N9
            have hsl := steps_le hq hq' hdj
            refine' while4' hsl F9 N9 ?_ ?_ ?hE
            case hE => passes_own
            · intro j tj n h2 tk2 hj hlt hn F9 N9
              try dsimp only
              repeat' ((fail_if_success (with_reducible (first | show Hold _ | show TurnEnd _ _ _ _ _ _ _ _ _ | show StepT _ _ _ _ _ _ _ _ _ | show StepE _ _ _ _ _ _ _ _ | show WhileStep _ _ _ _ _ _ _ | show PG _ _ _ _ _ _ _ _ _ _ | show Start _ _ _ _ _ _ _ _))); (first | (k_unfold; (try dsimp only)) | (k_end; first | exact absurd rfl (by with_reducible assumption) | exact (len_no2 (by with_reducible assumption)).elim | exact goodW_bool (by assumption) (by assumption) (raisesW_false allW_false_nil) (law_post _) | wrow_close) | ((try dsimp only); walk1) | (leave1; walk_say "STEP leave1"; try dsimp only) | fail "no step"))
              all_goals exact while_end (by k_asm) (by k_asm) hn rfl hlt hsl
            · intro j tj h2 tk2 hj hge F9 N9
              obtain ⟨u1, u2, u3, u4⟩ := up_facts (f := f) hj hge hs1 hq hq' hdj
              have u5 : l - j ≤ l := Nat.sub_le _ _
              have u6 : l - j ≤ 30 := Nat.le_trans u5 hl
              have u7 : 0 ≤ (way (l - j) (f % 2) (q / 4 ^ (l - (l - j))) (q' / 4 ^ (l - (l - j))) : Int) ∧ (way (l - j) (f % 2) (q / 4 ^ (l - (l - j))) (q' / 4 ^ (l - (l - j))) : Int) ≤ 1 := ⟨Int.natCast_nonneg _, Int.ofNat_le.mpr u3⟩
              try dsimp only
              repeat' ((fail_if_success (with_reducible (first | show Hold _ | show TurnEnd _ _ _ _ _ _ _ _ _ | show StepT _ _ _ _ _ _ _ _ _ | show StepE _ _ _ _ _ _ _ _ | show WhileStep _ _ _ _ _ _ _ | show PG _ _ _ _ _ _ _ _ _ _ | show Start _ _ _ _ _ _ _ _))); (first | (k_unfold; (try dsimp only)) | (k_end; first | exact absurd rfl (by with_reducible assumption) | exact (len_no2 (by with_reducible assumption)).elim | exact goodW_bool (by assumption) (by assumption) (raisesW_false allW_false_nil) (law_post _) | wrow_close) | ((try dsimp only); walk1) | (leave1; walk_say "STEP leave1"; try dsimp only) | fail "no step"))
              all_goals first
                | exact absurd rfl (by with_reducible assumption)
                | (rename News _ _ _ _ => N8; exact turn_next2 (by k_asm) (by first | exact N8 | exact (news_tl N8) | exact (news_tl (news_tl N8)) | exact (news_tl (news_tl (news_tl N8))) | exact (news_tl (news_tl (news_tl (news_tl N8)))) | exact (news_tl (news_tl (news_tl (news_tl (news_tl N8))))) | exact (news_tl (news_tl (news_tl (news_tl (news_tl (news_tl N8)))))) | exact (news_tl (news_tl (news_tl (news_tl (news_tl (news_tl (news_tl N8))))))) | exact (news_tl (news_tl (news_tl (news_tl (news_tl (news_tl (news_tl (news_tl N8)))))))) | exact (news_tl (news_tl (news_tl (news_tl (news_tl (news_tl (news_tl (news_tl (news_tl N8))))))))) | exact (news_tl (news_tl (news_tl (news_tl (news_tl (news_tl (news_tl (news_tl (news_tl (news_tl N8)))))))))) | exact (news_tl (news_tl (news_tl (news_tl (news_tl (news_tl (news_tl (news_tl (news_tl (news_tl (news_tl N8))))))))))) | exact (news_tl (news_tl (news_tl (news_tl (news_tl (news_tl (news_tl (news_tl (news_tl (news_tl (news_tl (news_tl N8)))))))))))) | exact (news_tl (news_tl (news_tl (news_tl (news_tl (news_tl (news_tl (news_tl (news_tl (news_tl (news_tl (news_tl (news_tl N8))))))))))))) | exact (news_tl (news_tl (news_tl (news_tl (news_tl (news_tl (news_tl (news_tl (news_tl (news_tl (news_tl (news_tl (news_tl (news_tl N8)))))))))))))) | exact (news_tl (news_tl (news_tl (news_tl (news_tl (news_tl (news_tl (news_tl (news_tl (news_tl (news_tl (news_tl (news_tl (news_tl (news_tl N8))))))))))))))) | exact (news_tl (news_tl (news_tl (news_tl (news_tl (news_tl (news_tl (news_tl (news_tl (news_tl (news_tl (news_tl (news_tl (news_tl (news_tl (news_tl N8)))))))))))))))) | exact (news_tl (news_tl (news_tl (news_tl (news_tl (news_tl (news_tl (news_tl (news_tl (news_tl (news_tl (news_tl (news_tl (news_tl (news_tl (news_tl (news_tl N8))))))))))))))))) | exact (news_tl (news_tl (news_tl (news_tl (news_tl (news_tl (news_tl (news_tl (news_tl (news_tl (news_tl (news_tl (news_tl (news_tl (news_tl (news_tl (news_tl (news_tl N8)))))))))))))))))) | exact (news_tl (news_tl (news_tl (news_tl (news_tl (news_tl (news_tl (news_tl (news_tl (news_tl (news_tl (news_tl (news_tl (news_tl (news_tl (news_tl (news_tl (news_tl (news_tl N8))))))))))))))))))) | exact (news_tl (news_tl (news_tl (news_tl (news_tl (news_tl (news_tl (news_tl (news_tl (news_tl (news_tl (news_tl (news_tl (news_tl (news_tl (news_tl (news_tl (news_tl (news_tl (news_tl N8)))))))))))))))))))) | exact (news_tl (news_tl (news_tl (news_tl (news_tl (news_tl (news_tl (news_tl (news_tl (news_tl (news_tl (news_tl (news_tl (news_tl (news_tl (news_tl (news_tl (news_tl (news_tl (news_tl (news_tl N8))))))))))))))))))))) | exact (news_tl (news_tl (news_tl (news_tl (news_tl (news_tl (news_tl (news_tl (news_tl (news_tl (news_tl (news_tl (news_tl (news_tl (news_tl (news_tl (news_tl (news_tl (news_tl (news_tl (news_tl (news_tl N8)))))))))))))))))))))) | exact (news_tl (news_tl (news_tl (news_tl (news_tl (news_tl (news_tl (news_tl (news_tl (news_tl (news_tl (news_tl (news_tl (news_tl (news_tl (news_tl (news_tl (news_tl (news_tl (news_tl (news_tl (news_tl (news_tl N8))))))))))))))))))))))) | exact (news_tl (news_tl (news_tl (news_tl (news_tl (news_tl (news_tl (news_tl (news_tl (news_tl (news_tl (news_tl (news_tl (news_tl (news_tl (news_tl (news_tl (news_tl (news_tl (news_tl (news_tl (news_tl (news_tl (news_tl N8)))))))))))))))))))))))) | exact (news_tl (news_tl (news_tl (news_tl (news_tl (news_tl (news_tl (news_tl (news_tl (news_tl (news_tl (news_tl (news_tl (news_tl (news_tl (news_tl (news_tl (news_tl (news_tl (news_tl (news_tl (news_tl (news_tl (news_tl (news_tl N8)))))))))))))))))))))))))) (by omega) (by omega) (nest8_eq (by (intro y n1 n2 n3 n4 n5 n6 n7 n8; simp only [nest8, n1, n2, n3, n4, n5, n6, n7, n8, if_false]))))
      case done =>
        clear r9 F9 N9
        intro a1 a2 a3 a4 a5 a6 a7 a8 kk u h tk F9 N9
        try dsimp only
        try k_fold
        repeat' ((fail_if_success (with_reducible (first | show Hold _ | show TurnEnd _ _ _ _ _ _ _ _ _ | show StepT _ _ _ _ _ _ _ _ _ | show StepE _ _ _ _ _ _ _ _ | show WhileStep _ _ _ _ _ _ _ | show PG _ _ _ _ _ _ _ _ _ _ | show Start _ _ _ _ _ _ _ _))); (first | (k_unfold; (try dsimp only)) | (k_end; first | exact absurd rfl (by with_reducible assumption) | exact (len_no2 (by with_reducible assumption)).elim | exact goodW_bool (by assumption) (by assumption) (raisesW_false allW_false_nil) (law_post _) | wrow_close) | ((try dsimp only); walk1) | (leave1; walk_say "STEP leave1"; try dsimp only) | fail "no step"))
        unfold Hold
        intro ea ex1 ed1 ex2 ed2 ex3 ed3 ex4 ed4 et1 et2 et3 et4 ey1 ey2 ey3 ey4 ef1 eq1 ef2 eq2 ef3 eq3 ef4 eq4 eh etk en1 en2 en3 en4 elt eF eN
        obtain ⟨S9, g9⟩ := nb_all (x1 := ex1) (x2 := ex2) (x3 := ex3) (x4 := ex4) hl hq en1.2.2 en2.2.2 en3.2.2 en4.2.2
        try dsimp only
        try k_sweep
        try k_fold
        repeat' ((fail_if_success (with_reducible (first | show Hold _ | show TurnEnd _ _ _ _ _ _ _ _ _ | show StepT _ _ _ _ _ _ _ _ _ | show StepE _ _ _ _ _ _ _ _ | show WhileStep _ _ _ _ _ _ _ | show PG _ _ _ _ _ _ _ _ _ _ | show Start _ _ _ _ _ _ _ _))); (first | (k_unfold; (try dsimp only)) | (k_end; first | exact absurd rfl (by with_reducible assumption) | exact (len_no2 (by with_reducible assumption)).elim | exact goodW_bool (by assumption) (by assumption) (raisesW_false allW_false_nil) (law_post _) | wrow_close) | ((try dsimp only); walk1) | (leave1; walk_say "STEP leave1"; try dsimp only) | fail "no step"))
        unfold Hold
        have hcs := edge_cells eN hl ⟨en1.1, en1.2.1⟩ ⟨en2.1, en2.2.1⟩ ⟨en3.1, en3.2.1⟩ ⟨en4.1, en4.2.1⟩
        refine comp_T [(ex1, ef1, eq1 / 4 ^ (30 - l)), (ex2, ef2, eq2 / 4 ^ (30 - l)), (ex3, ef3, eq3 / 4 ^ (30 - l)), (ex4, ef4, eq4 / 4 ^ (30 - l))] (fun t => Value.ref t.1) (fun t => decide (t.2.1 = f)) (fun t y => y = Value.ref t.1) rfl rfl ?_ ?_ ?_
        · lcg_src
        · rintro ⟨x, f', q'⟩ ht I C D oI oC ys m2 h6 tk6 E6 hC hx F6 N6 off ne
          obtain ⟨hc, hf', hq'⟩ := hcs _ ht
          dsimp only at hx hc hf' hq'
          have hc2 := hc
          obtain ⟨dxx, txx, tkx, hxm, hdm⟩ := hc2
          try dsimp only
          repeat' ((fail_if_success (with_reducible (first | show Hold _ | show TurnEnd _ _ _ _ _ _ _ _ _ | show StepT _ _ _ _ _ _ _ _ _ | show StepE _ _ _ _ _ _ _ _ | show WhileStep _ _ _ _ _ _ _ | show PG _ _ _ _ _ _ _ _ _ _ | show Start _ _ _ _ _ _ _ _))); (first | (k_unfold; (try dsimp only)) | (k_end; first | exact absurd rfl (by with_reducible assumption) | exact (len_no2 (by with_reducible assumption)).elim | exact goodW_bool (by assumption) (by assumption) (raisesW_false allW_false_nil) (law_post _) | wrow_close) | ((try dsimp only); walk1) | (leave1; walk_say "STEP leave1"; try dsimp only) | fail "no step"))
          refine StepT.intro (by k_asm) (by k_asm) (by (show decide ((f' : Int) = (f : Int)) = decide (f' = f)); exact decide_eq_decide.mpr Int.ofNat_inj) (fun hok => ?_)
          repeat' ((fail_if_success (with_reducible (first | show Hold _ | show TurnEnd _ _ _ _ _ _ _ _ _ | show StepT _ _ _ _ _ _ _ _ _ | show StepE _ _ _ _ _ _ _ _ | show WhileStep _ _ _ _ _ _ _ | show PG _ _ _ _ _ _ _ _ _ _ | show Start _ _ _ _ _ _ _ _))); (first | (k_unfold; (try dsimp only)) | (k_end; first | exact absurd rfl (by with_reducible assumption) | exact (len_no2 (by with_reducible assumption)).elim | exact goodW_bool (by assumption) (by assumption) (raisesW_false allW_false_nil) (law_post _) | wrow_close) | ((try dsimp only); walk1) | (leave1; walk_say "STEP leave1"; try dsimp only) | fail "no step"))
          exact StepE.intro (by k_asm) (by k_asm) rfl
        · intro zs hz
          have ez := all2_ref (bs := cellsIn f [(ex1, ef1, eq1 / 4 ^ (30 - l)), (ex2, ef2, eq2 / 4 ^ (30 - l)), (ex3, ef3, eq3 / 4 ^ (30 - l)), (ex4, ef4, eq4 / 4 ^ (30 - l))]) hz
          clear hz
          subst ez
          have hb := good_cells g9 hcs
          have hlen := good_len g9
          have hnd := g9.2.1
          obtain ⟨sx, sy⟩ := mid_shr f q l hl
          generalize cellsIn f _ = bs at g9 hb hlen hnd ⊢
          have hlb : (bs.map fun t => Value.ref t.1).length ≤ 100 := by rw [List.length_map, hlen]; (repeat' split) <;> decide
          have hml := (List.length_map (as := bs) (fun t : T3 => Value.ref t.1)).trans hlen
          clear hcs en1 en2 en3 en4
          repeat' ((fail_if_success (with_reducible (first | show Hold _ | show TurnEnd _ _ _ _ _ _ _ _ _ | show StepT _ _ _ _ _ _ _ _ _ | show StepE _ _ _ _ _ _ _ _ | show WhileStep _ _ _ _ _ _ _ | show PG _ _ _ _ _ _ _ _ _ _ | show Start _ _ _ _ _ _ _ _))); (first | (k_unfold; (try dsimp only)) | (k_end; first | exact absurd rfl (by with_reducible assumption) | exact (len_no2 (by with_reducible assumption)).elim | exact goodW_bool (by assumption) (by assumption) (raisesW_false allW_false_nil) (law_post _) | wrow_close) | ((try dsimp only); walk1) | (leave1; walk_say "STEP leave1"; try dsimp only) | fail "no step"))
          unfold Hold
          refine comp_T [(Mine.X l (f % 2) q, _), (Mine.Y l (f % 2) q, _)] (fun t => Value.int (t.1 : Int) t.2) (fun t => decide (0 < t.1)) (fun _ _ => True) rfl rfl ?_ ?_ ?_
          · lcg_src
          · rintro ⟨n, tn⟩ ht I C D oI oC ys m2 h6 tk6 E6 hC hx F6 N6 off ne
            dsimp only at hx
            try dsimp only
            repeat' ((fail_if_success (with_reducible (first | show Hold _ | show TurnEnd _ _ _ _ _ _ _ _ _ | show StepT _ _ _ _ _ _ _ _ _ | show StepE _ _ _ _ _ _ _ _ | show WhileStep _ _ _ _ _ _ _ | show PG _ _ _ _ _ _ _ _ _ _ | show Start _ _ _ _ _ _ _ _))); (first | (k_unfold; (try dsimp only)) | (k_end; first | exact absurd rfl (by with_reducible assumption) | exact (len_no2 (by with_reducible assumption)).elim | exact goodW_bool (by assumption) (by assumption) (raisesW_false allW_false_nil) (law_post _) | wrow_close) | ((try dsimp only); walk1) | (leave1; walk_say "STEP leave1"; try dsimp only) | fail "no step"))
            refine StepT.intro (by k_asm) (by k_asm) (by (show decide _ = decide _); exact decide_eq_decide.mpr (by omega)) (fun hok => ?_)
            repeat' ((fail_if_success (with_reducible (first | show Hold _ | show TurnEnd _ _ _ _ _ _ _ _ _ | show StepT _ _ _ _ _ _ _ _ _ | show StepE _ _ _ _ _ _ _ _ | show WhileStep _ _ _ _ _ _ _ | show PG _ _ _ _ _ _ _ _ _ _ | show Start _ _ _ _ _ _ _ _))); (first | (k_unfold; (try dsimp only)) | (k_end; first | exact absurd rfl (by with_reducible assumption) | exact (len_no2 (by with_reducible assumption)).elim | exact goodW_bool (by assumption) (by assumption) (raisesW_false allW_false_nil) (law_post _) | wrow_close) | ((try dsimp only); walk1) | (leave1; walk_say "STEP leave1"; try dsimp only) | fail "no step"))
            exact StepE.intro (by k_asm) (by k_asm) trivial
          · intro zs hz
            have hz1 := count2 hz
            clear hz
            simp only [decide_eq_true_eq] at hz1
            have hz2 : zs.length ≤ 100 := by rw [hz1]; (repeat' split) <;> decide
            try dsimp only
            repeat' ((fail_if_success (with_reducible (first | show Hold _ | show TurnEnd _ _ _ _ _ _ _ _ _ | show StepT _ _ _ _ _ _ _ _ _ | show StepE _ _ _ _ _ _ _ _ | show WhileStep _ _ _ _ _ _ _ | show PG _ _ _ _ _ _ _ _ _ _ | show Start _ _ _ _ _ _ _ _))); (first | (k_unfold; (try dsimp only)) | (k_end; first | exact absurd rfl (by with_reducible assumption) | exact (len_no2 (by with_reducible assumption)).elim | exact goodW_bool (by assumption) (by assumption) (raisesW_false allW_false_nil) (law_post _) | wrow_close) | ((try dsimp only); walk1) | (leave1; walk_say "STEP leave1"; try dsimp only) | fail "no step"))
            unfold Hold
            refine comp_T [(Mine.X l (f % 2) q, _), (Mine.Y l (f % 2) q, _)] (fun t => Value.int (t.1 : Int) t.2) (fun t => decide (t.1 + 1 < 2 ^ l)) (fun _ _ => True) rfl rfl ?_ ?_ ?_
            · lcg_src
            · rintro ⟨n, tn⟩ ht I C D oI oC ys m2 h6 tk6 E6 hC hx F6 N6 off ne
              dsimp only at hx
              try dsimp only
              repeat' ((fail_if_success (with_reducible (first | show Hold _ | show TurnEnd _ _ _ _ _ _ _ _ _ | show StepT _ _ _ _ _ _ _ _ _ | show StepE _ _ _ _ _ _ _ _ | show WhileStep _ _ _ _ _ _ _ | show PG _ _ _ _ _ _ _ _ _ _ | show Start _ _ _ _ _ _ _ _))); (first | (k_unfold; (try dsimp only)) | (k_end; first | exact absurd rfl (by with_reducible assumption) | exact (len_no2 (by with_reducible assumption)).elim | exact goodW_bool (by assumption) (by assumption) (raisesW_false allW_false_nil) (law_post _) | wrow_close) | ((try dsimp only); walk1) | (leave1; walk_say "STEP leave1"; try dsimp only) | fail "no step"))
              refine StepT.intro (by k_asm) (by k_asm) (by (show decide _ = decide _); exact decide_eq_decide.mpr (by rw [← pow2n]; omega)) (fun hok => ?_)
              repeat' ((fail_if_success (with_reducible (first | show Hold _ | show TurnEnd _ _ _ _ _ _ _ _ _ | show StepT _ _ _ _ _ _ _ _ _ | show StepE _ _ _ _ _ _ _ _ | show WhileStep _ _ _ _ _ _ _ | show PG _ _ _ _ _ _ _ _ _ _ | show Start _ _ _ _ _ _ _ _))); (first | (k_unfold; (try dsimp only)) | (k_end; first | exact absurd rfl (by with_reducible assumption) | exact (len_no2 (by with_reducible assumption)).elim | exact goodW_bool (by assumption) (by assumption) (raisesW_false allW_false_nil) (law_post _) | wrow_close) | ((try dsimp only); walk1) | (leave1; walk_say "STEP leave1"; try dsimp only) | fail "no step"))
              exact StepE.intro (by k_asm) (by k_asm) trivial
            · intro zs' hz'
              have hz1' := count2 hz'
              clear hz'
              simp only [decide_eq_true_eq] at hz1'
              have hz2' : zs'.length ≤ 100 := by rw [hz1']; (repeat' split) <;> decide
              try dsimp only
              repeat' ((fail_if_success (with_reducible (first | show Hold _ | show TurnEnd _ _ _ _ _ _ _ _ _ | show StepT _ _ _ _ _ _ _ _ _ | show StepE _ _ _ _ _ _ _ _ | show WhileStep _ _ _ _ _ _ _ | show PG _ _ _ _ _ _ _ _ _ _ | show Start _ _ _ _ _ _ _ _))); (first | (k_unfold; (try dsimp only)) | (k_end; first | exact absurd rfl (by with_reducible assumption) | exact (len_no2 (by with_reducible assumption)).elim | exact goodW_bool (by assumption) (by assumption) (raisesW_false allW_false_nil) (law_post _) | exact (len_no hml hz1 hz1' (by with_reducible assumption)).elim | wrow_close) | ((try dsimp only); walk1) | (leave1; walk_say "STEP leave1"; try dsimp only) | fail "no step"))
              unfold Hold
              refine comp_U bs (fun t => Value.ref t.1) (fun t y => ∃ tk, y = Value.int (t.2.2 : Int) tk) rfl (by simp) ?_ ?_ ?_
              · lcg_src
              · rintro ⟨x, f', q'⟩ ht I C D oI oC ys m2 h6 tk6 E6 hC hx F6 N6 off ne
                obtain ⟨hc, hq', hw'⟩ := hb _ ht
                dsimp only at hx hc hq' hw'
                have hc2 := hc
                obtain ⟨dxx, txx, tkx, hxm, hdm⟩ := hc2
                try dsimp only
                repeat' ((fail_if_success (with_reducible (first | show Hold _ | show TurnEnd _ _ _ _ _ _ _ _ _ | show StepT _ _ _ _ _ _ _ _ _ | show StepE _ _ _ _ _ _ _ _ | show WhileStep _ _ _ _ _ _ _ | show PG _ _ _ _ _ _ _ _ _ _ | show Start _ _ _ _ _ _ _ _))); (first | (k_unfold; (try dsimp only)) | (k_end; first | exact absurd rfl (by with_reducible assumption) | exact (len_no2 (by with_reducible assumption)).elim | exact goodW_bool (by assumption) (by assumption) (raisesW_false allW_false_nil) (law_post _) | wrow_close) | ((try dsimp only); walk1) | (leave1; walk_say "STEP leave1"; try dsimp only) | fail "no step"))
                exact StepE.intro (by k_asm) (by k_asm) ⟨_, rfl⟩
              · intro ps hps
                obtain ⟨ts, ep, en, hpar⟩ := all2_pairs (Pp := fun n => (q + n) % 2 = 1) hps (fun t ht => near_odd (by omega) hq (hb t ht).2.1 (hb t ht).2.2)
                subst ep
                clear hps
                have hpi := ints_pairs ts
                have hpn := nodup_cast en hnd
                have hel : (ts.map fun t => (t.1 : Int)).length = ts.length := List.length_map _
                have hel2 : (ts.map vI).length = ts.length := List.length_map _
                have hel3 : ts.length ≤ 100 := by
                  have := congrArg List.length en
                  rw [List.length_map, List.length_map] at this
                  rw [List.length_map] at hlb
                  omega
                have hel4 : (ts.map fun t => (t.1 : Int)).length ≤ 100 := by rw [hel]; exact hel3
                have hel5 : (ts.map vI).length ≤ 100 := by rw [hel2]; exact hel3
                clear g9 hlen hml hz1 hz1' hz2 hz2' hnd en
                try dsimp only
                repeat' ((fail_if_success (with_reducible (first | show Hold _ | show TurnEnd _ _ _ _ _ _ _ _ _ | show StepT _ _ _ _ _ _ _ _ _ | show StepE _ _ _ _ _ _ _ _ | show WhileStep _ _ _ _ _ _ _ | show PG _ _ _ _ _ _ _ _ _ _ | show Start _ _ _ _ _ _ _ _))); (first | (k_unfold; (try dsimp only)) | (k_end; first | exact absurd rfl (by with_reducible assumption) | exact (len_no2 (by with_reducible assumption)).elim | exact goodW_bool (by assumption) (by assumption) (raisesW_false allW_false_nil) (law_post _) | wrow_close) | ((try dsimp only); walk1) | (leave1; walk_say "STEP leave1"; try dsimp only) | fail "no step"))
                unfold Hold
                refine comp_T bs (fun t => Value.ref t.1) (fun _ => false) (fun _ _ => True) rfl (by simp) ?_ ?_ ?_
                · lcg_src
                · rintro ⟨x, f', q'⟩ ht I C D oI oC ys m2 h6 tk6 E6 hC hx F6 N6 off ne
                  obtain ⟨hc, hq', hw'⟩ := hb _ ht
                  dsimp only at hx hc hq' hw'
                  have hc2 := hc
                  obtain ⟨dxx, txx, tkx, hxm, hdm⟩ := hc2
                  try dsimp only
                  repeat' ((fail_if_success (with_reducible (first | show Hold _ | show TurnEnd _ _ _ _ _ _ _ _ _ | show StepT _ _ _ _ _ _ _ _ _ | show StepE _ _ _ _ _ _ _ _ | show WhileStep _ _ _ _ _ _ _ | show PG _ _ _ _ _ _ _ _ _ _ | show Start _ _ _ _ _ _ _ _))); (first | (k_unfold; (try dsimp only)) | (k_end; first | exact absurd rfl (by with_reducible assumption) | exact (len_no2 (by with_reducible assumption)).elim | exact goodW_bool (by assumption) (by assumption) (raisesW_false allW_false_nil) (law_post _) | wrow_close) | ((try dsimp only); walk1) | (leave1; walk_say "STEP leave1"; try dsimp only) | fail "no step"))
                  refine StepT.intro (by k_asm) (by k_asm) (by simp [hw']) (fun hok => ?_)
                  exact absurd hok (by simp [hw'])
                · intro zs' hz'
                  have ez := all2_none hz'
                  subst ez
                  clear hz'
                  try dsimp only
                  repeat' ((fail_if_success (with_reducible (first | show Hold _ | show TurnEnd _ _ _ _ _ _ _ _ _ | show StepT _ _ _ _ _ _ _ _ _ | show StepE _ _ _ _ _ _ _ _ | show WhileStep _ _ _ _ _ _ _ | show PG _ _ _ _ _ _ _ _ _ _ | show Start _ _ _ _ _ _ _ _))); (first | (k_unfold; (try dsimp only)) | (k_end; first | exact absurd rfl (by with_reducible assumption) | exact (len_no2 (by with_reducible assumption)).elim | exact goodW_bool (by assumption) (by assumption) (raisesW_false allW_false_nil) (law_post _) | wrow_close) | ((try dsimp only); walk1) | (leave1; walk_say "STEP leave1"; try dsimp only) | fail "no step"))
                  unfold Hold
                  refine comp_T ts vI (fun _ => false) (fun _ _ => True) rfl (by simp) ?_ ?_ ?_
                  · lcg_src
                  · rintro ⟨n, tn⟩ ht I C D oI oC ys m2 h6 tk6 E6 hC hx F6 N6 off ne
                    have em := odd_fmod (hpar _ ht)
                    dsimp only at hx em
                    try dsimp only
                    repeat' ((fail_if_success (with_reducible (first | show Hold _ | show TurnEnd _ _ _ _ _ _ _ _ _ | show StepT _ _ _ _ _ _ _ _ _ | show StepE _ _ _ _ _ _ _ _ | show WhileStep _ _ _ _ _ _ _ | show PG _ _ _ _ _ _ _ _ _ _ | show Start _ _ _ _ _ _ _ _))); (first | (k_unfold; (try dsimp only)) | (k_end; first | exact absurd rfl (by with_reducible assumption) | exact (len_no2 (by with_reducible assumption)).elim | exact goodW_bool (by assumption) (by assumption) (raisesW_false allW_false_nil) (law_post _) | wrow_close) | ((try dsimp only); walk1) | (leave1; walk_say "STEP leave1"; try dsimp only) | fail "no step"))
                    all_goals refine StepT.intro (by k_asm) (by k_asm) (by first | rfl | simp) (fun hok => ?_)
                    all_goals exact absurd hok (by first | decide | simp)
                  · intro zs' hz'
                    have ez := all2_none hz'
                    subst ez
                    clear hz'
                    try dsimp only
                    repeat' ((fail_if_success (with_reducible (first | show Hold _ | show TurnEnd _ _ _ _ _ _ _ _ _ | show StepT _ _ _ _ _ _ _ _ _ | show StepE _ _ _ _ _ _ _ _ | show WhileStep _ _ _ _ _ _ _ | show PG _ _ _ _ _ _ _ _ _ _ | show Start _ _ _ _ _ _ _ _))); (first | (k_unfold; (try dsimp only)) | (k_end; first | exact absurd rfl (by with_reducible assumption) | exact (len_no2 (by with_reducible assumption)).elim | exact goodW_bool (by assumption) (by assumption) (raisesW_false allW_false_nil) (law_post _) | wrow_close) | ((try dsimp only); walk1) | (leave1; walk_say "STEP leave1"; try dsimp only) | fail "no step")))
end Mine
theorem PySem.Challenge.cw_fb0049_01_holds : PySem.Challenge.rw_fb0049_01.Holds :=
  Mine.law_all
