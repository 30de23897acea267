/-
  Seat b6600241a: rounding to a float64, over whole numbers: no Go in sight.
  A magnitude is a whole number of units of 2 ^ (-1074 - d). 'rng d N': the rung of the float64 nearest to N such units. It grows with N, and it finds back every rung.
-/
import Ieee.Arith
namespace Go.Proofs.Qxb6600241a.Fl
open Ieee

/-! ### to the nearest whole number, ties to even -/
def R2 (n d : Nat) : Nat := n / d + (if d < 2 * (n % d) ∨ (d = 2 * (n % d) ∧ n / d % 2 = 1) then 1 else 0)

theorem R2_le (n d : Nat) : R2 n d ≤ n / d + 1 := by unfold R2; split <;> omega
theorem R2_ge (n d : Nat) : n / d ≤ R2 n d := by unfold R2; omega

theorem R2_mono {n1 d1 n2 d2 : Nat} (h1 : 0 < d1) (h2 : 0 < d2) (h : n1 * d2 ≤ n2 * d1) : R2 n1 d1 ≤ R2 n2 d2 := by
  have e1 := Nat.div_add_mod n1 d1
  have e2 := Nat.div_add_mod n2 d2
  have l1 := Nat.mod_lt n1 h1
  have l2 := Nat.mod_lt n2 h2
  have hq : n1 / d1 ≤ n2 / d2 := by
    rw [Nat.le_div_iff_mul_le h2]
    have a : n1 / d1 * d2 * d1 ≤ n2 * d1 := by
      refine Nat.le_trans ?_ h
      have := Nat.mul_le_mul_right d2 (Nat.div_mul_le_self n1 d1)
      calc n1 / d1 * d2 * d1 = n1 / d1 * d1 * d2 := by rw [Nat.mul_right_comm]
        _ ≤ n1 * d2 := this
    exact Nat.le_of_mul_le_mul_right a h1
  by_cases hlt : n1 / d1 < n2 / d2
  · have := R2_le n1 d1; have := R2_ge n2 d2; omega
  have he : n1 / d1 = n2 / d2 := by omega
  generalize hq1 : n1 / d1 = q at *
  rw [← he] at e2
  generalize n1 % d1 = r1 at *
  generalize n2 % d2 = r2 at *
  have hr : r1 * d2 ≤ r2 * d1 := by
    rw [← e1, ← e2, Nat.add_mul, Nat.add_mul] at h
    have : d1 * q * d2 = d2 * q * d1 := by rw [Nat.mul_comm d1 q, Nat.mul_comm d2 q, Nat.mul_assoc, Nat.mul_assoc, Nat.mul_comm d1 d2]
    omega
  unfold R2
  have e1' : n1 % d1 = r1 := by
    rw [← e1, Nat.mul_add_mod, Nat.mod_eq_of_lt l1]
  have e2' : n2 % d2 = r2 := by
    rw [← e2, Nat.mul_add_mod, Nat.mod_eq_of_lt l2]
  rw [hq1, ← he, e1', e2']
  by_cases hu : d1 < 2 * r1
  · have : d2 < 2 * r2 := by
      have a : d1 * d2 < 2 * r2 * d1 := by
        have := Nat.mul_lt_mul_of_pos_right hu h2
        calc d1 * d2 < 2 * r1 * d2 := this
          _ = 2 * (r1 * d2) := by rw [Nat.mul_assoc]
          _ ≤ 2 * (r2 * d1) := by omega
          _ = 2 * r2 * d1 := by rw [Nat.mul_assoc]
      rw [Nat.mul_comm d1 d2] at a
      exact Nat.lt_of_mul_lt_mul_right a
    rw [if_pos (.inl hu), if_pos (.inl this)]
    exact Nat.le_refl _
  by_cases ht : d1 = 2 * r1 ∧ q % 2 = 1
  · have : d2 ≤ 2 * r2 := by
      have a : d2 * d1 ≤ 2 * r2 * d1 := by
        calc d2 * d1 = 2 * r1 * d2 := by rw [← ht.1, Nat.mul_comm]
          _ = 2 * (r1 * d2) := by rw [Nat.mul_assoc]
          _ ≤ 2 * (r2 * d1) := by omega
          _ = 2 * r2 * d1 := by rw [Nat.mul_assoc]
      exact Nat.le_of_mul_le_mul_right a h1
    rw [if_pos (.inr ht)]
    by_cases h3 : d2 < 2 * r2
    · rw [if_pos (.inl h3)]; exact Nat.le_refl _
    · rw [if_pos (.inr ⟨by omega, ht.2⟩)]; exact Nat.le_refl _
  · rw [if_neg (fun h => h.elim hu ht)]
    omega

theorem R2_cross {n1 d1 n2 d2 : Nat} (h1 : 0 < d1) (h2 : 0 < d2) (h : n1 * d2 = n2 * d1) : R2 n1 d1 = R2 n2 d2 :=
  Nat.le_antisymm (R2_mono h1 h2 (Nat.le_of_eq h)) (R2_mono h2 h1 (Nat.le_of_eq h.symm))

theorem R2_exact (q d : Nat) (hd : 0 < d) : R2 (q * d) d = q := by
  unfold R2
  rw [Nat.mul_mod_left, Nat.mul_div_cancel q hd]
  simp; omega

theorem log2_lt (n : Nat) : n < 2 ^ (n.log2 + 1) := Nat.lt_log2_self
theorem log2_le {n : Nat} (h : n ≠ 0) : 2 ^ n.log2 ≤ n := Nat.log2_self_le h

theorem cut_eq (neg : Bool) (n drop : Nat) : Toward.even.cut neg n drop = R2 n (2 ^ drop) := by
  have hform : ∀ g : Nat, 0 < g → n / g + (decide (g < 2 * (n % g)) || (g == 2 * (n % g) && n / g % 2 == 1)).toNat = R2 n g := by
    intro g _
    unfold R2
    by_cases h1 : g < 2 * (n % g)
    · simp [h1]
    · by_cases h2 : g = 2 * (n % g)
      · by_cases h3 : n / g % 2 = 1
        · rw [if_pos (.inr ⟨h2, h3⟩)]
          simp [← h2, h3]
        · rw [if_neg (fun h => h.elim h1 (fun a => h3 a.2))]
          simp [h1, h3]
      · rw [if_neg (fun h => h.elim h1 (fun a => h2 a.1))]
        simp [h1, h2]
  unfold Toward.cut
  simp only [Nat.shiftLeft_eq, Nat.one_mul]
  rw [hform _ (Nat.two_pow_pos _)]
  by_cases h : drop ≤ n.log2 + 2
  · rw [Nat.min_eq_left h]
  · rw [Nat.min_eq_right (by omega)]
    have h1 := log2_lt n
    have h2 : 2 ^ (n.log2 + 2) = 2 * 2 ^ (n.log2 + 1) := by rw [Nat.pow_succ 2 (n.log2 + 1), Nat.mul_comm]
    have h3 : 2 ^ (n.log2 + 2) ≤ 2 ^ drop := Nat.pow_le_pow_right (by omega) (by omega)
    have z : ∀ g, 2 * n < g → R2 n g = 0 := by
      intro g hg
      unfold R2
      rw [Nat.div_eq_of_lt (by omega), Nat.mod_eq_of_lt (by omega), if_neg (by omega)]
    rw [z _ (by omega), z _ (by omega)]

/-! ### the rung of a magnitude -/
def infR : Nat := 2047 * 2 ^ 52
def rng0 (d N : Nat) : Nat := (N.log2 - 52 - d) * 2 ^ 52 + R2 N (2 ^ (max (N.log2 - 52) d))
def rng (d N : Nat) : Nat := min (rng0 d N) infR

theorem log2_mono {a b : Nat} (h : a ≤ b) : a.log2 ≤ b.log2 := by
  by_cases ha : a = 0
  · subst ha; simp
  by_cases hb : b = 0
  · omega
  exact (Nat.le_log2 hb).2 (Nat.le_trans (log2_le ha) h)

theorem rng0_mono {d a b : Nat} (h : a ≤ b) : rng0 d a ≤ rng0 d b := by
  have hl := log2_mono h
  unfold rng0
  by_cases hs : max (a.log2 - 52) d = max (b.log2 - 52) d
  · have hA : a.log2 - 52 - d = b.log2 - 52 - d := by omega
    rw [hs, hA]
    have := R2_mono (Nat.two_pow_pos (max (b.log2 - 52) d)) (Nat.two_pow_pos (max (b.log2 - 52) d)) (Nat.mul_le_mul_right _ h)
    omega
  · have hb : b ≠ 0 := by intro e; subst e; simp at hs hl; omega
    have s2 : max (b.log2 - 52) d = b.log2 - 52 := by omega
    have hA : a.log2 - 52 - d + 1 ≤ b.log2 - 52 - d := by omega
    -- the smaller one
    have k1 : R2 a (2 ^ (max (a.log2 - 52) d)) ≤ 2 ^ 53 := by
      refine Nat.le_trans (R2_le _ _) ?_
      have : a / 2 ^ (max (a.log2 - 52) d) < 2 ^ 53 := by
        rw [Nat.div_lt_iff_lt_mul (Nat.two_pow_pos _), ← Nat.pow_add]
        exact Nat.lt_of_lt_of_le (log2_lt a) (Nat.pow_le_pow_right (by omega) (by omega))
      exact this
    have k2 : 2 ^ 52 ≤ R2 b (2 ^ (max (b.log2 - 52) d)) := by
      refine Nat.le_trans ?_ (R2_ge _ _)
      rw [s2, Nat.le_div_iff_mul_le (Nat.two_pow_pos _), ← Nat.pow_add]
      exact Nat.le_trans (Nat.pow_le_pow_right (by omega) (by omega)) (log2_le hb)
    have k3 : (a.log2 - 52 - d + 1) * 2 ^ 52 ≤ (b.log2 - 52 - d) * 2 ^ 52 := Nat.mul_le_mul_right _ hA
    omega

theorem rng_mono {d a b : Nat} (h : a ≤ b) : rng d a ≤ rng d b := by
  have := rng0_mono (d := d) h
  unfold rng; omega
theorem rng_le (d N : Nat) : rng d N ≤ infR := Nat.min_le_right _ _

theorem log2_shift (N e : Nat) (h : N ≠ 0) : (N * 2 ^ e).log2 = N.log2 + e := by
  apply Nat.le_antisymm
  · have h1 : N * 2 ^ e < 2 ^ (N.log2 + e + 1) := by
      have := Nat.mul_lt_mul_of_pos_right (log2_lt N) (Nat.two_pow_pos e)
      rwa [← Nat.pow_add, show N.log2 + 1 + e = N.log2 + e + 1 from by omega] at this
    have hne : N * 2 ^ e ≠ 0 := Nat.mul_ne_zero h (Nat.ne_of_gt (Nat.two_pow_pos e))
    have := (Nat.log2_lt hne).2 h1
    omega
  · have hne : N * 2 ^ e ≠ 0 := Nat.mul_ne_zero h (Nat.ne_of_gt (Nat.two_pow_pos e))
    apply (Nat.le_log2 hne).2
    rw [Nat.pow_add]
    exact Nat.mul_le_mul_right _ (log2_le h)

theorem rng_zero (d : Nat) : rng d 0 = 0 := by
  simp [rng, rng0, R2]

theorem rng_scale (d N e : Nat) : rng (d + e) (N * 2 ^ e) = rng d N := by
  by_cases h : N = 0
  · subst h; rw [Nat.zero_mul, rng_zero, rng_zero]
  unfold rng rng0
  rw [log2_shift N e h]
  have hA : N.log2 + e - 52 - (d + e) = N.log2 - 52 - d := by omega
  have hs : max (N.log2 + e - 52) (d + e) = max (N.log2 - 52) d + e := by omega
  rw [hA, hs, R2_cross (n1 := N * 2 ^ e) (n2 := N) (Nat.two_pow_pos _) (Nat.two_pow_pos (max (N.log2 - 52) d)) (by
    rw [Nat.pow_add, Nat.mul_assoc, Nat.mul_comm (2 ^ e)])]

/-- the value of a rung, in units of 2 ^ -1074 -/
def rv (r : Nat) : Nat := if r < 2 ^ 52 then r else (2 ^ 52 + r % 2 ^ 52) * 2 ^ (r / 2 ^ 52 - 1)

theorem rv_lt {a b : Nat} (h : a < b) : rv a < rv b := by
  have ma := Nat.mod_lt a (Nat.two_pow_pos 52)
  have mb := Nat.mod_lt b (Nat.two_pow_pos 52)
  have da := Nat.div_add_mod a (2 ^ 52)
  have db := Nat.div_add_mod b (2 ^ 52)
  unfold rv
  by_cases hb : b < 2 ^ 52
  · rw [if_pos hb, if_pos (by omega)]; exact h
  rw [if_neg hb]
  have pb := Nat.two_pow_pos (b / 2 ^ 52 - 1)
  by_cases ha : a < 2 ^ 52
  · rw [if_pos ha]
    have : 2 ^ 52 * 1 ≤ (2 ^ 52 + b % 2 ^ 52) * 2 ^ (b / 2 ^ 52 - 1) := Nat.mul_le_mul (by omega) pb
    omega
  rw [if_neg ha]
  have qa : 1 ≤ a / 2 ^ 52 := by omega
  by_cases hq : a / 2 ^ 52 = b / 2 ^ 52
  · rw [hq]
    exact Nat.mul_lt_mul_of_pos_right (by omega) pb
  · have hlt : a / 2 ^ 52 < b / 2 ^ 52 := by omega
    have h1 : (2 ^ 52 + a % 2 ^ 52) * 2 ^ (a / 2 ^ 52 - 1) < 2 ^ 53 * 2 ^ (a / 2 ^ 52 - 1) := Nat.mul_lt_mul_of_pos_right (by omega) (Nat.two_pow_pos _)
    have h2 : 2 ^ 53 * 2 ^ (a / 2 ^ 52 - 1) ≤ 2 ^ 52 * 2 ^ (b / 2 ^ 52 - 1) := by
      rw [← Nat.pow_add, ← Nat.pow_add]; exact Nat.pow_le_pow_right (by omega) (by omega)
    have h3 : 2 ^ 52 * 2 ^ (b / 2 ^ 52 - 1) ≤ (2 ^ 52 + b % 2 ^ 52) * 2 ^ (b / 2 ^ 52 - 1) := Nat.mul_le_mul_right _ (by omega)
    omega
theorem rv_le {a b : Nat} (h : a ≤ b) : rv a ≤ rv b := by
  rcases Nat.lt_or_eq_of_le h with h | h
  · exact Nat.le_of_lt (rv_lt h)
  · rw [h]; exact Nat.le_refl _
theorem rv_zero : rv 0 = 0 := rfl

/-- every rung is found back -/
theorem rng_rv (r : Nat) (h : r ≤ infR) : rng 0 (rv r) = r := by
  have hr : rng0 0 (rv r) = r := by
    by_cases h0 : r = 0
    · subst h0; simp [rv, rng0, R2]
    unfold rng0 rv
    by_cases h1 : r < 2 ^ 52
    · rw [if_pos h1]
      have : r.log2 < 52 := (Nat.log2_lt h0).2 h1
      rw [show r.log2 - 52 - 0 = 0 from by omega, show max (r.log2 - 52) 0 = 0 from by omega]
      have := R2_exact r 1 (by omega)
      rw [Nat.mul_one] at this
      rw [Nat.pow_zero, this]; omega
    · rw [if_neg h1]
      have m1 := Nat.mod_lt r (Nat.two_pow_pos 52)
      have d1 := Nat.div_add_mod r (2 ^ 52)
      have hne : 2 ^ 52 + r % 2 ^ 52 ≠ 0 := by omega
      have hlog : (2 ^ 52 + r % 2 ^ 52).log2 = 52 := by
        apply Nat.le_antisymm
        · have := (Nat.log2_lt (k := 53) hne).2 (by omega); omega
        · exact (Nat.le_log2 hne).2 (by omega)
      rw [log2_shift _ _ hne, hlog]
      rw [show 52 + (r / 2 ^ 52 - 1) - 52 - 0 = r / 2 ^ 52 - 1 from by omega, show max (52 + (r / 2 ^ 52 - 1) - 52) 0 = r / 2 ^ 52 - 1 from by omega, R2_exact _ _ (Nat.two_pow_pos _)]
      have : 1 ≤ r / 2 ^ 52 := by omega
      have hm : (r / 2 ^ 52 - 1) * 2 ^ 52 + 2 ^ 52 = 2 ^ 52 * (r / 2 ^ 52) := by
        rw [← Nat.succ_mul, Nat.succ_eq_add_one, Nat.sub_add_cancel this, Nat.mul_comm]
      omega
  unfold rng; rw [hr]; exact Nat.min_eq_left h

theorem rng_rv_scale (d r : Nat) (h : r ≤ infR) : rng d (rv r * 2 ^ d) = r := by
  have := rng_scale 0 (rv r) d
  rw [Nat.zero_add] at this
  rw [this, rng_rv r h]

/-- the word that 'nearest' finds -/
theorem nearest_eq (neg : Bool) (mag : Nat) (place : Int) (d k : Nat) (h : place = -1074 - d + k) : double.nearest neg mag place = double.word neg (rng d (mag * 2 ^ k)) := by
  unfold Format.nearest
  by_cases hm : mag = 0
  · rw [if_pos hm, hm, Nat.zero_mul, rng_zero]
  rw [if_neg hm]
  have hN : mag * 2 ^ k ≠ 0 := Nat.mul_ne_zero hm (Nat.ne_of_gt (Nat.two_pow_pos k))
  have hlog := log2_shift mag k hm
  have hL : double.leastPlace = -1074 := by decide
  have hfb : double.fractionBits = 52 := rfl
  simp only [hL, hfb]
  generalize hlast : max (place + (mag.log2 : Int) - ((52 : Nat) : Int)) (-1074) = last
  have hl : last = -1074 + (((mag * 2 ^ k).log2 - 52 - d : Nat) : Int) := by rw [hlog, ← hlast, h]; omega
  have hA : (last - -1074).toNat = (mag * 2 ^ k).log2 - 52 - d := by omega
  have hs : (((max ((mag * 2 ^ k).log2 - 52) d : Nat) : Int)) = last - place + k := by rw [hl, h]; omega
  rw [hA, cut_eq, Nat.shiftLeft_eq]
  have hb : double.binade = 2 ^ 52 := rfl
  have hi : double.infRung = infR := rfl
  rw [hb, hi]
  have key : R2 (mag * 2 ^ (place - last).toNat) (2 ^ (last - place).toNat) = R2 (mag * 2 ^ k) (2 ^ max ((mag * 2 ^ k).log2 - 52) d) := by
    apply R2_cross (Nat.two_pow_pos _) (Nat.two_pow_pos _)
    rw [Nat.mul_assoc, Nat.mul_assoc, ← Nat.pow_add, ← Nat.pow_add]
    have he : (place - last).toNat + max ((mag * 2 ^ k).log2 - 52) d = k + (last - place).toNat := by omega
    rw [he]
  unfold rng rng0
  rw [key]
end Go.Proofs.Qxb6600241a.Fl
