/-
  Seat b6600241a: division against 1 and 1/2; infinities; the numbers of the program. No Go in sight.
-/
import Derived.Test.Qxb6600241aWords
namespace Go.Proofs.Qxb6600241a.Fl
open Ieee

/-- 1, 1/2, 4, 50, 0.05, 0.2, 0.8, 0.96 as words -/
def one : Nat := 4607182418800017408
def half : Nat := 4602678819172646912
def four : Nat := 4616189618054758400
def c50 : Nat := 4632233691727265792
def c005 : Nat := 4587366580439587226
def c02 : Nat := 4596373779694328218
def c08 : Nat := 4605380978949069210
def c096 : Nat := 4606822130829827768

theorem one_rg : rg one = 1023 * 2 ^ 52 ∧ ng one = false := by decide
theorem four_rg : rg four = 1025 * 2 ^ 52 ∧ ng four = false := by decide
theorem half_rg : rg half = 1022 * 2 ^ 52 ∧ ng half = false := by decide

theorem rv_pow (q : Nat) (hq : 1 ≤ q) : rv (q * 2 ^ 52) = 2 ^ (51 + q) := by
  have h1 : ¬ q * 2 ^ 52 < 2 ^ 52 := by
    have : 1 * 2 ^ 52 ≤ q * 2 ^ 52 := Nat.mul_le_mul_right _ hq
    omega
  unfold rv
  rw [if_neg h1, Nat.mul_mod_left, Nat.mul_div_cancel q (Nat.two_pow_pos 52), Nat.add_zero, ← Nat.pow_add]
  congr 1; omega

theorem quot_core (m n e f more D mag : Nat) (hn : 0 < n) (hD : D = m * 2 ^ more) (hgt : n < D) (hmag : mag = 2 * (D / n) + (D % n != 0).toNat) :
    (m * 2 ^ e ≤ n * 2 ^ f → mag * 2 ^ e ≤ 2 ^ (f + more + 1)) ∧ (n * 2 ^ f ≤ m * 2 ^ e → 2 ^ (f + more + 1) ≤ mag * 2 ^ e) ∧ (n * 2 ^ f ≤ 2 * (m * 2 ^ e) → 2 ^ (f + more) ≤ mag * 2 ^ e) := by
  have hdm := Nat.div_add_mod D n
  have hml := Nat.mod_lt D hn
  have hst : (D % n != 0).toNat = if D % n = 0 then 0 else 1 := by
    by_cases h : D % n = 0
    · simp [h]
    · simp [h, bne_iff_ne]
  rw [hst] at hmag
  have up : ∀ c, D ≤ c * n → mag ≤ 2 * c := by
    intro c hc
    have h1 : D / n ≤ c := Nat.div_le_of_le_mul (by rw [Nat.mul_comm]; exact hc)
    by_cases h0 : D % n = 0
    · rw [if_pos h0] at hmag; omega
    · rw [if_neg h0] at hmag
      have : D / n < c := by
        apply Decidable.byContradiction
        intro hx
        have he : D / n = c := by omega
        rw [he] at hdm
        have : n * c = c * n := Nat.mul_comm _ _
        omega
      omega
  have lo : ∀ c, c * n ≤ D → 2 * c ≤ mag := by
    intro c hc
    have h1 : c ≤ D / n := (Nat.le_div_iff_mul_le hn).2 hc
    split at hmag <;> omega
  have mpos : 1 ≤ mag := by have := lo 1 (by omega); omega
  have eD : ∀ z, D * 2 ^ z = m * 2 ^ z * 2 ^ more := by intro z; rw [hD, Nat.mul_right_comm]
  refine ⟨fun h => ?_, fun h => ?_, fun h => ?_⟩
  · have h1 : D * 2 ^ e ≤ n * 2 ^ (f + more) := by
      rw [eD, Nat.pow_add, ← Nat.mul_assoc]; exact Nat.mul_le_mul_right _ h
    by_cases hc : e ≤ f + more
    · have h2 : D ≤ 2 ^ (f + more - e) * n := by
        have : D * 2 ^ e ≤ 2 ^ (f + more - e) * n * 2 ^ e := by
          rw [Nat.mul_right_comm, ← Nat.pow_add, Nat.sub_add_cancel hc, Nat.mul_comm (2 ^ (f + more))]; exact h1
        exact Nat.le_of_mul_le_mul_right this (Nat.two_pow_pos e)
      have h3 := up _ h2
      calc mag * 2 ^ e ≤ 2 * 2 ^ (f + more - e) * 2 ^ e := Nat.mul_le_mul_right _ h3
        _ = 2 ^ (f + more + 1) := by rw [Nat.mul_assoc, ← Nat.pow_add, Nat.sub_add_cancel hc, Nat.pow_succ, Nat.mul_comm]
    · exfalso
      have h2 : n * 2 ^ (f + more) ≤ n * 2 ^ e := Nat.mul_le_mul_left _ (Nat.pow_le_pow_right (by omega) (by omega))
      have h3 : D * 2 ^ e ≤ n * 2 ^ e := Nat.le_trans h1 h2
      have := Nat.le_of_mul_le_mul_right h3 (Nat.two_pow_pos e)
      omega
  · have h1 : n * 2 ^ (f + more) ≤ D * 2 ^ e := by
      rw [eD, Nat.pow_add, ← Nat.mul_assoc]; exact Nat.mul_le_mul_right _ h
    by_cases hc : e ≤ f + more
    · have h2 : 2 ^ (f + more - e) * n ≤ D := by
        have : 2 ^ (f + more - e) * n * 2 ^ e ≤ D * 2 ^ e := by
          rw [Nat.mul_right_comm, ← Nat.pow_add, Nat.sub_add_cancel hc, Nat.mul_comm (2 ^ (f + more))]; exact h1
        exact Nat.le_of_mul_le_mul_right this (Nat.two_pow_pos e)
      have h3 := lo _ h2
      calc 2 ^ (f + more + 1) = 2 * 2 ^ (f + more - e) * 2 ^ e := by rw [Nat.mul_assoc, ← Nat.pow_add, Nat.sub_add_cancel hc, Nat.pow_succ, Nat.mul_comm]
        _ ≤ mag * 2 ^ e := Nat.mul_le_mul_right _ h3
    · calc 2 ^ (f + more + 1) ≤ 2 ^ e := Nat.pow_le_pow_right (by omega) (by omega)
        _ = 1 * 2 ^ e := by rw [Nat.one_mul]
        _ ≤ mag * 2 ^ e := Nat.mul_le_mul_right _ mpos
  · have h1 : n * 2 ^ (f + more) ≤ D * 2 ^ (e + 1) := by
      rw [eD, Nat.pow_add 2 f, ← Nat.mul_assoc]
      refine Nat.mul_le_mul_right _ ?_
      rw [Nat.pow_succ, ← Nat.mul_assoc, Nat.mul_comm _ 2]; exact h
    by_cases hc : e + 1 ≤ f + more
    · have h2 : 2 ^ (f + more - (e + 1)) * n ≤ D := by
        have : 2 ^ (f + more - (e + 1)) * n * 2 ^ (e + 1) ≤ D * 2 ^ (e + 1) := by
          rw [Nat.mul_right_comm, ← Nat.pow_add, Nat.sub_add_cancel hc, Nat.mul_comm (2 ^ (f + more))]; exact h1
        exact Nat.le_of_mul_le_mul_right this (Nat.two_pow_pos (e + 1))
      have h3 := lo _ h2
      calc 2 ^ (f + more) = 2 * 2 ^ (f + more - (e + 1)) * 2 ^ e := by
            rw [Nat.mul_comm 2, ← Nat.pow_succ, ← Nat.pow_add]; congr 1; omega
        _ ≤ mag * 2 ^ e := Nat.mul_le_mul_right _ h3
    · calc 2 ^ (f + more) ≤ 2 ^ e := Nat.pow_le_pow_right (by omega) (by omega)
        _ = 1 * 2 ^ e := by rw [Nat.one_mul]
        _ ≤ mag * 2 ^ e := Nat.mul_le_mul_right _ mpos

theorem K_pos {x : Nat} (h : 0 < K x) : ng x = false ∧ 0 < rg x := by
  unfold K at h
  cases hn : ng x <;> rw [hn] at h <;> simp only [Bool.false_eq_true, if_false, if_true] at h
  · exact ⟨rfl, by omega⟩
  · omega
theorem V_pos {x : Nat} (h : ng x = false) : V x = rv (rg x) := by unfold V; rw [h]; simp
theorem K_nonneg {x : Nat} (h : ng x = false) : K x = rg x := by unfold K; rw [h]; simp

set_option exponentiation.threshold 5000 in
theorem div_pos {x y : Nat} (hx : Fin x) (hy : Fin y) (px : 0 < K x) (py : 0 < K y) :
    ∃ r, double.div x y = some r ∧ r < 2 ^ 64 ∧ NN r ∧ ng r = false ∧ (V x ≤ V y → K r ≤ K one) ∧ (V y ≤ V x → K one ≤ K r) ∧ (V y ≤ 2 * V x → K half ≤ K r) ∧ (V x ≤ 4 * V y → K r ≤ K four) := by
  obtain ⟨nx, rx⟩ := K_pos px
  obtain ⟨ny, ry⟩ := K_pos py
  obtain ⟨m, e, h1, h2⟩ := read_fin hx
  obtain ⟨n, f, h3, h4⟩ := read_fin hy
  have qx := rv_pos.2 rx
  have qy := rv_pos.2 ry
  have hm : m ≠ 0 := by intro z; rw [z, Nat.zero_mul] at h2; omega
  have hn : n ≠ 0 := by intro z; rw [z, Nat.zero_mul] at h4; omega
  unfold Format.div
  rw [h1, h3, nx, ny]
  simp only [Datum.quotient, if_neg hn, Option.map_some]
  have hfb : double.fractionBits + 2 = 54 := rfl
  rw [hfb]
  generalize hmore : 54 + n.log2 - m.log2 = more
  generalize hmag : 2 * (m <<< more / n) + (m <<< more % n != 0).toNat = mag
  rw [Nat.shiftLeft_eq] at hmag
  have hgt : n < m * 2 ^ more := by
    have l1 := log2_lt n
    have l2 := log2_le hm
    calc n < 2 ^ (n.log2 + 1) := l1
      _ ≤ 2 ^ (m.log2 + more) := Nat.pow_le_pow_right (by omega) (by omega)
      _ = 2 ^ m.log2 * 2 ^ more := by rw [Nat.pow_add]
      _ ≤ m * 2 ^ more := Nat.mul_le_mul_right _ l2
  obtain ⟨c1, c2, c3⟩ := quot_core m n e f more (m * 2 ^ more) mag (by omega) rfl hgt hmag.symm
  obtain ⟨c4, _, _⟩ := quot_core m n e (f + 2) more (m * 2 ^ more) mag (by omega) rfl hgt hmag.symm
  have w := nearest_eq (false ^^ false) mag (-1074 + (e : Int) - (-1074 + (f : Int)) - (more : Int) - 1) (f + more + 1) (e + 1074) (by omega)
  have hl := rng_le (f + more + 1) (mag * 2 ^ (e + 1074))
  have hw : double.write (.number (false ^^ false) mag (-1074 + (e : Int) - (-1074 + (f : Int)) - (more : Int) - 1)) = double.word false (rng (f + more + 1) (mag * 2 ^ (e + 1074))) := w
  refine ⟨_, rfl, ?_⟩
  rw [hw]
  obtain ⟨g1, g2⟩ := word_rg false hl
  have hK : K (double.word false (rng (f + more + 1) (mag * 2 ^ (e + 1074)))) = (rng (f + more + 1) (mag * 2 ^ (e + 1074)) : Int) := by rw [word_K false hl]; simp
  have k1 : K one = (rng (f + more + 1) (2 ^ 1074 * 2 ^ (f + more + 1)) : Int) := by
    have := rng_rv_scale (f + more + 1) (1023 * 2 ^ 52) (by decide)
    rw [rv_pow 1023 (by omega), show 51 + 1023 = 1074 from rfl] at this
    rw [this, K_nonneg one_rg.2, one_rg.1]
  have k2 : K half = (rng (f + more + 1) (2 ^ 1074 * 2 ^ (f + more)) : Int) := by
    rw [show 2 ^ 1074 * 2 ^ (f + more) = 2 ^ 1073 * 2 ^ (f + more + 1) from by rw [← Nat.pow_add, ← Nat.pow_add, show 1073 + (f + more + 1) = 1074 + (f + more) from by omega]]
    have := rng_rv_scale (f + more + 1) (1022 * 2 ^ 52) (by decide)
    rw [rv_pow 1022 (by omega), show 51 + 1022 = 1073 from rfl] at this
    rw [this, K_nonneg half_rg.2, half_rg.1]
  have k4 : K four = (rng (f + more + 1) (2 ^ 1074 * 2 ^ (f + 2 + more + 1)) : Int) := by
    rw [show 2 ^ 1074 * 2 ^ (f + 2 + more + 1) = 2 ^ 1076 * 2 ^ (f + more + 1) from by rw [← Nat.pow_add, ← Nat.pow_add, show 1076 + (f + more + 1) = 1074 + (f + 2 + more + 1) from by omega]]
    have := rng_rv_scale (f + more + 1) (1025 * 2 ^ 52) (by decide)
    rw [rv_pow 1025 (by omega), show 51 + 1025 = 1076 from rfl] at this
    rw [this, K_nonneg four_rg.2, four_rg.1]
  have vx : V x = ((m * 2 ^ e : Nat) : Int) := by rw [h2]; exact V_pos nx
  have vy : V y = ((n * 2 ^ f : Nat) : Int) := by rw [h4]; exact V_pos ny
  have hsplit : mag * 2 ^ (e + 1074) = 2 ^ 1074 * (mag * 2 ^ e) := by rw [Nat.pow_add, ← Nat.mul_assoc, Nat.mul_comm]
  have hN : NN (double.word false (rng (f + more + 1) (mag * 2 ^ (e + 1074)))) := by unfold NN; rw [g1]; exact hl
  have hlt := word_lt false hl
  rw [hsplit] at hK hN hlt g2 ⊢
  clear hw w hl g1 hsplit
  generalize 2 ^ 1074 = P at *
  refine ⟨hlt, hN, g2, fun h => ?_, fun h => ?_, fun h => ?_, fun h => ?_⟩
  · rw [vx, vy] at h
    rw [hK, k1]
    exact Int.ofNat_le.2 (rng_mono (Nat.mul_le_mul_left _ (c1 (Int.ofNat_le.1 h))))
  · rw [vx, vy] at h
    rw [hK, k1]
    exact Int.ofNat_le.2 (rng_mono (Nat.mul_le_mul_left _ (c2 (Int.ofNat_le.1 h))))
  · rw [vx, vy] at h
    rw [hK, k2]
    exact Int.ofNat_le.2 (rng_mono (Nat.mul_le_mul_left _ (c3 (by omega))))
  · rw [vx, vy] at h
    rw [hK, k4]
    refine Int.ofNat_le.2 (rng_mono (Nat.mul_le_mul_left _ (c4 ?_)))
    rw [Nat.pow_succ, Nat.pow_succ]
    have : n * (2 ^ f * 2 * 2) = 4 * (n * 2 ^ f) := by rw [Nat.mul_assoc, ← Nat.mul_assoc n, Nat.mul_comm _ (2 * 2)]
    omega

/-! ### infinities -/
theorem write_inf (s : Bool) : double.write (.infinity s) < 2 ^ 64 ∧ NN (double.write (.infinity s)) ∧ K (double.write (.infinity s)) = if s then -(infR : Int) else infR := by
  have e : double.write (.infinity s) = double.word s infR := rfl
  rw [e]
  exact ⟨word_lt s (Nat.le_refl _), by unfold NN; rw [(word_rg s (Nat.le_refl _)).1]; exact Nat.le_refl _, word_K s (Nat.le_refl _)⟩

theorem sub_inf {x y : Nat} (hx : Fin x) (hy : rg y = infR) : Gives (double.sub x y) (-K y) := by
  obtain ⟨m, e, h1, h2⟩ := read_fin hx
  unfold Format.sub
  rw [h1, read_inf hy]
  simp only [Datum.opposite, Datum.sum, Option.map_some]
  obtain ⟨a, b, c⟩ := write_inf (!ng y)
  refine ⟨_, rfl, a, b, ?_⟩
  rw [c, K_inf hy]
  cases ng y <;> simp

theorem mul_inf {x y : Nat} (hx : rg x = infR) (px : 0 < K x) (hy : Fin y) (py : 0 < K y) : Gives (double.mul x y) infR := by
  obtain ⟨nx, _⟩ := K_pos px
  obtain ⟨ny, ry⟩ := K_pos py
  obtain ⟨n, f, h3, h4⟩ := read_fin hy
  have qy := rv_pos.2 ry
  have hn : n ≠ 0 := by intro z; rw [z, Nat.zero_mul] at h4; omega
  unfold Format.mul
  rw [h3, read_inf hx, nx, ny]
  simp only [Datum.product, if_neg hn, Option.map_some]
  obtain ⟨a, b, c⟩ := write_inf (false ^^ false)
  refine ⟨_, rfl, a, b, ?_⟩
  rw [c]; simp
end Go.Proofs.Qxb6600241a.Fl
