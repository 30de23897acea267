/-
  Seat b6600241a: the plain law of FnFailureShiftFailuresFromACleanRecordQuadrupleTheOdds. No Go in sight.
-/
import Derived.Test.Qxb6600241aFacts
namespace Go.Proofs.Qxb6600241a.Fl
open Ieee

/-- float64(n), as a word -/
def ofN (n : Nat) : Nat := double.write (.number false n 0)

set_option exponentiation.threshold 5000 in
theorem ofN_K (n : Nat) : ofN n < 2 ^ 64 ∧ NN (ofN n) ∧ K (ofN n) = RD 0 ((n : Int) * V one) :=
  write_num false n 0 0 1074 (by omega) _ (by rw [V_one]; simp)

theorem rv_form (A t : Nat) (ht : t < 2 ^ 52) : rv (A * 2 ^ 52 + (2 ^ 52 + t)) = (2 ^ 52 + t) * 2 ^ A := by
  have e : A * 2 ^ 52 + (2 ^ 52 + t) = t + 2 ^ 52 * (A + 1) := by omega
  unfold rv
  rw [e, if_neg (by omega), Nat.add_mul_mod_self_left, Nat.mod_eq_of_lt ht, Nat.add_mul_div_left _ _ (Nat.two_pow_pos 52), Nat.div_eq_of_lt ht, show 0 + (A + 1) - 1 = A from by omega]

theorem rung_lt (A M : Nat) (hA : A ≤ 1074) (hM : M < 2 ^ 53) : A * 2 ^ 52 + M < infR := by
  have := inf_val
  omega

set_option exponentiation.threshold 5000 in
theorem ofN_exact (n : Nat) (h0 : 0 < n) (h1 : n < 2 ^ 53) : Fin (ofN n) ∧ V (ofN n) = (n : Int) * V one := by
  have hw : ofN n = double.word false (rng 0 (n * 2 ^ 1074)) := nearest_eq false n 0 0 1074 (by omega)
  have hl := rng_le 0 (n * 2 ^ 1074)
  obtain ⟨g1, g2⟩ := word_rg false hl
  have hlog : n.log2 < 53 := (Nat.log2_lt (by omega)).2 h1
  -- the rung, reckoned
  have hr : rng 0 (n * 2 ^ 1074) < infR ∧ rv (rng 0 (n * 2 ^ 1074)) = n * 2 ^ 1074 := by
    have l1 := log2_le (show n ≠ 0 by omega)
    have l2 := log2_lt n
    have hM : ∃ M, M = n * 2 ^ (52 - n.log2) := ⟨_, rfl⟩
    obtain ⟨M, hM⟩ := hM
    have m1 : 2 ^ 52 ≤ M := by
      rw [hM]
      calc 2 ^ 52 = 2 ^ n.log2 * 2 ^ (52 - n.log2) := by rw [← Nat.pow_add]; congr 1; omega
        _ ≤ n * 2 ^ (52 - n.log2) := Nat.mul_le_mul_right _ l1
    have m2 : M < 2 ^ 53 := by
      rw [hM]
      calc n * 2 ^ (52 - n.log2) < 2 ^ (n.log2 + 1) * 2 ^ (52 - n.log2) := Nat.mul_lt_mul_of_pos_right l2 (Nat.two_pow_pos _)
        _ = 2 ^ 53 := by rw [← Nat.pow_add]; congr 1; omega
    have hN : n * 2 ^ 1074 = M * 2 ^ (n.log2 + 1022) := by
      rw [hM, Nat.mul_assoc, ← Nat.pow_add, show 52 - n.log2 + (n.log2 + 1022) = 1074 from by omega]
    have hrng0 : rng0 0 (n * 2 ^ 1074) = (n.log2 + 1022) * 2 ^ 52 + M := by
      unfold rng0
      rw [log2_shift n 1074 (by omega), show n.log2 + 1074 - 52 - 0 = n.log2 + 1022 from by omega, show max (n.log2 + 1074 - 52) 0 = n.log2 + 1022 from by omega, hN, R2_exact _ _ (Nat.two_pow_pos _)]
    have hlt : (n.log2 + 1022) * 2 ^ 52 + M < infR := rung_lt _ _ (by omega) m2
    have hrng : rng 0 (n * 2 ^ 1074) = (n.log2 + 1022) * 2 ^ 52 + M := by
      unfold rng; rw [hrng0]; exact Nat.min_eq_left (by omega)
    refine ⟨by rw [hrng]; exact hlt, ?_⟩
    rw [hrng, hN]
    obtain ⟨t, ht⟩ : ∃ t, M = 2 ^ 52 + t := ⟨M - 2 ^ 52, by rw [Nat.add_sub_cancel' m1]⟩
    rw [ht]
    rw [ht] at m2
    exact rv_form _ t (by clear hN hrng0 hlt hrng hM; omega)
  rw [hw]
  refine ⟨by unfold Fin; rw [g1]; exact hr.1, ?_⟩
  rw [V_pos g2, g1, hr.2, V_one]
  simp

/-- where the law stands behind j failures: p: the law's own power of four; o, h: the odds and the weight that the shift holds -/
def Inv (j p o h : Nat) : Prop :=
  (j = 0 ∧ p = one ∧ o = 0 ∧ h = 0) ∨ (1 ≤ j ∧ o = p ∧ K four ≤ K p ∧ NN p ∧ Fin h ∧ K one ≤ K h ∧ V h ≤ (j : Int) * V one)

/-- one failure more: all that the walk asks -/
structure Rnd (j p o h score fade q t rS m h' sh p' st : Nat) (b1 : Bool) : Prop where
  hq : double.sub one score = some q
  nq : NN q
  hrate : fmax q c005 = c005
  no : NN o
  hst : fmax o one = st
  ho : (double.order o 4607182418800017408 == some .lt || double.order o 4607182418800017408 == some .eq) = b1
  e1 : double.mul (if b1 then 0 else h) fade = some m
  e2 : double.add m one = some h'
  e3 : double.div one h' = some sh
  e5 : double.mul 0 sh = some 0
  e7 : double.sub one c005 = some t
  e8 : double.div c08 t = some rS
  e10 : double.mul st four = some p'
  hp : double.mul p four = some p'
  inv : Inv (j + 1) p' p' h'
  g1 : (double.order p' p' != some .eq) = false
  g2 : (double.order h' 4607182418800017408 == some .gt || double.order h' 4607182418800017408 == some .eq) = true
  g3 : (double.order h' (ofN (j + 1)) == some .lt || double.order h' (ofN (j + 1)) == some .eq) = true

theorem le_b {x y : Nat} (hx : NN x) (hy : NN y) (h : K x ≤ K y) : (double.order x y == some .lt || double.order x y == some .eq) = true := by
  rw [order_eq hx hy]
  rcases Int.lt_or_eq_of_le h with h | h
  · rw [cmp_lt h]; rfl
  · rw [cmp_eq h]; rfl
theorem le_f {x y : Nat} (hx : NN x) (hy : NN y) (h : K y < K x) : (double.order x y == some .lt || double.order x y == some .eq) = false := by
  rw [order_eq hx hy, cmp_gt h]; rfl
theorem ge_b {x y : Nat} (hx : NN x) (hy : NN y) (h : K y ≤ K x) : (double.order x y == some .gt || double.order x y == some .eq) = true := by
  rw [order_eq hx hy]
  rcases Int.lt_or_eq_of_le h with h | h
  · rw [cmp_gt h]; rfl
  · rw [cmp_eq h.symm]; rfl
theorem ge_f {x y : Nat} (hx : NN x) (hy : NN y) (h : K x < K y) : (double.order x y == some .gt || double.order x y == some .eq) = false := by
  rw [order_eq hx hy, cmp_lt h]; rfl
theorem of_ge {x y : Nat} (h : (double.order x y == some .gt || double.order x y == some .eq) = true) : NN x ∧ NN y ∧ K y ≤ K x := by
  simp only [Bool.or_eq_true, beq_iff_eq] at h
  have hn : NN x ∧ NN y := by rcases h with h | h <;> exact NN_of_order h
  refine ⟨hn.1, hn.2, ?_⟩
  apply Decidable.byContradiction
  intro hk
  rw [order_eq hn.1 hn.2, cmp_lt (by omega)] at h
  simp at h
theorem of_le {x y : Nat} (h : (double.order x y == some .lt || double.order x y == some .eq) = true) : NN x ∧ NN y ∧ K x ≤ K y := by
  simp only [Bool.or_eq_true, beq_iff_eq] at h
  have hn : NN x ∧ NN y := by rcases h with h | h <;> exact NN_of_order h
  refine ⟨hn.1, hn.2, ?_⟩
  apply Decidable.byContradiction
  intro hk
  rw [order_eq hn.1 hn.2, cmp_gt (by omega)] at h
  simp at h

theorem fmax_lt {x y : Nat} (hx : NN x) (hy : NN y) (h : K x < K y) : fmax x y = y := by
  unfold fmax; rw [order_eq hx hy, cmp_lt h]
theorem fmax_gt {x y : Nat} (hx : NN x) (hy : NN y) (h : K y < K x) : fmax x y = x := by
  unfold fmax; rw [order_eq hx hy, cmp_gt h]

theorem round {j p o h score fade : Nat} (hi : Inv j p o h) (hj : j < 2 ^ 52) (s1 : NN score) (s2 : K c096 ≤ K score) (f1 : NN fade) (f2 : 0 ≤ K fade) (f3 : K fade ≤ K one) :
    ∃ q t rS m h' sh p' st b1, Rnd j p o h score fade q t rS m h' sh p' st b1 := by
  have ko := K_one; have ki := inf_val
  have k4 : K four = 4616189618054758400 := by decide
  have kc : K c005 = 4587366580439587226 := by decide
  have ff : Fin fade := fin_of f1 (by omega) (by omega)
  obtain ⟨q, hq, nq, qk⟩ := rate_high s1 s2
  have hrate := fmax_lt nq c005_fin.nn qk
  -- the state
  have hst : ∃ st b1, NN o ∧ fmax o one = st ∧ (double.order o 4607182418800017408 == some .lt || double.order o 4607182418800017408 == some .eq) = b1 ∧ st = p ∧ NN p ∧ K one ≤ K p ∧
      Fin (if b1 then 0 else h) ∧ 0 ≤ K (if b1 then 0 else h) ∧ V (if b1 then 0 else h) ≤ (j : Int) * V one := by
    have vp := V_one_pos
    rcases hi with ⟨rfl, rfl, rfl, rfl⟩ | ⟨h1, rfl, h3, h4, h5, h6, h7⟩
    · have k0 : K 0 = 0 := by decide
      refine ⟨one, true, zero_fin.nn, fmax_lt zero_fin.nn one_fin.nn (by omega), le_b zero_fin.nn one_fin.nn (by show K 0 ≤ K one; omega), rfl, one_fin.nn, Int.le_refl _, zero_fin, by simp [k0], ?_⟩
      simp [V_zero]
    · refine ⟨o, false, h4, fmax_gt h4 one_fin.nn (by omega), le_f h4 one_fin.nn (by show K one < K o; omega), rfl, h4, by omega, h5, by simp only [Bool.false_eq_true, if_false]; omega, h7⟩
  obtain ⟨st, b1, no, hst, ho, rfl, np, kp, fh, h0k, hv⟩ := hst
  obtain ⟨m, h', sh, e1, e2, e3, w1, w2, w3, w4, w5, w6, w7, w8⟩ := weight_step fh h0k ff f2 f3
  obtain ⟨_, e5, _⟩ := fold_zero w5 w6
  obtain ⟨p', o1, o2, o3, o4, o5, o6⟩ := odds_step np kp four_fin (by omega)
  have kp' : K four ≤ K p' := by
    rcases hi with ⟨rfl, rfl, rfl, rfl⟩ | ⟨h1, rfl, h3, h4, h5, h6, h7⟩
    · have : double.mul one four = some four := by decide +kernel
      rw [this] at o1; cases o1; exact Int.le_refl _
    · have := o4 (by omega); omega
  -- the weight stays below the count
  obtain ⟨n1, n2, n3⟩ := ofN_K (j + 1)
  obtain ⟨x1, x2⟩ := ofN_exact (j + 1) (by omega) (by omega)
  have hcast : ((j + 1 : Nat) : Int) * V one = (j : Int) * V one + V one := by
    rw [show ((j + 1 : Nat) : Int) = (j : Int) + 1 from rfl, Int.add_mul, Int.one_mul]
  have kw : K h' ≤ K (ofN (j + 1)) := by
    rw [n3, hcast]
    exact Int.le_trans w4 (RD_mono _ (by omega))
  have vw : V h' ≤ ((j + 1 : Nat) : Int) * V one := by rw [← x2]; exact V_le kw
  have t1 : double.sub one c005 = some 4606732058837280358 := by decide +kernel
  obtain ⟨rS, t2⟩ : ∃ y, double.div c08 4606732058837280358 = some y := by
    have ft : Fin 4606732058837280358 := by unfold Fin; decide
    obtain ⟨y, hy, _⟩ := div_pos c08_fin ft (by decide) (by decide)
    exact ⟨y, hy⟩
  refine ⟨q, _, rS, m, h', sh, p', st, b1, hq, nq, hrate, no, hst, ho, e1, e2, e3, e5, t1, t2, o1, o1, .inr ⟨by omega, rfl, kp', o3, w2, w3, vw⟩, ?_, ge_b w2.nn one_fin.nn w3, le_b w2.nn n2 kw⟩
  rw [order_eq o3 o3, cmp_eq rfl]; rfl
end Go.Proofs.Qxb6600241a.Fl
