/-
  Seat b6600241a: what one step of failureShift.add gives, in words of float64. No Go in sight.
-/
import Derived.Test.Qxb6600241aDiv
namespace Go.Proofs.Qxb6600241a.Fl
open Ieee

theorem Fin.nn {x : Nat} (h : Fin x) : NN x := Nat.le_of_lt h
theorem fin_of {x : Nat} (h : NN x) (h1 : -(infR : Int) < K x) (h2 : K x < infR) : Fin x := by
  rcases NN_cases h with f | i
  · exact f
  · rw [K_inf i] at h1 h2
    cases hn : ng x
    · rw [hn] at h2; simp at h2
    · rw [hn] at h1; simp at h1
theorem one_fin : Fin one := by unfold Fin; decide
theorem zero_fin : Fin 0 := by unfold Fin; decide
theorem c005_fin : Fin c005 := by unfold Fin; decide
theorem c02_fin : Fin c02 := by unfold Fin; decide
theorem c08_fin : Fin c08 := by unfold Fin; decide
theorem c096_fin : Fin c096 := by unfold Fin; decide
theorem four_fin : Fin four := by unfold Fin; decide
theorem V_zero : V 0 = 0 := by decide
theorem K_one : K one = 4607182418800017408 := by decide
theorem inf_val : infR = 9218868437227405312 := by decide

set_option exponentiation.threshold 5000 in
theorem V_one : V one = 2 ^ 1074 := by
  rw [V_pos one_rg.2, one_rg.1, rv_pow 1023 (by omega)]
  simp
theorem RD_U {x : Nat} (h : Fin x) : RD 1074 (V x * V one) = K x := by rw [V_one]; exact RD_V 1074 h
theorem RD_0 {x : Nat} (h : Fin x) : RD 0 (V x) = K x := by
  have := RD_V 0 h
  rwa [Int.pow_zero, Int.mul_one] at this
theorem RD_neg (d : Nat) (z : Int) : RD d (-z) = -RD d z := by
  unfold RD
  rw [Int.natAbs_neg]
  by_cases h : z = 0
  · subst h; simp [rng_zero]
  · by_cases h1 : z < 0
    · rw [if_neg (by omega), if_pos h1]; omega
    · rw [if_pos (by omega), if_neg h1]
theorem RD_zero (d : Nat) : RD d 0 = 0 := by unfold RD; simp [rng_zero]
theorem V_nonneg {x : Nat} (h : 0 ≤ K x) : 0 ≤ V x := by
  have := V_le_iff 0 x
  rw [V_zero, show K 0 = 0 from by decide] at this
  exact this.2 h
theorem V_le {x y : Nat} (h : K x ≤ K y) : V x ≤ V y := (V_le_iff x y).2 h
theorem V_one_pos : 0 < V one := by rw [V_one]; exact Int.pow_pos (by decide)

/-! ### a product with a share -/
theorem mul_share {d sh : Nat} (hd : Fin d) (hs : Fin sh) (s0 : 0 ≤ K sh) (s1 : K sh ≤ K one) : ∃ m, double.mul d sh = some m ∧ m < 2 ^ 64 ∧ Fin m ∧ K m = RD 1074 (V d * V sh) ∧ (0 ≤ V d → 0 ≤ V m ∧ V m ≤ V d) := by
  obtain ⟨m, h1, h2, h3, h4⟩ := mul_fin hd hs
  have p0 := V_nonneg s0
  have p1 := V_le s1
  have kd := K_fin hd
  have e := RD_U hd
  have z := RD_zero 1074
  have hb : (0 ≤ V d → 0 ≤ K m ∧ K m ≤ K d) ∧ (V d ≤ 0 → K d ≤ K m ∧ K m ≤ 0) := by
    refine ⟨fun hv => ⟨?_, ?_⟩, fun hv => ⟨?_, ?_⟩⟩
    · rw [h4, ← z]; exact RD_mono _ (Int.mul_nonneg hv p0)
    · rw [h4, ← e]; exact RD_mono _ (Int.mul_le_mul_of_nonneg_left p1 hv)
    · rw [h4, ← e]; exact RD_mono _ (Int.mul_le_mul_of_nonpos_left hv p1)
    · rw [h4, ← z]; exact RD_mono _ (by have := Int.mul_nonneg (show 0 ≤ -V d by omega) p0; rw [Int.neg_mul] at this; omega)
  have hi := inf_val
  have fm : Fin m := fin_of h3 (by rcases Int.le_total 0 (V d) with hv | hv
                                   · have := hb.1 hv; omega
                                   · have := hb.2 hv; omega) (by rcases Int.le_total 0 (V d) with hv | hv
                                                                 · have := hb.1 hv; omega
                                                                 · have := hb.2 hv; omega)
  refine ⟨m, h1, h2, fm, h4, fun hv => ?_⟩
  have := hb.1 hv
  exact ⟨V_nonneg this.1, V_le this.2⟩

/-! ### the weight and the share -/
def maxF : Nat := 9218868437227405311
theorem maxF_fin : Fin maxF := by unfold Fin; decide
theorem K_maxF : K maxF = 9218868437227405311 := by decide
theorem add_max : RD 0 (V maxF + V one) = K maxF := by
  obtain ⟨r, h1, h2, h3, h4⟩ := add_fin maxF_fin one_fin
  have : double.add maxF one = some maxF := by decide +kernel
  rw [this] at h1
  cases h1
  exact h4.symm
theorem fin_max {x : Nat} (h : Fin x) : K x ≤ K maxF ∧ -K maxF ≤ K x := by
  have := K_fin h; have := K_maxF; have := inf_val; omega
theorem V_max {x : Nat} (h : Fin x) : V x ≤ V maxF ∧ -V maxF ≤ V x := by
  have k := fin_max h
  refine ⟨V_le k.1, ?_⟩
  have e : V (maxF + 2 ^ 63) = -V maxF := by
    unfold V
    rw [show ng (maxF + 2 ^ 63) = true from by decide, show ng maxF = false from by decide, show rg (maxF + 2 ^ 63) = rg maxF from by decide]
    simp
  rw [← e]
  apply V_le
  rw [show K (maxF + 2 ^ 63) = -K maxF from by decide]
  exact k.2

theorem weight_step {h fade : Nat} (hh : Fin h) (h0 : 0 ≤ K h) (hf : Fin fade) (f0 : 0 ≤ K fade) (f1 : K fade ≤ K one) :
    ∃ m w sh, double.mul h fade = some m ∧ double.add m one = some w ∧ double.div one w = some sh ∧ w < 2 ^ 64 ∧ Fin w ∧ K one ≤ K w ∧ K w ≤ RD 0 (V h + V one) ∧ Fin sh ∧ ng sh = false ∧ 0 ≤ K sh ∧ K sh ≤ K one := by
  obtain ⟨m, a1, a2, a3, a4, a5⟩ := mul_share hh hf f0 f1
  obtain ⟨m0, m1⟩ := a5 (V_nonneg h0)
  obtain ⟨w, b1, b2, b3, b4⟩ := add_fin a3 one_fin
  have k1 : K one ≤ K w := by
    rw [b4, ← RD_0 one_fin]; exact RD_mono _ (by omega)
  have k2 : K w ≤ RD 0 (V h + V one) := by rw [b4]; exact RD_mono _ (by omega)
  have k3 : K w ≤ K maxF := by
    rw [b4, ← add_max]; exact RD_mono _ (by have := (V_max a3).1; omega)
  have hi := inf_val; have hm := K_maxF; have ho := K_one
  have fw : Fin w := fin_of b3 (by omega) (by omega)
  obtain ⟨sh, c1, c2, c3, c4, c5, _⟩ := div_pos one_fin fw (by omega) (by omega)
  have c6 := c5 (V_le k1)
  have c7 : 0 ≤ K sh := by rw [K_nonneg c4]; omega
  exact ⟨m, w, sh, a1, b1, c1, b2, fw, k1, k2, fin_of c3 (by omega) (by omega), c4, c7, c6⟩

/-! ### the mean -/
theorem fold_step {r s sh : Nat} (hr : Fin r) (hs : s = 0 ∨ s = one) (hsh : Fin sh) (s0 : 0 ≤ K sh) (s1 : K sh ≤ K one) :
    ∃ d m a, double.sub s r = some d ∧ double.mul d sh = some m ∧ double.add r m = some a ∧ a < 2 ^ 64 ∧ NN a ∧ Fin d ∧ Fin m ∧ K d = RD 0 (V s - V r) ∧ K m = RD 1074 (V d * V sh) ∧ K a = RD 0 (V r + V m) := by
  have fs : Fin s := by
    rcases hs with h | h
    · rw [h]; exact zero_fin
    · rw [h]; exact one_fin
  have vs : 0 ≤ V s ∧ V s ≤ V one := by
    have := V_one_pos
    rcases hs with h | h
    · rw [h, V_zero]; omega
    · rw [h]; omega
  obtain ⟨d, a1, a2, a3, a4⟩ := sub_fin fs hr
  have vr := V_max hr
  have hi := inf_val; have hm := K_maxF
  have k1 : K d ≤ K maxF := by rw [a4, ← add_max]; exact RD_mono _ (by omega)
  have k2 : -K maxF ≤ K d := by
    rw [a4, ← RD_0 maxF_fin, ← RD_neg]; exact RD_mono _ (by omega)
  have fd : Fin d := fin_of a3 (by omega) (by omega)
  obtain ⟨m, b1, b2, b3, b4, _⟩ := mul_share fd hsh s0 s1
  obtain ⟨a, c1, c2, c3, c4⟩ := add_fin hr b3
  exact ⟨d, m, a, a1, b1, c1, c2, c3, fd, b3, a4, b4, c4⟩

theorem fold_le {r sh dF mF aF dS mS aS : Nat} (s0 : 0 ≤ K sh)
    (f1 : K dF = RD 0 (V 0 - V r)) (f2 : K mF = RD 1074 (V dF * V sh)) (f3 : K aF = RD 0 (V r + V mF))
    (g1 : K dS = RD 0 (V one - V r)) (g2 : K mS = RD 1074 (V dS * V sh)) (g3 : K aS = RD 0 (V r + V mS)) : K aF ≤ K aS := by
  have h1 : K dF ≤ K dS := by rw [f1, g1, V_zero]; exact RD_mono _ (by have := V_one_pos; omega)
  have h2 : K mF ≤ K mS := by rw [f2, g2]; exact RD_mono _ (Int.mul_le_mul_of_nonneg_right (V_le h1) (V_nonneg s0))
  rw [f3, g3]; exact RD_mono _ (by have := V_le h2; omega)

/-- the mean of failures alone stays nought, to the bit -/
theorem fold_zero {sh : Nat} (hsh : Fin sh) (hn : ng sh = false) : double.sub 0 0 = some 0 ∧ double.mul 0 sh = some 0 ∧ double.add 0 0 = some 0 := by
  refine ⟨by decide +kernel, ?_, by decide +kernel⟩
  obtain ⟨n, f, h3, h4⟩ := read_fin hsh
  have h0 : double.read 0 = .number false 0 (-1074) := by decide +kernel
  unfold Format.mul
  rw [h0, h3, hn]
  simp only [Datum.product, Option.map_some, Nat.zero_mul]
  rfl

/-! ### max -/
def fmax (x y : Nat) : Nat := match double.order x y with
  | some .lt => y
  | some .gt => x
  | some .eq => if (double.read x).neg then y else x
  | none => 0
theorem fmax_K {x y : Nat} (hx : NN x) (hy : NN y) : (fmax x y = x ∨ fmax x y = y) ∧ K (fmax x y) = max (K x) (K y) := by
  unfold fmax
  rw [order_eq hx hy]
  rcases Int.lt_trichotomy (K x) (K y) with h | h | h
  · rw [cmp_lt h]; exact ⟨.inr rfl, by show K y = _; omega⟩
  · rw [cmp_eq h]
    simp only
    split
    · exact ⟨.inr rfl, by omega⟩
    · exact ⟨.inl rfl, by omega⟩
  · rw [cmp_gt h]; exact ⟨.inl rfl, by show K x = _; omega⟩

/-! ### the rates -/
def n08 : Nat := 4605380978949069211
def rmax : Nat := 4596373779694328212
theorem n08_fin : Fin n08 := by unfold Fin; decide
theorem rmax_fin : Fin rmax := by unfold Fin; decide
theorem sub_key {x y r : Nat} (hx : Fin x) (hy : Fin y) (h : double.sub x y = some r) : RD 0 (V x - V y) = K r := by
  obtain ⟨r', h1, _, _, h4⟩ := sub_fin hx hy
  rw [h] at h1; cases h1; exact h4.symm

theorem rates {q : Nat} (hq : NN q) (h1 : K q ≤ K rmax) :
    K c005 ≤ K (fmax q c005) ∧ K (fmax q c005) < K c02 ∧ NN (fmax q c005) ∧ ∃ t rS rF, double.sub one (fmax q c005) = some t ∧ double.div c08 t = some rS ∧ double.div c02 (fmax q c005) = some rF ∧
      Fin rS ∧ Fin rF ∧ K half ≤ K rS ∧ K rS ≤ K one ∧ K one ≤ K rF := by
  obtain ⟨hor, hk⟩ := fmax_K hq c005_fin.nn
  have kc : K c005 = 4587366580439587226 := by decide
  have km : K rmax = 4596373779694328212 := by decide
  have k2 : K c02 = 4596373779694328218 := by decide
  have k8 : K c08 = 4605380978949069210 := by decide
  have kn : K n08 = 4605380978949069211 := by decide
  have hi := inf_val; have ho := K_one
  have kh : K half = 4602678819172646912 := by decide
  have k4 : K four = 4616189618054758400 := by decide
  have hn : NN (fmax q c005) := by rcases hor with h | h <;> rw [h]; exact hq; exact c005_fin.nn
  generalize fmax q c005 = rate at *
  have fr : Fin rate := fin_of hn (by omega) (by omega)
  obtain ⟨t, t1, t2, t3, t4⟩ := sub_fin one_fin fr
  have tk1 : K n08 ≤ K t := by
    rw [t4, ← sub_key one_fin rmax_fin (r := n08) (by decide +kernel)]
    exact RD_mono _ (by have := V_le (show K rate ≤ K rmax by omega); omega)
  have tk2 : K t ≤ K one := by
    rw [t4, ← RD_0 one_fin]
    exact RD_mono _ (by have := V_nonneg (show 0 ≤ K rate by omega); omega)
  have ft : Fin t := fin_of t3 (by omega) (by omega)
  obtain ⟨rS, s1, s2, s3, s4, s5, s6, s7, s8⟩ := div_pos c08_fin ft (by omega) (by omega)
  have sk1 := s5 (V_le (by omega))
  have v1 : V one ≤ 2 * V c08 := by decide +kernel
  have sk2 := s7 (by have := V_le tk2; omega)
  obtain ⟨rF, f1, f2, f3, f4, f5, f6, f7, f8⟩ := div_pos c02_fin fr (by omega) (by omega)
  have fk1 := f6 (V_le (by omega))
  have v2 : V c02 ≤ 4 * V c005 := by decide +kernel
  have fk2 := f8 (by have := V_le (show K c005 ≤ K rate by omega); omega)
  exact ⟨by omega, by omega, hn, t, rS, rF, t1, s1, f1, fin_of s3 (by omega) (by omega), fin_of f3 (by omega) (by omega), sk2, sk1, fk1⟩

/-- the rate of a score above 0.8 and not above 1 -/
theorem rate_mid {score : Nat} (hs : NN score) (h1 : K c08 < K score) (h2 : K score ≤ K one) : ∃ q, double.sub one score = some q ∧ NN q ∧ K q ≤ K rmax := by
  have k8 : K c08 = 4605380978949069210 := by decide
  have kn : K n08 = 4605380978949069211 := by decide
  have hi := inf_val; have ho := K_one
  have fs : Fin score := fin_of hs (by omega) (by omega)
  obtain ⟨q, q1, q2, q3, q4⟩ := sub_fin one_fin fs
  refine ⟨q, q1, q3, ?_⟩
  rw [q4, ← sub_key one_fin n08_fin (r := rmax) (by decide +kernel)]
  exact RD_mono _ (by have := V_le (show K n08 ≤ K score by omega); omega)

/-- the rate of a score from 0.96 on -/
theorem rate_high {score : Nat} (hs : NN score) (h1 : K c096 ≤ K score) : ∃ q, double.sub one score = some q ∧ NN q ∧ K q < K c005 := by
  have hi := inf_val
  have k9 : K c096 = 4606822130829827768 := by decide
  have kc : K c005 = 4587366580439587226 := by decide
  rcases NN_cases hs with fs | is
  · obtain ⟨q, q1, q2, q3, q4⟩ := sub_fin one_fin fs
    refine ⟨q, q1, q3, ?_⟩
    have e := sub_key one_fin c096_fin (r := 4585925428558828672) (by decide +kernel)
    have : K q ≤ K 4585925428558828672 := by
      rw [q4, ← e]; exact RD_mono _ (by have := V_le h1; omega)
    have k5 : K 4585925428558828672 = 4585925428558828672 := by decide
    omega
  · obtain ⟨q, q1, q2, q3, q4⟩ := sub_inf one_fin is
    refine ⟨q, q1, q3, ?_⟩
    omega

/-! ### the odds -/
theorem odds_step {st rt : Nat} (hs : NN st) (h1 : K one ≤ K st) (hr : Fin rt) (r0 : 0 < K rt) :
    ∃ o, double.mul st rt = some o ∧ o < 2 ^ 64 ∧ NN o ∧ (K one ≤ K rt → K st ≤ K o) ∧ (K rt ≤ K one → K o ≤ K st) ∧ (K half ≤ K rt → 0 < K o) := by
  have ho := K_one; have hi := inf_val
  rcases NN_cases hs with fs | is
  · obtain ⟨o, o1, o2, o3, o4⟩ := mul_fin fs hr
    have v0 := V_nonneg (show 0 ≤ K st by omega)
    refine ⟨o, o1, o2, o3, fun h => ?_, fun h => ?_, fun h => ?_⟩
    · rw [o4, ← RD_U fs]; exact RD_mono _ (Int.mul_le_mul_of_nonneg_left (V_le h) v0)
    · rw [o4, ← RD_U fs]; exact RD_mono _ (Int.mul_le_mul_of_nonneg_left (V_le h) v0)
    · have hh : Fin half := by unfold Fin; decide
      have kh : K half = 4602678819172646912 := by decide
      have : K half ≤ K o := by
        rw [o4, ← RD_U hh, Int.mul_comm (V half)]
        refine RD_mono _ ?_
        exact Int.mul_le_mul (V_le h1) (V_le h) (V_nonneg (by omega)) v0
      omega
  · obtain ⟨o, o1, o2, o3, o4⟩ := mul_inf is (by omega) hr r0
    have e : K st = infR := by
      have := K_pos (show 0 < K st by omega)
      rw [K_nonneg this.1, is]
    exact ⟨o, o1, o2, o3, fun _ => by omega, fun _ => by omega, fun _ => by omega⟩
end Go.Proofs.Qxb6600241a.Fl
