/-
  Seat b6600241a: the words of float64: their order by a key, and what +, -, *, / give, by that key. No Go in sight.
-/
import Derived.Test.Qxb6600241aRound
namespace Go.Proofs.Qxb6600241a.Fl
open Ieee

/-- the lower 63 bits; the sign -/
def rg (x : Nat) : Nat := x % 2 ^ 63
def ng (x : Nat) : Bool := x / 2 ^ 63 % 2 == 1
/-- the key: it orders the words that are no NaN -/
def K (x : Nat) : Int := if ng x then -(rg x : Int) else rg x
/-- the value, in units of 2 ^ -1074, of a finite word -/
def V (x : Nat) : Int := if ng x then -(rv (rg x) : Int) else rv (rg x)
def Fin (x : Nat) : Prop := rg x < infR
def NN (x : Nat) : Prop := rg x ≤ infR

theorem sw : double.signWeight = 2 ^ 63 := rfl
theorem bn : double.binade = 2 ^ 52 := rfl
theorem ir : double.infRung = infR := rfl
theorem lp : double.leastPlace = -1074 := by decide

theorem read_fin {x : Nat} (h : Fin x) : ∃ m e : Nat, double.read x = .number (ng x) m (-1074 + e) ∧ m * 2 ^ e = rv (rg x) := by
  unfold Fin at h
  unfold Format.read
  simp only [sw, bn, ir, lp]
  by_cases h1 : rg x < 2 ^ 52
  · refine ⟨rg x, 0, ?_, ?_⟩
    · rw [if_pos (show x % 2 ^ 63 < 2 ^ 52 from h1)]; rfl
    · rw [Nat.pow_zero, Nat.mul_one, rv, if_pos h1]
  · refine ⟨2 ^ 52 + rg x % 2 ^ 52, rg x / 2 ^ 52 - 1, ?_, ?_⟩
    · rw [if_neg (show ¬ x % 2 ^ 63 < 2 ^ 52 from h1), if_pos (show x % 2 ^ 63 < infR from h)]; rfl
    · rw [rv, if_neg h1]

theorem read_inf {x : Nat} (h : rg x = infR) : double.read x = .infinity (ng x) := by
  have hb : (2 : Nat) ^ 52 ≤ infR := by decide
  have h' : x % 2 ^ 63 = infR := h
  have n1 : ¬ x % double.signWeight < double.binade := by rw [sw, bn]; omega
  have n2 : ¬ x % double.signWeight < double.infRung := by rw [sw, ir]; omega
  have n3 : x % double.signWeight = double.infRung := by rw [sw, ir]; exact h'
  unfold Format.read
  dsimp only
  rw [if_neg n1, if_neg n2, if_pos n3]; rfl

theorem read_nan {x : Nat} (h : infR < rg x) : ∃ t, double.read x = .nan (ng x) t := by
  have hb : (2 : Nat) ^ 52 ≤ infR := by decide
  have h' : infR < x % 2 ^ 63 := h
  have n1 : ¬ x % double.signWeight < double.binade := by rw [sw, bn]; omega
  have n2 : ¬ x % double.signWeight < double.infRung := by rw [sw, ir]; omega
  have n3 : ¬ x % double.signWeight = double.infRung := by rw [sw, ir]; omega
  unfold Format.read
  dsimp only
  rw [if_neg n1, if_neg n2, if_neg n3]
  exact ⟨_, rfl⟩

theorem word_rg (neg : Bool) {r : Nat} (h : r ≤ infR) : rg (double.word neg r) = r ∧ ng (double.word neg r) = neg := by
  have hi : infR < 2 ^ 63 := by decide
  unfold Format.word rg ng
  rw [sw]
  cases neg
  · simp only [Bool.false_eq_true, if_false]
    refine ⟨by omega, ?_⟩
    rw [beq_eq_false_iff_ne]; omega
  · simp only [if_true]
    refine ⟨by omega, ?_⟩
    rw [beq_iff_eq]; omega

theorem word_K (neg : Bool) {r : Nat} (h : r ≤ infR) : K (double.word neg r) = if neg then -(r : Int) else r := by
  obtain ⟨a, b⟩ := word_rg neg h
  unfold K; rw [a, b]
theorem word_lt (neg : Bool) {r : Nat} (h : r ≤ infR) : double.word neg r < 2 ^ 64 := by
  have hi : infR < 2 ^ 63 := by decide
  unfold Format.word
  rw [sw]
  cases neg
  · simp only [Bool.false_eq_true, if_false]; omega
  · simp only [if_true]; omega

/-! ### order -/
theorem cmp_congr {a b c d : Int} (h1 : a < b ↔ c < d) (h2 : a = b ↔ c = d) : compare a b = compare c d := by
  show compareOfLessAndEq a b = compareOfLessAndEq c d
  unfold compareOfLessAndEq
  by_cases x : a < b
  · rw [if_pos x, if_pos (h1.1 x)]
  · rw [if_neg x, if_neg (fun y => x (h1.2 y))]
    by_cases z : a = b
    · rw [if_pos z, if_pos (h2.1 z)]
    · rw [if_neg z, if_neg (fun y => z (h2.2 y))]
theorem cmp_lt {a b : Int} (h : a < b) : compare a b = .lt := by
  show compareOfLessAndEq a b = _
  unfold compareOfLessAndEq; rw [if_pos h]
theorem cmp_eq {a b : Int} (h : a = b) : compare a b = .eq := by
  show compareOfLessAndEq a b = _
  unfold compareOfLessAndEq; rw [if_neg (by omega), if_pos h]
theorem cmp_gt {a b : Int} (h : b < a) : compare a b = .gt := by
  show compareOfLessAndEq a b = _
  unfold compareOfLessAndEq; rw [if_neg (by omega), if_neg (by omega)]

theorem rv_lt_iff (a b : Nat) : rv a < rv b ↔ a < b := by
  constructor
  · intro h
    apply Decidable.byContradiction
    intro hn
    have := rv_le (show b ≤ a by omega)
    omega
  · exact rv_lt
theorem rv_eq_iff (a b : Nat) : rv a = rv b ↔ a = b := by
  constructor
  · intro h
    rcases Nat.lt_trichotomy a b with x | x | x
    · have := rv_lt x; omega
    · exact x
    · have := rv_lt x; omega
  · intro h; rw [h]

theorem rv_pos {a : Nat} : 0 < rv a ↔ 0 < a := by
  have := rv_lt_iff 0 a; rw [rv_zero] at this; exact this

theorem V_lt_iff (x y : Nat) : V x < V y ↔ K x < K y := by
  unfold V K
  have a := rv_lt_iff (rg x) (rg y)
  have b := rv_lt_iff (rg y) (rg x)
  have c := @rv_pos (rg x)
  have d := @rv_pos (rg y)
  cases ng x <;> cases ng y <;> simp only [Bool.false_eq_true, if_false, if_true] <;> omega
theorem V_eq_iff (x y : Nat) : V x = V y ↔ K x = K y := by
  unfold V K
  have a := rv_eq_iff (rg x) (rg y)
  have c := @rv_pos (rg x)
  have d := @rv_pos (rg y)
  cases ng x <;> cases ng y <;> simp only [Bool.false_eq_true, if_false, if_true] <;> omega
theorem V_le_iff (x y : Nat) : V x ≤ V y ↔ K x ≤ K y := by
  have := V_lt_iff y x; omega

theorem signed_eq (s : Bool) (m e b : Nat) (h : b ≤ e) : signed s m (((-1074 + (e : Int)) - (-1074 + (b : Int))).toNat) * 2 ^ b = if s then -((m * 2 ^ e : Nat) : Int) else ((m * 2 ^ e : Nat) : Int) := by
  have e1 : ((-1074 + (e : Int)) - (-1074 + (b : Int))).toNat = e - b := by omega
  have e2 : m * 2 ^ (e - b) * 2 ^ b = m * 2 ^ e := by rw [Nat.mul_assoc, ← Nat.pow_add, Nat.sub_add_cancel h]
  unfold signed
  rw [e1, Nat.shiftLeft_eq]
  cases s
  · simp only [Bool.false_eq_true, if_false]
    rw [← e2]; simp
  · simp only [if_true]
    rw [← e2, Int.neg_mul]; simp

theorem K_inf {x : Nat} (h : rg x = infR) : K x = if ng x then -(infR : Int) else infR := by unfold K; rw [h]
theorem K_fin {x : Nat} (h : Fin x) : -(infR : Int) < K x ∧ K x < infR := by
  unfold Fin at h; unfold K
  have : 0 < infR := by decide
  cases ng x <;> simp only [Bool.false_eq_true, if_false, if_true] <;> omega
theorem NN_cases {x : Nat} (h : NN x) : Fin x ∨ rg x = infR := by unfold NN at h; unfold Fin; omega

theorem min_add (e f : Nat) : min (-1074 + (e : Int)) (-1074 + (f : Int)) = -1074 + ((min e f : Nat) : Int) := by omega

theorem order_eq {x y : Nat} (hx : NN x) (hy : NN y) : double.order x y = some (compare (K x) (K y)) := by
  unfold Format.order
  have hpos : 0 < infR := by decide
  rcases NN_cases hx with fx | ix <;> rcases NN_cases hy with fy | iy
  · obtain ⟨m, e, h1, h2⟩ := read_fin fx
    obtain ⟨n, f, h3, h4⟩ := read_fin fy
    rw [h1, h3]
    simp only [Datum.order, min_add]
    congr 1
    have p1 := signed_eq (ng x) m e (min e f) (Nat.min_le_left _ _)
    have p2 := signed_eq (ng y) n f (min e f) (Nat.min_le_right _ _)
    generalize signed (ng x) m _ = a at p1
    generalize signed (ng y) n _ = b at p2
    rw [h2] at p1
    rw [h4] at p2
    have pp : (0 : Int) < 2 ^ (min e f) := Int.pow_pos (by decide)
    have q1 : a * 2 ^ (min e f) = V x := p1
    have q2 : b * 2 ^ (min e f) = V y := p2
    refine cmp_congr ?_ ?_
    · rw [← V_lt_iff, ← q1, ← q2]
      exact (Int.mul_lt_mul_right pp).symm
    · rw [← V_eq_iff, ← q1, ← q2]
      constructor
      · intro h; rw [h]
      · intro h; exact Int.eq_of_mul_eq_mul_right (Int.ne_of_gt pp) h
  · obtain ⟨m, e, h1, h2⟩ := read_fin fx
    rw [h1, read_inf iy]
    have kf := K_fin fx
    rw [K_inf iy]
    simp only [Datum.order]
    cases ng y
    · simp only [Bool.false_eq_true, if_false]; rw [cmp_lt kf.2]
    · simp only [if_true]; rw [cmp_gt kf.1]
  · obtain ⟨n, f, h3, h4⟩ := read_fin fy
    rw [h3, read_inf ix]
    have kf := K_fin fy
    rw [K_inf ix]
    simp only [Datum.order]
    cases ng x
    · simp only [Bool.false_eq_true, if_false]; rw [cmp_gt kf.2]
    · simp only [if_true]; rw [cmp_lt kf.1]
  · rw [read_inf ix, read_inf iy, K_inf ix, K_inf iy]
    simp only [Datum.order]
    cases ng x <;> cases ng y <;> simp only [Bool.false_eq_true, if_false, if_true]
    · rw [cmp_eq rfl]; rfl
    · rw [cmp_gt (by omega)]; rfl
    · rw [cmp_lt (by omega)]; rfl
    · rw [cmp_eq rfl]; rfl

theorem order_nan_left {x : Nat} (h : infR < rg x) (y : Nat) : double.order x y = none := by
  obtain ⟨t, ht⟩ := read_nan h
  unfold Format.order
  rw [ht]
  rfl
theorem order_nan_right {y : Nat} (h : infR < rg y) (x : Nat) : double.order x y = none := by
  obtain ⟨t, ht⟩ := read_nan h
  unfold Format.order
  rw [ht]
  cases double.read x <;> rfl
theorem NN_of_order {x y : Nat} {o : Ordering} (h : double.order x y = some o) : NN x ∧ NN y := by
  unfold NN
  refine ⟨?_, ?_⟩
  · apply Decidable.byContradiction; intro hn; rw [order_nan_left (by omega) y] at h; cases h
  · apply Decidable.byContradiction; intro hn; rw [order_nan_right (by omega) x] at h; cases h

/-! ### rounding by key -/
def RD (d : Nat) (z : Int) : Int := if z < 0 then -(rng d z.natAbs : Int) else rng d z.natAbs
theorem RD_mono (d : Nat) {a b : Int} (h : a ≤ b) : RD d a ≤ RD d b := by
  unfold RD
  by_cases h1 : a < 0 <;> by_cases h2 : b < 0
  · rw [if_pos h1, if_pos h2]; have := rng_mono (d := d) (show b.natAbs ≤ a.natAbs by omega); omega
  · rw [if_pos h1, if_neg h2]; omega
  · omega
  · rw [if_neg h1, if_neg h2]; have := rng_mono (d := d) (show a.natAbs ≤ b.natAbs by omega); omega
theorem RD_V (d : Nat) {x : Nat} (h : Fin x) : RD d (V x * 2 ^ d) = K x := by
  have hr := rng_rv_scale d (rg x) (Nat.le_of_lt h)
  have hp : (0 : Int) < 2 ^ d := Int.pow_pos (by decide)
  have hz := @rv_pos (rg x)
  unfold RD V K
  cases ng x
  · simp only [Bool.false_eq_true, if_false]
    have e : ((rv (rg x) : Int) * 2 ^ d) = ((rv (rg x) * 2 ^ d : Nat) : Int) := by simp
    rw [e, if_neg (by omega), Int.natAbs_natCast, hr]
  · simp only [if_true]
    have e : (-(rv (rg x) : Int) * 2 ^ d) = -((rv (rg x) * 2 ^ d : Nat) : Int) := by rw [Int.neg_mul]; simp
    rw [e, Int.natAbs_neg, Int.natAbs_natCast, hr]
    by_cases h0 : rg x = 0
    · rw [h0, rv_zero]; simp
    · have : 0 < rv (rg x) * 2 ^ d := Nat.mul_pos (hz.2 (by omega)) (Nat.two_pow_pos d)
      rw [if_pos (by omega)]
theorem RD_bd (d : Nat) (z : Int) : -(infR : Int) ≤ RD d z ∧ RD d z ≤ infR := by
  have := rng_le d z.natAbs
  unfold RD; split <;> omega

theorem write_num (neg : Bool) (mag : Nat) (place : Int) (d k : Nat) (h : place = -1074 - d + k) (z : Int) (hz : z = if neg then -((mag * 2 ^ k : Nat) : Int) else ((mag * 2 ^ k : Nat) : Int)) :
    double.write (.number neg mag place) < 2 ^ 64 ∧ NN (double.write (.number neg mag place)) ∧ K (double.write (.number neg mag place)) = RD d z := by
  have e : double.write (.number neg mag place) = double.word neg (rng d (mag * 2 ^ k)) := nearest_eq neg mag place d k h
  have hl := rng_le d (mag * 2 ^ k)
  rw [e]
  refine ⟨word_lt neg hl, ?_, ?_⟩
  · unfold NN; rw [(word_rg neg hl).1]; exact hl
  · rw [word_K neg hl, hz]
    unfold RD
    cases neg
    · simp only [Bool.false_eq_true, if_false]; rw [if_neg (by omega), Int.natAbs_natCast]
    · simp only [if_true]; rw [Int.natAbs_neg, Int.natAbs_natCast]
      by_cases h0 : mag * 2 ^ k = 0
      · rw [h0, rng_zero]; simp
      · rw [if_pos (by omega)]

/-- what an operation gives: a word that is no NaN, of this key -/
def Gives (o : Option Nat) (key : Int) : Prop := ∃ r, o = some r ∧ r < 2 ^ 64 ∧ NN r ∧ K r = key

theorem sum_num (s t : Bool) (m n e f : Nat) (vx vy : Int) (hx : vx = if s then -((m * 2 ^ e : Nat) : Int) else ((m * 2 ^ e : Nat) : Int)) (hy : vy = if t then -((n * 2 ^ f : Nat) : Int) else ((n * 2 ^ f : Nat) : Int)) :
    Gives ((Datum.sum (.number s m (-1074 + e)) (.number t n (-1074 + f))).map double.write) (RD 0 (vx + vy)) := by
  simp only [Datum.sum, min_add, Option.map_some]
  have p1 := signed_eq s m e (min e f) (Nat.min_le_left _ _)
  have p2 := signed_eq t n f (min e f) (Nat.min_le_right _ _)
  generalize signed s m _ = a at *
  generalize signed t n _ = b at *
  rw [← hx] at p1
  rw [← hy] at p2
  have hsum : (a + b) * 2 ^ (min e f) = vx + vy := by rw [Int.add_mul, p1, p2]
  refine ⟨_, rfl, write_num _ (a + b).natAbs _ 0 (min e f) (by omega) (vx + vy) ?_⟩
  rw [← hsum]
  have hc : (((a + b).natAbs * 2 ^ (min e f) : Nat) : Int) = ((a + b).natAbs : Int) * 2 ^ (min e f) := by simp
  rw [hc]
  by_cases h0 : a + b = 0
  · rw [h0]; simp
  · rw [if_neg h0]
    by_cases hn : a + b < 0
    · rw [decide_eq_true hn, if_pos rfl, ← Int.neg_mul]; congr 1; omega
    · rw [decide_eq_false hn]
      simp only [Bool.false_eq_true, if_false]
      congr 1; omega

theorem add_fin {x y : Nat} (hx : Fin x) (hy : Fin y) : Gives (double.add x y) (RD 0 (V x + V y)) := by
  obtain ⟨m, e, h1, h2⟩ := read_fin hx
  obtain ⟨n, f, h3, h4⟩ := read_fin hy
  unfold Format.add
  rw [h1, h3]
  exact sum_num _ _ m n e f _ _ (by rw [h2]; rfl) (by rw [h4]; rfl)

theorem sub_fin {x y : Nat} (hx : Fin x) (hy : Fin y) : Gives (double.sub x y) (RD 0 (V x - V y)) := by
  obtain ⟨m, e, h1, h2⟩ := read_fin hx
  obtain ⟨n, f, h3, h4⟩ := read_fin hy
  unfold Format.sub
  rw [h1, h3]
  refine sum_num _ _ m n e f _ (-V y) (by rw [h2]; rfl) ?_
  rw [h4]
  unfold V
  cases ng y <;> simp

theorem mul_fin {x y : Nat} (hx : Fin x) (hy : Fin y) : Gives (double.mul x y) (RD 1074 (V x * V y)) := by
  obtain ⟨m, e, h1, h2⟩ := read_fin hx
  obtain ⟨n, f, h3, h4⟩ := read_fin hy
  unfold Format.mul
  rw [h1, h3]
  simp only [Datum.product, Option.map_some]
  refine ⟨_, rfl, write_num _ (m * n) _ 1074 (e + f) (by omega) (V x * V y) ?_⟩
  have hp : m * n * 2 ^ (e + f) = rv (rg x) * rv (rg y) := by
    rw [← h2, ← h4, Nat.pow_add]
    simp only [Nat.mul_assoc, Nat.mul_left_comm]
  rw [hp]
  unfold V
  cases ng x <;> cases ng y <;> simp [Int.neg_mul, Int.mul_neg]
end Go.Proofs.Qxb6600241a.Fl
