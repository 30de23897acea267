/-
  Seat b6600009a: the plain law of FnSkipNestedMatchesRecognizer: no Go in sight.
  A text is a length n and a function t from places to byte values.
  'SS p': where skipString stops that has come to place p inside a string. 'SN p d': where skipNested stops that has come to place p at depth d.
  'Pass i e': the scan goes through from i to e, whatever the depth from 1 on, and is then at the same depth.
-/
namespace Go.Proofs.Qxb6600009a.Plain

/-- where skipString stops, standing at p behind the opening quote -/
def SS (n : Nat) (t : Nat → Int) (p : Nat) : Nat :=
  if p < n then (if t p = 92 then SS n t (p + 2) else if t p = 34 then p + 1 else SS n t (p + 1)) else p

theorem SS_ge (n : Nat) (t : Nat → Int) : ∀ (k p : Nat), n - p ≤ k → p ≤ SS n t p := by
  intro k
  induction k with
  | zero => intro p h; rw [SS, if_neg (by omega)]; exact Nat.le_refl _
  | succ k ih =>
    intro p h
    rw [SS]
    by_cases hp : p < n
    · rw [if_pos hp]
      by_cases h1 : t p = 92
      · rw [if_pos h1]; have := ih (p + 2) (by omega); omega
      · rw [if_neg h1]
        by_cases h2 : t p = 34
        · rw [if_pos h2]; omega
        · rw [if_neg h2]; have := ih (p + 1) (by omega); omega
    · rw [if_neg hp]; exact Nat.le_refl _

theorem SS_le (n : Nat) (t : Nat → Int) : ∀ (k p : Nat), n - p ≤ k → p ≤ n + 1 → SS n t p ≤ n + 1 := by
  intro k
  induction k with
  | zero => intro p h hp; rw [SS, if_neg (by omega)]; exact hp
  | succ k ih =>
    intro p h hpn
    rw [SS]
    by_cases hp : p < n
    · rw [if_pos hp]
      by_cases h1 : t p = 92
      · rw [if_pos h1]; exact ih (p + 2) (by omega) (by omega)
      · rw [if_neg h1]
        by_cases h2 : t p = 34
        · rw [if_pos h2]; omega
        · rw [if_neg h2]; exact ih (p + 1) (by omega) (by omega)
    · rw [if_neg hp]; exact hpn

/-- where skipNested stops, standing at p at depth d -/
def SN (n : Nat) (t : Nat → Int) (p : Nat) (d : Int) : Nat :=
  if p < n then
    (if t p = 34 then (have := SS_ge n t n (p + 1) (by omega); SN n t (SS n t (p + 1)) d)
     else if t p = 91 ∨ t p = 123 then SN n t (p + 1) (d + 1)
     else if t p = 93 ∨ t p = 125 then (if d - 1 = 0 then p + 1 else SN n t (p + 1) (d - 1))
     else SN n t (p + 1) d)
  else p

theorem SN_end {n : Nat} {t : Nat → Int} {p : Nat} {d : Int} (h : ¬ p < n) : SN n t p d = p := by rw [SN, if_neg h]
theorem SN_quote {n : Nat} {t : Nat → Int} {p : Nat} {d : Int} (h : p < n) (hq : t p = 34) : SN n t p d = SN n t (SS n t (p + 1)) d := by rw [SN, if_pos h, if_pos hq]
theorem SN_open {n : Nat} {t : Nat → Int} {p : Nat} {d : Int} (h : p < n) (ho : t p = 91 ∨ t p = 123) : SN n t p d = SN n t (p + 1) (d + 1) := by
  rw [SN, if_pos h, if_neg (by omega), if_pos ho]
theorem SN_close {n : Nat} {t : Nat → Int} {p : Nat} {d : Int} (h : p < n) (hc : t p = 93 ∨ t p = 125) (hd : ¬ d - 1 = 0) : SN n t p d = SN n t (p + 1) (d - 1) := by
  rw [SN, if_pos h, if_neg (by omega), if_neg (by omega), if_pos hc, if_neg hd]
theorem SN_last {n : Nat} {t : Nat → Int} {p : Nat} {d : Int} (h : p < n) (hc : t p = 93 ∨ t p = 125) (hd : d - 1 = 0) : SN n t p d = p + 1 := by
  rw [SN, if_pos h, if_neg (by omega), if_neg (by omega), if_pos hc, if_pos hd]
/-- a byte that the scan takes no notice of -/
def Dull (c : Int) : Prop := c ≠ 34 ∧ c ≠ 91 ∧ c ≠ 123 ∧ c ≠ 93 ∧ c ≠ 125
theorem SN_dull {n : Nat} {t : Nat → Int} {p : Nat} {d : Int} (h : p < n) (hd : Dull (t p)) : SN n t p d = SN n t (p + 1) d := by
  obtain ⟨h1, h2, h3, h4, h5⟩ := hd
  rw [SN, if_pos h, if_neg h1, if_neg (by omega), if_neg (by omega)]

/-- the scan goes through from i to e and stands at the same depth -/
def Pass (n : Nat) (t : Nat → Int) (i e : Nat) : Prop := ∀ d : Int, 1 ≤ d → SN n t i d = SN n t e d
theorem Pass.rfl {n : Nat} {t : Nat → Int} {i : Nat} : Pass n t i i := fun _ _ => Eq.refl _
theorem Pass.trans {n : Nat} {t : Nat → Int} {i j k : Nat} (h : Pass n t i j) (h' : Pass n t j k) : Pass n t i k := fun d hd => (h d hd).trans (h' d hd)
theorem Pass.dull {n : Nat} {t : Nat → Int} {i : Nat} (h : i < n) (hd : Dull (t i)) : Pass n t i (i + 1) := fun _ _ => SN_dull h hd

/-- a string was seen through to e: skipString, standing at k, comes to stop at e -/
theorem SS_plain {n : Nat} {t : Nat → Int} {k : Nat} (h : k < n) (h1 : t k ≠ 92) (h2 : t k ≠ 34) : SS n t k = SS n t (k + 1) := by
  rw [SS, if_pos h, if_neg h1, if_neg h2]
theorem SS_esc {n : Nat} {t : Nat → Int} {k : Nat} (h : k < n) (h1 : t k = 92) : SS n t k = SS n t (k + 2) := by
  rw [SS, if_pos h, if_pos h1]
theorem SS_quote {n : Nat} {t : Nat → Int} {k : Nat} (h : k < n) (h1 : t k = 34) : SS n t k = k + 1 := by
  rw [SS, if_pos h, if_neg (by omega), if_pos h1]
theorem Pass.string {n : Nat} {t : Nat → Int} {i e : Nat} (h : i < n) (hq : t i = 34) (hs : SS n t (i + 1) = e) : Pass n t i e := fun _ _ => by rw [SN_quote h hq, hs]

/-- what a bracketed value is: the scan goes through it; begun at its bracket at depth nought, it stops at its end -/
structure Val (n : Nat) (t : Nat → Int) (i e : Nat) : Prop where
  lt : i < e
  le : e ≤ n
  pass : Pass n t i e
  top : t i = 91 ∨ t i = 123 → SN n t i 0 = e

theorem Val.flat {n : Nat} {t : Nat → Int} {i e : Nat} (lt : i < e) (le : e ≤ n) (pass : Pass n t i e) (h : ¬ (t i = 91 ∨ t i = 123)) : Val n t i e := ⟨lt, le, pass, fun h' => absurd h' h⟩

/-- an opening bracket at i, the inside passed from i + 1 to k, a closing bracket at k -/
theorem Val.closed {n : Nat} {t : Nat → Int} {i k : Nat} (ho : t i = 91 ∨ t i = 123) (hi : i < k) (hk : k < n) (inside : Pass n t (i + 1) k) (hc : t k = 93 ∨ t k = 125) : Val n t i (k + 1) where
  lt := by omega
  le := hk
  pass := fun d hd => by rw [SN_open (by omega) ho, inside (d + 1) (by omega), SN_close hk hc (by omega)]; congr 1; omega
  top := fun _ => by rw [SN_open (by omega) ho, inside (0 + 1) (by omega), SN_last hk hc (by omega)]

end Go.Proofs.Qxb6600009a.Plain
