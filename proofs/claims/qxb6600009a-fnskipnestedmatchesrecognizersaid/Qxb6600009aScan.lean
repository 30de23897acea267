/-
  Seat b6600009a: contracts of the recogniser's leaves: b1IsWS, b1SkipWS, b1IsHex, b1Digits.
-/
import Derived.Test.Qxb6600009aProg
import Derived.Test.Qxb6600009aPlain
import Derived.WalkKit
import Derived.ProofKit
import Derived.OpenShut
import Derived.Deep.QuietTactic
import Derived.BigQuiet
import Derived.WalkSmall
namespace Go.Proofs.Qxb6600009a.Scan
open Go.ChangeShapes Go.WideShapes Go.ChangeAt Go.RowKit
open Plain

def isWS (c : Int) : Bool := c == 32 || c == 9 || c == 10 || c == 13
theorem isWS_dull {c : Int} (h : isWS c = true) : Dull c := by
  simp [isWS] at h
  refine ⟨?_, ?_, ?_, ?_, ?_⟩ <;> omega

def isHex (c : Int) : Bool := (decide (48 ≤ c) && decide (c ≤ 57)) || (decide (97 ≤ c) && decide (c ≤ 102)) || (decide (65 ≤ c) && decide (c ≤ 70))
theorem isHex_plain {c : Int} (h : isHex c = true) : c ≠ 92 ∧ c ≠ 34 := by
  simp [isHex] at h
  omega

theorem isWS_any (c : Int) (w : World) :
    Calls Try.prog 39 #[.int .u8 c] w fun e w' => e = .returned (.bool (isWS c)) ∧ w' = w := by
  cases h1 : (c == 32)
  · cases h2 : (c == 9)
    · cases h3 : (c == 10)
      · have hr : Hid (isWS c = (c == 13)) := by show isWS c = _; simp only [isWS, h1, h2, h3, Bool.false_or]
        go_enter Try.func39, Try.ntmps39
        go_wp2
        go_ret
        exact ⟨by rw [hr.out]; rfl, rfl⟩
      · have hr : Hid (isWS c = true) := by show isWS c = _; simp only [isWS, h3, Bool.or_true, Bool.true_or]
        go_enter Try.func39, Try.ntmps39
        go_wp2
        go_ret
        exact ⟨by rw [hr.out]; rfl, rfl⟩
    · have hr : Hid (isWS c = true) := by show isWS c = _; simp only [isWS, h2, Bool.or_true, Bool.true_or]
      go_enter Try.func39, Try.ntmps39
      go_wp2
      go_ret
      exact ⟨by rw [hr.out]; rfl, rfl⟩
  · have hr : Hid (isWS c = true) := by show isWS c = _; simp only [isWS, h1, Bool.true_or]
    go_enter Try.func39, Try.ntmps39
    go_wp2
    go_ret
    exact ⟨by rw [hr.out]; rfl, rfl⟩

theorem isHex_any (c : Int) (w : World) :
    Calls Try.prog 31 #[.int .u8 c] w fun e w' => e = .returned (.bool (isHex c)) ∧ w' = w := by
  by_cases h1 : 48 ≤ c
  · by_cases h2 : c ≤ 57
    · have hr : Hid (isHex c = true) := by show isHex c = _; simp [isHex]; omega
      go_enter Try.func31, Try.ntmps31
      go_wp2
      go_ret
      exact ⟨by rw [hr.out]; rfl, rfl⟩
    · by_cases h3 : 97 ≤ c
      · by_cases h4 : c ≤ 102
        · have hr : Hid (isHex c = true) := by show isHex c = _; simp [isHex]; omega
          go_enter Try.func31, Try.ntmps31
          go_wp2
          go_ret
          exact ⟨by rw [hr.out]; rfl, rfl⟩
        · have hr : Hid (isHex c = false) := by show isHex c = _; simp [isHex]; omega
          have h5 : 65 ≤ c := by omega
          have h6 : ¬ c ≤ 70 := by omega
          go_enter Try.func31, Try.ntmps31
          go_wp2
          go_ret
          exact ⟨by rw [hr.out]; simp, rfl⟩
      · by_cases h5 : 65 ≤ c
        · by_cases h6 : c ≤ 70
          · have hr : Hid (isHex c = true) := by show isHex c = _; simp [isHex]; omega
            go_enter Try.func31, Try.ntmps31
            go_wp2
            go_ret
            exact ⟨by rw [hr.out]; rfl, rfl⟩
          · have hr : Hid (isHex c = false) := by show isHex c = _; simp [isHex]; omega
            go_enter Try.func31, Try.ntmps31
            go_wp2
            go_ret
            exact ⟨by rw [hr.out]; rfl, rfl⟩
        · have hr : Hid (isHex c = false) := by show isHex c = _; simp [isHex]; omega
          go_enter Try.func31, Try.ntmps31
          go_wp2
          go_ret
          exact ⟨by rw [hr.out]; rfl, rfl⟩
  · have hr : Hid (isHex c = false) := by show isHex c = _; simp [isHex]; omega
    go_enter Try.func31, Try.ntmps31
    go_wp2
    go_ret
    exact ⟨by rw [hr.out]; rfl, rfl⟩

/-- the text lies in memory: n bytes from place off of block b on -/
def Cells (b off n : Nat) (t : Nat → Int) (w : World) : Prop := ∀ j : Nat, j < n → w.cell? ⟨b, off + j, none⟩ = some (.int .u8 (t j))

section
variable {b off n cap : Nat} {t : Nat → Int}

set_option maxHeartbeats 400000 in
theorem skipWS_any (i : Int) (h0 : 0 ≤ i) (hi : i ≤ n) (hn : n ≤ 1048576) (w : World) (hc : Cells b off n t w) :
    Calls Try.prog 26 #[.slice (some ⟨b, off, none⟩) n cap, .int .i64 i] w fun e w' => ∃ j : Nat, e = .returned (.int .i64 j) ∧ w' = w ∧ i.toNat ≤ j ∧ j ≤ n ∧ Pass n t i.toNat j := by
  obtain ⟨p, rfl⟩ := Int.eq_ofNat_of_zero_le h0
  rw [Int.toNat_natCast]
  go_enter Try.func26, Try.ntmps26
  go_wp2
  go_loop [1] (fun v => ∃ k : Nat, p ≤ k ∧ k ≤ n ∧ v = .int .i64 k ∧ Pass n t p k) (fun v => n - (intOf v).toNat)
  case atStart => exact ⟨p, Nat.le_refl _, by omega, rfl, Pass.rfl⟩
  case round =>
    obtain ⟨k, hk1, hk2, rfl, hp⟩ := hrel
    by_cases hlt : k < n
    · have hck := hc k hlt
      have hdull : Hid (isWS (t k) = true → Dull (t k)) := isWS_dull
      go_wp2_with fail
      refine (isWS_any (t k) _).mono ?_
      rintro e w1 ⟨rfl, rfl⟩
      generalize isWS (t k) = r at *
      cases r
      · go_wp2
        go_ret
        exact ⟨k, rfl, rfl, hk1, hk2, hp⟩
      · go_wp2
        go_round
        case rel => exact ⟨k + 1, by omega, by omega, by go_num, hp.trans (Pass.dull hlt (hdull.out trivial))⟩
        case measure => simp [intOf]; omega
    · have hb : decide ((k : Int) < (n : Int)) = false := decide_eq_false (by omega)
      go_wp2
      go_ret
      exact ⟨k, rfl, rfl, hk1, hk2, hp⟩

theorem digit_dull {c : Int} (h1 : 48 ≤ c) (h2 : c ≤ 57) : Dull c := by
  refine ⟨?_, ?_, ?_, ?_, ?_⟩ <;> omega

set_option maxHeartbeats 400000 in
theorem digits_any (i : Int) (h0 : 0 ≤ i) (hi : i ≤ n) (hn : n ≤ 1048576) (w : World) (hc : Cells b off n t w) :
    Calls Try.prog 42 #[.slice (some ⟨b, off, none⟩) n cap, .int .i64 i] w fun e w' => ∃ j : Nat, e = .returned (.int .i64 j) ∧ w' = w ∧ i.toNat ≤ j ∧ j ≤ n ∧ Pass n t i.toNat j := by
  obtain ⟨p, rfl⟩ := Int.eq_ofNat_of_zero_le h0
  rw [Int.toNat_natCast]
  go_enter Try.func42, Try.ntmps42
  go_wp2
  go_loop [1] (fun v => ∃ k : Nat, p ≤ k ∧ k ≤ n ∧ v = .int .i64 k ∧ Pass n t p k) (fun v => n - (intOf v).toNat)
  case atStart => exact ⟨p, Nat.le_refl _, by omega, rfl, Pass.rfl⟩
  case round =>
    obtain ⟨k, hk1, hk2, rfl, hp⟩ := hrel
    by_cases hlt : k < n
    · have hck := hc k hlt
      by_cases h1 : 48 ≤ t k
      · by_cases h2 : t k ≤ 57
        · have hd := hp.trans (Pass.dull hlt (digit_dull h1 h2))
          go_wp2
          go_round
          case rel => exact ⟨k + 1, by omega, by omega, by go_num, hd⟩
          case measure => simp [intOf]; omega
        · go_wp2
          go_ret
          exact ⟨k, rfl, rfl, hk1, hk2, hp⟩
      · go_wp2
        go_ret
        exact ⟨k, rfl, rfl, hk1, hk2, hp⟩
    · have hb : decide ((k : Int) < (n : Int)) = false := decide_eq_false (by omega)
      go_wp2
      go_ret
      exact ⟨k, rfl, rfl, hk1, hk2, hp⟩
end

end Go.Proofs.Qxb6600009a.Scan
