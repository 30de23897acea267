/-
  Seat b6600009a: the contract of b1Number.
-/
import Derived.Test.Qxb6600009aStr
import Derived.Deep.DeepCutAuto
namespace Go.Proofs.Qxb6600009a.Scan
open Go.ChangeShapes Go.WideShapes Go.ChangeAt Go.RowKit
open Plain
section
variable {b off n cap : Nat} {t : Nat → Int}

theorem dull_of {c k : Int} (h : (c == k) = true) (hk : Dull k) : Dull c := by rw [beq_iff_eq.1 h]; exact hk

set_option maxRecDepth 100000 in
set_option maxHeartbeats 2000000 in
theorem number_any (i : Int) (h0 : 0 ≤ i) (hi : i ≤ n) (hn : n ≤ 1048576) (w : World) (hc : Cells b off n t w) :
    Calls Try.prog 37 #[.slice (some ⟨b, off, none⟩) n cap, .int .i64 i] w fun e w' => Rec n t i.toNat e ∧ w' = w := by
  obtain ⟨p, rfl⟩ := Int.eq_ofNat_of_zero_le h0
  rw [Int.toNat_natCast]
  obtain ⟨m1, hm1⟩ : ∃ m : Bool, Hid (m = (decide (p < n) && (t p == 45))) := ⟨_, rfl⟩
  go_enter Try.func37, Try.ntmps37
  go_upto_region 1 with fail
  go_cut [18] (fun v wc => v = .bool m1 ∧ w = wc)
  case first =>
    by_cases hp : p < n
    · have hcp := hc p hp
      have hr : Hid (m1 = (t p == 45)) := by show m1 = _; rw [hm1.out, decide_eq_true hp, Bool.true_and]
      go_wp2
      go_meet
      case rel => exact ⟨by rw [hr.out], rfl⟩
    · have hb : decide ((p : Int) < (n : Int)) = false := decide_eq_false (by omega)
      have hr : Hid (m1 = false) := by show m1 = _; rw [hm1.out, decide_eq_false hp, Bool.false_and]
      go_wp2
      go_meet
      case rel => exact ⟨by rw [hr.out], rfl⟩
  case rest =>
    obtain ⟨rfl, rfl⟩ := hcut
    go_upto_if 18 with fail
    go_cut [1] (fun v wc => ∃ k : Nat, p ≤ k ∧ k ≤ n ∧ v = .int .i64 k ∧ w = wc ∧ Pass n t p k)
    case first =>
      cases m1
      · go_wp2
        go_meet
        case rel => exact ⟨p, Nat.le_refl _, by omega, rfl, rfl, Pass.rfl⟩
      · obtain ⟨hp, hq⟩ : p < n ∧ (t p == 45) = true := by simpa using hm1.out.symm
        have hd : Hid (Pass n t p (p + 1)) := Pass.dull hp (dull_of hq (by refine ⟨?_, ?_, ?_, ?_, ?_⟩ <;> decide))
        clear hq
        go_wp2
        go_meet
        case rel => exact ⟨p + 1, by omega, by omega, by go_num, rfl, hd.out⟩
    case rest =>
      obtain ⟨k, hk1, hk2, rfl, rfl, hP⟩ := hcut
      clear hm1
      by_cases hk : k < n
      · have hck := hc k hk
        have hkb : decide ((n : Int) ≤ (k : Int)) = false := decide_eq_false (by omega)
        go_upto_if 29 with fail
        go_cut [1] (fun v wc => ∃ m : Nat, p < m ∧ m ≤ n ∧ v = .int .i64 m ∧ w = wc ∧ Pass n t p m)
        case first =>
          cases h48 : (t k == 48)
          · by_cases h49 : 49 ≤ t k
            · by_cases h57 : t k ≤ 57
              · have hd : Hid (Pass n t p (k + 1)) := hP.trans (Pass.dull hk (digit_dull (by omega) h57))
                go_wp2_with fail
                refine (digits_any ((k : Int) + 1) (by omega) (by omega) hn _ hc).mono ?_
                rintro e w1 ⟨j, rfl, rfl, hj1, hj2, hj3⟩
                rw [show ((k : Int) + 1).toNat = k + 1 from by omega] at hj1 hj3
                go_wp2
                go_meet
                case rel => exact ⟨j, by omega, hj2, rfl, rfl, hd.out.trans hj3⟩
              · go_wp2
                go_ret2
                exact ⟨Rec.no, rfl⟩
            · go_wp2
              go_ret2
              exact ⟨Rec.no, rfl⟩
          · have hd : Hid (Pass n t p (k + 1)) := hP.trans (Pass.dull hk (dull_of h48 (by refine ⟨?_, ?_, ?_, ?_, ?_⟩ <;> decide)))
            go_wp2
            go_meet
            case rel => exact ⟨k + 1, by omega, by omega, by go_num, rfl, hd.out⟩
        case rest =>
          clear hck hkb hk hP hk1 hk2
          obtain ⟨m, hm1, hm2, rfl, rfl, hM⟩ := hcut
          obtain ⟨d1, hd1⟩ : ∃ x : Bool, Hid (x = (decide (m < n) && (t m == 46))) := ⟨_, rfl⟩
          go_upto_region 10 with fail
          go_cut [58] (fun v wc => v = .bool d1 ∧ w = wc)
          case first =>
            by_cases hm : m < n
            · have hcm := hc m hm
              have hr : Hid (d1 = (t m == 46)) := by show d1 = _; rw [hd1.out, decide_eq_true hm, Bool.true_and]
              go_wp2
              go_meet
              case rel => exact ⟨by rw [hr.out], rfl⟩
            · have hb : decide ((m : Int) < (n : Int)) = false := decide_eq_false (by omega)
              have hr : Hid (d1 = false) := by show d1 = _; rw [hd1.out, decide_eq_false hm, Bool.false_and]
              go_wp2
              go_meet
              case rel => exact ⟨by rw [hr.out], rfl⟩
          case rest =>
            obtain ⟨rfl, rfl⟩ := hcut
            go_upto_if 58 with fail
            go_cut [1, 6] (fun v _ wc => ∃ k : Nat, p < k ∧ k ≤ n ∧ v = .int .i64 k ∧ w = wc ∧ Pass n t p k)
            case first =>
              cases d1
              · go_wp2
                go_meet
                case rel => exact ⟨m, hm1, hm2, rfl, rfl, hM⟩
              · obtain ⟨hm, hq⟩ : m < n ∧ (t m == 46) = true := by simpa using hd1.out.symm
                have hd : Hid (Pass n t p (m + 1)) := hM.trans (Pass.dull hm (dull_of hq (by refine ⟨?_, ?_, ?_, ?_, ?_⟩ <;> decide)))
                clear hq
                go_wp2_with fail
                refine (digits_any ((m : Int) + 1) (by omega) (by omega) hn _ hc).mono ?_
                rintro e w1 ⟨j, rfl, rfl, hj1, hj2, hj3⟩
                rw [show ((m : Int) + 1).toNat = m + 1 from by omega] at hj1 hj3
                by_cases hjm : j = m + 1
                · have hjb : ((j : Int) == (m : Int) + 1) = true := beq_iff_eq.2 (by omega)
                  go_wp2
                  go_ret2
                  exact ⟨Rec.no, rfl⟩
                · have hjb : ((j : Int) == (m : Int) + 1) = false := beq_eq_false_iff_ne.2 (by omega)
                  go_wp2
                  go_meet
                  case rel => exact ⟨j, by omega, hj2, rfl, rfl, hd.out.trans hj3⟩
            case rest =>
              clear hd1 hM hm1 hm2
              obtain ⟨k, hk1, hk2, rfl, rfl, hP⟩ := hcut
              obtain ⟨x1, hx1⟩ : ∃ x : Bool, Hid (x = (decide (k < n) && (t k == 101 || t k == 69))) := ⟨_, rfl⟩
              go_upto_region 15 with fail
              go_cut [85] (fun v wc => v = .bool x1 ∧ w = wc)
              case first =>
                by_cases hk : k < n
                · have hck := hc k hk
                  cases h101 : (t k == 101)
                  · have hr : Hid (x1 = (t k == 69)) := by show x1 = _; rw [hx1.out, decide_eq_true hk, h101, Bool.true_and, Bool.false_or]
                    go_wp2
                    go_meet
                    case rel => exact ⟨by rw [hr.out], rfl⟩
                  · have hr : Hid (x1 = true) := by show x1 = _; rw [hx1.out, decide_eq_true hk, h101]; rfl
                    go_wp2
                    go_meet
                    case rel => exact ⟨by rw [hr.out], rfl⟩
                · have hb : decide ((k : Int) < (n : Int)) = false := decide_eq_false (by omega)
                  have hr : Hid (x1 = false) := by show x1 = _; rw [hx1.out, decide_eq_false hk, Bool.false_and]
                  go_wp2
                  go_meet
                  case rel => exact ⟨by rw [hr.out], rfl⟩
              case rest =>
                obtain ⟨rfl, rfl⟩ := hcut
                cases x1
                · go_wp2
                  go_ret2
                  exact ⟨Rec.yes hk1 hk2 hP, rfl⟩
                · obtain ⟨hk, hq⟩ : k < n ∧ ((t k == 101 || t k == 69) = true) := by
                    have := hx1.out.symm; rw [Bool.and_eq_true] at this; exact ⟨of_decide_eq_true this.1, this.2⟩
                  have hdull : Dull (t k) := by
                    rcases Bool.or_eq_true_iff.1 hq with h | h
                    · exact dull_of h (by refine ⟨?_, ?_, ?_, ?_, ?_⟩ <;> decide)
                    · exact dull_of h (by refine ⟨?_, ?_, ?_, ?_, ?_⟩ <;> decide)
                  have hd : Hid (Pass n t p (k + 1)) := hP.trans (Pass.dull hk hdull)
                  clear hq hdull hx1 hP
                  obtain ⟨y1, hy1⟩ : ∃ x : Bool, Hid (x = (decide (k + 1 < n) && (t (k + 1) == 43 || t (k + 1) == 45))) := ⟨_, rfl⟩
                  go_upto_region 17 with fail
                  go_cut [105] (fun v wc => v = .bool y1 ∧ w = wc)
                  case first =>
                    by_cases hk' : k + 1 < n
                    · have hck := hc (k + 1) hk'
                      have hbb : (k : Int) + 1 < (n : Int) := by omega
                      cases h43 : (t (k + 1) == 43)
                      · have hr : Hid (y1 = (t (k + 1) == 45)) := by show y1 = _; rw [hy1.out, decide_eq_true hk', h43, Bool.true_and, Bool.false_or]
                        go_wp2
                        go_meet
                        case rel => exact ⟨by rw [hr.out], rfl⟩
                      · have hr : Hid (y1 = true) := by show y1 = _; rw [hy1.out, decide_eq_true hk', h43]; rfl
                        go_wp2
                        go_meet
                        case rel => exact ⟨by rw [hr.out], rfl⟩
                    · have hb : decide ((k : Int) + 1 < (n : Int)) = false := decide_eq_false (by omega)
                      have hr : Hid (y1 = false) := by show y1 = _; rw [hy1.out, decide_eq_false hk', Bool.false_and]
                      go_wp2
                      go_meet
                      case rel => exact ⟨by rw [hr.out], rfl⟩
                  case rest =>
                    obtain ⟨rfl, rfl⟩ := hcut
                    go_upto_if 105 with fail
                    go_cut [1] (fun v wc => ∃ m : Nat, p < m ∧ m ≤ n ∧ v = .int .i64 m ∧ w = wc ∧ Pass n t p m)
                    case first =>
                      cases y1
                      · go_wp2
                        go_meet
                        case rel => exact ⟨k + 1, by omega, by omega, by go_num, rfl, hd.out⟩
                      · obtain ⟨hk', hq⟩ : k + 1 < n ∧ ((t (k + 1) == 43 || t (k + 1) == 45) = true) := by
                          have := hy1.out.symm; rw [Bool.and_eq_true] at this; exact ⟨of_decide_eq_true this.1, this.2⟩
                        have hdull : Dull (t (k + 1)) := by
                          rcases Bool.or_eq_true_iff.1 hq with h | h
                          · exact dull_of h (by refine ⟨?_, ?_, ?_, ?_, ?_⟩ <;> decide)
                          · exact dull_of h (by refine ⟨?_, ?_, ?_, ?_, ?_⟩ <;> decide)
                        have hd' : Hid (Pass n t p (k + 1 + 1)) := hd.out.trans (Pass.dull hk' hdull)
                        clear hq hdull
                        go_wp2
                        go_meet
                        case rel => exact ⟨k + 1 + 1, by omega, by omega, by go_num, rfl, hd'.out⟩
                    case rest =>
                      clear hy1 hd hk1 hk2
                      obtain ⟨m, hm1, hm2, rfl, rfl, hM⟩ := hcut
                      go_wp2_with fail
                      refine (digits_any (m : Int) (by omega) (by omega) hn _ hc).mono ?_
                      rintro e w1 ⟨j, rfl, rfl, hj1, hj2, hj3⟩
                      rw [Int.toNat_natCast] at hj1 hj3
                      cases hjm : ((j : Int) == (m : Int))
                      · go_wp2
                        go_ret2
                        exact ⟨Rec.yes (by omega) hj2 (hM.trans hj3), rfl⟩
                      · go_wp2
                        go_ret2
                        exact ⟨Rec.no, rfl⟩
      · have hkb : decide ((n : Int) ≤ (k : Int)) = true := decide_eq_true (by omega)
        go_wp2
        go_ret2
        exact ⟨Rec.no, rfl⟩
end
end Go.Proofs.Qxb6600009a.Scan
