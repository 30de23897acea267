/-
  Seat b6600009a: the contract of b1String: a string that it takes is one that skipString goes through to the same end.
-/
import Derived.Test.Qxb6600009aScan
namespace Go.Proofs.Qxb6600009a.Scan
open Go.ChangeShapes Go.WideShapes Go.ChangeAt Go.RowKit
open Plain
section
variable {b off n cap : Nat} {t : Nat → Int}

/-- what a recogniser hands back: a place and a yes or no; at a yes the scan goes through to that place -/
def Rec (n : Nat) (t : Nat → Int) (p : Nat) (e : Ending) : Prop :=
  ∃ (r : Nat) (ok : Bool), e = .returned (.tuple #[.int .i64 r, .bool ok]) ∧ (ok = true → p < r ∧ r ≤ n ∧ Pass n t p r)

theorem Rec.no {p : Nat} : Rec n t p (.returned (.tuple #[.int .i64 0, .bool false])) := ⟨0, false, rfl, fun h => by cases h⟩
theorem Rec.yes {p r : Nat} (h1 : p < r) (h2 : r ≤ n) (h3 : Pass n t p r) : Rec n t p (.returned (.tuple #[.int .i64 r, .bool true])) := ⟨r, true, rfl, fun _ => ⟨h1, h2, h3⟩⟩

theorem esc_cases (c : Int) :
    ((c == 34) = true) ∨
    ((c == 34) = false ∧ (c == 92) = true) ∨
    ((c == 34) = false ∧ (c == 92) = false ∧ (c == 47) = true) ∨
    ((c == 34) = false ∧ (c == 92) = false ∧ (c == 47) = false ∧ (c == 98) = true) ∨
    ((c == 34) = false ∧ (c == 92) = false ∧ (c == 47) = false ∧ (c == 98) = false ∧ (c == 102) = true) ∨
    ((c == 34) = false ∧ (c == 92) = false ∧ (c == 47) = false ∧ (c == 98) = false ∧ (c == 102) = false ∧ (c == 110) = true) ∨
    ((c == 34) = false ∧ (c == 92) = false ∧ (c == 47) = false ∧ (c == 98) = false ∧ (c == 102) = false ∧ (c == 110) = false ∧ (c == 114) = true) ∨
    ((c == 34) = false ∧ (c == 92) = false ∧ (c == 47) = false ∧ (c == 98) = false ∧ (c == 102) = false ∧ (c == 110) = false ∧ (c == 114) = false ∧ (c == 116) = true) ∨
    ((c == 34) = false ∧ (c == 92) = false ∧ (c == 47) = false ∧ (c == 98) = false ∧ (c == 102) = false ∧ (c == 110) = false ∧ (c == 114) = false ∧ (c == 116) = false) := by
  simp only [beq_iff_eq, beq_eq_false_iff_ne, ne_eq]
  omega

theorem bne_t {c k : Int} (h : (c == k) = false) : (c != k) = true := by simp [bne, h]
theorem bne_f {c k : Int} (h : (c == k) = true) : (c != k) = false := by simp [bne, h]

set_option maxRecDepth 100000 in
set_option maxHeartbeats 2000000 in
theorem string_any (i : Int) (h0 : 0 ≤ i) (hn : n ≤ 1048576) (w : World) (hc : Cells b off n t w) :
    Calls Try.prog 33 #[.slice (some ⟨b, off, none⟩) n cap, .int .i64 i] w fun e w' => Rec n t i.toNat e ∧ w' = w := by
  obtain ⟨p, rfl⟩ := Int.eq_ofNat_of_zero_le h0
  rw [Int.toNat_natCast]
  by_cases hp : p < n
  · have hcp := hc p hp
    have hb0 : decide ((p : Int) < 0) = false := decide_eq_false (by omega)
    have hb1 : decide ((n : Int) ≤ (p : Int)) = false := decide_eq_false (by omega)
    have hb2 : decide (n ≤ p) = false := decide_eq_false (by omega)
    cases hq : (t p == 34)
    · have hqn := bne_t hq
      go_enter Try.func33, Try.ntmps33
      go_wp2
      go_ret2
      exact ⟨Rec.no, rfl⟩
    · have hq' : Hid (t p = 34) := beq_iff_eq.1 hq
      have hqn := bne_f hq
      go_enter Try.func33, Try.ntmps33
      go_wp2
      go_loop [1, 6, 7, 8] (fun v _ _ _ => ∃ k : Nat, p < k ∧ k ≤ n ∧ v = .int .i64 k ∧ Hid (SS n t (p + 1) = SS n t k)) (fun v _ _ _ => n - (intOf v).toNat)
      case atStart => exact ⟨p + 1, by omega, by omega, by go_num, (rfl : SS n t (p + 1) = SS n t (p + 1))⟩
      case round =>
        obtain ⟨k, hk1, hk2, rfl, hs⟩ := hrel
        by_cases hlt : k < n
        · have hck := hc k hlt
          cases h1 : (t k == 34)
          · have h1' : Hid (t k ≠ 34) := beq_eq_false_iff_ne.1 h1
            by_cases h2 : t k < 32
            · go_wp2
              go_ret2
              exact ⟨Rec.no, rfl⟩
            · cases h3 : (t k == 92)
              · have h3' : Hid (t k ≠ 92) := beq_eq_false_iff_ne.1 h3
                have h3n := bne_t h3
                have hs' : Hid (SS n t (p + 1) = SS n t (k + 1)) := hs.out.trans (SS_plain hlt h3'.out h1'.out)
                go_wp2
                go_round
                case rel => exact ⟨k + 1, by omega, by omega, by go_num, hs'⟩
                case measure => simp [intOf]; omega
              · have h3' : Hid (t k = 92) := beq_iff_eq.1 h3
                have h3n := bne_f h3
                by_cases h4 : k + 1 < n
                · have hck1 := hc (k + 1) h4
                  have hs' : Hid (SS n t (p + 1) = SS n t (k + 2)) := hs.out.trans (SS_esc hlt h3'.out)
                  rcases esc_cases (t (k + 1)) with e0 | ⟨e0, e1⟩ | ⟨e0, e1, e2⟩ | ⟨e0, e1, e2, e3⟩ | ⟨e0, e1, e2, e3, e4⟩ | ⟨e0, e1, e2, e3, e4, e5⟩ | ⟨e0, e1, e2, e3, e4, e5, e6⟩ | ⟨e0, e1, e2, e3, e4, e5, e6, e7⟩ | ⟨e0, e1, e2, e3, e4, e5, e6, e7⟩
                  iterate 8
                    · go_wp2
                      go_round
                      case rel => exact ⟨k + 2, by omega, by omega, by go_num, hs'⟩
                      case measure => simp [intOf]; omega
                  cases hu : (t (k + 1) == 117)
                  · have hun := bne_t hu
                    go_wp2
                    go_ret2
                    exact ⟨Rec.no, rfl⟩
                  · have hun := bne_f hu
                    by_cases h5 : k + 5 < n
                    · have h5' : decide ((n : Int) ≤ (k : Int) + 5) = false := decide_eq_false (by omega)
                      go_wp2
                      go_loop [8] (fun v => ∃ m : Nat, k + 2 ≤ m ∧ m ≤ k + 6 ∧ v = .int .i64 m ∧ Hid (SS n t (k + 2) = SS n t m)) (fun v => k + 6 - (intOf v).toNat)
                      case atStart => exact ⟨k + 2, by omega, by omega, by go_num, (rfl : SS n t (k + 2) = SS n t (k + 2))⟩
                      case round =>
                        obtain ⟨m, hm1, hm2, rfl, hsm⟩ := hrel
                        by_cases hm : m < k + 6
                        · have hcm := hc m (by omega)
                          have hm' : decide ((m : Int) < (k : Int) + 6) = true := decide_eq_true (by omega)
                          have hx : Hid (isHex (t m) = true → SS n t m = SS n t (m + 1)) := fun h => SS_plain (by omega) (isHex_plain h).1 (isHex_plain h).2
                          go_wp2_with fail
                          refine (isHex_any (t m) _).mono ?_
                          rintro e w1 ⟨rfl, rfl⟩
                          generalize isHex (t m) = r at *
                          cases r
                          · go_wp2
                            go_ret2
                            exact ⟨Rec.no, rfl⟩
                          · go_wp2
                            go_round
                            case rel => exact ⟨m + 1, by omega, by omega, by go_num, (hsm.out.trans (hx.out trivial) : SS n t (k + 2) = SS n t (m + 1))⟩
                            case measure => simp [intOf]; omega
                        · have hm' : decide ((m : Int) < (k : Int) + 6) = false := decide_eq_false (by omega)
                          obtain rfl : m = k + 6 := by omega
                          have hs6 : Hid (SS n t (p + 1) = SS n t (k + 6)) := hs'.out.trans hsm.out
                          go_wp2
                          go_round
                          case rel => exact ⟨k + 6, by omega, by omega, by go_num, hs6⟩
                          case measure => simp [intOf]; omega
                    · have h5' : decide ((n : Int) ≤ (k : Int) + 5) = true := decide_eq_true (by omega)
                      go_wp2
                      go_ret2
                      exact ⟨Rec.no, rfl⟩
                · have h4' : (n : Int) ≤ (k : Int) + 1 := by omega
                  go_wp2
                  go_ret2
                  exact ⟨Rec.no, rfl⟩
          · have h1' : Hid (t k = 34) := beq_iff_eq.1 h1
            have hfin : Hid (Pass n t p (k + 1)) := Pass.string hp hq'.out (hs.out.trans (SS_quote hlt h1'.out))
            go_wp2
            go_ret2
            exact ⟨Rec.yes (r := k + 1) (by omega) (by omega) hfin.out, rfl⟩
        · go_wp2
          go_ret2
          exact ⟨Rec.no, rfl⟩
  · have hb : decide ((n : Int) ≤ (p : Int)) = true := decide_eq_true (by omega)
    go_enter Try.func33, Try.ntmps33
    go_wp2
    go_ret2
    exact ⟨Rec.no, rfl⟩

end
end Go.Proofs.Qxb6600009a.Scan
