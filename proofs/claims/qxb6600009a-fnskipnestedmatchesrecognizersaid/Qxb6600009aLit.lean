/-
  Seat b6600009a: the contract of b1Literal.
-/
import Derived.Test.Qxb6600009aStr
namespace Go.Proofs.Qxb6600009a.Scan
open Go.ChangeShapes Go.WideShapes Go.ChangeAt Go.RowKit
open Plain
section
variable {b off n cap : Nat} {t : Nat → Int}

set_option maxRecDepth 100000 in
set_option maxHeartbeats 2000000 in
theorem literal_any (s : ByteArray) (hs0 : 0 < s.size) (hs1 : s.size ≤ 16) (hd : Hid (∀ (j : Nat) (h : j < s.size), Dull (s[j].toNat : Int)))
    (i : Int) (h0 : 0 ≤ i) (hi : i ≤ n) (hn : n ≤ 1048576) (w : World) (hc : Cells b off n t w) :
    Calls Try.prog 36 #[.slice (some ⟨b, off, none⟩) n cap, .int .i64 i, .string s] w fun e w' => Rec n t i.toNat e ∧ ∃ nd, w' = w.drewN nd := by
  obtain ⟨p, rfl⟩ := Int.eq_ofNat_of_zero_le h0
  rw [Int.toNat_natCast]
  by_cases hr : n - p < s.size
  · have hb : decide ((n : Int) - (p : Int) < (s.size : Int)) = true := decide_eq_true (by omega)
    go_enter Try.func36, Try.ntmps36
    go_wp2
    go_ret2
    exact ⟨Rec.no, 0, rfl⟩
  · have hb : decide ((n : Int) - (p : Int) < (s.size : Int)) = false := decide_eq_false (by omega)
    go_enter Try.func36, Try.ntmps36
    go_wp2
    go_loopw [8] (fun v wr => ∃ k nd : Nat, k ≤ s.size ∧ v = .int .i64 k ∧ wr = w.drewN nd ∧ Pass n t p (p + k)) (fun v _ => s.size - (intOf v).toNat)
    case atStart => exact ⟨0, 0, by omega, rfl, rfl, Pass.rfl⟩
    case round =>
      obtain ⟨k, nd, hk, rfl, rfl, hp⟩ := hrel
      by_cases hk' : k < s.size
      · have hck := hc (p + k) (by omega)
        have hb1 : (0 : Int) ≤ (p : Int) + (k : Int) := by omega
        have hb2 : (p : Int) + (k : Int) < (n : Int) := by omega
        have hb3 : (0 : Int) ≤ (k : Int) := by omega
        have hb4 : (k : Int) < (s.size : Int) := by omega
        cases hx : (t (p + k) == (s[k].toNat : Int))
        · have hxn := bne_t hx
          go_wp2
          go_quiet (fail)
          go_wp2
          go_ret2
          exact ⟨Rec.no, nd + nq, World.drewN_drewN ..⟩
        · have hxn := bne_f hx
          have hp' : Hid (Pass n t p (p + (k + 1))) := hp.trans (Pass.dull (by omega) (by rw [beq_iff_eq.1 hx]; exact hd.out k hk'))
          go_wp2
          go_quiet (fail)
          go_wp2
          go_roundw
          case rel => exact ⟨k + 1, _, by omega, by go_num, rfl, hp'.out⟩
          case measure => simp [intOf]; omega
      · have hb4 : decide ((k : Int) < (s.size : Int)) = false := decide_eq_false (by omega)
        obtain rfl : k = s.size := by omega
        go_wp2
        go_ret2
        exact ⟨Rec.yes (r := p + s.size) (by omega) (by omega) hp, _, rfl⟩
end
end Go.Proofs.Qxb6600009a.Scan
