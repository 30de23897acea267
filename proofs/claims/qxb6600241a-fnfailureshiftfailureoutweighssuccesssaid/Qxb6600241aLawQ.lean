/-
  Seat b6600241a: the walk of FnFailureShiftFailuresFromACleanRecordQuadrupleTheOdds.
-/
import Derived.Test.Qxb6600241aWalks
import Derived.Test.Qxb6600241aQuad
namespace Go.Proofs.Qxb6600241a.Shift
open Go.ChangeShapes Go.WideShapes Go.ChangeAt Go.RowKit
open Fl

theorem frozen_none {w : World} {a : Addr} (h : w.heap.size ≤ a.block) : w.frozen? a = false := by
  unfold World.frozen?
  rw [Array.getElem?_eq_none h]
theorem frozen_alloc (w : World) (c : Array Value) (t : TypeId) (x : Addr) : (w.alloc (.cells c t)).frozen? x = w.frozen? x := by
  by_cases hx : x.block = w.heap.size
  · rw [frozen_none (w := w) (by omega)]
    have e : (w.alloc (.cells c t)).heap[x.block]? = some (.cells c t (0, 0)) := by
      rw [hx]; show (w.heap.push _)[w.heap.size]? = _; simp
    unfold World.frozen?
    rw [e]
    simp
  · exact World.frozen?_alloc_old _ _ _ hx
/-- at most new blocks -/
theorem Upd.below {S B : Nat} {w w' : World} (h : Upd S w w') (hB : B ≤ S) : Below B w w' := ⟨h.os, h.tape, h.out, by rw [h.sz]; exact Nat.le_refl _, fun k hk => h.blk k (by omega)⟩
theorem grown_of {w a b : World} (hb : Below w.heap.size w a) (hf : ∀ x, a.frozen? x = w.frozen? x) (h : Below w.heap.size a b) (hf' : ∀ x, b.frozen? x = a.frozen? x) : Grown w b :=
  ⟨(hb.trans h).frame _, fun x => (hf' x).trans (hf x), (hb.trans h).size⟩

theorem new_sh (o r h : Nat) (w : World) : Sh w.heap.size (w.alloc (.cells #[F o, F r, F h] 59)) o r h (w.alloc (.cells #[F o, F r, F h] 59)) :=
  ⟨World.cell?_alloc_new .., World.cell?_alloc_new .., World.cell?_alloc_new .., fun _ => World.frozen?_alloc_new .., Upd.refl _ _⟩

set_option maxRecDepth 100000 in
set_option maxHeartbeats 4000000 in
theorem lawQ_in (score fade weight : Nat) (n : Int) (w : World) (n0 : 0 ≤ n) (n1 : n ≤ 65536)
    (g1 : (FloatKind.f64.format.order score 4606822130829827768 == some .gt || FloatKind.f64.format.order score 4606822130829827768 == some .eq) = true)
    (g2 : (FloatKind.f64.format.order fade 0 == some .gt || FloatKind.f64.format.order fade 0 == some .eq) = true)
    (g3 : (FloatKind.f64.format.order fade 4607182418800017408 == some .lt || FloatKind.f64.format.order fade 4607182418800017408 == some .eq) = true) :
    Calls Try.prog 6 #[F score, F fade, F weight, .int .i64 n] w fun e w' => e = .returned (.bool true) ∧ Grown w w' := by
  obtain ⟨s1, _, s2⟩ := of_ge g1
  obtain ⟨f1, _, f2⟩ := of_ge g2
  obtain ⟨_, _, f3⟩ := of_le g3
  rw [show K 0 = 0 from by decide] at f2
  obtain ⟨T, dn, G, hT, hG, -⟩ := bar weight
  have hb0 : decide (n < 0) = false := decide_eq_false (by omega)
  have hb1 : decide (65536 < n) = false := decide_eq_false (by omega)
  have hsh := new_sh 0 0 0 w
  have hbel : Below w.heap.size w (w.alloc (.cells #[F 0, F 0, F 0] 59)) := (Below.refl _ _).alloc (Nat.le_refl _) _
  have hfz := frozen_alloc w #[F 0, F 0, F 0] 59
  go_enter Try.func6, Try.ntmps6
  go_wp2_with fail
  refine (new_any 0 0 0 _).mono ?_
  rintro e w1 ⟨rfl, rfl⟩
  have Hsh : Hid (Sh w.heap.size (w.alloc (.cells #[F 0, F 0, F 0] 59)) 0 0 0 (w.alloc (.cells #[F 0, F 0, F 0] 59))) := hsh
  have Hbel : Hid (Below w.heap.size w (w.alloc (.cells #[F 0, F 0, F 0] 59))) := hbel
  have Hfz : Hid (∀ x, (w.alloc (.cells #[F 0, F 0, F 0] 59)).frozen? x = w.frozen? x) := hfz
  clear hsh hbel hfz
  generalize hW : w.alloc (.cells #[F 0, F 0, F 0] 59) = W at *
  have HW : Hid (_ = _) := hW
  clear hW
  go_wp2_with fail
  go_loopw [10, 11, 12, 13, 14, 15] (fun vp vi _ _ _ _ wr => ∃ j p o h : Nat, (j : Int) ≤ n ∧ vi = .int .i64 ((j : Int) + 1) ∧ vp = F p ∧ Inv j p o h ∧ Sh w.heap.size W o 0 h wr) (fun _ vi _ _ _ _ _ => (65538 - intOf vi).toNat)
  case atStart => exact ⟨0, one, 0, 0, by omega, rfl, rfl, .inl ⟨rfl, rfl, rfl, rfl⟩, Hsh.out⟩
  case round =>
    obtain ⟨j, p, o, h, hj, rfl, rfl, hinv, hw⟩ := hrel
    by_cases hlt : (j : Int) + 1 ≤ n
    · obtain ⟨q, t, rS, m, h', sh, p', st, b1, R⟩ := round hinv (by omega) s1 s2 f1 f2 f3
      have r1 : ∀ w, (binOp .mul 42 (F p) (F 4616189618054758400)).run Try.prog w = .ok (F p') w := run_op .mul 42 (x := p) (y := four) (r := p') R.hp
      have k1 : (FloatKind.f64.format.order p' p' != some .eq) = false := R.g1
      have k2 : (FloatKind.f64.format.order 0 0 != some .eq) = false := by decide +kernel
      have k3 : (FloatKind.f64.format.order h' 4607182418800017408 == some .gt || FloatKind.f64.format.order h' 4607182418800017408 == some .eq) = true := R.g2
      have k4 : (FloatKind.f64.format.order h' (floatOfInt .f64 ((j : Int) + 1)) == some .lt || FloatKind.f64.format.order h' (floatOfInt .f64 ((j : Int) + 1)) == some .eq) = true := by
        have e : floatOfInt .f64 ((j : Int) + 1) = ofN (j + 1) := by
          show Ieee.double.write (.number (decide ((j : Int) + 1 < 0)) ((j : Int) + 1).natAbs 0) = Ieee.double.write (.number false (j + 1) 0)
          rw [decide_eq_false (by omega), show ((j : Int) + 1).natAbs = j + 1 from by omega]
        rw [e]; exact R.g3
      have c : Calls Try.prog 26 #[.pointer (some ⟨w.heap.size, 0, none⟩), F score, F 0, F fade, F weight] wr fun e w' => e = .returned (.bool (G p')) ∧ Sh w.heap.size W p' 0 h' w' :=
        zzAdd_any R.hq R.nq R.hrate (by decide +kernel) R.no R.hst R.ho (by cases b1 <;> rfl) rfl R.e1 R.e2 R.e3 (by decide +kernel) R.e5 (by decide +kernel) R.e7 R.e8 (show Ieee.double.div c02 c005 = some four by decide +kernel) (b2 := true) (by decide +kernel) rfl R.e10 hT hG W wr hw
      have Hinv : Hid (Inv (j + 1) p' p' h') := R.inv
      have C : Hid (Calls Try.prog 26 #[.pointer (some ⟨w.heap.size, 0, none⟩), F score, F 0, F fade, F weight] wr fun e w' => e = .returned (.bool (G p')) ∧ Sh w.heap.size W p' 0 h' w') := c
      clear R hinv hw c
      go_wp2_with fail
      refine C.out.mono ?_
      rintro e w2 ⟨rfl, hw2⟩
      go_wp2_with fail
      refine (fields_any (w2.drewN dn) hw2.c0 hw2.c1 hw2.c2).mono ?_
      rintro e w3 ⟨rfl, nn, rfl⟩
      go_wp2
      go_roundw
      case rel => exact ⟨j + 1, p', p', h', by omega, by go_num, rfl, Hinv.out, (hw2.drewN _)⟩
      case measure => simp [intOf]; omega
    · have hd : decide ((j : Int) + 1 ≤ n) = false := decide_eq_false hlt
      go_wp2
      go_ret
      exact ⟨rfl, grown_of Hbel.out Hfz.out (hw.upd.below (Nat.le_refl _)) hw.upd.fro⟩

set_option maxRecDepth 100000 in
/-- the law at every input -/
theorem lawQ (score fade weight : Nat) (n : Int) (w : World) (n0 : -9223372036854775808 ≤ n) (n1 : n ≤ 9223372036854775807) :
    Calls Try.prog 6 #[F score, F fade, F weight, .int .i64 n] w fun e w' => e = .returned (.bool true) ∧ Grown w w' := by
  by_cases h0 : n < 0
  · have hb0 : decide (n < 0) = true := decide_eq_true h0
    go_enter Try.func6, Try.ntmps6
    go_wp2
    go_ret
    exact ⟨rfl, Grown.refl _⟩
  have hb0 : decide (n < 0) = false := decide_eq_false h0
  by_cases h1 : 65536 < n
  · have hb1 : decide (65536 < n) = true := decide_eq_true h1
    go_enter Try.func6, Try.ntmps6
    go_wp2
    go_ret
    exact ⟨rfl, Grown.refl _⟩
  have hb1 : decide (65536 < n) = false := decide_eq_false h1
  cases g1 : (FloatKind.f64.format.order score 4606822130829827768 == some .gt || FloatKind.f64.format.order score 4606822130829827768 == some .eq)
  · go_enter Try.func6, Try.ntmps6
    go_wp2
    go_ret
    exact ⟨rfl, Grown.refl _⟩
  cases g2 : (FloatKind.f64.format.order fade 0 == some .gt || FloatKind.f64.format.order fade 0 == some .eq)
  · go_enter Try.func6, Try.ntmps6
    go_wp2
    go_ret
    exact ⟨rfl, Grown.refl _⟩
  cases g3 : (FloatKind.f64.format.order fade 4607182418800017408 == some .lt || FloatKind.f64.format.order fade 4607182418800017408 == some .eq)
  · go_enter Try.func6, Try.ntmps6
    go_wp2
    go_ret
    exact ⟨rfl, Grown.refl _⟩
  exact lawQ_in score fade weight n w (by omega) (by omega) g1 g2 g3
end Go.Proofs.Qxb6600241a.Shift
