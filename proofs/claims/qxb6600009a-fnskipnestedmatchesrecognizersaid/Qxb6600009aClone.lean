/-
  Seat b6600009a: the contracts of b1Clone, ZZSkipNested, the bound; then the law.
-/
import Derived.Test.Qxb6600009aSkip
import Derived.Lib.SliceRun
namespace Go.Proofs.Qxb6600009a.Scan
open Go.ChangeShapes Go.WideShapes Go.ChangeAt Go.RowKit
open Plain

theorem Try.info5 : (Try.prog.info? 5).map (fun i => (i.zero, i.size, i.bytes)) = some (some (.int .u8 0), 1, 1) := by kernel_rfl

/-- what the copying loop holds to behind k rounds: block B is the copy -/
structure Cp (B n : Nat) (t : Nat → Int) (w0 : World) (k : Nat) (w : World) : Prop where
  done : ∀ j : Nat, j < k → w.cell? ⟨B, j, none⟩ = some (.int .u8 (t j))
  room : ∀ j : Nat, j < n → ∃ x, w.cell? ⟨B, j, none⟩ = some x
  free : ∀ j : Nat, w.frozen? ⟨B, j, none⟩ = false
  below : Below B w0 w
  size : B < w.heap.size

theorem Cp.step {B n : Nat} {t : Nat → Int} {w0 w : World} {k : Nat} (h : Cp B n t w0 k w) (hk : k < n) : Cp B n t w0 (k + 1) (w.setCell ⟨B, k, none⟩ (.int .u8 (t k))) where
  done := fun j hj => by
    by_cases e : j = k
    · subst e; obtain ⟨x, hx⟩ := h.room j hk; exact World.cell?_setCell_same _ _ _ hx
    · rw [World.cell?_setCell_other]
      · exact h.done j (by omega)
      · intro e'; have e1 := congrArg Addr.off e'; simp only at e1; omega
  room := fun j hj => by obtain ⟨x, hx⟩ := h.room j hj; exact cell?_setCell_some hx
  free := fun j => by simpa using h.free j
  below := h.below.setCell (p := ⟨B, k, none⟩) (Nat.le_refl _) _
  size := by simpa [World.setCell] using h.size

section
variable {b off n cap : Nat} {t : Nat → Int}

set_option maxRecDepth 100000 in
set_option maxHeartbeats 2000000 in
theorem clone_any (hn : n ≤ 1048576) (w : World) (hb : b < w.heap.size) (hc : Cells b off n t w) :
    Calls Try.prog 11 #[.slice (some ⟨b, off, none⟩) n cap] w fun e w' => e = .returned (.slice (some ⟨w.heap.size, 0, none⟩) n n) ∧ Cp w.heap.size n t w n w' := by
  obtain ⟨i0, hi, hz0, hz1, hz2⟩ := info_parts Try.info5
  have hmk := fun w : World => run_make (P := Try.prog) w 22 5 i0 (.int .u8 0) Try.underlying22 hi hz0 .i64 .i64 (n : Int) (n : Int) (by omega) (by omega) (by rw [hz2]; omega) (by omega)
  simp only [Int.toNat_natCast, hz1, Nat.mul_one] at hmk
  clear hz0 hz1 hz2 hi
  have hnil := fun w : World => Lib.run_eql_slice_nil (P := Try.prog) w 22 5 (some ⟨b, off, none⟩) n cap 0 0 Try.underlying22
  obtain ⟨C, hC⟩ : ∃ C, Hid (C = madeCells (Value.int .u8 0).cells n) := ⟨_, rfl⟩
  have hmk' : ∀ w : World, (Instr.makeSlice 22 (.int .i64 n) (.int .i64 n)).run Try.prog w = .ok (.slice (some ⟨w.heap.size, 0, none⟩) n n) (w.alloc (.cells C 5)) := by rw [hC.out]; exact hmk
  have hCs : Hid (C.size = n) := by show C.size = n; rw [hC.out]; exact size_madeCells _ _
  clear hmk hC
  go_enter Try.func11, Try.ntmps11
  go_wp2
  go_loopw [4] (fun v wr => ∃ k : Nat, k ≤ n ∧ v = .int .i64 k ∧ Cp w.heap.size n t w k wr) (fun v _ => n - (intOf v).toNat)
  case atStart =>
    refine ⟨0, by omega, rfl, fun j hj => absurd hj (by omega), fun j hj => ?_, fun j => World.frozen?_alloc_new .., (Below.refl _ _).alloc (Nat.le_refl _) _, by simp⟩
    rw [World.cell?_alloc_new]
    exact ⟨_, Array.getElem?_eq_getElem (by rw [hCs.out]; exact hj)⟩
  case round =>
    obtain ⟨k, hk, rfl, hcp⟩ := hrel
    by_cases hlt : k < n
    · have hck : wr.cell? ⟨b, off + k, none⟩ = some (.int .u8 (t k)) := (hcp.below.cell hb).trans (hc k hlt)
      obtain ⟨x, hx⟩ := hcp.room k hlt
      have hfr := hcp.free k
      have hcp' := hcp.step hlt
      go_wp2
      go_roundw
      case rel => exact ⟨k + 1, by omega, by go_num, hcp'⟩
      case measure => simp [intOf]; omega
    · obtain rfl : k = n := by omega
      go_wp2
      go_ret
      exact ⟨rfl, hcp⟩

set_option maxRecDepth 100000 in
set_option maxHeartbeats 2000000 in
theorem zzSkipNested_any (p : Nat) (hp : p ≤ n) (hn : n ≤ 1048576) (w : World) (hb : b < w.heap.size) (hc : Cells b off n t w) :
    Calls Try.prog 24 #[.slice (some ⟨b, off, none⟩) n cap, .int .i64 p] w fun e w' => e = .returned (.int .i64 (SN n t p 0)) ∧ Below w.heap.size w w' := by
  have hst : St w.heap.size b off n cap t p (w.alloc (.cells #[.slice (some ⟨b, off, none⟩) n cap, .int .i64 p] 41)) :=
    ⟨fun j hj => (World.cell?_alloc_lt w _ ⟨b, off + j, none⟩ hb).trans (hc j hj), World.cell?_alloc_new .., World.cell?_alloc_new .., World.frozen?_alloc_new .., hb⟩
  have hbe : Below w.heap.size w (w.alloc (.cells #[.slice (some ⟨b, off, none⟩) n cap, .int .i64 p] 41)) := (Below.refl _ _).alloc (Nat.le_refl _) _
  go_enter Try.func24, Try.ntmps24
  go_wp2_with fail
  refine (skipNested_any p hp hn _ hst).mono ?_
  rintro e w1 ⟨rfl, hst1, hb1⟩
  have hc1 := hst1.c1
  have hb2 := hbe.trans hb1
  clear hst1 hb1 hbe hst
  go_wp2
  go_ret
  exact ⟨rfl, hb2⟩

theorem bound_le (a : Option Addr) (i : Int) (w : World) (h : n ≤ 1048576) :
    Calls Try.prog 22 #[.slice a n cap, .int .i64 i] w fun e w' => e = .returned (.bool true) ∧ w' = w := by
  go_enter Try.func22, Try.ntmps22
  go_wp2
  go_ret
  exact ⟨rfl, rfl⟩

theorem bound_gt (a : Option Addr) (i : Int) (w : World) (h : 1048576 < n) :
    Calls Try.prog 22 #[.slice a n cap, .int .i64 i] w fun e w' => e = .returned (.bool false) ∧ w' = w := by
  go_enter Try.func22, Try.ntmps22
  go_wp2
  go_ret
  exact ⟨rfl, rfl⟩

set_option maxRecDepth 100000 in
set_option maxHeartbeats 2000000 in
/-- the law where the place lies in the text -/
theorem law_in (p : Nat) (hp : p < n) (hn : n ≤ 1048576) (w : World) (hb : b < w.heap.size) (hc : Cells b off n t w) :
    Calls Try.prog 7 #[.slice (some ⟨b, off, none⟩) n cap, .int .i64 p] w fun e w' => e = .returned (.bool true) ∧ Below w.heap.size w w' := by
  have hcp := hc p hp
  have hb0 : decide ((p : Int) < 0) = false := decide_eq_false (by omega)
  have hb1 : decide ((n : Int) ≤ (p : Int)) = false := decide_eq_false (by omega)
  have hb2 : decide (n ≤ p) = false := decide_eq_false (by omega)
  obtain ⟨x1, hx1⟩ : ∃ x : Bool, Hid (x = (t p != 91 && t p != 123)) := ⟨_, rfl⟩
  go_enter Try.func7, Try.ntmps7
  go_wp2_with fail
  refine (bound_le _ _ _ hn).mono ?_
  rintro e w1 ⟨rfl, rfl⟩
  go_upto_region 7 with fail
  go_cut [33] (fun v wc => v = .bool x1 ∧ w1 = wc)
  case first =>
    cases h91 : (t p == 91)
    · have h91n := bne_t h91
      have hr : Hid (x1 = (t p != 123)) := by show x1 = _; rw [hx1.out, h91n, Bool.true_and]
      go_wp2
      go_meet
      case rel => exact ⟨by rw [hr.out], rfl⟩
    · have h91n := bne_f h91
      have hr : Hid (x1 = false) := by show x1 = _; rw [hx1.out, h91n, Bool.false_and]
      go_wp2
      go_meet
      case rel => exact ⟨by rw [hr.out], rfl⟩
  case rest =>
    obtain ⟨rfl, rfl⟩ := hcut
    cases x1
    · have ho : Hid (t p = 91 ∨ t p = 123) := by
        have h := hx1.out.symm
        rw [Bool.and_eq_false_iff] at h
        rcases h with h | h
        · exact .inl (bne_eq_false_iff_eq.1 h)
        · exact .inr (bne_eq_false_iff_eq.1 h)
      clear hx1
      go_wp2_with fail
      refine (value_any hn n p (by omega) _ hc).mono ?_
      rintro e w2 ⟨⟨r, ok, rfl, hv⟩, nd, rfl⟩
      cases ok
      · clear hv
        go_wp2
        go_ret
        exact ⟨rfl, below_drewN (Below.refl _ _) _⟩
      · have hT : Hid (SN n t p 0 = r) := (hv rfl).top ho.out
        clear hv
        go_wp2_with fail
        refine (clone_any hn (w1.drewN nd) hb (hc.drew nd)).mono ?_
        rintro e w2 ⟨rfl, hcl⟩
        have hb3 := (below_drewN (Below.refl w1.heap.size w1) nd).trans hcl.below
        have hbl := hcl.size
        have htx : Cells w1.heap.size 0 n t w2 := fun j hj => by rw [Nat.zero_add]; exact hcl.done j hj
        go_wp2_with fail
        refine (zzSkipNested_any p (by omega) hn w2 hbl htx).mono ?_
        rintro e w3 ⟨rfl, hb4⟩
        have hb5 := hb3.trans (hb4.mono (Nat.le_of_lt hbl))
        clear hb3 hb4 hcl htx hbl
        rw [hT.out]
        go_wp2
        go_ret
        exact ⟨by simp, hb5⟩
    · go_wp2
      go_ret
      exact ⟨rfl, Below.refl _ _⟩

/-- the law where the place lies outside the text, or the text is too long -/
theorem law_out (a : Option Addr) (i : Int) (h1 : -9223372036854775808 ≤ i) (h2 : i ≤ 9223372036854775807) (hn : n ≤ 9223372036854775807) (h : n ≤ 1048576 → i < 0 ∨ n ≤ i) (w : World) :
    Calls Try.prog 7 #[.slice a n cap, .int .i64 i] w fun e w' => e = .returned (.bool true) ∧ w' = w := by
  by_cases hb : n ≤ 1048576
  · rcases h hb with h | h
    · go_enter Try.func7, Try.ntmps7
      go_wp2_with fail
      refine (bound_le _ _ _ hb).mono ?_
      rintro e w1 ⟨rfl, rfl⟩
      go_wp2
      go_ret
      exact ⟨rfl, rfl⟩
    · have hb0 : decide (i < 0) = false := decide_eq_false (by omega)
      go_enter Try.func7, Try.ntmps7
      go_wp2_with fail
      refine (bound_le _ _ _ hb).mono ?_
      rintro e w1 ⟨rfl, rfl⟩
      go_wp2
      go_ret
      exact ⟨rfl, rfl⟩
  · go_enter Try.func7, Try.ntmps7
    go_wp2_with fail
    refine (bound_gt _ _ _ (by omega)).mono ?_
    rintro e w1 ⟨rfl, rfl⟩
    go_wp2
    go_ret
    exact ⟨rfl, rfl⟩
end
end Go.Proofs.Qxb6600009a.Scan
