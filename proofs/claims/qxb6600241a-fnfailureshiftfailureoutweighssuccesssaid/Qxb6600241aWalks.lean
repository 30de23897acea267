/-
  Seat b6600241a: the contracts of fold, decayWeight.add, failureShift.add and their doors.
-/
import Derived.Test.Qxb6600241aProg
import Derived.Test.Qxb6600241aFacts
import Derived.WalkKit
import Derived.ProofKit
import Derived.OpenShut
import Derived.Deep.QuietTactic
import Derived.BigQuiet
import Derived.WalkSmall
import Derived.WalkLawsBesides
import Derived.Laws.FloatArith
import Derived.Deep.RegionWith
import Derived.Deep.DeepCutAuto
import Derived.BigRegion
namespace Go.Proofs.Qxb6600241a.Shift
open Go.ChangeShapes Go.WideShapes Go.ChangeAt Go.RowKit
open Fl

/-- a float64 value -/
abbrev F (x : Nat) : Value := .float .f64 x

theorem run_op (op : BinOp) (t : TypeId) {x y r : Nat} (h : floatBits op .f64 x y = some r) : ∀ w, (binOp op t (F x) (F y)).run Try.prog w = .ok (F r) w := fun w => run_float_arith w op t .f64 x y r h

theorem run_store_float (P : Program) (w : World) (a : Addr) (m : Mode) (k : FloatKind) (x : Nat) : (store a (.float k x) m).run P w = stored P w a (.float k x) m := run_store P w a _ m rfl
attribute [local go_sem] run_store_float

theorem new_any (o r h : Nat) (w : World) :
    Calls Try.prog 25 #[F o, F r, F h] w fun e w' => e = .returned (.pointer (some ⟨w.heap.size, 0, none⟩)) ∧ w' = w.alloc (.cells #[F o, F r, F h] 59) := by
  go_enter Try.func25, Try.ntmps25
  go_wp2
  go_ret
  exact ⟨rfl, rfl⟩

theorem fold_any {a t sh d m r : Nat} (h1 : Ieee.double.sub t a = some d) (h2 : Ieee.double.mul d sh = some m) (h3 : Ieee.double.add a m = some r) (w : World) :
    Calls Try.prog 33 #[F a, F t, F sh] w fun e w' => e = .returned (F r) ∧ w' = w := by
  have r1 := run_op .sub 42 (x := t) (y := a) (r := d) h1
  have r2 := run_op .mul 42 (x := d) (y := sh) (r := m) h2
  have r3 := run_op .add 42 (x := a) (y := m) (r := r) h3
  clear h1 h2 h3
  go_enter Try.func33, Try.ntmps33
  go_wp2
  go_ret
  exact ⟨rfl, rfl⟩

theorem dw_any {S h fade m x sh : Nat} (h1 : Ieee.double.mul h fade = some m) (h2 : Ieee.double.add m one = some x) (h3 : Ieee.double.div one x = some sh) (w : World)
    (hc : w.cell? ⟨S, 2, none⟩ = some (F h)) (hf : w.frozen? ⟨S, 2, none⟩ = false) :
    Calls Try.prog 34 #[.pointer (some ⟨S, 2, none⟩), F fade] w fun e w' => e = .returned (F sh) ∧ w' = w.setCell ⟨S, 2, none⟩ (F x) := by
  have r1 := run_op .mul 57 (x := h) (y := fade) (r := m) h1
  have r2 : ∀ w, (binOp .add 57 (F m) (F 4607182418800017408)).run Try.prog w = .ok (F x) w := run_op .add 57 (x := m) (y := one) (r := x) h2
  have r3 : ∀ w, (binOp .quo 42 (F 4607182418800017408) (F x)).run Try.prog w = .ok (F sh) w := run_op .quo 42 (x := one) (y := x) (r := sh) h3
  clear h1 h2 h3
  go_enter Try.func34, Try.ntmps34
  go_wp2
  go_ret
  exact ⟨rfl, rfl⟩

theorem fields_any {S o r h : Nat} (w : World) (h0 : w.cell? ⟨S, 0, none⟩ = some (F o)) (h1 : w.cell? ⟨S, 1, none⟩ = some (F r)) (h2 : w.cell? ⟨S, 2, none⟩ = some (F h)) :
    Calls Try.prog 27 #[.pointer (some ⟨S, 0, none⟩)] w fun e w' => e = .returned (.tuple #[F o, F r, F h]) ∧ ∃ n, w' = w.drewN n := by
  go_enter Try.func27, Try.ntmps27
  go_wp2
  go_quiet (fail)
  go_wp2
  go_ret3
  exact ⟨rfl, _, rfl⟩

/-! ### the built-in max -/
theorem run_max_f {x y : Nat} (hx : NN x) (hy : NN y) (ts : Array TypeId) (t : TypeId) (w : World) : (Builtin.max_ ts t #[F x, F y]).run Try.prog w = .ok (F (fmax x y)) w := by
  have h : (Builtin.max2 (F x) (F y)).run Try.prog w = .ok (F (fmax x y)) w := by
    have e : FloatKind.f64.format.order x y = some (compare (K x) (K y)) := order_eq hx hy
    unfold fmax
    rw [order_eq hx hy]
    simp only [Builtin.max2, e]
    cases compare (K x) (K y) <;> rfl
  show (List.foldlM Builtin.max2 (F x) [F y]).run Try.prog w = _
  simp [h]

/-! ### the bar: 50 times the weight -/
theorem nan_bits (t : Nat) : infR < rg ((t % 2) * 2 ^ 63 + 0x7ff0000000000000 + 1 + (t / 2) % (2 ^ 52 - 1)) := by
  have := inf_val
  have hm : t / 2 % (2 ^ 52 - 1) < 2 ^ 52 - 1 := Nat.mod_lt _ (by decide)
  generalize t / 2 % (2 ^ 52 - 1) = e at *
  unfold rg
  rcases Nat.mod_two_eq_zero_or_one t with h | h <;> rw [h] <;> omega

theorem bar (weight : Nat) : ∃ (T : World → Nat) (n : Nat) (G : Nat → Bool), (∀ w, (binOp .mul 42 (F 4632233691727265792) (F weight)).run Try.prog w = .ok (F (T w)) (w.drewN n)) ∧
    (∀ w x, (FloatKind.f64.format.order x (T w) == some .gt || FloatKind.f64.format.order x (T w) == some .eq) = G x) ∧ (∀ x y, NN x → NN y → K x ≤ K y → G x = true → G y = true) := by
  cases hm : Ieee.double.mul c50 weight with
  | some r =>
    refine ⟨fun _ => r, 0, fun x => Ieee.double.order x r == some .gt || Ieee.double.order x r == some .eq, run_op .mul 42 (x := c50) (y := weight) (r := r) hm, fun _ _ => rfl, ?_⟩
    intro x y hx hy hk hg
    simp only [Bool.or_eq_true, beq_iff_eq] at hg ⊢
    have hr : NN r := by rcases hg with h | h <;> exact (NN_of_order h).2
    rw [order_eq hx hr] at hg
    rw [order_eq hy hr]
    rcases Int.lt_trichotomy (K x) (K r) with h | h | h
    · rw [cmp_lt h] at hg; simp at hg
    · rcases Int.lt_or_eq_of_le hk with h' | h'
      · left; rw [cmp_gt (by omega)]
      · right; rw [cmp_eq (by omega)]
    · left; rw [cmp_gt (by omega)]
  | none =>
    refine ⟨fun w => Question.cut (.nanBits .f64 c50 weight) (w.tape w.drawn (.nanBits .f64 c50 weight)), 1, fun _ => false, ?_, ?_, fun x y _ _ _ h => by cases h⟩
    · intro w
      have e : FloatKind.f64.format.mul 4632233691727265792 weight = none := hm
      simp only [binOp, Op.floatArith, e]
      simp [Question.forced]
      exact ⟨rfl, rfl⟩
    · intro w x
      have : FloatKind.f64.format.order x (Question.cut (.nanBits .f64 c50 weight) (w.tape w.drawn (.nanBits .f64 c50 weight))) = none := order_nan_right (nan_bits _) x
      rw [this]; rfl

/-! ### a failureShift in block S -/
/-- only block S has turned -/
structure Upd (S : Nat) (w w' : World) : Prop where
  blk : ∀ b, b ≠ S → w'.heap[b]? = w.heap[b]?
  sz : w'.heap.size = w.heap.size
  os : w'.os = w.os
  tape : w'.tape = w.tape
  out : w'.output = w.output
  fro : ∀ a, w'.frozen? a = w.frozen? a
theorem Upd.refl (S : Nat) (w : World) : Upd S w w := ⟨fun _ _ => rfl, rfl, rfl, rfl, rfl, fun _ => rfl⟩
theorem Upd.trans {S : Nat} {a b c : World} (h : Upd S a b) (k : Upd S b c) : Upd S a c :=
  ⟨fun x hx => (k.blk x hx).trans (h.blk x hx), k.sz.trans h.sz, k.os.trans h.os, k.tape.trans h.tape, k.out.trans h.out, fun x => (k.fro x).trans (h.fro x)⟩
theorem Upd.drewN {S : Nat} {a w : World} (h : Upd S a w) (n : Nat) : Upd S a (w.drewN n) := ⟨h.blk, h.sz, h.os, h.tape, h.out, h.fro⟩
theorem Upd.set {S : Nat} {a w : World} (h : Upd S a w) (i : Nat) (v : Value) : Upd S a (w.setCell ⟨S, i, none⟩ v) :=
  h.trans ⟨fun b hb => by simp only [World.setCell, Array.getElem?_modify]; rw [if_neg (fun e => hb e.symm)], by simp [World.setCell], rfl, rfl, rfl, fun x => World.frozen?_setCell ..⟩

structure Sh (S : Nat) (w0 : World) (o r h : Nat) (w : World) : Prop where
  c0 : w.cell? ⟨S, 0, none⟩ = some (F o)
  c1 : w.cell? ⟨S, 1, none⟩ = some (F r)
  c2 : w.cell? ⟨S, 2, none⟩ = some (F h)
  fr : ∀ i, w.frozen? ⟨S, i, none⟩ = false
  upd : Upd S w0 w
section
variable {S o r h : Nat} {w0 w : World}
theorem set_far (i j : Nat) (v : Value) (hne : i ≠ j) (w : World) : (w.setCell ⟨S, i, none⟩ v).cell? ⟨S, j, none⟩ = w.cell? ⟨S, j, none⟩ := by
  rw [World.cell?_setCell_other]
  intro e; have e1 := congrArg Addr.off e; simp only at e1; exact hne e1
theorem Sh.drewN (k : Sh S w0 o r h w) (n : Nat) : Sh S w0 o r h (w.drewN n) := ⟨k.c0, k.c1, k.c2, k.fr, k.upd.drewN n⟩
theorem Sh.set0 (k : Sh S w0 o r h w) (x : Nat) : Sh S w0 x r h (w.setCell ⟨S, 0, none⟩ (F x)) :=
  ⟨World.cell?_setCell_same _ _ _ k.c0, (set_far 0 1 _ (by omega) w).trans k.c1, (set_far 0 2 _ (by omega) w).trans k.c2, fun i => by rw [World.frozen?_setCell]; exact k.fr i, k.upd.set 0 _⟩
theorem Sh.set1 (k : Sh S w0 o r h w) (x : Nat) : Sh S w0 o x h (w.setCell ⟨S, 1, none⟩ (F x)) :=
  ⟨(set_far 1 0 _ (by omega) w).trans k.c0, World.cell?_setCell_same _ _ _ k.c1, (set_far 1 2 _ (by omega) w).trans k.c2, fun i => by rw [World.frozen?_setCell]; exact k.fr i, k.upd.set 1 _⟩
theorem Sh.set2 (k : Sh S w0 o r h w) (x : Nat) : Sh S w0 o r x (w.setCell ⟨S, 2, none⟩ (F x)) :=
  ⟨(set_far 2 0 _ (by omega) w).trans k.c0, (set_far 2 1 _ (by omega) w).trans k.c1, World.cell?_setCell_same _ _ _ k.c2, fun i => by rw [World.frozen?_setCell]; exact k.fr i, k.upd.set 2 _⟩
end

set_option maxRecDepth 100000 in
set_option maxHeartbeats 4000000 in
theorem add_any {S o r h score sample fade weight q rate t rS rF st rt r0 h0 m h' sh d md r' o' n : Nat} {b1 b2 : Bool} {T : World → Nat} {G : Nat → Bool}
    (hq : Ieee.double.sub one score = some q) (nq : NN q) (hrate : fmax q c005 = rate) (lr : (FloatKind.f64.format.order rate 4596373779694328218 == some .gt || FloatKind.f64.format.order rate 4596373779694328218 == some .eq) = false)
    (no : NN o) (hst : fmax o one = st) (ho : (FloatKind.f64.format.order o 4607182418800017408 == some .lt || FloatKind.f64.format.order o 4607182418800017408 == some .eq) = b1) (h1r : r0 = if b1 then 0 else r) (h1h : h0 = if b1 then 0 else h)
    (e1 : Ieee.double.mul h0 fade = some m) (e2 : Ieee.double.add m one = some h') (e3 : Ieee.double.div one h' = some sh) (e4 : Ieee.double.sub sample r0 = some d) (e5 : Ieee.double.mul d sh = some md) (e6 : Ieee.double.add r0 md = some r')
    (e7 : Ieee.double.sub one rate = some t) (e8 : Ieee.double.div c08 t = some rS) (e9 : Ieee.double.div c02 rate = some rF) (hs : (FloatKind.f64.format.order sample 0 == some .eq) = b2) (hrt : rt = if b2 then rF else rS) (e10 : Ieee.double.mul st rt = some o')
    (hT : ∀ w, (binOp .mul 42 (F 4632233691727265792) (F weight)).run Try.prog w = .ok (F (T w)) (w.drewN n)) (hG : ∀ w x, (FloatKind.f64.format.order x (T w) == some .gt || FloatKind.f64.format.order x (T w) == some .eq) = G x)
    (w0 w : World) (hw : Sh S w0 o r h w) :
    Calls Try.prog 31 #[.pointer (some ⟨S, 0, none⟩), F score, F sample, F fade, F weight] w fun e w' => e = .returned (.bool (G o')) ∧ Sh S w0 o' r' h' w' := by
  have r1 : ∀ w, (binOp .sub 42 (F 4607182418800017408) (F score)).run Try.prog w = .ok (F q) w := run_op .sub 42 (x := one) (y := score) (r := q) hq
  have r2 : ∀ w, (Builtin.max_ #[42, 42] 42 #[F q, F 4587366580439587226]).run Try.prog w = .ok (F rate) w := fun w => by rw [← hrate]; exact run_max_f nq c005_fin.nn _ _ w
  have r3 : ∀ w, (binOp .sub 42 (F 4607182418800017408) (F rate)).run Try.prog w = .ok (F t) w := run_op .sub 42 (x := one) (y := rate) (r := t) e7
  have r4 : ∀ w, (binOp .quo 42 (F 4605380978949069210) (F t)).run Try.prog w = .ok (F rS) w := run_op .quo 42 (x := c08) (y := t) (r := rS) e8
  have r5 : ∀ w, (binOp .quo 42 (F 4596373779694328218) (F rate)).run Try.prog w = .ok (F rF) w := run_op .quo 42 (x := c02) (y := rate) (r := rF) e9
  have r6 : ∀ w, (Builtin.max_ #[42, 42] 42 #[F o, F 4607182418800017408]).run Try.prog w = .ok (F st) w := fun w => by rw [← hst]; exact run_max_f no one_fin.nn _ _ w
  have r7 : ∀ w, (binOp .mul 42 (F st) (F rt)).run Try.prog w = .ok (F o') w := run_op .mul 42 (x := st) (y := rt) (r := o') e10
  have hc0 := hw.c0
  have hc1 := hw.c1
  have hc2 := hw.c2
  have hf0 := hw.fr 0
  have hf1 := hw.fr 1
  have hf2 := hw.fr 2
  clear hq hrate hst e7 e8 e9 e10
  have E1 : Hid (_ = _) := e1
  have E2 : Hid (_ = _) := e2
  have E3 : Hid (_ = _) := e3
  have E4 : Hid (_ = _) := e4
  have E5 : Hid (_ = _) := e5
  have E6 : Hid (_ = _) := e6
  have H1 : Hid (_ = _) := h1r
  have H2 : Hid (_ = _) := h1h
  have H3 : Hid (_ = _) := hrt
  clear e1 e2 e3 e4 e5 e6 h1r h1h hrt
  go_enter Try.func31, Try.ntmps31
  go_upto_if 25 with fail
  go_cut [] (fun wc => Sh S w0 o r0 h0 wc)
  case first =>
    cases b1
    · have k1 : Hid (r0 = r) := H1.out
      have k2 : Hid (h0 = h) := H2.out
      go_wp2
      go_meet
      case rel => rw [k1.out, k2.out]; exact hw
    · have k1 : Hid (r0 = 0) := H1.out
      have k2 : Hid (h0 = 0) := H2.out
      go_wp2
      go_meet
      case rel => rw [k1.out, k2.out]; exact (hw.set1 0).set2 0
  case rest =>
    clear hw hc0 hc1 hc2 hf0 hf1 hf2 H1 H2
    have hc0 := hcut.c0
    have hc1 := hcut.c1
    have hc2 := hcut.c2
    have hf0 := hcut.fr 0
    have hf1 := hcut.fr 1
    have hf2 := hcut.fr 2
    go_upto_region 7 with fail
    go_cut [] (fun wd => Sh S w0 o r' h' wd)
    case first =>
      go_region_with (first
        | (go_at_call 34; refine (dw_any E1.out E2.out E3.out _ ?_ ?_).mono ?_; (first | exact hc2 | (simp; exact hc2)); (first | exact hf2 | (simp; exact hf2)); rintro e w' ⟨rfl, rfl⟩)
        | (go_at_call 33; refine (fold_any E4.out E5.out E6.out _).mono ?_; rintro e w' ⟨rfl, rfl⟩))
      all_goals
        go_wp2_with fail
        go_meet
        case rel => first | exact ((hcut.drewN 1).set2 h').set1 r' | exact ((hcut.set2 h').set1 r').drewN 1
    case rest =>
      clear hc0 hc1 hc2 hf0 hf1 hf2 E1 E2 E3 E4 E5 E6
      have hc0 := hcut.c0
      have hf0 := hcut.fr 0
      cases b2
      · obtain rfl : rt = rS := H3.out
        go_wp2
        go_ret
        exact ⟨rfl, (hcut.set0 o').drewN n⟩
      · obtain rfl : rt = rF := H3.out
        go_wp2
        go_ret
        exact ⟨rfl, (hcut.set0 o').drewN n⟩
theorem zzAdd_any {S o r h score sample fade weight q rate t rS rF st rt r0 h0 m h' sh d md r' o' n : Nat} {b1 b2 : Bool} {T : World → Nat} {G : Nat → Bool}
    (hq : Ieee.double.sub one score = some q) (nq : NN q) (hrate : fmax q c005 = rate) (lr : (FloatKind.f64.format.order rate 4596373779694328218 == some .gt || FloatKind.f64.format.order rate 4596373779694328218 == some .eq) = false)
    (no : NN o) (hst : fmax o one = st) (ho : (FloatKind.f64.format.order o 4607182418800017408 == some .lt || FloatKind.f64.format.order o 4607182418800017408 == some .eq) = b1) (h1r : r0 = if b1 then 0 else r) (h1h : h0 = if b1 then 0 else h)
    (e1 : Ieee.double.mul h0 fade = some m) (e2 : Ieee.double.add m one = some h') (e3 : Ieee.double.div one h' = some sh) (e4 : Ieee.double.sub sample r0 = some d) (e5 : Ieee.double.mul d sh = some md) (e6 : Ieee.double.add r0 md = some r')
    (e7 : Ieee.double.sub one rate = some t) (e8 : Ieee.double.div c08 t = some rS) (e9 : Ieee.double.div c02 rate = some rF) (hs : (FloatKind.f64.format.order sample 0 == some .eq) = b2) (hrt : rt = if b2 then rF else rS) (e10 : Ieee.double.mul st rt = some o')
    (hT : ∀ w, (binOp .mul 42 (F 4632233691727265792) (F weight)).run Try.prog w = .ok (F (T w)) (w.drewN n)) (hG : ∀ w x, (FloatKind.f64.format.order x (T w) == some .gt || FloatKind.f64.format.order x (T w) == some .eq) = G x)
    (w0 w : World) (hw : Sh S w0 o r h w) :
    Calls Try.prog 26 #[.pointer (some ⟨S, 0, none⟩), F score, F sample, F fade, F weight] w fun e w' => e = .returned (.bool (G o')) ∧ Sh S w0 o' r' h' w' := by
  have c := add_any hq nq hrate lr no hst ho h1r h1h e1 e2 e3 e4 e5 e6 e7 e8 e9 hs hrt e10 hT hG w0 w hw
  clear hq nq hrate lr no hst ho h1r h1h e1 e2 e3 e4 e5 e6 e7 e8 e9 hs hrt e10 hT hG hw
  go_enter Try.func26, Try.ntmps26
  go_wp2_with fail
  refine c.mono ?_
  rintro e w1 ⟨rfl, hw1⟩
  go_wp2
  go_ret
  exact ⟨rfl, hw1⟩
end Go.Proofs.Qxb6600241a.Shift
