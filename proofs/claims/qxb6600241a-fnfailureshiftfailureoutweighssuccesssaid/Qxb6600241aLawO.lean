/-
  Seat b6600241a: the walk of FnFailureShiftFailureOutweighsSuccess.
-/
import Derived.Test.Qxb6600241aLawQ
import Derived.Test.Qxb6600241aOut
namespace Go.Proofs.Qxb6600241a.Shift
open Go.ChangeShapes Go.WideShapes Go.ChangeAt Go.RowKit
open Fl

theorem Upd.cell {S b i : Nat} {w w' : World} (h : Upd S w w') (hb : b ≠ S) : w'.cell? ⟨b, i, none⟩ = w.cell? ⟨b, i, none⟩ := World.cell?_of_block (w := w) (a := ⟨b, i, none⟩) (h.blk b hb)
/-- another shift's block stands as it did -/
theorem Sh.other {S S' o r h : Nat} {w0 w w' : World} (k : Sh S w0 o r h w) (u : Upd S' w w') (hne : S ≠ S') : Sh S w' o r h w' :=
  ⟨(u.cell hne).trans k.c0, (u.cell hne).trans k.c1, (u.cell hne).trans k.c2, fun i => (u.fro _).trans (k.fr i), Upd.refl _ _⟩

theorem size_alloc' (w : World) (o : Obj) : (w.alloc o).heap.size = w.heap.size + 1 := by
  show (w.heap.push o).size = _
  simp

/-- the first shift stands when the second is made -/
theorem Sh.alloc {S o r h : Nat} {w0 w : World} (k : Sh S w0 o r h w) (hS : S < w.heap.size) (c : Array Value) (t : TypeId) : Sh S (w.alloc (.cells c t)) o r h (w.alloc (.cells c t)) :=
  ⟨(World.cell?_alloc_lt _ _ _ hS).trans k.c0, (World.cell?_alloc_lt _ _ _ hS).trans k.c1, (World.cell?_alloc_lt _ _ _ hS).trans k.c2, fun i => (frozen_alloc _ _ _ _).trans (k.fr i), Upd.refl _ _⟩

set_option maxRecDepth 100000 in
set_option maxHeartbeats 4000000 in
theorem lawO_in (o r h score fade weight : Nat) (w : World)
    (g1 : (FloatKind.f64.format.order score 4605380978949069210 == some .gt) = true)
    (g2 : (FloatKind.f64.format.order score 4607182418800017408 == some .lt || FloatKind.f64.format.order score 4607182418800017408 == some .eq) = true)
    (g3 : (FloatKind.f64.format.order o o != some .eq) = false)
    (g4 : (FloatKind.f64.format.order r 18442240474082181119 == some .gt || FloatKind.f64.format.order r 18442240474082181119 == some .eq) = true)
    (g5 : (FloatKind.f64.format.order r 9218868437227405311 == some .lt || FloatKind.f64.format.order r 9218868437227405311 == some .eq) = true)
    (g6 : (FloatKind.f64.format.order h 0 == some .gt || FloatKind.f64.format.order h 0 == some .eq) = true)
    (g7 : (FloatKind.f64.format.order h 9218868437227405311 == some .lt || FloatKind.f64.format.order h 9218868437227405311 == some .eq) = true)
    (g8 : (FloatKind.f64.format.order fade 0 == some .gt || FloatKind.f64.format.order fade 0 == some .eq) = true)
    (g9 : (FloatKind.f64.format.order fade 4607182418800017408 == some .lt || FloatKind.f64.format.order fade 4607182418800017408 == some .eq) = true) :
    Calls Try.prog 7 #[F o, F r, F h, F score, F fade, F weight] w fun e w' => e = .returned (.bool true) ∧ Grown w w' := by
  have k0 : K 0 = 0 := by decide
  have ki := inf_val
  have hno : NN o := by
    have e : Ieee.double.order o o = some .eq := by
      have := g3
      simp only [bne_eq_false_iff_eq] at this
      exact this
    exact (NN_of_order e).1
  have hs1 : NN score ∧ K c08 < K score := by
    have e : Ieee.double.order score c08 = some .gt := beq_iff_eq.1 g1
    have n := NN_of_order e
    refine ⟨n.1, ?_⟩
    apply Decidable.byContradiction
    intro hk
    rw [order_eq n.1 n.2] at e
    rcases Int.lt_or_eq_of_le (show K score ≤ K c08 by omega) with x | x
    · rw [cmp_lt x] at e; cases e
    · rw [cmp_eq x] at e; cases e
  obtain ⟨_, _, s3⟩ := of_le g2
  obtain ⟨nr, _, r1⟩ := of_ge g4
  obtain ⟨_, _, r2⟩ := of_le g5
  obtain ⟨nh, _, h1⟩ := of_ge g6
  obtain ⟨_, _, h2⟩ := of_le g7
  obtain ⟨f1, _, f2⟩ := of_ge g8
  obtain ⟨_, _, f3⟩ := of_le g9
  rw [k0] at f2 h1
  rw [show K 18442240474082181119 = -9218868437227405311 from by decide] at r1
  rw [show K 9218868437227405311 = 9218868437227405311 from by decide] at r2 h2
  obtain ⟨q, rate, t, rS, rF, st, r0, h0, m, h', sh, dF, mF, aF, oF, dS, mS, aS, oS, b1, X, kst⟩ :=
    two hno (fin_of nr (by omega) (by omega)) (fin_of nh (by omega) (by omega)) h1 hs1.1 hs1.2 s3 f1 f2 f3
  obtain ⟨T, dn, G, hT, hG, hmono⟩ := bar weight
  -- the four calls
  have cF : ∀ (S : Nat) (w0 w : World), Sh S w0 o r h w → Calls Try.prog 26 #[.pointer (some ⟨S, 0, none⟩), F score, F 0, F fade, F weight] w fun e w' => e = .returned (.bool (G oF)) ∧ Sh S w0 oF aF h' w' :=
    fun S w0 w hw => zzAdd_any X.hq X.nq X.hrate X.lr hno X.hst X.ho X.hr0 X.hh0 X.e1 X.e2 X.e3 X.f4 X.f5 X.f6 X.e7 X.e8 X.e9 (b2 := true) (by decide +kernel) rfl X.f10 hT hG w0 w hw
  have cS : ∀ (S : Nat) (w0 w : World), Sh S w0 o r h w → Calls Try.prog 26 #[.pointer (some ⟨S, 0, none⟩), F score, F one, F fade, F weight] w fun e w' => e = .returned (.bool (G oS)) ∧ Sh S w0 oS aS h' w' :=
    fun S w0 w hw => zzAdd_any X.hq X.nq X.hrate X.lr hno X.hst X.ho X.hr0 X.hh0 X.e1 X.e2 X.e3 X.s4 X.s5 X.s6 X.e7 X.e8 X.e9 (b2 := false) (by decide +kernel) rfl X.s10 hT hG w0 w hw
  -- what the law asks
  have hx : ∃ x, (x = if (FloatKind.f64.format.order o 4607182418800017408 == some .lt) then one else o) ∧ NN x ∧ K x = K st := by
    refine ⟨_, rfl, ?_⟩
    have e : FloatKind.f64.format.order o 4607182418800017408 = some (compare (K o) (K one)) := order_eq hno one_fin.nn
    rw [e]
    rcases Int.lt_trichotomy (K o) (K one) with y | y | y
    · rw [cmp_lt y]; exact ⟨one_fin.nn, by show K one = _; omega⟩
    · rw [cmp_eq y]; exact ⟨hno, by show K o = _; omega⟩
    · rw [cmp_gt y]; exact ⟨hno, by show K o = _; omega⟩
  obtain ⟨x, hx, nx, kx⟩ := hx
  have v1 : (FloatKind.f64.format.order oF x == some .gt || FloatKind.f64.format.order oF x == some .eq) = true := X.k1 x nx kx
  have v2 : (FloatKind.f64.format.order oS x == some .lt || FloatKind.f64.format.order oS x == some .eq) = true := X.k2 x nx kx
  have v3 : (FloatKind.f64.format.order oS 0 == some .gt) = true := X.k3
  have v4 : (FloatKind.f64.format.order aS aF == some .gt || FloatKind.f64.format.order aS aF == some .eq) = true := X.k4
  have v5 : (FloatKind.f64.format.order h' h' == some .eq) = true := X.k5
  have v6 : (FloatKind.f64.format.order h' 4607182418800017408 == some .gt || FloatKind.f64.format.order h' 4607182418800017408 == some .eq) = true := X.k6
  have hg : Hid (G oS = true → G oF = true) := hmono oS oF X.nS X.nF X.kFS
  have CF : Hid (∀ (S : Nat) (w0 w : World), Sh S w0 o r h w → Calls Try.prog 26 #[.pointer (some ⟨S, 0, none⟩), F score, F 0, F fade, F weight] w fun e w' => e = .returned (.bool (G oF)) ∧ Sh S w0 oF aF h' w') := cF
  have CS : Hid (∀ (S : Nat) (w0 w : World), Sh S w0 o r h w → Calls Try.prog 26 #[.pointer (some ⟨S, 0, none⟩), F score, F one, F fade, F weight] w fun e w' => e = .returned (.bool (G oS)) ∧ Sh S w0 oS aS h' w') := cS
  have HX : Hid (_ = _) := hx
  clear cF cS hT hG hmono X kst hx nx kx nr nh hs1 s3 r1 r2 h1 h2 f1 f2 f3 k0 ki
  generalize G oS = gS at *
  generalize G oF = gF at *
  -- the two shifts
  have s1 : Sh w.heap.size ((w.alloc (.cells #[F o, F r, F h] 59)).alloc (.cells #[F o, F r, F h] 59)) o r h ((w.alloc (.cells #[F o, F r, F h] 59)).alloc (.cells #[F o, F r, F h] 59)) :=
    (new_sh o r h w).alloc (by rw [size_alloc']; omega) _ _
  have s2 := new_sh o r h (w.alloc (.cells #[F o, F r, F h] 59))
  have hbel : Below w.heap.size w ((w.alloc (.cells #[F o, F r, F h] 59)).alloc (.cells #[F o, F r, F h] 59)) :=
    ((Below.refl _ _).alloc (Nat.le_refl _) _).alloc (by first | exact Nat.le_refl _ | (rw [size_alloc']; omega)) _
  have hfz : ∀ x, ((w.alloc (.cells #[F o, F r, F h] 59)).alloc (.cells #[F o, F r, F h] 59)).frozen? x = w.frozen? x := fun x => (frozen_alloc _ _ _ x).trans (frozen_alloc _ _ _ x)
  have hsz : w.heap.size < (w.alloc (.cells #[F o, F r, F h] 59)).heap.size := by rw [size_alloc']; omega
  go_enter Try.func7, Try.ntmps7
  go_wp2_with fail
  refine (new_any o r h _).mono ?_
  rintro e w1 ⟨rfl, rfl⟩
  have S1 : Hid _ := s1
  have S2 : Hid _ := s2
  have Hbel : Hid _ := hbel
  have Hfz : Hid _ := hfz
  have Hsz : Hid _ := hsz
  clear s1 s2 hbel hfz hsz
  generalize w.alloc (.cells #[F o, F r, F h] 59) = W1 at *
  go_wp2_with fail
  refine (new_any o r h _).mono ?_
  rintro e w1 ⟨rfl, rfl⟩
  generalize W1.alloc (.cells #[F o, F r, F h] 59) = W2 at *
  generalize W1.heap.size = B at *
  go_wp2_with fail
  refine (CF.out w.heap.size W2 W2 S1.out).mono ?_
  rintro e w3 ⟨rfl, h3⟩
  have t2 : Sh B w3 o r h w3 := S2.out.other h3.upd (by have := Hsz.out; omega)
  have T2 : Hid _ := t2
  clear t2
  go_wp2_with fail
  refine (CS.out B w3 w3 T2.out).mono ?_
  rintro e w4 ⟨rfl, h4⟩
  have t1 : Sh w.heap.size w4 oF aF h' w4 := h3.other h4.upd (by have := Hsz.out; omega)
  have T1 : Hid _ := t1
  clear t1
  go_wp2_with fail
  refine (fields_any w4 T1.out.c0 T1.out.c1 T1.out.c2).mono ?_
  rintro e w5 ⟨rfl, n1, rfl⟩
  go_wp2_with fail
  refine (fields_any (w4.drewN n1) h4.c0 h4.c1 h4.c2).mono ?_
  rintro e w5 ⟨rfl, n2, rfl⟩
  have Hg : Hid (Grown w ((w4.drewN n1).drewN n2)) := grown_of Hbel.out Hfz.out (((h3.upd.below (Nat.le_refl _)).trans (h4.upd.below (Nat.le_of_lt Hsz.out))).trans ⟨rfl, rfl, rfl, Nat.le_refl _, fun _ _ => rfl⟩) (fun x => (h4.upd.fro x).trans (h3.upd.fro x))
  clear h3 h4
  cases hlt : (FloatKind.f64.format.order o 4607182418800017408 == some .lt)
  · have kx : x = o := by have := HX.out; rw [hlt] at this; exact this
    subst kx
    cases gS
    · go_wp2
      go_ret
      exact ⟨rfl, Hg.out⟩
    · obtain rfl : gF = true := hg.out rfl
      go_wp2
      go_ret
      exact ⟨rfl, Hg.out⟩
  · have kx : x = 4607182418800017408 := by have := HX.out; rw [hlt] at this; exact this
    subst kx
    cases gS
    · go_wp2
      go_ret
      exact ⟨rfl, Hg.out⟩
    · obtain rfl : gF = true := hg.out rfl
      go_wp2
      go_ret
      exact ⟨rfl, Hg.out⟩

set_option maxRecDepth 100000 in
/-- the law at every input -/
theorem lawO (o r h score fade weight : Nat) (w : World) :
    Calls Try.prog 7 #[F o, F r, F h, F score, F fade, F weight] w fun e w' => e = .returned (.bool true) ∧ Grown w w' := by
  cases g1 : (FloatKind.f64.format.order score 4605380978949069210 == some .gt)
  · go_enter Try.func7, Try.ntmps7
    go_wp2
    go_ret
    exact ⟨rfl, Grown.refl _⟩
  cases g2 : (FloatKind.f64.format.order score 4607182418800017408 == some .lt || FloatKind.f64.format.order score 4607182418800017408 == some .eq)
  · go_enter Try.func7, Try.ntmps7
    go_wp2
    go_ret
    exact ⟨rfl, Grown.refl _⟩
  cases g3 : (FloatKind.f64.format.order o o != some .eq)
  rotate_left
  · go_enter Try.func7, Try.ntmps7
    go_wp2
    go_ret
    exact ⟨rfl, Grown.refl _⟩
  cases g4 : (FloatKind.f64.format.order r 18442240474082181119 == some .gt || FloatKind.f64.format.order r 18442240474082181119 == some .eq)
  · go_enter Try.func7, Try.ntmps7
    go_wp2
    go_ret
    exact ⟨rfl, Grown.refl _⟩
  cases g5 : (FloatKind.f64.format.order r 9218868437227405311 == some .lt || FloatKind.f64.format.order r 9218868437227405311 == some .eq)
  · go_enter Try.func7, Try.ntmps7
    go_wp2
    go_ret
    exact ⟨rfl, Grown.refl _⟩
  cases g6 : (FloatKind.f64.format.order h 0 == some .gt || FloatKind.f64.format.order h 0 == some .eq)
  · go_enter Try.func7, Try.ntmps7
    go_wp2
    go_ret
    exact ⟨rfl, Grown.refl _⟩
  cases g7 : (FloatKind.f64.format.order h 9218868437227405311 == some .lt || FloatKind.f64.format.order h 9218868437227405311 == some .eq)
  · go_enter Try.func7, Try.ntmps7
    go_wp2
    go_ret
    exact ⟨rfl, Grown.refl _⟩
  cases g8 : (FloatKind.f64.format.order fade 0 == some .gt || FloatKind.f64.format.order fade 0 == some .eq)
  · go_enter Try.func7, Try.ntmps7
    go_wp2
    go_ret
    exact ⟨rfl, Grown.refl _⟩
  cases g9 : (FloatKind.f64.format.order fade 4607182418800017408 == some .lt || FloatKind.f64.format.order fade 4607182418800017408 == some .eq)
  · go_enter Try.func7, Try.ntmps7
    go_wp2
    go_ret
    exact ⟨rfl, Grown.refl _⟩
  exact lawO_in o r h score fade weight w g1 g2 g3 g4 g5 g6 g7 g8 g9
end Go.Proofs.Qxb6600241a.Shift
