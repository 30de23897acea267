/-
  Seat b6600009a: the contracts of b1Array, b1Object, b1Value, which call one another: by induction on the bytes that are left.
-/
import Derived.Test.Qxb6600009aLit
import Derived.Test.Qxb6600009aNum
namespace Go.Proofs.Qxb6600009a.Scan
open Go.ChangeShapes Go.WideShapes Go.ChangeAt Go.RowKit
open Plain

/-- what b1Value, b1Array, b1Object hand back -/
def RecV (n : Nat) (t : Nat → Int) (p : Nat) (e : Ending) : Prop :=
  ∃ (r : Nat) (ok : Bool), e = .returned (.tuple #[.int .i64 r, .bool ok]) ∧ (ok = true → Val n t p r)
theorem RecV.no {n : Nat} {t : Nat → Int} {p : Nat} : RecV n t p (.returned (.tuple #[.int .i64 0, .bool false])) := ⟨0, false, rfl, fun h => by cases h⟩
theorem RecV.yes {n : Nat} {t : Nat → Int} {p r : Nat} (h : Val n t p r) : RecV n t p (.returned (.tuple #[.int .i64 r, .bool true])) := ⟨r, true, rfl, fun _ => h⟩
theorem Rec.val {n : Nat} {t : Nat → Int} {p : Nat} {e : Ending} (h : Rec n t p e) (hf : ¬ (t p = 91 ∨ t p = 123)) : RecV n t p e := by
  obtain ⟨r, ok, he, hv⟩ := h
  exact ⟨r, ok, he, fun h => let ⟨a, b, c⟩ := hv h; Val.flat a b c hf⟩

/-- the contract of b1Value at place p -/
def ValueC (b off n cap : Nat) (t : Nat → Int) (p : Nat) : Prop := ∀ w : World, Cells b off n t w →
    Calls Try.prog 23 #[.slice (some ⟨b, off, none⟩) n cap, .int .i64 p] w fun e w' => RecV n t p e ∧ ∃ nd, w' = w.drewN nd

theorem Cells.drew {b off n : Nat} {t : Nat → Int} {w : World} (h : Cells b off n t w) (m : Nat) : Cells b off n t (w.drewN m) := fun j hj => h j hj

section
variable {b off n cap : Nat} {t : Nat → Int}

set_option maxRecDepth 100000 in
set_option maxHeartbeats 2000000 in
theorem array_of (p : Nat) (hp : p < n) (hn : n ≤ 1048576) (hb : t p = 91) (hV : Hid (∀ q, p < q → ValueC b off n cap t q)) (w : World) (hc : Cells b off n t w) :
    Calls Try.prog 34 #[.slice (some ⟨b, off, none⟩) n cap, .int .i64 p] w fun e w' => RecV n t p e ∧ ∃ nd, w' = w.drewN nd := by
  have ho : Hid (t p = 91 ∨ t p = 123) := .inl hb
  clear hb
  go_enter Try.func34, Try.ntmps34
  go_wp2_with fail
  refine (skipWS_any ((p : Int) + 1) (by omega) (by omega) hn _ hc).mono ?_
  rintro e w1 ⟨j, rfl, rfl, hj1, hj2, hj3⟩
  rw [show ((p : Int) + 1).toNat = p + 1 from by omega] at hj1 hj3
  by_cases hj : j < n
  · have hcj := hc j hj
    cases h93 : (t j == 93)
    · go_wp2
      go_loopw [1, 6, 7] (fun v _ _ wr => ∃ k nd : Nat, p < k ∧ k ≤ n ∧ v = .int .i64 k ∧ wr = w1.drewN nd ∧ Pass n t (p + 1) k) (fun v _ _ _ => n - (intOf v).toNat)
      case atStart => exact ⟨j, 0, by omega, hj2, rfl, rfl, hj3⟩
      case round =>
        clear hcj h93 hj3
        obtain ⟨k, nd, hk1, hk2, rfl, rfl, hP⟩ := hrel
        by_cases hk : k < n
        · go_wp2_with fail
          refine (hV.out k hk1 _ (hc.drew _)).mono ?_
          rintro e w2 ⟨⟨r, ok, rfl, hr⟩, nd2, rfl⟩
          cases ok
          · clear hr
            go_wp2
            go_ret2
            exact ⟨RecV.no, _, rfl⟩
          · obtain ⟨v1, v2, v3, _⟩ := hr rfl
            clear hr
            have hP1 := hP.trans v3
            clear v3 hP
            go_wp2_with fail
            refine (skipWS_any (r : Int) (by omega) (by omega) hn _ (hc.drew _)).mono ?_
            rintro e w2 ⟨m, rfl, rfl, hm1, hm2, hm3⟩
            rw [Int.toNat_natCast] at hm1 hm3
            have hP2 := hP1.trans hm3
            clear hP1 hm3
            by_cases hm : m < n
            · have hcm := hc m hm
              cases h93 : (t m == 93)
              · cases h44 : (t m == 44)
                · have h44n := bne_t h44
                  go_wp2
                  go_ret2
                  exact ⟨RecV.no, _, rfl⟩
                · have h44n := bne_f h44
                  have hP3 : Hid (Pass n t (p + 1) (m + 1)) := hP2.trans (Pass.dull hm (dull_of h44 (by refine ⟨?_, ?_, ?_, ?_, ?_⟩ <;> decide)))
                  go_wp2_with fail
                  refine (skipWS_any ((m : Int) + 1) (by omega) (by omega) hn _ (hc.drew _)).mono ?_
                  rintro e w2 ⟨q, rfl, rfl, hq1, hq2, hq3⟩
                  rw [show ((m : Int) + 1).toNat = m + 1 from by omega] at hq1 hq3
                  go_wp2
                  go_roundw
                  case rel => exact ⟨q, _, by omega, hq2, rfl, rfl, hP3.out.trans hq3⟩
                  case measure => simp [intOf]; omega
              · have hfin : Hid (Val n t p (m + 1)) := Val.closed ho.out (by omega) hm hP2 (.inl (beq_iff_eq.1 h93))
                go_wp2
                go_ret2
                exact ⟨RecV.yes (r := m + 1) hfin.out, _, rfl⟩
            · have hmb : decide ((n : Int) ≤ (m : Int)) = true := decide_eq_true (by omega)
              go_wp2
              go_ret2
              exact ⟨RecV.no, _, rfl⟩
        · go_wp2
          go_ret2
          exact ⟨RecV.no, nd, rfl⟩
    · have hfin : Hid (Val n t p (j + 1)) := Val.closed ho.out (by omega) hj hj3 (.inl (beq_iff_eq.1 h93))
      go_wp2
      go_ret2
      exact ⟨RecV.yes (r := j + 1) hfin.out, 0, rfl⟩
  · have hjb : decide ((j : Int) < (n : Int)) = false := decide_eq_false (by omega)
    go_wp2
    go_loopw [1, 6, 7] (fun v _ _ wr => v = .int .i64 j ∧ w1 = wr) (fun _ _ _ _ => 0)
    case atStart => exact ⟨rfl, rfl⟩
    case round =>
      obtain ⟨rfl, rfl⟩ := hrel
      go_wp2
      go_ret2
      exact ⟨RecV.no, 0, rfl⟩

set_option maxRecDepth 100000 in
set_option maxHeartbeats 2000000 in
theorem object_of (p : Nat) (hp : p < n) (hn : n ≤ 1048576) (hb : t p = 123) (hV : Hid (∀ q, p < q → ValueC b off n cap t q)) (w : World) (hc : Cells b off n t w) :
    Calls Try.prog 35 #[.slice (some ⟨b, off, none⟩) n cap, .int .i64 p] w fun e w' => RecV n t p e ∧ ∃ nd, w' = w.drewN nd := by
  have ho : Hid (t p = 91 ∨ t p = 123) := .inr hb
  clear hb
  go_enter Try.func35, Try.ntmps35
  go_wp2_with fail
  refine (skipWS_any ((p : Int) + 1) (by omega) (by omega) hn _ hc).mono ?_
  rintro e w1 ⟨j, rfl, rfl, hj1, hj2, hj3⟩
  rw [show ((p : Int) + 1).toNat = p + 1 from by omega] at hj1 hj3
  by_cases hj : j < n
  · have hcj := hc j hj
    cases h125 : (t j == 125)
    · go_wp2
      go_loopw [1, 6, 7] (fun v _ _ wr => ∃ k nd : Nat, p < k ∧ k ≤ n ∧ v = .int .i64 k ∧ wr = w1.drewN nd ∧ Pass n t (p + 1) k) (fun v _ _ _ => n - (intOf v).toNat)
      case atStart => exact ⟨j, 0, by omega, hj2, rfl, rfl, hj3⟩
      case round =>
        clear hcj h125 hj3
        obtain ⟨k, nd, hk1, hk2, rfl, rfl, hP⟩ := hrel
        by_cases hk : k < n
        · go_wp2_with fail
          refine (string_any (k : Int) (by omega) hn _ (hc.drew _)).mono ?_
          rintro e w2 ⟨⟨r, ok, rfl, hr⟩, rfl⟩
          rw [Int.toNat_natCast] at hr
          cases ok
          · clear hr
            go_wp2
            go_ret2
            exact ⟨RecV.no, _, rfl⟩
          · obtain ⟨v1, v2, v3⟩ := hr rfl
            clear hr
            have hP1 := hP.trans v3
            clear v3 hP
            go_wp2_with fail
            refine (skipWS_any (r : Int) (by omega) (by omega) hn _ (hc.drew _)).mono ?_
            rintro e w2 ⟨m, rfl, rfl, hm1, hm2, hm3⟩
            rw [Int.toNat_natCast] at hm1 hm3
            have hP2 := hP1.trans hm3
            clear hP1 hm3
            by_cases hm : m < n
            · have hcm := hc m hm
              have hmb : decide ((n : Int) ≤ (m : Int)) = false := decide_eq_false (by omega)
              have hmb' : decide (n ≤ m) = false := decide_eq_false (by omega)
              cases h58 : (t m == 58)
              · have h58n := bne_t h58
                go_wp2
                go_ret2
                exact ⟨RecV.no, _, rfl⟩
              · have h58n := bne_f h58
                have hP3 : Hid (Pass n t (p + 1) (m + 1)) := hP2.trans (Pass.dull hm (dull_of h58 (by refine ⟨?_, ?_, ?_, ?_, ?_⟩ <;> decide)))
                go_wp2_with fail
                refine (skipWS_any ((m : Int) + 1) (by omega) (by omega) hn _ (hc.drew _)).mono ?_
                rintro e w2 ⟨q, rfl, rfl, hq1, hq2, hq3⟩
                rw [show ((m : Int) + 1).toNat = m + 1 from by omega] at hq1 hq3
                have hP4 := hP3.out.trans hq3
                clear hq3 hP3 hP2
                go_wp2_with fail
                refine (hV.out q (by omega) _ (hc.drew _)).mono ?_
                rintro e w2 ⟨⟨r2, ok2, rfl, hr2⟩, nd2, rfl⟩
                cases ok2
                · clear hr2
                  go_wp2
                  go_ret2
                  exact ⟨RecV.no, _, rfl⟩
                · obtain ⟨y1, y2, y3, _⟩ := hr2 rfl
                  clear hr2
                  have hP5 := hP4.trans y3
                  clear y3 hP4
                  go_wp2_with fail
                  refine (skipWS_any (r2 : Int) (by omega) (by omega) hn _ (hc.drew _)).mono ?_
                  rintro e w2 ⟨x, rfl, rfl, hx1, hx2, hx3⟩
                  rw [Int.toNat_natCast] at hx1 hx3
                  have hP6 := hP5.trans hx3
                  clear hP5 hx3
                  by_cases hx : x < n
                  · have hcx := hc x hx
                    have hxb : decide ((n : Int) ≤ (x : Int)) = false := decide_eq_false (by omega)
                    cases h125 : (t x == 125)
                    · cases h44 : (t x == 44)
                      · have h44n := bne_t h44
                        go_wp2
                        go_ret2
                        exact ⟨RecV.no, _, rfl⟩
                      · have h44n := bne_f h44
                        have hP7 : Hid (Pass n t (p + 1) (x + 1)) := hP6.trans (Pass.dull hx (dull_of h44 (by refine ⟨?_, ?_, ?_, ?_, ?_⟩ <;> decide)))
                        go_wp2_with fail
                        refine (skipWS_any ((x : Int) + 1) (by omega) (by omega) hn _ (hc.drew _)).mono ?_
                        rintro e w2 ⟨z, rfl, rfl, hz1, hz2, hz3⟩
                        rw [show ((x : Int) + 1).toNat = x + 1 from by omega] at hz1 hz3
                        go_wp2
                        go_roundw
                        case rel => exact ⟨z, _, by omega, hz2, rfl, rfl, hP7.out.trans hz3⟩
                        case measure => simp [intOf]; omega
                    · have hfin : Hid (Val n t p (x + 1)) := Val.closed ho.out (by omega) hx hP6 (.inr (beq_iff_eq.1 h125))
                      go_wp2
                      go_ret2
                      exact ⟨RecV.yes (r := x + 1) hfin.out, _, rfl⟩
                  · have hxb : decide ((n : Int) ≤ (x : Int)) = true := decide_eq_true (by omega)
                    go_wp2
                    go_ret2
                    exact ⟨RecV.no, _, rfl⟩
            · have hmb : decide ((n : Int) ≤ (m : Int)) = true := decide_eq_true (by omega)
              go_wp2
              go_ret2
              exact ⟨RecV.no, _, rfl⟩
        · go_wp2
          go_ret2
          exact ⟨RecV.no, nd, rfl⟩
    · have hfin : Hid (Val n t p (j + 1)) := Val.closed ho.out (by omega) hj hj3 (.inr (beq_iff_eq.1 h125))
      go_wp2
      go_ret2
      exact ⟨RecV.yes (r := j + 1) hfin.out, 0, rfl⟩
  · have hjb : decide ((j : Int) < (n : Int)) = false := decide_eq_false (by omega)
    go_wp2
    go_loopw [1, 6, 7] (fun v _ _ wr => v = .int .i64 j ∧ w1 = wr) (fun _ _ _ _ => 0)
    case atStart => exact ⟨rfl, rfl⟩
    case round =>
      obtain ⟨rfl, rfl⟩ := hrel
      go_wp2
      go_ret2
      exact ⟨RecV.no, 0, rfl⟩

theorem word_true : Hid (∀ (j : Nat) (h : j < (ByteArray.mk #[116, 114, 117, 101]).size), Dull ((ByteArray.mk #[116, 114, 117, 101])[j].toNat : Int)) := by
  intro j h
  match j, h with
  | 0, _ => exact (show Dull 116 from by refine ⟨?_, ?_, ?_, ?_, ?_⟩ <;> decide)
  | 1, _ => exact (show Dull 114 from by refine ⟨?_, ?_, ?_, ?_, ?_⟩ <;> decide)
  | 2, _ => exact (show Dull 117 from by refine ⟨?_, ?_, ?_, ?_, ?_⟩ <;> decide)
  | 3, _ => exact (show Dull 101 from by refine ⟨?_, ?_, ?_, ?_, ?_⟩ <;> decide)
theorem word_false : Hid (∀ (j : Nat) (h : j < (ByteArray.mk #[102, 97, 108, 115, 101]).size), Dull ((ByteArray.mk #[102, 97, 108, 115, 101])[j].toNat : Int)) := by
  intro j h
  match j, h with
  | 0, _ => exact (show Dull 102 from by refine ⟨?_, ?_, ?_, ?_, ?_⟩ <;> decide)
  | 1, _ => exact (show Dull 97 from by refine ⟨?_, ?_, ?_, ?_, ?_⟩ <;> decide)
  | 2, _ => exact (show Dull 108 from by refine ⟨?_, ?_, ?_, ?_, ?_⟩ <;> decide)
  | 3, _ => exact (show Dull 115 from by refine ⟨?_, ?_, ?_, ?_, ?_⟩ <;> decide)
  | 4, _ => exact (show Dull 101 from by refine ⟨?_, ?_, ?_, ?_, ?_⟩ <;> decide)
theorem word_null : Hid (∀ (j : Nat) (h : j < (ByteArray.mk #[110, 117, 108, 108]).size), Dull ((ByteArray.mk #[110, 117, 108, 108])[j].toNat : Int)) := by
  intro j h
  match j, h with
  | 0, _ => exact (show Dull 110 from by refine ⟨?_, ?_, ?_, ?_, ?_⟩ <;> decide)
  | 1, _ => exact (show Dull 117 from by refine ⟨?_, ?_, ?_, ?_, ?_⟩ <;> decide)
  | 2, _ => exact (show Dull 108 from by refine ⟨?_, ?_, ?_, ?_, ?_⟩ <;> decide)
  | 3, _ => exact (show Dull 108 from by refine ⟨?_, ?_, ?_, ?_, ?_⟩ <;> decide)

theorem beq_of {c k : Int} (h : c = k) : (c == k) = true := beq_iff_eq.2 h
theorem bne_of {c k : Int} (h : ¬ c = k) : (c == k) = false := beq_eq_false_iff_ne.2 h

set_option maxRecDepth 100000 in
set_option maxHeartbeats 2000000 in
theorem value_any (hn : n ≤ 1048576) : ∀ (m p : Nat), n - p ≤ m → ValueC b off n cap t p := by
  intro m
  induction m with
  | zero =>
    intro p hm w hc
    have hb : decide ((n : Int) ≤ (p : Int)) = true := decide_eq_true (by omega)
    have hb0 : decide ((p : Int) < 0) = false := decide_eq_false (by omega)
    go_enter Try.func23, Try.ntmps23
    go_wp2
    go_ret2
    exact ⟨RecV.no, 0, rfl⟩
  | succ m ih =>
    intro p hm w hc
    have hb0 : decide ((p : Int) < 0) = false := decide_eq_false (by omega)
    by_cases hp : p < n
    · have hcp := hc p hp
      have hb : decide ((n : Int) ≤ (p : Int)) = false := decide_eq_false (by omega)
      have hb' : decide (n ≤ p) = false := decide_eq_false (by omega)
      have hV : Hid (∀ q, p < q → ValueC b off n cap t q) := fun q hq => ih q (by omega)
      clear ih
      by_cases e1 : t p = 34
      · have f1 := beq_of e1
        have hf : Hid (¬ (t p = 91 ∨ t p = 123)) := by show ¬ _; omega
        clear e1
        go_enter Try.func23, Try.ntmps23
        go_wp2_with fail
        refine (string_any (p : Int) (by omega) hn _ hc).mono ?_
        rintro e w1 ⟨hr, rfl⟩
        rw [Int.toNat_natCast] at hr
        obtain ⟨r, ok, rfl, hv⟩ := hr.val hf.out
        clear hr
        go_wp2
        go_ret2
        exact ⟨⟨r, ok, rfl, hv⟩, 0, rfl⟩
      · have f1 := bne_of e1
        by_cases e2 : t p = 91
        · have f2 := beq_of e2
          have e2' : Hid (t p = 91) := e2
          clear e1 e2
          go_enter Try.func23, Try.ntmps23
          go_wp2_with fail
          refine (array_of p hp hn e2'.out hV _ hc).mono ?_
          rintro e w1 ⟨⟨r, ok, rfl, hv⟩, nd, rfl⟩
          go_wp2
          go_ret2
          exact ⟨⟨r, ok, rfl, hv⟩, nd, rfl⟩
        · have f2 := bne_of e2
          by_cases e3 : t p = 123
          · have f3 := beq_of e3
            have e3' : Hid (t p = 123) := e3
            clear e1 e2 e3
            go_enter Try.func23, Try.ntmps23
            go_wp2_with fail
            refine (object_of p hp hn e3'.out hV _ hc).mono ?_
            rintro e w1 ⟨⟨r, ok, rfl, hv⟩, nd, rfl⟩
            go_wp2
            go_ret2
            exact ⟨⟨r, ok, rfl, hv⟩, nd, rfl⟩
          · have f3 := bne_of e3
            have hf : Hid (¬ (t p = 91 ∨ t p = 123)) := by show ¬ _; omega
            clear hV
            by_cases e4 : t p = 116
            · have f4 := beq_of e4
              clear e1 e2 e3 e4
              go_enter Try.func23, Try.ntmps23
              go_wp2_with fail
              refine (literal_any _ (by decide) (by decide) word_true (p : Int) (by omega) (by omega) hn _ hc).mono ?_
              rintro e w1 ⟨hr, nd, rfl⟩
              rw [Int.toNat_natCast] at hr
              obtain ⟨r, ok, rfl, hv⟩ := hr.val hf.out
              clear hr
              go_wp2
              go_ret2
              exact ⟨⟨r, ok, rfl, hv⟩, nd, rfl⟩
            · have f4 := bne_of e4
              by_cases e5 : t p = 102
              · have f5 := beq_of e5
                clear e1 e2 e3 e4 e5
                go_enter Try.func23, Try.ntmps23
                go_wp2_with fail
                refine (literal_any _ (by decide) (by decide) word_false (p : Int) (by omega) (by omega) hn _ hc).mono ?_
                rintro e w1 ⟨hr, nd, rfl⟩
                rw [Int.toNat_natCast] at hr
                obtain ⟨r, ok, rfl, hv⟩ := hr.val hf.out
                clear hr
                go_wp2
                go_ret2
                exact ⟨⟨r, ok, rfl, hv⟩, nd, rfl⟩
              · have f5 := bne_of e5
                by_cases e6 : t p = 110
                · have f6 := beq_of e6
                  clear e1 e2 e3 e4 e5 e6
                  go_enter Try.func23, Try.ntmps23
                  go_wp2_with fail
                  refine (literal_any _ (by decide) (by decide) word_null (p : Int) (by omega) (by omega) hn _ hc).mono ?_
                  rintro e w1 ⟨hr, nd, rfl⟩
                  rw [Int.toNat_natCast] at hr
                  obtain ⟨r, ok, rfl, hv⟩ := hr.val hf.out
                  clear hr
                  go_wp2
                  go_ret2
                  exact ⟨⟨r, ok, rfl, hv⟩, nd, rfl⟩
                · have f6 := bne_of e6
                  clear e1 e2 e3 e4 e5 e6
                  obtain ⟨x1, hx1⟩ : ∃ x : Bool, Hid (x = (t p == 45 || (decide (48 ≤ t p) && decide (t p ≤ 57)))) := ⟨_, rfl⟩
                  go_enter Try.func23, Try.ntmps23
                  go_upto_region 16 with fail
                  go_cut [67] (fun v wc => v = .bool x1 ∧ w = wc)
                  case first =>
                    cases h45 : (t p == 45)
                    · by_cases h48 : 48 ≤ t p
                      · have hr : Hid (x1 = decide (t p ≤ 57)) := by show x1 = _; rw [hx1.out, h45, decide_eq_true h48, Bool.false_or, Bool.true_and]
                        go_wp2
                        go_meet
                        case rel => exact ⟨by rw [hr.out], rfl⟩
                      · have hr : Hid (x1 = false) := by show x1 = _; rw [hx1.out, h45, decide_eq_false h48]; rfl
                        go_wp2
                        go_meet
                        case rel => exact ⟨by rw [hr.out], rfl⟩
                    · have hr : Hid (x1 = true) := by show x1 = _; rw [hx1.out, h45]; rfl
                      go_wp2
                      go_meet
                      case rel => exact ⟨by rw [hr.out], rfl⟩
                  case rest =>
                    obtain ⟨rfl, rfl⟩ := hcut
                    cases x1
                    · go_wp2
                      go_ret2
                      exact ⟨RecV.no, 0, rfl⟩
                    · go_wp2_with fail
                      refine (number_any (p : Int) (by omega) (by omega) hn _ hc).mono ?_
                      rintro e w1 ⟨hr, rfl⟩
                      rw [Int.toNat_natCast] at hr
                      obtain ⟨r, ok, rfl, hv⟩ := hr.val hf.out
                      clear hr
                      go_wp2
                      go_ret2
                      exact ⟨⟨r, ok, rfl, hv⟩, 0, rfl⟩
    · have hb : decide ((n : Int) ≤ (p : Int)) = true := decide_eq_true (by omega)
      go_enter Try.func23, Try.ntmps23
      go_wp2
      go_ret2
      exact ⟨RecV.no, 0, rfl⟩

end
end Go.Proofs.Qxb6600009a.Scan
