/-
  Seat b6001398a: contracts of the functions on the road of FnDateFieldsAcceptsExactlyTheShape.
-/
import Derived.Test.Qxb6001398aProg
import Derived.WalkKit
import Derived.ProofKit
import Derived.OpenShut
import Derived.ShutString
import Derived.Lib.Strings
namespace Go.Proofs.Qxb6001398a.Dates
open Go.ChangeShapes Go.WideShapes Go.ChangeAt Go.RowKit

/-- an ASCII digit -/
def isDig (c : UInt8) : Bool := decide (48 ≤ (c.toNat : Int)) && decide ((c.toNat : Int) ≤ 57)
/-- digits alone -/
def allDig (l : List UInt8) : Bool := l.all isDig

theorem take_snoc (s : ByteArray) (k : Nat) (h : k < s.size) : s.data.toList.take (k + 1) = s.data.toList.take k ++ [s[k]] := by
  rw [List.take_succ_eq_append_getElem (by simpa using h)]; rfl

theorem all_take_snoc (s : ByteArray) (k : Nat) (h : k < s.size) : allDig (s.data.toList.take (k + 1)) = (allDig (s.data.toList.take k) && isDig s[k]) := by
  rw [take_snoc s k h]; simp [allDig]

theorem all_false (s : ByteArray) (k : Nat) (h : k < s.size) (hn : isDig s[k] = false) : allDig s.data.toList = false := by
  simp only [allDig, List.all_eq_false]
  exact ⟨s[k], Array.getElem_mem_toList (xs := s.data) h, by simp [hn]⟩

theorem dig_of {c : UInt8} (h1 : 48 ≤ (c.toNat : Int)) (h2 : (c.toNat : Int) ≤ 57) : isDig c = true := by simp [isDig]; omega
theorem dig_no {c : UInt8} (h : (c.toNat : Int) < 48 ∨ 57 < (c.toNat : Int)) : isDig c = false := by simp [isDig]; omega

theorem results_tmp4 {fn : Func} {t u v x : Tmp} (h : fn.results = #[.tmp t, .tmp u, .tmp v, .tmp x]) (tmps : Array Value) (P : Program) (w : World) :
    (results fn tmps).run P w = .ok (.tuple #[tmps.getD t undef, tmps.getD u undef, tmps.getD v undef, tmps.getD x undef]) w := by
  simp [results, h]

set_option maxHeartbeats 400000 in
theorem digitsValue_any (s : ByteArray) (w : World) (hs : s.size ≤ maxLen) :
    Calls Try.prog 27 #[.string s] w fun e w' => ∃ n : Int, e = .returned (.tuple #[.int .i64 n, .bool (allDig s.data.toList)]) ∧ w' = w := by
  unfold maxLen at hs
  go_enter Try.func27, Try.ntmps27
  go_wp2
  go_loop [4, 5] (fun n i => ∃ (k : Nat) (z : Int), k ≤ s.size ∧ i = .int .i64 k ∧ n = .int .i64 z ∧ Hid (allDig (s.data.toList.take k) = true)) (fun _ i => s.size - (intOf i).toNat)
  case atStart => exact ⟨0, 0, Nat.zero_le _, rfl, rfl, (rfl : allDig [] = true)⟩
  case round =>
    obtain ⟨k, z, hk, rfl, rfl, hd⟩ := hrel
    by_cases hlt : k < s.size
    · go_wp2
      · have ha := all_false s k hlt (dig_no (by assumption))
        go_ret2
        simp [ha]
      · have ha : allDig (s.data.toList.take (k + 1)) = true := by rw [all_take_snoc s k hlt, hd.out, dig_of (by omega) (by omega)]; rfl
        go_round
        case rel => exact ⟨k + 1, _, by omega, by go_num, rfl, ha⟩
        case measure => simp [intOf]; omega
      · have ha := all_false s k hlt (dig_no (.inl (by assumption)))
        go_ret2
        simp [ha]
    · have ha : allDig s.data.toList = true := by
        have := hd.out
        rwa [List.take_of_length_le (by simp; omega)] at this
      go_wp2
      go_ret2
      simp

/-- what 'dateFields' answers of the shape -/
def dateOk (l : List UInt8) : Bool := l.length == 10 && l.getD 4 0 == 45 && l.getD 7 0 == 45 && allDig (l.take 4) && allDig ((l.drop 5).take 2) && allDig (l.drop 8)

theorem at_list (s : ByteArray) (k : Nat) (h : k < s.size) : s.data.toList.getD k 0 = s[k] := by
  rw [List.getD_eq_getElem?_getD, List.getElem?_eq_getElem (by simpa using h)]; rfl

theorem byte_ne {c : UInt8} (h : ¬ c = 45) : ((c.toNat : Int) == 45) = false := by
  rw [beq_eq_false_iff_ne]; intro e; apply h; apply UInt8.toNat_inj.1; exact Int.ofNat_inj.1 e

theorem ok_len (s : ByteArray) (h : ¬ s.size = 10) : dateOk s.data.toList = false := by
  have : (s.data.toList.length == 10) = false := by simpa using h
  simp only [dateOk, this, Bool.false_and]
theorem ok_4 (s : ByteArray) (h : 4 < s.size) (c : ¬ s[4] = 45) : dateOk s.data.toList = false := by
  have : (s.data.toList.getD 4 0 == 45) = false := by rw [at_list s 4 h]; simpa using c
  simp only [dateOk, this, Bool.false_and, Bool.and_false]
theorem ok_7 (s : ByteArray) (h : 7 < s.size) (c : ¬ s[7] = 45) : dateOk s.data.toList = false := by
  have : (s.data.toList.getD 7 0 == 45) = false := by rw [at_list s 7 h]; simpa using c
  simp only [dateOk, this, Bool.false_and, Bool.and_false]
theorem ok_yes (s : ByteArray) (hz : s.size = 10) (c4 : s[4] = 45) (c7 : s[7] = 45) :
    dateOk s.data.toList = (allDig (s.extract 0 4).data.toList && allDig (s.extract 5 7).data.toList && allDig (s.extract 8 10).data.toList) := by
  have h4 := at_list s 4 (by omega)
  have h7 := at_list s 7 (by omega)
  have hl : s.data.toList.length = 10 := by simpa using hz
  have h8 : (s.data.toList.drop 8).take (10 - 8) = s.data.toList.drop 8 := List.take_of_length_le (by simp only [List.length_drop, hl]; omega)
  simp only [dateOk, h4, h7, c4, c7, hl, Lib.extract_data, h8]
  simp

set_option maxHeartbeats 400000 in
theorem dateFields_any (s : ByteArray) (w : World) :
    Calls Try.prog 28 #[.string s] w fun e w' => ∃ y m d : Int, e = .returned (.tuple #[.int .i64 y, .int .i64 m, .int .i64 d, .bool (dateOk s.data.toList)]) ∧ w' = w := by
  by_cases hz : s.size = 10
  · by_cases c4 : s[4] = 45
    · by_cases c7 : s[7] = 45
      · have H : Hid (_ = _) := ok_yes s hz c4 c7
        go_enter Try.func28, Try.ntmps28
        go_wp2_with fail
        refine (digitsValue_any (s.extract 0 4) _ (by unfold maxLen; simp; omega)).mono ?_
        rintro e w1 ⟨n1, rfl, rfl⟩
        generalize allDig (s.extract 0 4).data.toList = b1 at *
        go_wp2_with fail
        refine (digitsValue_any (s.extract 5 7) _ (by unfold maxLen; simp; omega)).mono ?_
        rintro e w1 ⟨n2, rfl, rfl⟩
        generalize allDig (s.extract 5 7).data.toList = b2 at *
        go_wp2_with fail
        refine (digitsValue_any (s.extract 8 10) _ (by unfold maxLen; simp; omega)).mono ?_
        rintro e w1 ⟨n3, rfl, rfl⟩
        generalize allDig (s.extract 8 10).data.toList = b3 at *
        cases b1 <;> cases b2 <;> cases b3
        all_goals
          go_wp2
          refine bodyPost_ret (results_tmp4 rfl _ _ _) rfl ?_
          exact ⟨n1, n2, n3, by rw [H.out]; rfl, rfl⟩
      · have h7 := byte_ne c7
        have H : Hid (_ = _) := ok_7 s (by omega) c7
        go_enter Try.func28, Try.ntmps28
        go_wp2
        refine bodyPost_ret (results_tmp4 rfl _ _ _) rfl ?_
        exact ⟨0, 0, 0, by rw [H.out]; rfl, rfl⟩
    · have h4 := byte_ne c4
      have H : Hid (_ = _) := ok_4 s (by omega) c4
      go_enter Try.func28, Try.ntmps28
      go_wp2
      refine bodyPost_ret (results_tmp4 rfl _ _ _) rfl ?_
      exact ⟨0, 0, 0, by rw [H.out]; rfl, rfl⟩
  · have H : Hid (_ = _) := ok_len s hz
    have hb : ((s.size : Int) == 10) = false := by rw [beq_eq_false_iff_ne]; omega
    go_enter Try.func28, Try.ntmps28
    go_wp2
    refine bodyPost_ret (results_tmp4 rfl _ _ _) rfl ?_
    exact ⟨0, 0, 0, by rw [H.out]; rfl, rfl⟩

theorem zzDateFields_any (s : ByteArray) (w : World) :
    Calls Try.prog 18 #[.string s] w fun e w' => ∃ y m d : Int, e = .returned (.tuple #[.int .i64 y, .int .i64 m, .int .i64 d, .bool (dateOk s.data.toList)]) ∧ w' = w := by
  go_enter Try.func18, Try.ntmps18
  go_wp2_with fail
  refine (dateFields_any s _).mono ?_
  rintro e w1 ⟨y, m, d, rfl, rfl⟩
  go_wp2
  refine bodyPost_ret (results_tmp4 rfl _ _ _) rfl ?_
  exact ⟨y, m, d, rfl, rfl⟩

theorem isDigit_any (c : UInt8) (w : World) :
    Calls Try.prog 20 #[.int .u8 c.toNat] w fun e w' => e = .returned (.bool (isDig c)) ∧ w' = w := by
  by_cases h1 : 48 ≤ (c.toNat : Int)
  · have hb : Hid (isDig c = decide ((c.toNat : Int) ≤ 57)) := by show isDig c = _; simp [isDig]; omega
    go_enter Try.func20, Try.ntmps20
    go_wp2
    go_ret
    exact ⟨by rw [hb.out]; rfl, rfl⟩
  · have hb : Hid (isDig c = false) := dig_no (by omega)
    go_enter Try.func20, Try.ntmps20
    go_wp2
    go_ret
    exact ⟨by rw [hb.out]; rfl, rfl⟩

theorem bound_le (s : ByteArray) (w : World) (h : s.size ≤ 1048576) :
    Calls Try.prog 19 #[.string s] w fun e w' => e = .returned (.bool true) ∧ w' = w := by
  go_enter Try.func19, Try.ntmps19
  go_wp2
  go_ret
  exact ⟨rfl, rfl⟩

theorem bound_gt (s : ByteArray) (w : World) (h : 1048576 < s.size) :
    Calls Try.prog 19 #[.string s] w fun e w' => e = .returned (.bool false) ∧ w' = w := by
  go_enter Try.func19, Try.ntmps19
  go_wp2
  go_ret
  exact ⟨rfl, rfl⟩

/-- place i is as the shape wants it -/
def posOk (l : List UInt8) (i : Nat) : Bool := if i = 4 ∨ i = 7 then l.getD i 0 == 45 else isDig (l.getD i 0)
/-- the first k places are -/
def shapeTo (l : List UInt8) (k : Nat) : Bool := (List.range k).all (posOk l)

theorem shapeTo_succ (l : List UInt8) (k : Nat) : shapeTo l (k + 1) = (shapeTo l k && posOk l k) := by
  simp [shapeTo, List.range_succ]

theorem ten (l : List UInt8) (h : l.length = 10) : ∃ a b c d e f g i j k, l = [a, b, c, d, e, f, g, i, j, k] := by
  match l, h with
  | [a, b, c, d, e, f, g, i, j, k], _ => exact ⟨a, b, c, d, e, f, g, i, j, k, rfl⟩

/-- THE PLAIN LAW -/
theorem shape_date (l : List UInt8) (h : l.length = 10) : shapeTo l 10 = dateOk l := by
  obtain ⟨a, b, c, d, e, f, g, i, j, k, rfl⟩ := ten l h
  simp only [shapeTo, dateOk, allDig, List.range, List.range.loop, List.all_cons, List.all_nil, posOk]
  simp
  generalize isDig a = a; generalize isDig b = b; generalize isDig c = c; generalize isDig d = d; generalize isDig f = f
  generalize isDig g = g; generalize isDig j = j; generalize isDig k = k
  generalize (e == 45) = e; generalize (i == 45) = i
  revert a b c d e f g i j k
  decide

theorem pos_dash (s : ByteArray) (k : Nat) (h : k < s.size) (hk : k = 4 ∨ k = 7) : posOk s.data.toList k = (s[k] == 45) := by
  rw [posOk, if_pos hk, at_list s k h]
theorem pos_dig (s : ByteArray) (k : Nat) (h : k < s.size) (hk : ¬ (k = 4 ∨ k = 7)) : posOk s.data.toList k = isDig s[k] := by
  rw [posOk, if_neg hk, at_list s k h]

set_option maxHeartbeats 800000 in
theorem law_any (s : ByteArray) (w : World) (hs : s.size ≤ maxLen) :
    Calls Try.prog 7 #[.string s] w fun e w' => e = .returned (.bool true) ∧ w' = w := by
  unfold maxLen at hs
  by_cases hb : s.size ≤ 1048576
  · by_cases hz : s.size = 10
    · have hfin : Hid (_ = _) := shape_date s.data.toList (by simpa using hz)
      go_enter Try.func7, Try.ntmps7
      go_wp2_with fail
      refine (bound_le s _ hb).mono ?_
      rintro e w1 ⟨rfl, rfl⟩
      go_wp2_with fail
      refine (zzDateFields_any s _).mono ?_
      rintro e w1 ⟨y, m, d, rfl, rfl⟩
      generalize dateOk s.data.toList = ok at *
      go_wp2_with fail
      go_loop [7, 8] (fun b j => ∃ k : Nat, k ≤ 10 ∧ j = .int .i64 k ∧ b = .bool (shapeTo s.data.toList k)) (fun _ j => 10 - (intOf j).toNat)
      case atStart => exact ⟨0, Nat.zero_le _, rfl, rfl⟩
      case round =>
        obtain ⟨k, hk, rfl, rfl⟩ := hrel
        by_cases hlt : k < 10
        · have hsn : Hid (_ = _) := shapeTo_succ s.data.toList k
          generalize shapeTo s.data.toList k = bk at *
          by_cases hd : k = 4 ∨ k = 7
          · have hp : Hid (_ = _) := pos_dash s k (by omega) hd
            rcases hd with rfl | rfl
            · by_cases hc : s[4] = 45
              · go_wp2
                go_round
                case rel => exact ⟨4 + 1, by omega, by go_num, by rw [hsn.out, hp.out, hc]; simp⟩
                case measure => simp [intOf]
              · have hn := byte_ne hc
                go_wp2
                go_round
                case rel => exact ⟨4 + 1, by omega, by go_num, by rw [hsn.out, hp.out, beq_eq_false_iff_ne.2 hc]; simp⟩
                case measure => simp [intOf]
            · by_cases hc : s[7] = 45
              · go_wp2
                go_round
                case rel => exact ⟨7 + 1, by omega, by go_num, by rw [hsn.out, hp.out, hc]; simp⟩
                case measure => simp [intOf]
              · have hn := byte_ne hc
                go_wp2
                go_round
                case rel => exact ⟨7 + 1, by omega, by go_num, by rw [hsn.out, hp.out, beq_eq_false_iff_ne.2 hc]; simp⟩
                case measure => simp [intOf]
          · have hp : Hid (_ = _) := pos_dig s k (by omega) hd
            have hk4 : ((k : Int) == 4) = false := by rw [beq_eq_false_iff_ne]; omega
            have hk7 : ((k : Int) == 7) = false := by rw [beq_eq_false_iff_ne]; omega
            go_wp2_with fail
            refine (isDigit_any s[k] _).mono ?_
            rintro e w1 ⟨rfl, rfl⟩
            generalize isDig s[k] = dk at *
            cases dk
            all_goals
              go_wp2
              go_round
              case rel => exact ⟨k + 1, by omega, by go_num, by rw [hsn.out, hp.out]; simp⟩
              case measure => simp [intOf]; omega
        · obtain rfl : k = 10 := by omega
          rw [hfin.out]
          go_wp2
          go_ret
          exact ⟨by simp, rfl⟩
    · have hok : dateOk s.data.toList = false := ok_len s hz
      have hn : ((s.size : Int) == 10) = false := by rw [beq_eq_false_iff_ne]; omega
      go_enter Try.func7, Try.ntmps7
      go_wp2_with fail
      refine (bound_le s _ hb).mono ?_
      rintro e w1 ⟨rfl, rfl⟩
      go_wp2_with fail
      refine (zzDateFields_any s _).mono ?_
      rintro e w1 ⟨y, m, d, rfl, rfl⟩
      rw [hok]
      go_wp2
      go_ret
      exact ⟨rfl, rfl⟩
  · go_enter Try.func7, Try.ntmps7
    go_wp2_with fail
    refine (bound_gt s _ (by omega)).mono ?_
    rintro e w1 ⟨rfl, rfl⟩
    go_wp2
    go_ret
    exact ⟨rfl, rfl⟩

end Go.Proofs.Qxb6001398a.Dates
