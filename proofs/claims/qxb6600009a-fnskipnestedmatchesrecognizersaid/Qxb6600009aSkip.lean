/-
  Seat b6600009a: the contracts of (*scanner).skipString and (*scanner).skipNested.
-/
import Derived.Test.Qxb6600009aRec
import Derived.Deep.LoopGhost
namespace Go.Proofs.Qxb6600009a.Scan
open Go.ChangeShapes Go.WideShapes Go.ChangeAt Go.RowKit
open Plain

/-- a scanner lies in block S: its text is the text, it stands at p -/
structure St (S b off n cap : Nat) (t : Nat → Int) (p : Nat) (w : World) : Prop where
  txt : Cells b off n t w
  c0 : w.cell? ⟨S, 0, none⟩ = some (.slice (some ⟨b, off, none⟩) n cap)
  c1 : w.cell? ⟨S, 1, none⟩ = some (.int .i64 p)
  fr : w.frozen? ⟨S, 1, none⟩ = false
  ne : b < S

section
variable {S b off n cap : Nat} {t : Nat → Int}

theorem St.drew {p : Nat} {w : World} (h : St S b off n cap t p w) (m : Nat) : St S b off n cap t p (w.drewN m) := ⟨h.txt, h.c0, h.c1, h.fr, h.ne⟩
theorem St.set {p : Nat} {w : World} (h : St S b off n cap t p w) (q : Nat) : St S b off n cap t q (w.setCell ⟨S, 1, none⟩ (.int .i64 q)) where
  txt := fun j hj => by
    rw [World.cell?_setCell_other]
    · exact h.txt j hj
    · intro e; have e1 := congrArg Addr.block e; have e2 := h.ne; simp only at e1; omega
  c0 := by
    rw [World.cell?_setCell_other]
    · exact h.c0
    · intro e; have := congrArg Addr.off e; simp at this
  c1 := World.cell?_setCell_same _ _ _ h.c1
  fr := by simpa using h.fr
  ne := h.ne

set_option maxRecDepth 100000 in
set_option maxHeartbeats 2000000 in
theorem skipString_any (p : Nat) (hp : p < n) (hn : n ≤ 1048576) (w : World) (hs : St S b off n cap t p w) :
    Calls Try.prog 30 #[.pointer (some ⟨S, 0, none⟩)] w fun e w' => e = .returned (.tuple #[]) ∧ St S b off n cap t (SS n t (p + 1)) w' ∧ Below S w w' := by
  have hc1 := hs.c1
  have hfr := hs.fr
  go_enter Try.func30, Try.ntmps30
  go_wp2
  go_loopg [] (n + 2) (fun k wr => ∃ q : Nat, St S b off n cap t q wr ∧ Below S w wr ∧ q ≤ n + 1 ∧ n + 2 - q ≤ k ∧ Hid (SS n t (p + 1) = SS n t q))
  case atStart => exact ⟨p + 1, hs.set (p + 1), (Below.refl S w).setCell (p := ⟨S, 1, none⟩) (Nat.le_refl _) _, by omega, by omega, (rfl : SS n t (p + 1) = SS n t (p + 1))⟩
  case round =>
    obtain ⟨q, hs', hb, hq, hk, hS⟩ := hrel
    have Hk : Hid (_ ≤ _) := hk
    clear hk hs hc1 hfr
    have hc0 := hs'.c0
    have hc1 := hs'.c1
    have hfr := hs'.fr
    by_cases hlt : q < n
    · have hcq := hs'.txt q hlt
      have hb1 : (0 : Int) ≤ (q : Int) := by omega
      have hb2 : (q : Int) < (n : Int) := by omega
      cases h92 : (t q == 92)
      · cases h34 : (t q == 34)
        · have hS' : Hid (SS n t (p + 1) = SS n t (q + 1)) := hS.out.trans (SS_plain hlt (beq_eq_false_iff_ne.1 h92) (beq_eq_false_iff_ne.1 h34))
          go_wp2
          go_quiet (fail)
          go_wp2
          go_quiet (fail)
          go_wp2
          go_roundg (n + 2 - (q + 1))
          case measure => have := Hk.out; omega
          case rel => exact ⟨q + 1, (hs'.drew _).set (q + 1), (below_drewN hb _).setCell (Nat.le_refl _) _, by omega, Nat.le_refl _, hS'⟩
        · have hS' : Hid (SS n t (p + 1) = q + 1) := hS.out.trans (SS_quote hlt (beq_iff_eq.1 h34))
          go_wp2
          go_quiet (fail)
          go_wp2
          go_quiet (fail)
          go_wp2
          refine bodyPost_ret (results_none rfl _ _ _) rfl ?_
          refine ⟨rfl, ?_, (below_drewN hb _).setCell (Nat.le_refl _) _⟩
          rw [hS'.out]
          exact (hs'.drew _).set (q + 1)
      · have hS' : Hid (SS n t (p + 1) = SS n t (q + 2)) := hS.out.trans (SS_esc hlt (beq_iff_eq.1 h92))
        go_wp2
        go_quiet (fail)
        go_wp2
        go_quiet (fail)
        go_wp2
        go_roundg (n + 2 - (q + 2))
        case measure => have := Hk.out; omega
        case rel => exact ⟨q + 2, ((hs'.drew _).set (q + 1)).set (q + 2), ((below_drewN hb _).setCell (Nat.le_refl _) _).setCell (Nat.le_refl _) _, by omega, Nat.le_refl _, hS'⟩
    · have hb2 : decide ((q : Int) < (n : Int)) = false := decide_eq_false (by omega)
      have hS' : Hid (SS n t (p + 1) = q) := by show _ = q; rw [hS.out, SS, if_neg hlt]
      go_wp2
      go_quiet (fail)
      go_wp2
      go_end0
      refine ⟨rfl, ?_, below_drewN hb _⟩
      rw [hS'.out]
      exact hs'.drew _

set_option maxRecDepth 100000 in
set_option maxHeartbeats 2000000 in
theorem skipNested_any (p : Nat) (hp : p ≤ n) (hn : n ≤ 1048576) (w : World) (hs : St S b off n cap t p w) :
    Calls Try.prog 38 #[.pointer (some ⟨S, 0, none⟩)] w fun e w' => e = .returned (.tuple #[]) ∧ St S b off n cap t (SN n t p 0) w' ∧ Below S w w' := by
  go_enter Try.func38, Try.ntmps38
  go_wp2
  go_loopg [2, 3] (n + 2) (fun k v _ wr => ∃ (q : Nat) (d : Int), v = .int .i64 d ∧ St S b off n cap t q wr ∧ Below S w wr ∧ q ≤ n + 1 ∧ 0 ≤ d + q ∧ d ≤ q ∧ n + 2 - q ≤ k ∧ Hid (SN n t p 0 = SN n t q d))
  case atStart => exact ⟨p, 0, rfl, hs, Below.refl _ _, by omega, by omega, by omega, by omega, (rfl : SN n t p 0 = SN n t p 0)⟩
  case round =>
    obtain ⟨q, d, rfl, hs', hb, hq, hd1, hd2, hk, hS⟩ := hrel
    have Hk : Hid (_ ≤ _) := hk
    clear hk hs
    have hc0 := hs'.c0
    have hc1 := hs'.c1
    have hfr := hs'.fr
    by_cases hlt : q < n
    · have hcq := hs'.txt q hlt
      have hb1 : (0 : Int) ≤ (q : Int) := by omega
      have hb2 : (q : Int) < (n : Int) := by omega
      cases h34 : (t q == 34)
      · have n34 := beq_eq_false_iff_ne.1 h34
        cases h91 : (t q == 91)
        · have n91 := beq_eq_false_iff_ne.1 h91
          cases h123 : (t q == 123)
          · have n123 := beq_eq_false_iff_ne.1 h123
            cases h93 : (t q == 93)
            · have n93 := beq_eq_false_iff_ne.1 h93
              cases h125 : (t q == 125)
              · have n125 := beq_eq_false_iff_ne.1 h125
                have hS' : Hid (SN n t p 0 = SN n t (q + 1) d) := hS.out.trans (SN_dull hlt ⟨n34, n91, n123, n93, n125⟩)
                clear n34 n91 n123 n93 n125
                go_wp2
                go_quiet (fail)
                go_wp2
                go_quiet (fail)
                go_wp2
                go_roundg (n + 2 - (q + 1))
                case measure => have := Hk.out; omega
                case rel => exact ⟨q + 1, d, rfl, (hs'.drew _).set (q + 1), (below_drewN hb _).setCell (Nat.le_refl _) _, by omega, by omega, by omega, Nat.le_refl _, hS'⟩
              · have hcl : t q = 93 ∨ t q = 125 := .inr (beq_iff_eq.1 h125)
                clear n34 n91 n123 n93
                cases hd0 : (d - 1 == 0)
                · have hS' : Hid (SN n t p 0 = SN n t (q + 1) (d - 1)) := hS.out.trans (SN_close hlt hcl (beq_eq_false_iff_ne.1 hd0))
                  clear hcl
                  go_wp2
                  go_quiet (fail)
                  go_wp2
                  go_quiet (fail)
                  go_wp2
                  go_roundg (n + 2 - (q + 1))
                  case measure => have := Hk.out; omega
                  case rel => exact ⟨q + 1, d - 1, rfl, (hs'.drew _).set (q + 1), (below_drewN hb _).setCell (Nat.le_refl _) _, by omega, by omega, by omega, Nat.le_refl _, hS'⟩
                · have hS' : Hid (SN n t p 0 = q + 1) := hS.out.trans (SN_last hlt hcl (beq_iff_eq.1 hd0))
                  clear hcl
                  go_wp2
                  go_quiet (fail)
                  go_wp2
                  go_quiet (fail)
                  go_wp2
                  refine bodyPost_ret (results_none rfl _ _ _) rfl ?_
                  refine ⟨rfl, ?_, (below_drewN hb _).setCell (Nat.le_refl _) _⟩
                  rw [hS'.out]
                  exact (hs'.drew _).set (q + 1)
            · have hcl : t q = 93 ∨ t q = 125 := .inl (beq_iff_eq.1 h93)
              clear n34 n91 n123
              cases hd0 : (d - 1 == 0)
              · have hS' : Hid (SN n t p 0 = SN n t (q + 1) (d - 1)) := hS.out.trans (SN_close hlt hcl (beq_eq_false_iff_ne.1 hd0))
                clear hcl
                go_wp2
                go_quiet (fail)
                go_wp2
                go_quiet (fail)
                go_wp2
                go_roundg (n + 2 - (q + 1))
                case measure => have := Hk.out; omega
                case rel => exact ⟨q + 1, d - 1, rfl, (hs'.drew _).set (q + 1), (below_drewN hb _).setCell (Nat.le_refl _) _, by omega, by omega, by omega, Nat.le_refl _, hS'⟩
              · have hS' : Hid (SN n t p 0 = q + 1) := hS.out.trans (SN_last hlt hcl (beq_iff_eq.1 hd0))
                clear hcl
                go_wp2
                go_quiet (fail)
                go_wp2
                go_quiet (fail)
                go_wp2
                refine bodyPost_ret (results_none rfl _ _ _) rfl ?_
                refine ⟨rfl, ?_, (below_drewN hb _).setCell (Nat.le_refl _) _⟩
                rw [hS'.out]
                exact (hs'.drew _).set (q + 1)
          · have hS' : Hid (SN n t p 0 = SN n t (q + 1) (d + 1)) := hS.out.trans (SN_open hlt (.inr (beq_iff_eq.1 h123)))
            clear n34 n91
            go_wp2
            go_quiet (fail)
            go_wp2
            go_quiet (fail)
            go_wp2
            go_roundg (n + 2 - (q + 1))
            case measure => have := Hk.out; omega
            case rel => exact ⟨q + 1, d + 1, rfl, (hs'.drew _).set (q + 1), (below_drewN hb _).setCell (Nat.le_refl _) _, by omega, by omega, by omega, Nat.le_refl _, hS'⟩
        · have hS' : Hid (SN n t p 0 = SN n t (q + 1) (d + 1)) := hS.out.trans (SN_open hlt (.inl (beq_iff_eq.1 h91)))
          clear n34
          go_wp2
          go_quiet (fail)
          go_wp2
          go_quiet (fail)
          go_wp2
          go_roundg (n + 2 - (q + 1))
          case measure => have := Hk.out; omega
          case rel => exact ⟨q + 1, d + 1, rfl, (hs'.drew _).set (q + 1), (below_drewN hb _).setCell (Nat.le_refl _) _, by omega, by omega, by omega, Nat.le_refl _, hS'⟩
      · have hS' : Hid (SN n t p 0 = SN n t (SS n t (q + 1)) d) := hS.out.trans (SN_quote hlt (beq_iff_eq.1 h34))
        have hge := SS_ge n t n (q + 1) (by omega)
        have hle := SS_le n t n (q + 1) (by omega) (by omega)
        go_wp2
        go_quiet (fail)
        go_wp2
        go_quiet (fail)
        go_wp2_with fail
        refine (skipString_any q hlt hn _ (hs'.drew _)).mono ?_
        rintro e w2 ⟨rfl, hs2, hb2'⟩
        generalize SS n t (q + 1) = q2 at *
        have hb3 := (below_drewN hb _).trans hb2'
        clear hb2' hc0 hc1 hfr hcq hb hs'
        go_wp2
        go_roundg (n + 2 - q2)
        case measure => have := Hk.out; omega
        case rel => exact ⟨q2, d, rfl, hs2, hb3, hle, by omega, by omega, Nat.le_refl _, hS'⟩
    · have hb2 : decide ((q : Int) < (n : Int)) = false := decide_eq_false (by omega)
      have hS' : Hid (SN n t p 0 = q) := by show _ = q; rw [hS.out, SN_end hlt]
      go_wp2
      go_quiet (fail)
      go_wp2
      go_end0
      refine ⟨rfl, ?_, below_drewN hb _⟩
      rw [hS'.out]
      exact hs'.drew _
end
end Go.Proofs.Qxb6600009a.Scan
