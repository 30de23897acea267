/-
  Seat b6600217a: the law.
-/
import Derived.Test.Qxb6600217aZz
import Derived.Test.Qxb6600217aTexts
import Derived.Deep.RegionHeld3
namespace Go.Proofs.Qxb6600217a.Bill
open Go.ChangeShapes Go.WideShapes Go.ChangeAt Go.RowKit Go.BigFrame

def fieldV (s : ByteArray) (k : Int) (j : Nat) : Value := if isTxt j then .string (s ++ itoa j) else .int .i64 (k + j)

theorem offs_inj : ∀ i, i < 27 → ∀ j, j < 27 → offs i = offs j → i = j := by decide +kernel
theorem offs_lt : ∀ i, i < 27 → offs i < 27 := by decide +kernel

/-- behind i rounds of the first loop: the first i fields of the row (block R) are filled; the pointers lie in blocks T, T + 1 -/
structure Rw (R T : Nat) (s : ByteArray) (k : Int) (w0 : World) (i : Nat) (w : World) : Prop where
  row : ∃ c, Blk w R c 26 ∧ c.size = 27 ∧ ∀ j, j < i → c[offs j]? = some (fieldV s k j)
  tx : Blk w T (textsArr R) 28
  fn : Blk w (T + 1) (fensArr R) 30
  ext : Ext R w0 w
  lt : R < T

section
variable {R T : Nat} {s : ByteArray} {k : Int} {w0 w : World} {i : Nat}

theorem Rw.step (h : Rw R T s k w0 i w) (hi : i < 27) : Rw R T s k w0 (i + 1) (w.setCell ⟨R, offs i, none⟩ (fieldV s k i)) := by
  obtain ⟨c, b, hs, hc⟩ := h.row
  have ho := offs_lt i hi
  have hlt := h.lt
  refine ⟨⟨_, b.set _ _, by simpa using hs, fun j hj => ?_⟩, h.tx.setOther ⟨R, offs i, none⟩ (by simp; omega) _, h.fn.setOther ⟨R, offs i, none⟩ (by simp; omega) _, h.ext.setCell (p := ⟨R, offs i, none⟩) (Nat.le_refl _) _, h.lt⟩
  by_cases e : i = j
  · subst e; rw [Array.getElem?_setIfInBounds_self_of_lt (by omega)]
  · rw [Array.getElem?_setIfInBounds_ne (fun e' => e (offs_inj i hi j (by omega) e'))]; exact hc j (by omega)
theorem Rw.later {w' : World} {B : Nat} (h : Rw R T s k w0 i w) (hx : Ext B w w') (hB : T + 1 < B) : Rw R T s k w0 i w' := by
  obtain ⟨c, b, hs, hc⟩ := h.row
  have hlt := h.lt
  exact ⟨⟨c, b.below hx.bel (by omega), hs, hc⟩, h.tx.below hx.bel (by omega), h.fn.below hx.bel hB, h.ext.trans (hx.mono (by omega)), h.lt⟩
theorem Rw.drewN (h : Rw R T s k w0 i w) (n : Nat) : Rw R T s k w0 i (w.drewN n) := ⟨h.row, h.tx, h.fn, h.ext.drewN n, h.lt⟩
theorem Rw.cellT (h : Rw R T s k w0 i w) (j : Nat) (hj : j < 27) : w.cell? ⟨T, j, none⟩ = some (.pointer (txtA R j)) := by
  rw [h.tx.cell j]; simp [textsArr, hj]
theorem Rw.cellF (h : Rw R T s k w0 i w) (j : Nat) (hj : j < 27) : w.cell? ⟨T + 1, j, none⟩ = some (.pointer (fenA R j)) := by
  rw [h.fn.cell j]; simp [fensArr, hj]
theorem Rw.cellR (h : Rw R T s k w0 i w) (j : Nat) (hj : j < 27) : ∃ v, w.cell? ⟨R, offs j, none⟩ = some v := by
  obtain ⟨c, b, hs, hc⟩ := h.row
  have ho := offs_lt j hj
  exact ⟨_, (b.cell _).trans (Array.getElem?_eq_getElem (by omega))⟩
theorem Rw.freeR (h : Rw R T s k w0 i w) (j : Nat) : w.frozen? ⟨R, j, none⟩ = false := by
  obtain ⟨c, b, hs, hc⟩ := h.row
  exact b.free j
end

theorem bcell {W w1 : World} (hx : Ext W.heap.size W w1) : (∀ b o, b < W.heap.size → w1.cell? ⟨b, o, none⟩ = W.cell? ⟨b, o, none⟩) ∧ (∀ b o, w1.frozen? ⟨b, o, none⟩ = W.frozen? ⟨b, o, none⟩) :=
  ⟨fun b o h => hx.bel.cell (p := ⟨b, o, none⟩) h, fun b o => hx.fro ⟨b, o, none⟩⟩

theorem keep_store {w3 : World} {T i R o : Nat} {x u : Value} (h1 : w3.cell? ⟨T, i, none⟩ = some x) (h2 : (w3.cell? ⟨R, o, none⟩).isSome = true) (h3 : w3.frozen? ⟨R, o, none⟩ = false) (hne : R < T) :
    (w3.setCell ⟨R, o, none⟩ u).cell? ⟨T, i, none⟩ = some x ∧ ((w3.setCell ⟨R, o, none⟩ u).cell? ⟨R, o, none⟩).isSome = true ∧ (w3.setCell ⟨R, o, none⟩ u).frozen? ⟨R, o, none⟩ = false := by
  refine ⟨?_, ?_, ?_⟩
  · rw [World.cell?_setCell_other]
    · exact h1
    · intro e; have e1 := congrArg Addr.block e; simp only at e1; omega
  · obtain ⟨y, hy⟩ := Option.isSome_iff_exists.1 h2
    rw [World.cell?_setCell_same _ _ _ hy]; rfl
  · rw [World.frozen?_setCell]; exact h3

theorem itoa_size (i : Nat) : (itoa i).size ≤ 2 := by
  unfold itoa; split <;> simp [ByteArray.size]

/-- how many of the first i fields are texts -/
def cnt (i : Nat) : Nat := (txtL.take i).countP id
theorem cnt_txt : ∀ i, i < 27 → isTxt i = true → cnt (i + 1) = cnt i + 1 := by decide +kernel
theorem cnt_fen : ∀ i, i < 27 → isTxt i = false → cnt (i + 1) = cnt i := by decide +kernel
theorem texts_size (R : Nat) : (textsArr R).size = 27 := by simp [textsArr]
theorem fens_size (R : Nat) : (fensArr R).size = 27 := by simp [fensArr]
theorem Try.size28 : (Try.prog.info? 28).map (·.size) = some 27 := by kernel_rfl
theorem Try.size30 : (Try.prog.info? 30).map (·.size) = some 27 := by kernel_rfl
theorem cnt_le (i : Nat) : cnt i ≤ 27 := Nat.le_trans List.countP_le_length (by rw [List.length_take]; exact Nat.min_le_right ..)

def rowInit (k : Int) : Array Value := #[.string ⟨#[]⟩, .string ⟨#[]⟩, .string ⟨#[]⟩, .string ⟨#[]⟩, .string ⟨#[]⟩, .string ⟨#[]⟩, .string ⟨#[]⟩, .string ⟨#[]⟩, .string ⟨#[]⟩, .string ⟨#[]⟩, .string ⟨#[]⟩, .string ⟨#[]⟩, .int .i64 (k - 1), .string ⟨#[]⟩, .string ⟨#[]⟩, .string ⟨#[]⟩, .string ⟨#[]⟩, .string ⟨#[]⟩, .string ⟨#[]⟩, .string ⟨#[]⟩, .string ⟨#[]⟩, .int .i64 (k - 1), .int .i64 (k - 1), .int .i64 (k - 1), .int .i64 (k - 1), .int .i64 (k - 1), .int .i64 (k - 1)]

/-! ### reading the row back -/
def tixL : List Nat := [0, 1, 2, 3, 4, 5, 6, 7, 8, 9, 10, 11, 14, 15, 18, 19, 20, 21, 23, 26]
def fixL : List Nat := [13, 12, 16, 17, 22, 24, 25]
/-- the field that rowTexts puts at place a; that rowFens does -/
def tix (a : Nat) : Nat := tixL.getD a 0
def fix (a : Nat) : Nat := fixL.getD a 0
theorem tix_ok : ∀ a, a < 20 → tix a < 27 ∧ isTxt (tix a) = true ∧ offs (tix a) = toff a := by decide +kernel
theorem fix_ok : ∀ a, a < 7 → fix a < 27 ∧ isTxt (fix a) = false ∧ offs (fix a) = foff a := by decide +kernel
theorem tix_inj : ∀ a, a < 20 → ∀ b, b < 20 → tix a = tix b → a = b := by decide +kernel
theorem fix_inj : ∀ a, a < 7 → ∀ b, b < 7 → fix a = fix b → a = b := by decide +kernel
theorem itoa_inj_all : ∀ i, i < 27 → ∀ j, j < 27 → (itoa i).data.toList = (itoa j).data.toList → i = j := by decide +kernel
theorem itoa_inj (s : ByteArray) {i j : Nat} (hi : i < 27) (hj : j < 27) (h : (s ++ itoa i).data.toList = (s ++ itoa j).data.toList) : i = j := by
  rw [ByteArray.data_append, ByteArray.data_append, Array.toList_append, Array.toList_append] at h
  exact itoa_inj_all i hi j hj (List.append_cancel_left h)

def tsF (s : ByteArray) (a : Nat) : ByteArray := s ++ itoa (tix a)
def fsF (k : Int) (a : Nat) : Int := k + fix a

theorem Rw.texts {R T : Nat} {s : ByteArray} {k : Int} {w0 w : World} (h : Rw R T s k w0 27 w) (a : Nat) (ha : a < 20) : w.cell? ⟨R, toff a, none⟩ = some (.string (tsF s a)) := by
  obtain ⟨c, b, hs, hc⟩ := h.row
  obtain ⟨h1, h2, h3⟩ := tix_ok a ha
  rw [b.cell, ← h3, hc _ h1]
  simp [fieldV, h2, tsF]
theorem Rw.fens {R T : Nat} {s : ByteArray} {k : Int} {w0 w : World} (h : Rw R T s k w0 27 w) (a : Nat) (ha : a < 7) : w.cell? ⟨R, foff a, none⟩ = some (.int .i64 (fsF k a)) := by
  obtain ⟨c, b, hs, hc⟩ := h.row
  obtain ⟨h1, h2, h3⟩ := fix_ok a ha
  rw [b.cell, ← h3, hc _ h1]
  simp [fieldV, h2, fsF]

/-- behind the first loop: the row is full; block A holds what rowTexts read -/
structure Fn (R T A : Nat) (s : ByteArray) (k : Int) (w0 w : World) : Prop where
  rw : Rw R T s k w0 27 w
  ts : Blk w A (tsArr (tsF s)) 35
  lt : T + 1 < A

section
variable {R T A : Nat} {s : ByteArray} {k : Int} {w0 w : World}
theorem Fn.later {w' : World} (h : Fn R T A s k w0 w) (hx : Ext w.heap.size w w') : Fn R T A s k w0 w' :=
  ⟨h.rw.later hx h.rw.fn.lt, h.ts.below hx.bel h.ts.lt, h.lt⟩
theorem Fn.drewN (h : Fn R T A s k w0 w) (n : Nat) : Fn R T A s k w0 (w.drewN n) := ⟨h.rw.drewN n, h.ts, h.lt⟩
theorem ts_at (ts : Nat → ByteArray) : ∀ a, a < 20 → (tsArr ts)[a]? = some (.string (ts a))
  | 0, _ => rfl
  | 1, _ => rfl
  | 2, _ => rfl
  | 3, _ => rfl
  | 4, _ => rfl
  | 5, _ => rfl
  | 6, _ => rfl
  | 7, _ => rfl
  | 8, _ => rfl
  | 9, _ => rfl
  | 10, _ => rfl
  | 11, _ => rfl
  | 12, _ => rfl
  | 13, _ => rfl
  | 14, _ => rfl
  | 15, _ => rfl
  | 16, _ => rfl
  | 17, _ => rfl
  | 18, _ => rfl
  | 19, _ => rfl
  | n + 20, h => absurd h (by omega)
theorem fs_at (fs : Nat → Int) : ∀ a, a < 7 → (fsArr7 fs)[a]? = some (.int .i64 (fs a))
  | 0, _ => rfl
  | 1, _ => rfl
  | 2, _ => rfl
  | 3, _ => rfl
  | 4, _ => rfl
  | 5, _ => rfl
  | 6, _ => rfl
  | n + 7, h => absurd h (by omega)
theorem Fn.cellA (h : Fn R T A s k w0 w) (a : Nat) (ha : a < 20) : w.cell? ⟨A, a, none⟩ = some (.string (tsF s a)) := (h.ts.cell a).trans (ts_at _ a ha)
end

/-- behind the second loop: block D holds what rowFens read -/
structure Gn (R T D : Nat) (s : ByteArray) (k : Int) (w0 w : World) : Prop where
  rw : Rw R T s k w0 27 w
  fs : Blk w D (fsArr7 (fsF k)) 37
theorem Gn.drewN {R T D : Nat} {s : ByteArray} {k : Int} {w0 w : World} (h : Gn R T D s k w0 w) (n : Nat) : Gn R T D s k w0 (w.drewN n) := ⟨h.rw.drewN n, h.fs⟩
theorem Gn.cellD {R T D : Nat} {s : ByteArray} {k : Int} {w0 w : World} (h : Gn R T D s k w0 w) (a : Nat) (ha : a < 7) : w.cell? ⟨D, a, none⟩ = some (.int .i64 (k + fix a)) := (h.fs.cell a).trans (fs_at _ a ha)

set_option maxRecDepth 100000 in
set_option maxHeartbeats 4000000 in
theorem law_in (s : ByteArray) (k : Int) (w : World) (hs : s.size ≤ 65536) (hk1 : -1099511627776 ≤ k) (hk2 : k ≤ 1099511627776) :
    Calls Try.prog 3 #[.string s, .int .i64 k] w fun e w' => e = .returned (.bool true) ∧ Ext w.heap.size w w' := by
  have hb0 : decide (k < -1099511627776) = false := decide_eq_false (by omega)
  have hb1 : decide (1099511627776 < k) = false := decide_eq_false (by omega)
  go_enter Try.func3, Try.ntmps3
  go_wp2_with fail
  refine (bound_le s k _ (by omega)).mono ?_
  rintro e w1 ⟨rfl, rfl⟩
  go_wp2_with fail
  refine (zz_any w1.heap.size (w1.alloc (.cells (rowInit k) 26))).mono ?_
  rintro e w2 ⟨rfl, hx⟩
  have bR : Blk w2 w1.heap.size (rowInit k) 26 := (Blk.new w1 (rowInit k) 26).below hx.bel (by rw [size_alloc']; omega)
  have bx : Ext w1.heap.size w1 w2 := ((Ext.refl _ _).alloc (Nat.le_refl _) _ _).trans (hx.mono (by rw [size_alloc']; omega))
  have bs : w1.heap.size < w2.heap.size := by have := hx.bel.size; rw [size_alloc'] at this; omega
  clear hx
  obtain ⟨R, hR⟩ : ∃ R, R = w1.heap.size := ⟨_, rfl⟩
  rw [← hR] at bR bx bs ⊢
  have HR : Hid (R = w1.heap.size) := hR
  clear hR
  have hA : Blk ((w2.alloc (.cells ptrZero 28)).alloc (.cells ptrZero 30)) w2.heap.size ptrZero 28 := (Blk.new w2 ptrZero 28).alloc _
  have hB : Blk (((w2.alloc (.cells ptrZero 28)).alloc (.cells ptrZero 30)).setRow w2.heap.size (textsArr R)) (w2.heap.size + 1) ptrZero 30 := by
    have h := Blk.new (w2.alloc (.cells ptrZero 28)) ptrZero 30
    rw [size_alloc'] at h
    exact h.setRowOther (by omega) _
  have hRw : Rw R w2.heap.size s k w1 0 ((((w2.alloc (.cells ptrZero 28)).alloc (.cells ptrZero 30)).setRow w2.heap.size (textsArr R)).setRow (w2.heap.size + 1) (fensArr R)) :=
    ⟨⟨_, (((bR.alloc _).alloc _).setRowOther (by omega) _).setRowOther (by omega) _, rfl, fun j hj => absurd hj (by omega)⟩, (hA.setRow _).setRowOther (by omega) _, hB.setRow _,
     (((bx.alloc (by omega) _ _).alloc (by rw [size_alloc']; omega) _ _).setRow (by omega) _).setRow (by omega) _, bs⟩
  clear bR bx
  have hr0 : Hid (R = w1.heap.size) := HR
  go_wp2_with (first | (refine wpList_store_row rfl 28 (.tmp 6) (.tmp 61) rfl w2.heap.size (textsArr R) rfl rfl 28 ptrZero hA (by rw [texts_size]; exact Try.size28) (by rw [texts_size]; rfl) (texts_one R) ?_) | (refine wpList_store_row rfl 30 (.tmp 7) (.tmp 62) rfl (w2.heap.size + 1) (fensArr R) rfl rfl 30 ptrZero hB (by rw [fens_size]; exact Try.size30) (by rw [fens_size]; rfl) (fens_one R) ?_))
  clear hA hB bs HR
  generalize w2.heap.size = T at *
  go_loopw [8, 9] (fun v u wr => ∃ i : Nat, i ≤ 27 ∧ u = .int .i64 i ∧ v = .int .i64 (cnt i) ∧ Rw R T s k w1 i wr) (fun _ u _ => 27 - (intOf u).toNat)
  case atStart => exact ⟨0, by omega, rfl, rfl, hRw⟩
  case round =>
    clear hRw
    obtain ⟨i, hi, rfl, rfl, hr⟩ := hrel
    have hcl := cnt_le i
    by_cases hlt : i < 27
    · have hi0 : (0 : Int) ≤ (i : Int) := by omega
      have hi1 : (i : Int) < 27 := by omega
      have hT := hr.cellT i hlt
      have hF := hr.cellF i hlt
      have hRf := hr.freeR (offs i)
      obtain ⟨v, hv⟩ := hr.cellR i hlt
      have hst := fun n => (hr.drewN n).step hlt
      have hTs := hr.tx.lt
      have hFs := hr.fn.lt
      have hlt' := hr.lt
      cases htx : isTxt i
      · rw [show txtA R i = none from by simp [txtA, htx]] at hT
        rw [show fenA R i = some ⟨R, offs i, none⟩ from by simp [fenA, htx]] at hF
        rw [show fieldV s k i = .int .i64 (k + i) from by simp [fieldV, htx]] at hst
        have hc' : Hid (_ = _) := cnt_fen i hlt htx
        clear htx
        generalize offs i = o at *
        go_wp2
        go_quiet (fail)
        go_wp2
        go_roundw
        case rel => exact ⟨i + 1, by omega, by go_num, by rw [hc'.out], hst _⟩
        case measure => simp [intOf]; omega
      · rw [show txtA R i = some ⟨R, offs i, none⟩ from by simp [txtA, htx]] at hT
        rw [show fenA R i = none from by simp [fenA, htx]] at hF
        have hst' : Hid (∀ (n : Nat) (w3 : World), Ext (wr.drewN n).heap.size (wr.drewN n) w3 → Rw R T s k w1 (i + 1) (w3.setCell ⟨R, offs i, none⟩ (.string (s ++ itoa i)))) := fun n w3 hx => by
          have := ((hr.drewN n).later hx (by exact hFs)).step hlt
          rwa [show fieldV s k i = .string (s ++ itoa i) from by simp [fieldV, htx]] at this
        have hc' : Hid (_ = _) := cnt_txt i hlt htx
        have hRs : R < wr.heap.size := by omega
        have hsz := itoa_size i
        have hcat : ¬ 9223372036854775807 < s.size + (itoa i).size := by omega
        have hcat' : s.size + (itoa i).size ≤ 9223372036854775807 := by omega
        clear htx hst
        generalize offs i = o at *
        go_wp2
        go_quiet (fail)
        go_wp2
        go_region_held3 (fun w' => w'.cell? ⟨T, i, none⟩ = some (.pointer (some ⟨R, o, none⟩)) ∧ (w'.cell? ⟨R, o, none⟩).isSome = true ∧ w'.frozen? ⟨R, o, none⟩ = false) (first | (exact ⟨hT, Option.isSome_iff_exists.2 ⟨v, hv⟩, hRf⟩) | (exact ⟨hT3, Option.isSome_iff_exists.2 ⟨v, hv3⟩, hf3⟩) | (exact keep_store hT3 (Option.isSome_iff_exists.2 ⟨v, hv3⟩) hf3 hlt')) ((go_at_call 9; refine (itoa_any i hlt _).mono ?_; rintro e w3 ⟨rfl, hx⟩; have hT3 := ((bcell hx).1 T i hTs).trans hT; have hv3 := ((bcell hx).1 R o hRs).trans hv; have hf3 := ((bcell hx).2 R o).trans hRf))
        go_wp2
        go_roundw
        case rel => exact ⟨i + 1, by omega, by go_num, by rw [hc'.out]; go_num, hst'.out _ w3 hx⟩
        case measure => simp [intOf]; omega
    · obtain rfl : i = 27 := by omega
      rw [show cnt 27 = 20 from by decide +kernel]
      clear hcl
      have hRs : R < wr.heap.size := by have := hr.lt; have := hr.tx.lt; omega
      go_wp2_with fail
      refine (rowTexts_any R (tsF s) wr hRs hr.texts).mono ?_
      rintro e w3 ⟨rfl, hx3⟩
      have hr3 := hr.later hx3 hr.fn.lt
      clear hr hx3 hRs
      have hA : Blk (w3.alloc (.cells tsZero 35)) w3.heap.size tsZero 35 := Blk.new w3 tsZero 35
      go_wp2_with (refine wpList_store_row rfl 35 (.tmp 10) (.tmp 99) rfl w3.heap.size (tsArr (tsF s)) rfl rfl 35 tsZero hA (by kernel_rfl) rfl (by kernel_rfl) ?_)
      have hFn : Fn R T w3.heap.size s k w1 ((w3.alloc (.cells tsZero 35)).setRow w3.heap.size (tsArr (tsF s))) :=
        ⟨hr3.later ((((Ext.refl w3.heap.size w3).alloc (Nat.le_refl _) _ _).setRow (Nat.le_refl _) _)) hr3.fn.lt, hA.setRow _, hr3.fn.lt⟩
      clear hr3 hA
      generalize w3.heap.size = A at *
      go_loopw [11, 12, 13, 14] (fun v _ _ _ wr => ∃ a : Nat, a ≤ 20 ∧ v = .int .i64 a ∧ Fn R T A s k w1 wr) (fun v _ _ _ _ => 20 - (intOf v).toNat)
      case atStart => exact ⟨0, by omega, rfl, hFn⟩
      case round =>
        clear hFn
        obtain ⟨a, ha, rfl, hf⟩ := hrel
        by_cases hlt2 : a < 20
        · obtain ⟨wo, rfl⟩ : ∃ wo : World, wo = wr := ⟨_, rfl⟩
          have ha0 : (0 : Int) ≤ (a : Int) := by omega
          have ha1 : (a : Int) < 20 := by omega
          go_wp2
          go_loopw [12, 13] (fun v u wr => ∃ j : Nat, j ≤ 27 ∧ u = .int .i64 j ∧ v = .bool (decide (tix a < j)) ∧ Fn R T A s k w1 wr) (fun _ u _ => 27 - (intOf u).toNat)
          case atStart => exact ⟨0, by omega, rfl, rfl, hf⟩
          case round =>
            clear hf
            obtain ⟨j, hj, rfl, rfl, hf⟩ := hrel
            by_cases hlt3 : j < 27
            · have hT := hf.rw.cellT j hlt3
              have hA := hf.cellA a hlt2
              have hj0 : (0 : Int) ≤ (j : Int) := by omega
              have hj1 : (j : Int) < 27 := by omega
              have hTs := hf.rw.tx.lt
              have hAs := hf.ts.lt
              obtain ⟨dj, hdj⟩ : ∃ b : Bool, Hid (b = decide (tix a < j)) := ⟨_, rfl⟩
              rw [← hdj.out]
              cases htx : isTxt j
              · rw [show txtA R j = none from by simp [txtA, htx]] at hT
                have hne : Hid (decide (tix a < j + 1) = dj) := by
                  show _ = dj
                  rw [hdj.out]
                  have h1 : tix a ≠ j := fun e => by have := (tix_ok a hlt2).2.1; rw [e, htx] at this; cases this
                  congr 1; simp only [eq_iff_iff]; omega
                clear htx
                go_wp2
                go_quiet (fail)
                go_wp2
                go_roundw
                case rel => exact ⟨j + 1, by omega, by go_num, by rw [hne.out], hf.drewN _⟩
                case measure => simp [intOf]; omega
              · rw [show txtA R j = some ⟨R, offs j, none⟩ from by simp [txtA, htx]] at hT
                have hlat : Hid (∀ (n : Nat) (w4 : World), Ext (wr.drewN n).heap.size (wr.drewN n) w4 → Fn R T A s k w1 w4) := fun n w4 hx => (hf.drewN n).later hx
                have hsz := itoa_size j
                have hcat : ¬ 9223372036854775807 < s.size + (itoa j).size := by omega
                have hcat' : s.size + (itoa j).size ≤ 9223372036854775807 := by omega
                clear htx hf
                generalize offs j = o at *
                obtain ⟨q, Hq, hq⟩ : ∃ q : Bool, Hid (q = decide (tix a = j)) ∧ ((tsF s a).toList == (s ++ itoa j).toList) = q := by
                  refine ⟨_, rfl, ?_⟩
                  by_cases htj : tix a = j
                  · rw [tsF, htj, decide_eq_true rfl]; simp
                  · rw [decide_eq_false htj, beq_eq_false_iff_ne]
                    intro e
                    rw [ByteArray.toList_eq, ByteArray.toList_eq] at e
                    exact htj (itoa_inj s (tix_ok a hlt2).1 hlt3 e)
                have hne : Hid (decide (tix a < j + 1) = (dj || q)) := by
                  show _ = (dj || q)
                  rw [hdj.out, Hq.out, ← Bool.decide_or]
                  congr 1; simp only [eq_iff_iff]; omega
                clear Hq hdj
                generalize tsF s a = sa at *
                go_wp2
                go_region_held3 (fun w' => w'.cell? ⟨T, j, none⟩ = some (.pointer (some ⟨R, o, none⟩)) ∧ w'.cell? ⟨A, a, none⟩ = some (.string sa)) (first | (exact ⟨hT, hA⟩) | (exact ⟨hT3, hA3⟩)) ((go_at_call 9; refine (itoa_any j hlt3 _).mono ?_; rintro e w4 ⟨rfl, hx⟩; have hT3 := ((bcell hx).1 T j hTs).trans hT; have hA3 := ((bcell hx).1 A a hAs).trans hA))
                clear hq hcat hcat' hsz hT3 hA3 hT hA
                cases q
                · go_wp2
                  go_roundw
                  case rel => exact ⟨j + 1, by omega, by go_num, by rw [hne.out, Bool.or_false], hlat.out _ w4 hx⟩
                  case measure => simp [intOf]; omega
                · go_wp2
                  go_roundw
                  case rel => exact ⟨j + 1, by omega, by go_num, by rw [hne.out, Bool.or_true], hlat.out _ w4 hx⟩
                  case measure => simp [intOf]; omega
            · obtain rfl : j = 27 := by omega
              rw [decide_eq_true (tix_ok a hlt2).1]
              obtain ⟨wp, rfl⟩ : ∃ wp : World, wp = wr := ⟨_, rfl⟩
              go_wp2
              go_loopw [14] (fun v wr => ∃ b : Nat, a < b ∧ b ≤ 20 ∧ v = .int .i64 b ∧ Fn R T A s k w1 wr) (fun v _ => 20 - (intOf v).toNat)
              case atStart => exact ⟨a + 1, by omega, by omega, by go_num, hf⟩
              case round =>
                clear hf
                obtain ⟨b, hb1', hb2', rfl, hf⟩ := hrel
                by_cases hlt4 : b < 20
                · have hA := hf.cellA a hlt2
                  have hB := hf.cellA b hlt4
                  have hb0' : (0 : Int) ≤ (b : Int) := by omega
                  have hb1'' : (b : Int) < 20 := by omega
                  have hq : ((tsF s a).toList == (tsF s b).toList) = false := by
                    rw [beq_eq_false_iff_ne]
                    intro e
                    rw [ByteArray.toList_eq, ByteArray.toList_eq] at e
                    have := tix_inj a hlt2 b hlt4 (itoa_inj s (tix_ok a hlt2).1 (tix_ok b hlt4).1 e)
                    omega
                  generalize tsF s a = sa at *
                  generalize tsF s b = sb at *
                  go_wp2
                  go_quiet (fail)
                  go_wp2
                  go_roundw
                  case rel => exact ⟨b + 1, by omega, by omega, by go_num, hf.drewN _⟩
                  case measure => simp [intOf]; omega
                · go_wp2
                  go_roundw
                  case rel => exact ⟨a + 1, by omega, by go_num, hf⟩
                  case measure => simp [intOf]; omega
        · obtain rfl : a = 20 := by omega
          have hRs : R < wr.heap.size := by have := hf.rw.lt; have := hf.rw.tx.lt; omega
          go_wp2_with fail
          refine (rowFens_any R (fsF k) wr hRs hf.rw.fens).mono ?_
          rintro e w4 ⟨rfl, hx4⟩
          have hr4 := hf.rw.later hx4 hf.rw.fn.lt
          clear hf hx4 hRs
          have hD : Blk (w4.alloc (.cells fsZero7 37)) w4.heap.size fsZero7 37 := Blk.new w4 fsZero7 37
          go_wp2_with (refine wpList_store_row rfl 37 (.tmp 15) (.tmp 137) rfl w4.heap.size (fsArr7 (fsF k)) rfl rfl 37 fsZero7 hD (by kernel_rfl) rfl (by kernel_rfl) ?_)
          have hGn : Gn R T w4.heap.size s k w1 ((w4.alloc (.cells fsZero7 37)).setRow w4.heap.size (fsArr7 (fsF k))) :=
            ⟨hr4.later ((((Ext.refl w4.heap.size w4).alloc (Nat.le_refl _) _ _).setRow (Nat.le_refl _) _)) hr4.fn.lt, hD.setRow _⟩
          clear hr4 hD
          generalize w4.heap.size = D at *
          go_loopw [16, 17, 18] (fun v _ _ wr => ∃ a : Nat, a ≤ 7 ∧ v = .int .i64 a ∧ Gn R T D s k w1 wr) (fun v _ _ _ => 7 - (intOf v).toNat)
          case atStart => exact ⟨0, by omega, rfl, hGn⟩
          case round =>
            clear hGn
            obtain ⟨a, ha7, rfl, hg⟩ := hrel
            by_cases hlt5 : a < 7
            · have ha0 : (0 : Int) ≤ (a : Int) := by omega
              have ha1 : (a : Int) < 7 := by omega
              have hDa := hg.cellD a hlt5
              obtain ⟨hf1, hf2, -⟩ := fix_ok a hlt5
              have hF := hg.rw.cellF (fix a) hf1
              rw [show fenA R (fix a) = some ⟨R, offs (fix a), none⟩ from by simp [fenA, hf2]] at hF
              have hfi : Hid (∀ b, b < 7 → b ≠ a → fix b ≠ fix a) := fun b hb hne e => hne (fix_inj b hb a hlt5 e)
              clear hf2
              generalize offs (fix a) = o at *
              generalize fix a = n at *
              have hn0 : (0 : Int) ≤ (n : Int) := by omega
              have hn1 : (n : Int) < 27 := by omega
              have hn2 : decide ((26 : Int) < (n : Int)) = false := decide_eq_false (by omega)
              have hn3 : decide ((n : Int) < 0) = false := decide_eq_false (by omega)
              have hkn : k + (n : Int) - k = n := by omega
              obtain ⟨wo, rfl⟩ : ∃ wo : World, wo = wr := ⟨_, rfl⟩
              go_wp2
              clear hF hn2 hn3 hkn
              go_loopw [18] (fun v wr => ∃ b : Nat, a < b ∧ b ≤ 7 ∧ v = .int .i64 b ∧ Gn R T D s k w1 wr ∧ wr.cell? ⟨D, a, none⟩ = some (.int .i64 (k + n))) (fun v _ => 7 - (intOf v).toNat)
              case atStart => exact ⟨a + 1, by omega, by omega, by go_num, hg, hDa⟩
              case round =>
                clear hg hDa
                obtain ⟨b, hb1', hb2', rfl, hg, hDa⟩ := hrel
                by_cases hlt6 : b < 7
                · have hDb := hg.cellD b hlt6
                  have hne := hfi.out b hlt6 (by omega)
                  generalize fix b = m at *
                  have hb0' : (0 : Int) ≤ (b : Int) := by omega
                  have hb1'' : (b : Int) < 7 := by omega
                  have hq : (k + (n : Int) == k + (m : Int)) = false := by rw [beq_eq_false_iff_ne]; omega
                  go_wp2
                  go_quiet (fail)
                  go_wp2
                  go_roundw
                  case rel => exact ⟨b + 1, by omega, by omega, by go_num, hg.drewN _, hDa⟩
                  case measure => simp [intOf]; omega
                · go_wp2
                  go_roundw
                  case rel => exact ⟨a + 1, by omega, by go_num, hg⟩
                  case measure => simp [intOf]; omega
            · go_wp2
              go_ret
              exact ⟨rfl, by rw [← hr0.out]; exact hg.rw.ext⟩

set_option maxRecDepth 100000 in
set_option maxHeartbeats 2000000 in
/-- outside the own guards of the law -/
theorem law_out (s : ByteArray) (k : Int) (w : World) (hs : s.size ≤ 9223372036854775807) (h : s.size ≤ 65536 → k < -1099511627776 ∨ 1099511627776 < k) :
    Calls Try.prog 3 #[.string s, .int .i64 k] w fun e w' => e = .returned (.bool true) ∧ w' = w := by
  by_cases h1 : s.size ≤ 1048576
  · by_cases h2 : s.size ≤ 65536
    · rcases h h2 with h3 | h3
      · have hb0 : decide (k < -1099511627776) = true := decide_eq_true h3
        go_enter Try.func3, Try.ntmps3
        go_wp2_with fail
        refine (bound_le s k _ h1).mono ?_
        rintro e w1 ⟨rfl, rfl⟩
        go_wp2
        go_ret
        exact ⟨rfl, rfl⟩
      · have hb0 : decide (k < -1099511627776) = false := decide_eq_false (by omega)
        go_enter Try.func3, Try.ntmps3
        go_wp2_with fail
        refine (bound_le s k _ h1).mono ?_
        rintro e w1 ⟨rfl, rfl⟩
        go_wp2
        go_ret
        exact ⟨rfl, rfl⟩
    · go_enter Try.func3, Try.ntmps3
      go_wp2_with fail
      refine (bound_le s k _ h1).mono ?_
      rintro e w1 ⟨rfl, rfl⟩
      go_wp2
      go_ret
      exact ⟨rfl, rfl⟩
  · go_enter Try.func3, Try.ntmps3
    go_wp2_with fail
    refine (bound_gt s k _ (by omega) hs).mono ?_
    rintro e w1 ⟨rfl, rfl⟩
    go_wp2
    go_ret
    exact ⟨rfl, rfl⟩
end Go.Proofs.Qxb6600217a.Bill
