/-
  Seat b6600217a: words for worlds; the contracts of smallItoa and of the bound.
-/
import Derived.Test.Qxb6600217aProg
import Derived.Test.Qxb6600217aTail
import Derived.WalkKit
import Derived.ProofKit
import Derived.OpenShut
import Derived.Deep.QuietTactic
import Derived.BigQuiet
import Derived.WalkSmall
import Derived.WalkLawsBesides
import Derived.Laws.IdiomStrings
import Derived.Laws.Rows
namespace Go.Proofs.Qxb6600217a.Bill
open Go.ChangeShapes Go.WideShapes Go.ChangeAt Go.RowKit Go.BigFrame

/-- below block B nothing has turned, and no cell is frozen that was not -/
structure Ext (B : Nat) (w w' : World) : Prop where
  bel : Below B w w'
  fro : ∀ a, w'.frozen? a = w.frozen? a

theorem Ext.refl (B : Nat) (w : World) : Ext B w w := ⟨Below.refl _ _, fun _ => rfl⟩
theorem Ext.trans {B : Nat} {a b c : World} (h : Ext B a b) (k : Ext B b c) : Ext B a c := ⟨h.bel.trans k.bel, fun x => (k.fro x).trans (h.fro x)⟩
theorem Ext.mono {B B' : Nat} {w w' : World} (h : Ext B w w') (hB : B' ≤ B) : Ext B' w w' := ⟨h.bel.mono hB, h.fro⟩
theorem Ext.drewN {B : Nat} {a w : World} (h : Ext B a w) (n : Nat) : Ext B a (w.drewN n) := ⟨below_drewN h.bel n, h.fro⟩
theorem Ext.drew {B : Nat} {a w : World} (h : Ext B a w) : Ext B a w.drew := ⟨h.bel.drew, h.fro⟩
theorem frozen_none {w : World} {a : Addr} (h : w.heap.size ≤ a.block) : w.frozen? a = false := by
  unfold World.frozen?
  rw [Array.getElem?_eq_none h]
theorem Ext.alloc {B : Nat} {a w : World} (h : Ext B a w) (hB : B ≤ w.heap.size) (c : Array Value) (t : TypeId) : Ext B a (w.alloc (.cells c t)) :=
  ⟨h.bel.alloc hB _, fun x => by
    by_cases hx : x.block = w.heap.size
    · rw [← h.fro x, frozen_none (w := w) (by omega)]
      have e : (w.alloc (.cells c t)).heap[x.block]? = some (.cells c t (0, 0)) := by rw [hx]; exact heap_alloc_new w _
      unfold World.frozen?
      rw [e]
      simp
    · rw [World.frozen?_alloc_old _ _ _ hx]; exact h.fro x⟩
theorem Ext.setCell {B : Nat} {a w : World} (h : Ext B a w) {p : Addr} (hp : B ≤ p.block) (u : Value) : Ext B a (w.setCell p u) :=
  ⟨h.bel.setCell hp u, fun x => by rw [World.frozen?_setCell]; exact h.fro x⟩

/-- block g holds the cells cs -/
def Blk (w : World) (g : Nat) (cs : Array Value) (t : TypeId) : Prop := w.heap[g]? = some (.cells cs t (0, 0))

theorem Blk.lt {w : World} {g : Nat} {cs : Array Value} {t : TypeId} (h : Blk w g cs t) : g < w.heap.size := (Array.getElem?_eq_some_iff.1 h).1
theorem Blk.cell {w : World} {g : Nat} {cs : Array Value} {t : TypeId} (h : Blk w g cs t) (j : Nat) : w.cell? ⟨g, j, none⟩ = cs[j]? := cell_of_row w g j cs t (0, 0) h
theorem Blk.free {w : World} {g : Nat} {cs : Array Value} {t : TypeId} (h : Blk w g cs t) (j : Nat) : w.frozen? ⟨g, j, none⟩ = false := frozen_of_row w g j cs t h
theorem Blk.below {w w' : World} {g B : Nat} {cs : Array Value} {t : TypeId} (h : Blk w g cs t) (hb : Below B w w') (hg : g < B) : Blk w' g cs t := (hb.block g hg).trans h
theorem Blk.alloc {w : World} {g : Nat} {cs : Array Value} {t : TypeId} (h : Blk w g cs t) (o : Obj) : Blk (w.alloc o) g cs t := by
  show (w.heap.push o)[g]? = _
  rw [Array.getElem?_push, if_neg (Nat.ne_of_lt h.lt)]
  exact h
theorem Blk.new (w : World) (cs : Array Value) (t : TypeId) : Blk (w.alloc (.cells cs t)) w.heap.size cs t := heap_alloc_new w _
theorem Blk.set {w : World} {g : Nat} {cs : Array Value} {t : TypeId} (h : Blk w g cs t) (i : Nat) (v : Value) : Blk (w.setCell ⟨g, i, none⟩ v) g (cs.setIfInBounds i v) t := heap_setCell_same w g i cs t v h
theorem Blk.setOther {w : World} {g : Nat} {cs : Array Value} {t : TypeId} (h : Blk w g cs t) (a : Addr) (hne : g ≠ a.block) (v : Value) : Blk (w.setCell a v) g cs t := (heap_setCell_other w a g v hne).trans h

theorem frozen_setRow (w : World) (g : Nat) (cs : Array Value) (a : Addr) : (w.setRow g cs).frozen? a = w.frozen? a := by
  unfold World.frozen? World.setRow
  simp only [Array.getElem?_modify]
  by_cases h : g = a.block
  · rw [if_pos h]
    cases w.heap[a.block]? with
    | none => rfl
    | some o => cases o <;> rfl
  · rw [if_neg h]
theorem Ext.setRow {B : Nat} {a w : World} (h : Ext B a w) {g : Nat} (hg : B ≤ g) (cs : Array Value) : Ext B a (w.setRow g cs) :=
  ⟨h.bel.trans ⟨rfl, rfl, rfl, by simp, fun k hk => setRow_other w g k cs (by omega)⟩, fun x => by rw [frozen_setRow]; exact h.fro x⟩
theorem Blk.setRow {w : World} {g : Nat} {cs : Array Value} {t : TypeId} (h : Blk w g cs t) (cs' : Array Value) : Blk (w.setRow g cs') g cs' t := setRow_heap w g cs cs' t (0, 0) h
theorem Blk.setRowOther {w : World} {g g' : Nat} {cs : Array Value} {t : TypeId} (h : Blk w g cs t) (hne : g ≠ g') (cs' : Array Value) : Blk (w.setRow g' cs') g cs t := (setRow_other w g' g cs' hne).trans h
theorem Blk.drew {w : World} {g : Nat} {cs : Array Value} {t : TypeId} (h : Blk w g cs t) : Blk w.drew g cs t := h
theorem Blk.drewN {w : World} {g : Nat} {cs : Array Value} {t : TypeId} (h : Blk w g cs t) (n : Nat) : Blk (w.drewN n) g cs t := h

/-! ### the fields: field i lies at cell offL[i] of the row; is it a text? -/
def offL : List Nat := [0, 1, 2, 3, 4, 5, 6, 7, 8, 9, 10, 11, 21, 12, 13, 14, 22, 23, 15, 16, 17, 18, 24, 19, 25, 26, 20]
def txtL : List Bool := [true, true, true, true, true, true, true, true, true, true, true, true, false, false, true, true, false, false, true, true, true, true, false, true, false, false, true]
def offs (i : Nat) : Nat := offL.getD i 0
def isTxt (i : Nat) : Bool := txtL.getD i false
def txtA (R i : Nat) : Option Addr := if isTxt i then some ⟨R, offs i, none⟩ else none
def fenA (R i : Nat) : Option Addr := if isTxt i then none else some ⟨R, offs i, none⟩
def textsArr (R : Nat) : Array Value := (Array.range 27).map (fun i => .pointer (txtA R i))
def fensArr (R : Nat) : Array Value := (Array.range 27).map (fun i => .pointer (fenA R i))

/-- what smallItoa writes, from 0 to 99 -/
def itoa (n : Nat) : ByteArray := if n < 10 then ⟨#[UInt8.ofNat (48 + n)]⟩ else ⟨#[UInt8.ofNat (48 + n / 10), UInt8.ofNat (48 + n % 10)]⟩

theorem byte_val (m : Nat) (h : m < 256) : ((UInt8.ofNat m).toNat : Int) = (m : Int) := by
  rw [UInt8.toNat_ofNat']; omega

set_option maxHeartbeats 400000 in
theorem itoa_any (n : Nat) (h : n < 27) (w : World) :
    Calls Try.prog 9 #[.int .i64 n] w fun e w' => e = .returned (.string (itoa n)) ∧ Ext w.heap.size w w' := by
  have h1 : ¬ (n : Int) < 0 := by omega
  obtain ⟨s, hs⟩ : ∃ s, Hid (s = itoa n) := ⟨_, rfl⟩
  rw [← hs.out]
  by_cases h10 : n < 10
  · have hcv : (convert 59 9 (.slice (some ⟨w.heap.size, 0, none⟩) 1 1)).run Try.prog (w.alloc (.cells #[.int .u8 (48 + (n : Int))] 5)) = .ok (.string s) (w.alloc (.cells #[.int .u8 (48 + (n : Int))] 5)) := by
      rw [hs.out, itoa, if_pos h10]
      refine run_convert_bytes_back (w.alloc _) 59 9 5 ⟨w.heap.size, 0, none⟩ 1 [UInt8.ofNat (48 + n)] Try.underlying59 Try.underlying5 Try.underlying9 (fun j hj => ?_)
      match j, hj with
      | 0, _ =>
        rw [add_plain, World.cell?_alloc_new]
        simp only [List.getElem_cons_zero, byte_val (48 + n) (by omega)]
        simp
    go_enter Try.func9, Try.ntmps9
    go_wp2
    go_ret
    exact ⟨rfl, (Ext.refl _ _).alloc (Nat.le_refl _) _ _⟩
  · have hcv : (convert 59 9 (.slice (some ⟨w.heap.size, 0, none⟩) 2 2)).run Try.prog (w.alloc (.cells #[.int .u8 (48 + (n : Int) / 10 % 10), .int .u8 (48 + (n : Int) % 10)] 5)) =
        .ok (.string s) (w.alloc (.cells #[.int .u8 (48 + (n : Int) / 10 % 10), .int .u8 (48 + (n : Int) % 10)] 5)) := by
      rw [hs.out, itoa, if_neg h10]
      refine run_convert_bytes_back (w.alloc _) 59 9 5 ⟨w.heap.size, 0, none⟩ 2 [UInt8.ofNat (48 + n / 10), UInt8.ofNat (48 + n % 10)] Try.underlying59 Try.underlying5 Try.underlying9 (fun j hj => ?_)
      match j, hj with
      | 0, _ =>
        rw [add_plain, World.cell?_alloc_new]
        simp only [List.getElem_cons_zero, byte_val (48 + n / 10) (by omega)]
        simp; omega
      | 1, _ =>
        rw [add_plain, World.cell?_alloc_new]
        simp only [List.getElem_cons_zero, List.getElem_cons_succ, byte_val (48 + n % 10) (by omega)]
        simp
    go_enter Try.func9, Try.ntmps9
    go_wp2
    go_ret
    exact ⟨rfl, (Ext.refl _ _).alloc (Nat.le_refl _) _ _⟩

theorem bound_le (s : ByteArray) (k : Int) (w : World) (h : s.size ≤ 1048576) :
    Calls Try.prog 7 #[.string s, .int .i64 k] w fun e w' => e = .returned (.bool true) ∧ w' = w := by
  go_enter Try.func7, Try.ntmps7
  go_wp2
  go_ret
  exact ⟨rfl, rfl⟩

theorem bound_gt (s : ByteArray) (k : Int) (w : World) (h : 1048576 < s.size) (_hs : s.size ≤ 9223372036854775807) :
    Calls Try.prog 7 #[.string s, .int .i64 k] w fun e w' => e = .returned (.bool false) ∧ w' = w := by
  go_enter Try.func7, Try.ntmps7
  go_wp2
  go_ret
  exact ⟨rfl, rfl⟩
end Go.Proofs.Qxb6600217a.Bill
