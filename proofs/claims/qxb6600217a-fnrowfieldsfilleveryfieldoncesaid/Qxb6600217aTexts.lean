/-
  Seat b6600217a: the contracts of rowTexts and rowFens.
-/
import Derived.Test.Qxb6600217aBase
namespace Go.Proofs.Qxb6600217a.Bill
open Go.ChangeShapes Go.WideShapes Go.ChangeAt Go.RowKit Go.BigFrame

def s10 : List Sm :=
 [(some 3, [0], []),
  (some 4, [3], [0]),
  (some 5, [4], [1]),
  (some 6, [5], [2]),
  (some 7, [0], []),
  (some 8, [7], [4]),
  (some 9, [8], [5]),
  (some 10, [9], [6]),
  (some 11, [0], []),
  (some 12, [11], [8]),
  (some 13, [12], [9]),
  (some 14, [13], [10]),
  (some 15, [0], []),
  (some 16, [15], [12]),
  (some 17, [16], [13]),
  (some 18, [17], [14]),
  (some 19, [0], []),
  (some 20, [19], [16]),
  (some 21, [20], [17]),
  (some 22, [21], [18]),
  (some 23, [0], []),
  (some 24, [23], [20]),
  (some 25, [24], [21]),
  (some 26, [25], [22]),
  (some 27, [0], []),
  (some 28, [27], [24]),
  (some 29, [28], [25]),
  (some 30, [29], [26]),
  (some 31, [0], []),
  (some 32, [31], [28]),
  (some 33, [32], [29]),
  (some 34, [33], [30]),
  (some 35, [0], []),
  (some 36, [35], [32]),
  (some 37, [36], [33]),
  (some 38, [37], [34]),
  (some 39, [0], []),
  (some 40, [39], [36]),
  (some 41, [40], [37]),
  (some 42, [41], [38]),
  (some 43, [0], []),
  (some 44, [43], [40]),
  (some 45, [44], [41]),
  (some 46, [45], [42]),
  (some 47, [0], []),
  (some 48, [47], [44]),
  (some 49, [48], [45]),
  (some 50, [49], [46]),
  (some 51, [0], []),
  (some 52, [51], [48]),
  (some 53, [52], [49]),
  (some 54, [53], [50]),
  (some 55, [0], []),
  (some 56, [55], [52]),
  (some 57, [56], [53]),
  (some 58, [57], [54]),
  (some 59, [0], []),
  (some 60, [59], [56]),
  (some 61, [60], [57]),
  (some 62, [61], [58]),
  (some 63, [0], []),
  (some 64, [63], [60]),
  (some 65, [64], [61]),
  (some 66, [65], [62]),
  (some 67, [0], []),
  (some 68, [67], [64]),
  (some 69, [68], [65]),
  (some 70, [69], [66]),
  (some 71, [0], []),
  (some 72, [71], [68]),
  (some 73, [72], [69]),
  (some 74, [73], [70]),
  (some 75, [0], []),
  (some 76, [75], [72]),
  (some 77, [76], [73]),
  (some 78, [77], [74]),
  (some 79, [0], []),
  (some 80, [79], [76]),
  (some 81, [80], [77]),
  (some 82, [81], [78]),
  (some 83, [6, 10, 14, 18, 22, 26, 30, 34, 38, 42, 46, 50, 54, 58, 62, 66, 70, 74, 78, 82], [3, 7, 11, 15, 19, 23, 27, 31, 35, 39, 43, 47, 51, 55, 59, 63, 67, 71, 75, 79]),
  (none, [2, 83], [80, 0, 1, 2, 3, 4, 5, 6, 7, 8, 9, 10, 11, 12, 13, 14, 15, 16, 17, 18, 19, 20, 21, 22, 23, 24, 25, 26, 27, 28, 29, 30, 31, 32, 33, 34, 35, 36, 37, 38, 39, 40, 41, 42, 43, 44, 45, 46, 47, 48, 49, 50, 51, 52, 53, 54, 55, 56, 57, 58, 59, 60, 61, 62, 63, 64, 65, 66, 67, 68, 69, 70, 71, 72, 73, 74, 75, 76, 77, 78, 79, 80])]

theorem s10_pairs : pairsB 0 s10 = true := by decide +kernel
theorem s10_sink : sinkS 0 s10 = true := by decide +kernel
def s11 : List Sm :=
 [(some 3, [0], []),
  (some 4, [3], [0]),
  (some 5, [4], [1]),
  (some 6, [5], [2]),
  (some 7, [0], []),
  (some 8, [7], [4]),
  (some 9, [8], [5]),
  (some 10, [9], [6]),
  (some 11, [10], [7]),
  (some 12, [0], []),
  (some 13, [12], [9]),
  (some 14, [13], [10]),
  (some 15, [14], [11]),
  (some 16, [15], [12]),
  (some 17, [0], []),
  (some 18, [17], [14]),
  (some 19, [18], [15]),
  (some 20, [19], [16]),
  (some 21, [20], [17]),
  (some 22, [0], []),
  (some 23, [22], [19]),
  (some 24, [23], [20]),
  (some 25, [24], [21]),
  (some 26, [25], [22]),
  (some 27, [0], []),
  (some 28, [27], [24]),
  (some 29, [28], [25]),
  (some 30, [29], [26]),
  (some 31, [30], [27]),
  (some 32, [0], []),
  (some 33, [32], [29]),
  (some 34, [33], [30]),
  (some 35, [34], [31]),
  (some 36, [35], [32]),
  (some 37, [6, 11, 16, 21, 26, 31, 36], [3, 8, 13, 18, 23, 28, 33]),
  (none, [2, 37], [34, 0, 1, 2, 3, 4, 5, 6, 7, 8, 9, 10, 11, 12, 13, 14, 15, 16, 17, 18, 19, 20, 21, 22, 23, 24, 25, 26, 27, 28, 29, 30, 31, 32, 33, 34])]

theorem s11_pairs : pairsB 0 s11 = true := by decide +kernel
theorem s11_sink : sinkS 0 s11 = true := by decide +kernel

/-- the cells of the row that rowTexts reads, in its order; those that rowFens reads -/
def toffL : List Nat := [0, 1, 2, 3, 4, 5, 6, 7, 8, 9, 10, 11, 13, 14, 15, 16, 17, 18, 19, 20]
def foffL : List Nat := [12, 21, 22, 23, 24, 25, 26]
def toff (a : Nat) : Nat := toffL.getD a 0
def foff (a : Nat) : Nat := foffL.getD a 0

def tsArr (ts : Nat → ByteArray) : Array Value := #[.string (ts 0), .string (ts 1), .string (ts 2), .string (ts 3), .string (ts 4), .string (ts 5), .string (ts 6), .string (ts 7), .string (ts 8), .string (ts 9), .string (ts 10), .string (ts 11), .string (ts 12), .string (ts 13), .string (ts 14), .string (ts 15), .string (ts 16), .string (ts 17), .string (ts 18), .string (ts 19)]
def fsArr7 (fs : Nat → Int) : Array Value := #[.int .i64 (fs 0), .int .i64 (fs 1), .int .i64 (fs 2), .int .i64 (fs 3), .int .i64 (fs 4), .int .i64 (fs 5), .int .i64 (fs 6)]
def tsZero : Array Value := #[.string ⟨#[]⟩, .string ⟨#[]⟩, .string ⟨#[]⟩, .string ⟨#[]⟩, .string ⟨#[]⟩, .string ⟨#[]⟩, .string ⟨#[]⟩, .string ⟨#[]⟩, .string ⟨#[]⟩, .string ⟨#[]⟩, .string ⟨#[]⟩, .string ⟨#[]⟩, .string ⟨#[]⟩, .string ⟨#[]⟩, .string ⟨#[]⟩, .string ⟨#[]⟩, .string ⟨#[]⟩, .string ⟨#[]⟩, .string ⟨#[]⟩, .string ⟨#[]⟩]
def fsZero7 : Array Value := #[.int .i64 0, .int .i64 0, .int .i64 0, .int .i64 0, .int .i64 0, .int .i64 0, .int .i64 0]

set_option maxRecDepth 100000 in
set_option maxHeartbeats 4000000 in
theorem rowTexts_any (R : Nat) (ts : Nat → ByteArray) (w : World) (hR : R < w.heap.size) (hc : Hid (∀ a, a < 20 → w.cell? ⟨R, toff a, none⟩ = some (.string (ts a)))) :
    Calls Try.prog 10 #[.pointer (some ⟨R, 0, none⟩)] w fun e w' => e = .returned (.agg (tsArr ts)) ∧ Ext w.heap.size w w' := by
  have h0 : w.cell? ⟨R, 0, none⟩ = some (.string (ts 0)) := hc.out 0 (by decide)
  have h1 : w.cell? ⟨R, 1, none⟩ = some (.string (ts 1)) := hc.out 1 (by decide)
  have h2 : w.cell? ⟨R, 2, none⟩ = some (.string (ts 2)) := hc.out 2 (by decide)
  have h3 : w.cell? ⟨R, 3, none⟩ = some (.string (ts 3)) := hc.out 3 (by decide)
  have h4 : w.cell? ⟨R, 4, none⟩ = some (.string (ts 4)) := hc.out 4 (by decide)
  have h5 : w.cell? ⟨R, 5, none⟩ = some (.string (ts 5)) := hc.out 5 (by decide)
  have h6 : w.cell? ⟨R, 6, none⟩ = some (.string (ts 6)) := hc.out 6 (by decide)
  have h7 : w.cell? ⟨R, 7, none⟩ = some (.string (ts 7)) := hc.out 7 (by decide)
  have h8 : w.cell? ⟨R, 8, none⟩ = some (.string (ts 8)) := hc.out 8 (by decide)
  have h9 : w.cell? ⟨R, 9, none⟩ = some (.string (ts 9)) := hc.out 9 (by decide)
  have h10 : w.cell? ⟨R, 10, none⟩ = some (.string (ts 10)) := hc.out 10 (by decide)
  have h11 : w.cell? ⟨R, 11, none⟩ = some (.string (ts 11)) := hc.out 11 (by decide)
  have h12 : w.cell? ⟨R, 13, none⟩ = some (.string (ts 12)) := hc.out 12 (by decide)
  have h13 : w.cell? ⟨R, 14, none⟩ = some (.string (ts 13)) := hc.out 13 (by decide)
  have h14 : w.cell? ⟨R, 15, none⟩ = some (.string (ts 14)) := hc.out 14 (by decide)
  have h15 : w.cell? ⟨R, 16, none⟩ = some (.string (ts 15)) := hc.out 15 (by decide)
  have h16 : w.cell? ⟨R, 17, none⟩ = some (.string (ts 16)) := hc.out 16 (by decide)
  have h17 : w.cell? ⟨R, 18, none⟩ = some (.string (ts 17)) := hc.out 17 (by decide)
  have h18 : w.cell? ⟨R, 19, none⟩ = some (.string (ts 18)) := hc.out 18 (by decide)
  have h19 : w.cell? ⟨R, 20, none⟩ = some (.string (ts 19)) := hc.out 19 (by decide)
  clear hc
  go_enter Try.func10, Try.ntmps10
  go_wp2
  simp only [List.append_eq, List.cons_append, List.nil_append]
  refine wp_region_quiet_last 81 s10 (by kernel_rfl) (by kernel_rfl) (by kernel_rfl) (by kernel_rfl) s10_pairs s10_sink ?_
  simp only [List.take_succ_cons, List.take_zero, List.drop_succ_cons, List.drop_zero]
  repeat (go_big_quiet_step (fail))
  refine wpQuiet_nil ?_
  refine wpList_store_row rfl 35 (.tmp 2) (.tmp 83) rfl w.heap.size (tsArr ts) rfl rfl 35 tsZero (Blk.new w tsZero 35) (by kernel_rfl) rfl (by kernel_rfl) ?_
  go_wp2
  have hb : Blk ((w.alloc (.cells tsZero 35)).drew.setRow w.heap.size (tsArr ts)) w.heap.size (tsArr ts) 35 := Blk.setRow (Blk.drew (Blk.new w tsZero 35)) (tsArr ts)
  have he : Ext w.heap.size w ((w.alloc (.cells tsZero 35)).drew.setRow w.heap.size (tsArr ts)) := (((Ext.refl _ _).alloc (Nat.le_refl _) _ _).drew).setRow (Nat.le_refl _) _
  exact bodyPost_ret (results_cell_row rfl _ _ w.heap.size 35 (tsArr ts) (0, 0) _ rfl hb Try.underlying35 rfl (by kernel_rfl)) rfl ⟨rfl, he⟩

set_option maxRecDepth 100000 in
set_option maxHeartbeats 4000000 in
theorem rowFens_any (R : Nat) (fs : Nat → Int) (w : World) (hR : R < w.heap.size) (hc : Hid (∀ a, a < 7 → w.cell? ⟨R, foff a, none⟩ = some (.int .i64 (fs a)))) :
    Calls Try.prog 11 #[.pointer (some ⟨R, 0, none⟩)] w fun e w' => e = .returned (.agg (fsArr7 fs)) ∧ Ext w.heap.size w w' := by
  have h0 : w.cell? ⟨R, 12, none⟩ = some (.int .i64 (fs 0)) := hc.out 0 (by decide)
  have h1 : w.cell? ⟨R, 21, none⟩ = some (.int .i64 (fs 1)) := hc.out 1 (by decide)
  have h2 : w.cell? ⟨R, 22, none⟩ = some (.int .i64 (fs 2)) := hc.out 2 (by decide)
  have h3 : w.cell? ⟨R, 23, none⟩ = some (.int .i64 (fs 3)) := hc.out 3 (by decide)
  have h4 : w.cell? ⟨R, 24, none⟩ = some (.int .i64 (fs 4)) := hc.out 4 (by decide)
  have h5 : w.cell? ⟨R, 25, none⟩ = some (.int .i64 (fs 5)) := hc.out 5 (by decide)
  have h6 : w.cell? ⟨R, 26, none⟩ = some (.int .i64 (fs 6)) := hc.out 6 (by decide)
  clear hc
  go_enter Try.func11, Try.ntmps11
  go_wp2
  refine wp_region_quiet_last 35 s11 (by kernel_rfl) (by kernel_rfl) (by kernel_rfl) (by kernel_rfl) s11_pairs s11_sink ?_
  simp only [List.take_succ_cons, List.take_zero, List.drop_succ_cons, List.drop_zero]
  repeat (go_big_quiet_step (fail))
  refine wpQuiet_nil ?_
  refine wpList_store_row rfl 37 (.tmp 2) (.tmp 37) rfl w.heap.size (fsArr7 fs) rfl rfl 37 fsZero7 (Blk.new w fsZero7 37) (by kernel_rfl) rfl (by kernel_rfl) ?_
  go_wp2
  have hb : Blk ((w.alloc (.cells fsZero7 37)).drew.setRow w.heap.size (fsArr7 fs)) w.heap.size (fsArr7 fs) 37 := Blk.setRow (Blk.drew (Blk.new w fsZero7 37)) (fsArr7 fs)
  have he : Ext w.heap.size w ((w.alloc (.cells fsZero7 37)).drew.setRow w.heap.size (fsArr7 fs)) := (((Ext.refl _ _).alloc (Nat.le_refl _) _ _).drew).setRow (Nat.le_refl _) _
  exact bodyPost_ret (results_cell_row rfl _ _ w.heap.size 37 (fsArr7 fs) (0, 0) _ rfl hb Try.underlying37 rfl (by kernel_rfl)) rfl ⟨rfl, he⟩
end Go.Proofs.Qxb6600217a.Bill
