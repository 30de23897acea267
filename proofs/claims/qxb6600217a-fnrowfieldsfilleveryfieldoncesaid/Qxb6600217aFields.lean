/-
  Seat b6600217a: the contract of (*Row).fields.
-/
import Derived.Test.Qxb6600217aBase
namespace Go.Proofs.Qxb6600217a.Bill
open Go.ChangeShapes Go.WideShapes Go.ChangeAt Go.RowKit Go.BigFrame

def s17 : List Sm :=
 [(some 3, [0], []),
  (some 4, [3], [0]),
  (some 5, [4], [1]),
  (some 6, [5], [2]),
  (some 7, [0], []),
  (some 8, [7], [4]),
  (some 9, [8], [5]),
  (some 10, [9], [6]),
  (some 11, [0], []),
  (some 12, [11], [8]),
  (some 13, [12], [9]),
  (some 14, [13], [10]),
  (some 15, [0], []),
  (some 16, [15], [12]),
  (some 17, [16], [13]),
  (some 18, [17], [14]),
  (some 19, [0], []),
  (some 20, [19], [16]),
  (some 21, [20], [17]),
  (some 22, [21], [18]),
  (some 23, [0], []),
  (some 24, [23], [20]),
  (some 25, [24], [21]),
  (some 26, [25], [22]),
  (some 27, [0], []),
  (some 28, [27], [24]),
  (some 29, [28], [25]),
  (some 30, [29], [26]),
  (some 31, [0], []),
  (some 32, [31], [28]),
  (some 33, [32], [29]),
  (some 34, [33], [30]),
  (some 35, [0], []),
  (some 36, [35], [32]),
  (some 37, [36], [33]),
  (some 38, [37], [34]),
  (some 39, [0], []),
  (some 40, [39], [36]),
  (some 41, [40], [37]),
  (some 42, [41], [38]),
  (some 43, [0], []),
  (some 44, [43], [40]),
  (some 45, [44], [41]),
  (some 46, [45], [42]),
  (some 47, [0], []),
  (some 48, [47], [44]),
  (some 49, [48], [45]),
  (some 50, [49], [46]),
  (some 51, [0], []),
  (some 52, [51], [48]),
  (some 53, [52], [49]),
  (some 54, [53], [50]),
  (some 55, [54], [51]),
  (some 56, [0], []),
  (some 57, [56], [53]),
  (some 58, [57], [54]),
  (some 59, [58], [55]),
  (some 60, [0], []),
  (some 61, [60], [57]),
  (some 62, [61], [58]),
  (some 63, [62], [59]),
  (some 64, [0], []),
  (some 65, [64], [61]),
  (some 66, [65], [62]),
  (some 67, [66], [63]),
  (some 68, [0], []),
  (some 69, [68], [65]),
  (some 70, [69], [66]),
  (some 71, [70], [67]),
  (some 72, [71], [68]),
  (some 73, [0], []),
  (some 74, [73], [70]),
  (some 75, [74], [71]),
  (some 76, [75], [72]),
  (some 77, [76], [73]),
  (some 78, [0], []),
  (some 79, [78], [75]),
  (some 80, [79], [76]),
  (some 81, [80], [77]),
  (some 82, [0], []),
  (some 83, [82], [79]),
  (some 84, [83], [80]),
  (some 85, [84], [81]),
  (some 86, [0], []),
  (some 87, [86], [83]),
  (some 88, [87], [84]),
  (some 89, [88], [85]),
  (some 90, [0], []),
  (some 91, [90], [87]),
  (some 92, [91], [88]),
  (some 93, [92], [89]),
  (some 94, [0], []),
  (some 95, [94], [91]),
  (some 96, [95], [92]),
  (some 97, [96], [93]),
  (some 98, [97], [94]),
  (some 99, [0], []),
  (some 100, [99], [96]),
  (some 101, [100], [97]),
  (some 102, [101], [98]),
  (some 103, [0], []),
  (some 104, [103], [100]),
  (some 105, [104], [101]),
  (some 106, [105], [102]),
  (some 107, [106], [103]),
  (some 108, [0], []),
  (some 109, [108], [105]),
  (some 110, [109], [106]),
  (some 111, [110], [107]),
  (some 112, [111], [108]),
  (some 113, [0], []),
  (some 114, [113], [110]),
  (some 115, [114], [111]),
  (some 116, [115], [112]),
  (some 117, [6, 10, 14, 18, 22, 26, 30, 34, 38, 42, 46, 50, 55, 59, 63, 67, 72, 77, 81, 85, 89, 93, 98, 102, 107, 112, 116], [3, 7, 11, 15, 19, 23, 27, 31, 35, 39, 43, 47, 52, 56, 60, 64, 69, 74, 78, 82, 86, 90, 95, 99, 104, 109, 113]),
  (none, [2, 117], [114, 0, 1, 2, 3, 4, 5, 6, 7, 8, 9, 10, 11, 12, 13, 14, 15, 16, 17, 18, 19, 20, 21, 22, 23, 24, 25, 26, 27, 28, 29, 30, 31, 32, 33, 34, 35, 36, 37, 38, 39, 40, 41, 42, 43, 44, 45, 46, 47, 48, 49, 50, 51, 52, 53, 54, 55, 56, 57, 58, 59, 60, 61, 62, 63, 64, 65, 66, 67, 68, 69, 70, 71, 72, 73, 74, 75, 76, 77, 78, 79, 80, 81, 82, 83, 84, 85, 86, 87, 88, 89, 90, 91, 92, 93, 94, 95, 96, 97, 98, 99, 100, 101, 102, 103, 104, 105, 106, 107, 108, 109, 110, 111, 112, 113, 114])]

theorem s17_pairs : pairsB 0 s17 = true := by decide +kernel
theorem s17_sink : sinkS 0 s17 = true := by decide +kernel

/-- what (*Row).fields hands back: two cells a field -/
def fsArr (R : Nat) : Array Value :=
  #[.pointer (some ⟨R, 0, none⟩), .pointer none, .pointer (some ⟨R, 1, none⟩), .pointer none, .pointer (some ⟨R, 2, none⟩), .pointer none, .pointer (some ⟨R, 3, none⟩), .pointer none, .pointer (some ⟨R, 4, none⟩), .pointer none, .pointer (some ⟨R, 5, none⟩), .pointer none, .pointer (some ⟨R, 6, none⟩), .pointer none, .pointer (some ⟨R, 7, none⟩), .pointer none, .pointer (some ⟨R, 8, none⟩), .pointer none, .pointer (some ⟨R, 9, none⟩), .pointer none, .pointer (some ⟨R, 10, none⟩), .pointer none, .pointer (some ⟨R, 11, none⟩), .pointer none, .pointer none, .pointer (some ⟨R, 21, none⟩), .pointer none, .pointer (some ⟨R, 12, none⟩), .pointer (some ⟨R, 13, none⟩), .pointer none, .pointer (some ⟨R, 14, none⟩), .pointer none, .pointer none, .pointer (some ⟨R, 22, none⟩), .pointer none, .pointer (some ⟨R, 23, none⟩), .pointer (some ⟨R, 15, none⟩), .pointer none, .pointer (some ⟨R, 16, none⟩), .pointer none, .pointer (some ⟨R, 17, none⟩), .pointer none, .pointer (some ⟨R, 18, none⟩), .pointer none, .pointer none, .pointer (some ⟨R, 24, none⟩), .pointer (some ⟨R, 19, none⟩), .pointer none, .pointer none, .pointer (some ⟨R, 25, none⟩), .pointer none, .pointer (some ⟨R, 26, none⟩), .pointer (some ⟨R, 20, none⟩), .pointer none]
def fsZero : Array Value :=
  #[.pointer none, .pointer none, .pointer none, .pointer none, .pointer none, .pointer none, .pointer none, .pointer none, .pointer none, .pointer none, .pointer none, .pointer none, .pointer none, .pointer none, .pointer none, .pointer none, .pointer none, .pointer none, .pointer none, .pointer none, .pointer none, .pointer none, .pointer none, .pointer none, .pointer none, .pointer none, .pointer none, .pointer none, .pointer none, .pointer none, .pointer none, .pointer none, .pointer none, .pointer none, .pointer none, .pointer none, .pointer none, .pointer none, .pointer none, .pointer none, .pointer none, .pointer none, .pointer none, .pointer none, .pointer none, .pointer none, .pointer none, .pointer none, .pointer none, .pointer none, .pointer none, .pointer none, .pointer none, .pointer none]

theorem fs_text (R : Nat) : ∀ k, k < 27 → (fsArr R)[2 * k]? = some (.pointer (txtA R k))
  | 0, _ => rfl
  | 1, _ => rfl
  | 2, _ => rfl
  | 3, _ => rfl
  | 4, _ => rfl
  | 5, _ => rfl
  | 6, _ => rfl
  | 7, _ => rfl
  | 8, _ => rfl
  | 9, _ => rfl
  | 10, _ => rfl
  | 11, _ => rfl
  | 12, _ => rfl
  | 13, _ => rfl
  | 14, _ => rfl
  | 15, _ => rfl
  | 16, _ => rfl
  | 17, _ => rfl
  | 18, _ => rfl
  | 19, _ => rfl
  | 20, _ => rfl
  | 21, _ => rfl
  | 22, _ => rfl
  | 23, _ => rfl
  | 24, _ => rfl
  | 25, _ => rfl
  | 26, _ => rfl
  | n + 27, h => absurd h (by omega)
theorem fs_fen (R : Nat) : ∀ k, k < 27 → (fsArr R)[2 * k + 1]? = some (.pointer (fenA R k))
  | 0, _ => rfl
  | 1, _ => rfl
  | 2, _ => rfl
  | 3, _ => rfl
  | 4, _ => rfl
  | 5, _ => rfl
  | 6, _ => rfl
  | 7, _ => rfl
  | 8, _ => rfl
  | 9, _ => rfl
  | 10, _ => rfl
  | 11, _ => rfl
  | 12, _ => rfl
  | 13, _ => rfl
  | 14, _ => rfl
  | 15, _ => rfl
  | 16, _ => rfl
  | 17, _ => rfl
  | 18, _ => rfl
  | 19, _ => rfl
  | 20, _ => rfl
  | 21, _ => rfl
  | 22, _ => rfl
  | 23, _ => rfl
  | 24, _ => rfl
  | 25, _ => rfl
  | 26, _ => rfl
  | n + 27, h => absurd h (by omega)

set_option maxRecDepth 100000 in
set_option maxHeartbeats 4000000 in
theorem fields_any (R : Nat) (w : World) :
    Calls Try.prog 17 #[.pointer (some ⟨R, 0, none⟩)] w fun e w' => e = .returned (.agg (fsArr R)) ∧ Ext w.heap.size w w' := by
  go_enter Try.func17, Try.ntmps17
  go_wp2
  simp only [List.append_eq, List.cons_append, List.nil_append]
  refine wp_region_quiet_last 115 s17 (by kernel_rfl) (by kernel_rfl) (by kernel_rfl) (by kernel_rfl) s17_pairs s17_sink ?_
  simp only [List.take_succ_cons, List.take_zero, List.drop_succ_cons, List.drop_zero]
  repeat (go_big_quiet_step (fail))
  refine wpQuiet_nil ?_
  refine wpList_store_row rfl 57 (.tmp 2) (.tmp 117) rfl w.heap.size (fsArr R) rfl rfl 57 fsZero (Blk.new w fsZero 57) (by kernel_rfl) rfl (by kernel_rfl) ?_
  go_wp2
  have hb : Blk ((w.alloc (.cells fsZero 57)).drew.setRow w.heap.size (fsArr R)) w.heap.size (fsArr R) 57 := Blk.setRow (Blk.drew (Blk.new w fsZero 57)) (fsArr R)
  have he : Ext w.heap.size w ((w.alloc (.cells fsZero 57)).drew.setRow w.heap.size (fsArr R)) := (((Ext.refl _ _).alloc (Nat.le_refl _) _ _).drew).setRow (Nat.le_refl _) _
  exact bodyPost_ret (results_cell_row rfl _ _ w.heap.size 57 (fsArr R) (0, 0) _ rfl hb Try.underlying57 rfl (by kernel_rfl)) rfl ⟨rfl, he⟩
end Go.Proofs.Qxb6600217a.Bill
