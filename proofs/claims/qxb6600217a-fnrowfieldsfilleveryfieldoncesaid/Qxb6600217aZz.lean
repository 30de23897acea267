/-
  Seat b6600217a: the contract of ZZRowFields.
-/
import Derived.Test.Qxb6600217aFields
namespace Go.Proofs.Qxb6600217a.Bill
open Go.ChangeShapes Go.WideShapes Go.ChangeAt Go.RowKit Go.BigFrame

def ptrZero : Array Value := #[.pointer none, .pointer none, .pointer none, .pointer none, .pointer none, .pointer none, .pointer none, .pointer none, .pointer none, .pointer none, .pointer none, .pointer none, .pointer none, .pointer none, .pointer none, .pointer none, .pointer none, .pointer none, .pointer none, .pointer none, .pointer none, .pointer none, .pointer none, .pointer none, .pointer none, .pointer none, .pointer none]

/-- what the loop of ZZRowFields holds to behind k rounds -/
structure Zr (R B T F : Nat) (w0 : World) (k : Nat) (w : World) : Prop where
  t : ∃ c, Blk w T c 28 ∧ c.size = 27 ∧ ∀ j, j < k → c[j]? = some (.pointer (txtA R j))
  f : ∃ c, Blk w (T + 1) c 30 ∧ c.size = 27 ∧ ∀ j, j < k → c[j]? = some (.pointer (fenA R j))
  fs : Blk w F (fsArr R) 57
  r0 : Blk w B ptrZero 28
  r1 : Blk w (B + 1) ptrZero 30
  ext : Ext B w0 w

theorem set_get {c : Array Value} {k : Nat} {v : Value} {g : Nat → Value} (hk : k < c.size) (h : ∀ j, j < k → c[j]? = some (g j)) (hv : v = g k) : ∀ j, j < k + 1 → (c.setIfInBounds k v)[j]? = some (g j) := by
  intro j hj
  by_cases e : k = j
  · subst e; rw [Array.getElem?_setIfInBounds_self_of_lt hk, hv]
  · rw [Array.getElem?_setIfInBounds_ne e]; exact h j (by omega)

theorem Zr.step {R B T F : Nat} {w0 w : World} {k : Nat} (h : Zr R B T F w0 k w) (hk : k < 27) (hB : B + 1 < T) (hF : T + 1 < F) :
    Zr R B T F w0 (k + 1) ((w.setCell ⟨T, k, none⟩ (.pointer (txtA R k))).setCell ⟨T + 1, k, none⟩ (.pointer (fenA R k))) := by
  obtain ⟨c1, b1, s1, h1⟩ := h.t
  obtain ⟨c2, b2, s2, h2⟩ := h.f
  exact ⟨⟨_, (b1.set k _).setOther ⟨T + 1, k, none⟩ (by simp) _, by simpa using s1, set_get (g := fun j => .pointer (txtA R j)) (by omega) h1 rfl⟩,
    ⟨_, (b2.setOther ⟨T, k, none⟩ (by simp) _).set k _, by simpa using s2, set_get (g := fun j => .pointer (fenA R j)) (by omega) h2 rfl⟩,
    (h.fs.setOther ⟨T, k, none⟩ (by simp; omega) _).setOther ⟨T + 1, k, none⟩ (by simp; omega) _,
    (h.r0.setOther ⟨T, k, none⟩ (by simp; omega) _).setOther ⟨T + 1, k, none⟩ (by simp; omega) _,
    (h.r1.setOther ⟨T, k, none⟩ (by simp; omega) _).setOther ⟨T + 1, k, none⟩ (by simp; omega) _,
    (h.ext.setCell (p := ⟨T, k, none⟩) (by simp; omega) _).setCell (p := ⟨T + 1, k, none⟩) (by simp; omega) _⟩

theorem arr_eq {c : Array Value} (hs : c.size = 27) (g : Nat → Value) (h : ∀ j, j < 27 → c[j]? = some (g j)) : c = (Array.range 27).map g := by
  apply Array.ext_getElem?
  intro j
  by_cases hj : j < 27
  · rw [h j hj]; simp [hj]
  · rw [Array.getElem?_eq_none (by omega)]; simp [hj]
theorem any_step {P : Program} {md : Region.Mode} {ops : Array Oper} {Q : Exit → Act → World → Prop} {fuel : Nat} {listed : Array Bool} {a : Act} {w : World} (rs : List Nat) (hr : Region.ready md ops listed = rs) (hne : rs ≠ [])
    (h : ∀ i ∈ rs, wpOp P ops Q i (wpAny P md ops Q fuel (listed.setIfInBounds i true)) a w) : wpAny P md ops Q (fuel + 1) listed a w :=
  ⟨fun h0 => absurd (hr.symm.trans h0) hne, fun i hi => h i (by rw [← hr]; exact hi)⟩
theorem any_done {P : Program} {md : Region.Mode} {ops : Array Oper} {Q : Exit → Act → World → Prop} {listed : Array Bool} {a : Act} {w : World} (hr : Region.ready md ops listed = []) (h : Q .normal a w) : wpAny P md ops Q 0 listed a w := ⟨hr, h⟩
theorem op_load {P : Program} {ops : Array Oper} {Q : Exit → Act → World → Prop} {i : Nat} {K : Act → World → Prop} {a : Act} {w : World} (o : Oper) (ho : ops[i]? = some o) (hg : o.guard = none) (ty : TypeId) (x : Operand) (hop : o.op = .load ty x)
    (g : Nat) (hx : a.eval x = .pointer (some ⟨g, 0, none⟩)) (cs : Array Value) (t : TypeId) (hb : Blk w g cs t) (d : TypeDesc) (hu : P.underlying ty = some d) (hd : (match d with | .struct _ | .array _ _ => true | _ => false) = true) (hi : (P.info? ty).map (·.size) = some cs.size)
    (h : K (a.put o.dst (.agg cs)) w) : wpOp P ops Q i K a w := by
  unfold wpOp
  simp only [ho]
  rw [if_pos (by simp [Region.wanted, hg])]
  exact .inl (wp_load_row ty x hop g hx t cs (0, 0) d hb hu hd hi h)
theorem op_store {P : Program} {ops : Array Oper} {Q : Exit → Act → World → Prop} {i : Nat} {K : Act → World → Prop} {a : Act} {w : World} (o : Oper) (ho : ops[i]? = some o) (hg : o.guard = none) (ty : TypeId) (x y : Operand) (hop : o.op = .store ty x y)
    (g : Nat) (cells : Array Value) (hx : a.eval x = .pointer (some ⟨g, 0, none⟩)) (hy : a.eval y = .agg cells) (old : Array Value) (t : TypeId) (hb : Blk w g old t) (hi : (P.info? ty).map (·.size) = some cells.size)
    (hold : old.size = cells.size) (h1 : cells.all (·.oneCell') = true) (h : K (a.put o.dst undef) (w.setRow g cells)) : wpOp P ops Q i K a w := by
  unfold wpOp
  simp only [ho]
  rw [if_pos (by simp [Region.wanted, hg])]
  exact .inl (wp_store_row ty x y hop g cells hx hy t old hb hi hold h1 h)

theorem texts_one (R : Nat) : (textsArr R).all (·.oneCell') = true := by
  rw [Array.all_eq_true_iff_forall_mem]; intro v hv; simp [textsArr] at hv; obtain ⟨a, _, rfl⟩ := hv; rfl
theorem fens_one (R : Nat) : (fensArr R).all (·.oneCell') = true := by
  rw [Array.all_eq_true_iff_forall_mem]; intro v hv; simp [fensArr] at hv; obtain ⟨a, _, rfl⟩ := hv; rfl

theorem results_cell_row2 {P : Program} {fn : Func} {p q : Tmp} {ty uy : TypeId} (h : fn.results = #[.cell p ty, .cell q uy]) (tmps : Array Value) (w : World) (g g' : Nat) (t t' : TypeId) (cs cs' : Array Value) (d d' : TypeDesc)
    (hp : tmps.getD p undef = .pointer (some ⟨g, 0, none⟩)) (hq : tmps.getD q undef = .pointer (some ⟨g', 0, none⟩)) (hg : Blk w g cs t) (hg' : Blk w g' cs' t')
    (hu : P.underlying ty = some d) (hd : (match d with | .struct _ | .array _ _ => true | _ => false) = true) (hi : (P.info? ty).map (·.size) = some cs.size)
    (hu' : P.underlying uy = some d') (hd' : (match d' with | .struct _ | .array _ _ => true | _ => false) = true) (hi' : (P.info? uy).map (·.size) = some cs'.size) :
    (results fn tmps).run P w = .ok (.tuple #[.agg cs, .agg cs']) w := by
  have hp' : tmps[p]?.getD undef = .pointer (some ⟨g, 0, none⟩) := by simpa using hp
  have hq' : tmps[q]?.getD undef = .pointer (some ⟨g', 0, none⟩) := by simpa using hq
  simp [results, h, hp', hq', asAddr, run_loadVar_row w g t ty cs (0, 0) d hg hu hd hi, run_loadVar_row w g' t' uy cs' (0, 0) d' hg' hu' hd' hi']

theorem size_alloc' (w : World) (o : Obj) : (w.alloc o).heap.size = w.heap.size + 1 := by
  show (w.heap.push o).size = _
  simp

def W4 (w : World) : World := (((w.alloc (.cells ptrZero 28)).alloc (.cells ptrZero 30)).alloc (.cells ptrZero 28)).alloc (.cells ptrZero 30)

theorem four (w : World) : Blk (W4 w) w.heap.size ptrZero 28 ∧ Blk (W4 w) (w.heap.size + 1) ptrZero 30 ∧ Blk (W4 w) (w.heap.size + 2) ptrZero 28 ∧ Blk (W4 w) (w.heap.size + 3) ptrZero 30 ∧ Ext w.heap.size w (W4 w) ∧ (W4 w).heap.size = w.heap.size + 4 := by
  have e1 := size_alloc' w (.cells ptrZero 28)
  have e2 := size_alloc' (w.alloc (.cells ptrZero 28)) (.cells ptrZero 30)
  have e3 := size_alloc' ((w.alloc (.cells ptrZero 28)).alloc (.cells ptrZero 30)) (.cells ptrZero 28)
  have e4 := size_alloc' (((w.alloc (.cells ptrZero 28)).alloc (.cells ptrZero 30)).alloc (.cells ptrZero 28)) (.cells ptrZero 30)
  refine ⟨(((Blk.new w ptrZero 28).alloc _).alloc _).alloc _, ?_, ?_, ?_, ?_, ?_⟩
  · have := ((Blk.new (w.alloc (.cells ptrZero 28)) ptrZero 30).alloc (.cells ptrZero 28)).alloc (.cells ptrZero 30)
    rwa [e1] at this
  · have := (Blk.new ((w.alloc (.cells ptrZero 28)).alloc (.cells ptrZero 30)) ptrZero 28).alloc (.cells ptrZero 30)
    rwa [e2, e1] at this
  · have := Blk.new (((w.alloc (.cells ptrZero 28)).alloc (.cells ptrZero 30)).alloc (.cells ptrZero 28)) ptrZero 30
    rwa [e3, e2, e1] at this
  · exact ((((Ext.refl _ _).alloc (Nat.le_refl _) _ _).alloc (by omega) _ _).alloc (by omega) _ _).alloc (by omega) _ _
  · show ((((w.alloc (.cells ptrZero 28)).alloc (.cells ptrZero 30)).alloc (.cells ptrZero 28)).alloc (.cells ptrZero 30)).heap.size = _
    omega

set_option maxRecDepth 100000 in
set_option maxHeartbeats 4000000 in
theorem zz_any (R : Nat) (w : World) :
    Calls Try.prog 8 #[.pointer (some ⟨R, 0, none⟩)] w fun e w' => e = .returned (.tuple #[.agg (textsArr R), .agg (fensArr R)]) ∧ Ext w.heap.size w w' := by
  obtain ⟨g0, g1, g2, g3, ge, gs⟩ := four w
  go_enter Try.func8, Try.ntmps8
  go_wp2_with fail
  refine (fields_any R (W4 w)).mono ?_
  rintro e w1 ⟨rfl, hx1⟩
  rw [gs] at hx1
  have b0 := g0.below hx1.bel (by omega)
  have b1 := g1.below hx1.bel (by omega)
  have b2 := g2.below hx1.bel (by omega)
  have b3 := g3.below hx1.bel (by omega)
  have be := ge.trans (hx1.mono (by omega))
  have bs : w.heap.size + 4 ≤ w1.heap.size := by have := hx1.bel.size; omega
  clear g0 g1 g2 g3 ge gs hx1
  go_wp2_with (refine wpList_store_row rfl 57 (.tmp 6) (.tmp 9) rfl w1.heap.size (fsArr R) rfl rfl 57 fsZero (Blk.new w1 fsZero 57) (by kernel_rfl) rfl (by kernel_rfl) ?_)
  have hz : Zr R w.heap.size (w.heap.size + 1 + 1) w1.heap.size w 0 ((w1.alloc (.cells fsZero 57)).setRow w1.heap.size (fsArr R)) :=
    ⟨⟨_, (b2.alloc _).setRowOther (by omega) _, rfl, fun j hj => absurd hj (by omega)⟩, ⟨_, (b3.alloc _).setRowOther (by omega) _, rfl, fun j hj => absurd hj (by omega)⟩,
     (Blk.new w1 fsZero 57).setRow _, (b0.alloc _).setRowOther (by omega) _, (b1.alloc _).setRowOther (by omega) _, (be.alloc (by omega) _ _).setRow (by omega) _⟩
  clear b0 b1 b2 b3 be
  have hBT : w.heap.size + 1 < w.heap.size + 1 + 1 := by omega
  have hTF : w.heap.size + 1 + 1 + 1 < w1.heap.size := by omega
  generalize w.heap.size + 1 + 1 = T at *
  generalize w1.heap.size = F at *
  go_loopw [7] (fun v wr => ∃ k : Nat, k ≤ 27 ∧ v = .int .i64 k ∧ Zr R w.heap.size T F w k wr) (fun v _ => 27 - (intOf v).toNat)
  case atStart => exact ⟨0, by omega, rfl, hz⟩
  case round =>
    obtain ⟨k, hk, rfl, hr⟩ := hrel
    by_cases hlt : k < 27
    · obtain ⟨c1, hb1, hs1, -⟩ := hr.t
      obtain ⟨c2, hb2, hs2, -⟩ := hr.f
      have hF0 : wr.cell? ⟨F, k * 2, none⟩ = some (.pointer (txtA R k)) := by rw [Nat.mul_comm]; exact (hr.fs.cell _).trans (fs_text R k hlt)
      have hF1 : wr.cell? ⟨F, k * 2 + 1, none⟩ = some (.pointer (fenA R k)) := by rw [Nat.mul_comm]; exact (hr.fs.cell _).trans (fs_fen R k hlt)
      have hc1 : wr.cell? ⟨T, k, none⟩ = some (c1[k]'(by omega)) := (hb1.cell k).trans (Array.getElem?_eq_getElem _)
      have hc2 : wr.cell? ⟨T + 1, k, none⟩ = some (c2[k]'(by omega)) := (hb2.cell k).trans (Array.getElem?_eq_getElem _)
      have hf1 := hb1.free k
      have hf2 := hb2.free k
      have hn1 : ¬ T = F := by omega
      have hn2 : ¬ T + 1 = F := by omega
      have hb3 : (k : Int) < 27 := by omega
      have hr' := hr.step hlt hBT hTF
      clear hb1 hb2
      go_wp2
      go_roundw
      case rel => exact ⟨k + 1, by omega, by go_num, hr'⟩
      case measure => simp [intOf]; omega
    · obtain rfl : k = 27 := by omega
      obtain ⟨c1, hb1, hs1, h1⟩ := hr.t
      obtain ⟨c2, hb2, hs2, h2⟩ := hr.f
      have e1 : c1 = textsArr R := arr_eq hs1 (fun j => .pointer (txtA R j)) h1
      have e2 : c2 = fensArr R := arr_eq hs2 (fun j => .pointer (fenA R j)) h2
      subst e1 e2
      have b0 := hr.r0
      have b1 := hr.r1
      have hext := hr.ext
      have i28 : (Try.prog.info? 28).map (·.size) = some (textsArr R).size := by rw [hs1]; kernel_rfl
      have i30 : (Try.prog.info? 30).map (·.size) = some (fensArr R).size := by rw [hs2]; kernel_rfl
      have o1 : (textsArr R).all (·.oneCell') = true := texts_one R
      have o2 : (fensArr R).all (·.oneCell') = true := fens_one R
      have s1 : ptrZero.size = (textsArr R).size := by rw [hs1]; rfl
      have s2 : ptrZero.size = (fensArr R).size := by rw [hs2]; rfl
      clear hr hs1 hs2 h1 h2
      go_wp2
      refine wp_region_any (by kernel_rfl) ?_
      have fin : Ext w.heap.size w ((wr.drew.setRow w.heap.size (textsArr R)).setRow (w.heap.size + 1) (fensArr R)) := (hext.drew.setRow (Nat.le_refl _) _).setRow (by omega) _
      have r0 : Blk ((wr.drew.setRow w.heap.size (textsArr R)).setRow (w.heap.size + 1) (fensArr R)) w.heap.size (textsArr R) 28 := (b0.drew.setRow _).setRowOther (by omega) _
      have r1 : Blk ((wr.drew.setRow w.heap.size (textsArr R)).setRow (w.heap.size + 1) (fensArr R)) (w.heap.size + 1) (fensArr R) 30 := (b1.drew.setRowOther (by omega) _).setRow _
      have c1 : Blk (wr.drew.setRow w.heap.size (textsArr R)) (w.heap.size + 1) ptrZero 30 := b1.drew.setRowOther (by omega) _
      have d2 : Blk (wr.drew.setRow w.heap.size (textsArr R)) (T + 1) (fensArr R) 30 := hb2.drew.setRowOther (by omega) _
      have rw0 := Try.underlying28
      have rw1 := Try.underlying30
      refine any_step [0, 1] (by kernel_rfl) (by simp) ?_
      intro i hi
      simp only [List.mem_cons, List.not_mem_nil, or_false] at hi
      rcases hi with rfl | rfl
      · refine op_load _ rfl rfl 28 (.tmp 4) rfl T rfl (textsArr R) 28 hb1 _ rw0 rfl i28 ?_
        refine any_step [1, 2] (by kernel_rfl) (by simp) ?_
        intro i hi
        simp only [List.mem_cons, List.not_mem_nil, or_false] at hi
        rcases hi with rfl | rfl
        · refine op_load _ rfl rfl 30 (.tmp 5) rfl (T + 1) rfl (fensArr R) 30 hb2 _ rw1 rfl i30 ?_
          refine any_step [2] (by kernel_rfl) (by simp) ?_
          intro i hi
          simp only [List.mem_cons, List.not_mem_nil, or_false] at hi
          subst hi
          refine op_store _ rfl rfl 28 (.tmp 2) (.tmp 26) rfl w.heap.size (textsArr R) rfl rfl ptrZero 28 b0 i28 s1 o1 ?_
          refine any_step [3] (by kernel_rfl) (by simp) ?_
          intro i hi
          simp only [List.mem_cons, List.not_mem_nil, or_false] at hi
          subst hi
          refine op_store _ rfl rfl 30 (.tmp 3) (.tmp 27) rfl (w.heap.size + 1) (fensArr R) rfl rfl ptrZero 30 c1 i30 s2 o2 ?_
          refine any_done (by kernel_rfl) ?_
          simp only [Exit.then]
          go_wp2
          exact bodyPost_ret (results_cell_row2 rfl _ _ w.heap.size (w.heap.size + 1) 28 30 (textsArr R) (fensArr R) _ _ rfl rfl r0 r1 rw0 rfl i28 rw1 rfl i30) rfl ⟨rfl, fin⟩
        · refine op_store _ rfl rfl 28 (.tmp 2) (.tmp 26) rfl w.heap.size (textsArr R) rfl rfl ptrZero 28 b0 i28 s1 o1 ?_
          refine any_step [1] (by kernel_rfl) (by simp) ?_
          intro i hi
          simp only [List.mem_cons, List.not_mem_nil, or_false] at hi
          subst hi
          refine op_load _ rfl rfl 30 (.tmp 5) rfl (T + 1) rfl (fensArr R) 30 d2 _ rw1 rfl i30 ?_
          refine any_step [3] (by kernel_rfl) (by simp) ?_
          intro i hi
          simp only [List.mem_cons, List.not_mem_nil, or_false] at hi
          subst hi
          refine op_store _ rfl rfl 30 (.tmp 3) (.tmp 27) rfl (w.heap.size + 1) (fensArr R) rfl rfl ptrZero 30 c1 i30 s2 o2 ?_
          refine any_done (by kernel_rfl) ?_
          simp only [Exit.then]
          go_wp2
          exact bodyPost_ret (results_cell_row2 rfl _ _ w.heap.size (w.heap.size + 1) 28 30 (textsArr R) (fensArr R) _ _ rfl rfl r0 r1 rw0 rfl i28 rw1 rfl i30) rfl ⟨rfl, fin⟩
      · refine op_load _ rfl rfl 30 (.tmp 5) rfl (T + 1) rfl (fensArr R) 30 hb2 _ rw1 rfl i30 ?_
        refine any_step [0] (by kernel_rfl) (by simp) ?_
        intro i hi
        simp only [List.mem_cons, List.not_mem_nil, or_false] at hi
        subst hi
        refine op_load _ rfl rfl 28 (.tmp 4) rfl T rfl (textsArr R) 28 hb1 _ rw0 rfl i28 ?_
        refine any_step [2] (by kernel_rfl) (by simp) ?_
        intro i hi
        simp only [List.mem_cons, List.not_mem_nil, or_false] at hi
        subst hi
        refine op_store _ rfl rfl 28 (.tmp 2) (.tmp 26) rfl w.heap.size (textsArr R) rfl rfl ptrZero 28 b0 i28 s1 o1 ?_
        refine any_step [3] (by kernel_rfl) (by simp) ?_
        intro i hi
        simp only [List.mem_cons, List.not_mem_nil, or_false] at hi
        subst hi
        refine op_store _ rfl rfl 30 (.tmp 3) (.tmp 27) rfl (w.heap.size + 1) (fensArr R) rfl rfl ptrZero 30 c1 i30 s2 o2 ?_
        refine any_done (by kernel_rfl) ?_
        simp only [Exit.then]
        go_wp2
        exact bodyPost_ret (results_cell_row2 rfl _ _ w.heap.size (w.heap.size + 1) 28 30 (textsArr R) (fensArr R) _ _ rfl rfl r0 r1 rw0 rfl i28 rw1 rfl i30) rfl ⟨rfl, fin⟩
end Go.Proofs.Qxb6600217a.Bill
