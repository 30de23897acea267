/-
  Seat b6600217a: a region that draws its order, whose operations only read but for a last one that waits for all of them: the head walked once, in the order of the text, by the quiet walk's own steps; then the last operation. The check of the order is made over a summary of the operations (what each writes, looks at and waits for), which is light for the kernel at a hundred operations.
-/
import Derived.StillTail
import Derived.Deep.Quiet
namespace Go.Proofs.Qxb6600217a
open Go

theorem still_of_quiet {P : Program} {ops : Array Oper} {W : World} {Q : Act → Prop} : ∀ (l : List Oper) (a : Act),
    wpQuiet P ops (fun w' => w' = W) Q l a → wpStill P ops W Q l a
  | [], _, h => h
  | o :: rest, a, h => by
    simp only [wpQuiet] at h
    simp only [wpStill]
    by_cases hw : Region.wanted o (yielded ops a.tmps) = true
    · rw [if_pos hw] at h ⊢
      obtain ⟨v, hv, hn⟩ := h
      have hq := hv W rfl
      have hn' := still_of_quiet rest _ hn
      unfold Oper.quietAt Oper.quietUpon at hq
      unfold Oper.still Oper.stillUpon
      split at hq
      · rename_i u w' e; rw [e]; exact ⟨hq.1, by rw [hq.2]; exact hn'⟩
      · rename_i w' e; rw [e]; exact ⟨hq.1, by rw [← hq.2]; exact hn'⟩
      · rename_i f args w' e; rw [e]; exact ⟨hq.1, v, hq.2, hn'⟩
      · exact hq.elim
    · rw [if_neg hw] at h ⊢
      exact still_of_quiet rest _ h

/-! ### The summary -/
abbrev Sm := Option Nat × List Nat × List Nat
def sm (ops : Array Oper) (o : Oper) : Sm := (o.dst, o.looksAt ops, (o.after.toList.filter (Region.binds .any ·)).map (·.on))
def apartS (x y : Sm) : Bool :=
  (match x.1 with | some d => !y.2.1.contains d && y.1 != some d | none => true) && (match y.1 with | some d => !x.2.1.contains d | none => true)
def pairsB : Nat → List Sm → Bool
  | _, [] => true
  | k, x :: r => x.2.2.all (fun e => decide (e < k)) && r.all (fun y => y.2.2.contains k || apartS x y) && pairsB (k + 1) r
def sinkS : Nat → List Sm → Bool
  | _, [] => true
  | k, _ :: r => (r.isEmpty || r.any (fun y => y.2.2.contains k)) && sinkS (k + 1) r

theorem pairs_at : ∀ (l : List Sm) (b : Nat), pairsB b l = true → ∀ (k : Nat) (x : Sm), l[k]? = some x →
    (∀ e ∈ x.2.2, e < b + k) ∧ ∀ (j : Nat) (y : Sm), k < j → l[j]? = some y → (b + k) ∈ y.2.2 ∨ apartS x y = true
  | [], _, _, k, x, hx => by simp at hx
  | z :: r, b, h, k, x, hx => by
    simp only [pairsB, Bool.and_eq_true, List.all_eq_true, decide_eq_true_eq, Bool.or_eq_true, List.contains_iff_mem] at h
    cases k with
    | zero =>
      simp only [List.getElem?_cons_zero, Option.some.injEq] at hx
      subst hx
      refine ⟨fun e he => by have := h.1.1 e he; omega, fun j y hj hy => ?_⟩
      cases j with
      | zero => omega
      | succ j =>
        simp only [List.getElem?_cons_succ] at hy
        have := h.1.2 y (List.mem_of_getElem? hy)
        simpa using this
    | succ k =>
      simp only [List.getElem?_cons_succ] at hx
      have ih := pairs_at r (b + 1) h.2 k x hx
      refine ⟨fun e he => by have := ih.1 e he; omega, fun j y hj hy => ?_⟩
      cases j with
      | zero => omega
      | succ j =>
        simp only [List.getElem?_cons_succ] at hy
        have := ih.2 j y (by omega) hy
        rwa [show b + 1 + k = b + (k + 1) from by omega] at this

theorem sink_at : ∀ (l : List Sm) (b : Nat), sinkS b l = true → ∀ k, k + 1 < l.length → ∃ j y, k < j ∧ l[j]? = some y ∧ (b + k) ∈ y.2.2
  | [], _, _, k, hk => by simp at hk
  | z :: r, b, h, k, hk => by
    simp only [sinkS, Bool.and_eq_true, Bool.or_eq_true, List.any_eq_true, List.contains_iff_mem, List.isEmpty_iff] at h
    cases k with
    | zero =>
      rcases h.1 with h1 | ⟨y, hy, hb⟩
      · subst h1; simp at hk
      · obtain ⟨j, hj⟩ := List.getElem?_of_mem hy
        exact ⟨j + 1, y, by omega, by simpa using hj, by simpa using hb⟩
    | succ k =>
      obtain ⟨j, y, h1, h2, h3⟩ := sink_at r (b + 1) h.2 k (by simp at hk; omega)
      exact ⟨j + 1, y, by omega, by simpa using h2, by rwa [show b + 1 + k = b + (k + 1) from by omega] at h3⟩

section
variable {l : List Oper} {n : Nat}

theorem sm_at (S : List Sm) (hS : l.map (sm l.toArray) = S) {k : Nat} {o : Oper} (h : l.toArray[k]? = some o) : S[k]? = some (sm l.toArray o) := by
  rw [← hS, List.getElem?_map]
  have : l[k]? = some o := by simpa using h
  rw [this]; rfl

theorem on_mem {ops : Array Oper} {o : Oper} {i : Nat} : i ∈ (sm ops o).2.2 ↔ ∃ e ∈ o.after, Region.binds .any e = true ∧ e.on = i := by
  simp only [sm, List.mem_map, List.mem_filter, Array.mem_toList_iff]
  constructor
  · rintro ⟨e, ⟨h1, h2⟩, h3⟩; exact ⟨e, h1, h2, h3⟩
  · rintro ⟨e, h1, h2, h3⟩; exact ⟨e, ⟨h1, h2⟩, h3⟩

theorem lex_of_summary (S : List Sm) (hS : l.map (sm l.toArray) = S) (hn : n + 1 = l.length) (hsel : Region.noSelect l.toArray = true) (hp : pairsB 0 S = true) (hk : sinkS 0 S = true) :
    Region.lexTailB .any l.toArray n = true := by
  have hsz : l.toArray.size = n + 1 := by simp [hn]
  have hSl : S.length = n + 1 := by rw [← hS]; simp [hn]
  have hget : ∀ k, k < n + 1 → ∃ o, l.toArray[k]? = some o := fun k hk => ⟨_, Array.getElem?_eq_getElem (by omega)⟩
  -- every operation but the last is waited for
  have hsink : Region.sinkB .any l.toArray n = true := by
    unfold Region.sinkB
    rw [List.all_eq_true]
    intro i hi
    have hi' := List.mem_range.1 hi
    obtain ⟨j, y, h1, h2, h3⟩ := sink_at S 0 hk i (by omega)
    have hj : j < n + 1 := by rw [← hSl]; exact (List.getElem?_eq_some_iff.1 h2).1
    obtain ⟨o, ho⟩ := hget j hj
    rw [sm_at S hS ho] at h2
    cases h2
    rw [Nat.zero_add] at h3
    obtain ⟨e, he, hb, hon⟩ := on_mem.1 h3
    rw [List.any_eq_true]
    refine ⟨j, List.mem_range.2 hj, ?_⟩
    simp only [Bool.and_eq_true, decide_eq_true_eq, Region.waitsFor, ho]
    exact ⟨h1, Array.any_eq_true'.2 ⟨e, he, by simp [hb, hon]⟩⟩
  have hchain : Region.chainB .any l.toArray n = true := by
    unfold Region.chainB
    rw [List.all_eq_true]
    intro t ht
    have := List.mem_range.1 ht
    simp only [Bool.or_eq_true, decide_eq_true_eq]
    left; omega
  -- each operation waits for earlier ones alone
  have hback : ∀ k o, l.toArray[k]? = some o → ∀ e ∈ o.after, Region.binds .any e = true → e.on < k := fun k o ho e he hb => by
    have := (pairs_at S 0 hp k _ (sm_at S hS ho)).1 e.on (on_mem.2 ⟨e, he, hb, rfl⟩)
    omega
  have hready : ∀ (k : Nat) (listed : Array Bool), k < n + 1 → (∀ j, j < n + 1 → listed.getD j true = decide (j < k)) → listed.size = n + 1 → k ∈ Region.ready .any l.toArray listed := by
    intro k listed hk hl hs
    obtain ⟨o, ho⟩ := hget k hk
    refine mem_ready.2 ⟨by rw [hl k hk]; simp, o, ho, fun e he hb => ?_⟩
    have h1 := hback k o ho e he hb
    have h2 := hl e.on (by omega)
    have h3 : e.on < listed.size := by omega
    simp only [Array.getD, h3, dif_pos] at h2 ⊢
    rw [h2]; simp [h1]
  have hfree : ∀ (k : Nat) (listed : Array Bool), k < n + 1 → (∀ j, j < n + 1 → listed.getD j true = decide (j < k)) → Region.free .any l.toArray listed k = true := by
    intro k listed hk hl
    obtain ⟨o, ho⟩ := hget k hk
    simp only [Region.free, ho, List.all_eq_true, List.mem_range]
    intro j hj
    rw [hsz] at hj
    obtain ⟨oj, hoj⟩ := hget j hj
    simp only [hoj, hl j hj, Bool.or_eq_true, beq_iff_eq, decide_eq_true_eq]
    by_cases h1 : j = k
    · exact .inl (.inl h1)
    by_cases h2 : j < k
    · exact .inl (.inr h2)
    right
    rcases (pairs_at S 0 hp k _ (sm_at S hS ho)).2 j _ (by omega) (sm_at S hS hoj) with h3 | h3
    · left
      rw [Nat.zero_add] at h3
      obtain ⟨e, he, hb, hon⟩ := on_mem.1 h3
      exact Array.any_eq_true'.2 ⟨e, he, by simp [hb, hon]⟩
    · right; exact h3
  have hset : ∀ (k : Nat) (listed : Array Bool), k < n + 1 → (∀ j, j < n + 1 → listed.getD j true = decide (j < k)) → listed.size = n + 1 →
      ∀ j, j < n + 1 → (listed.setIfInBounds k true).getD j true = decide (j < k + 1) := by
    intro k listed hk hl hs j hj
    by_cases e : k = j
    · subst e
      have : k < (listed.setIfInBounds k true).size := by simp; omega
      simp [Array.getD, hs, hk]
    · rw [getD_set_ne true e, hl j hj]
      congr 1
      simp only [eq_iff_iff]; omega
  have hlast : ∀ listed : Array Bool, (∀ j, j < n + 1 → listed.getD j true = decide (j < n)) → listed.size = n + 1 → Region.seqB .any l.toArray 1 n listed = true := by
    intro listed hl hs
    have hr : Region.ready .any l.toArray listed = [n] := by
      have hm := hready n listed (by omega) hl hs
      unfold Region.ready at hm ⊢
      rw [hsz, List.range_succ, List.filter_append]
      rw [hsz, List.range_succ, List.filter_append, List.mem_append] at hm
      have h0 : (List.range n).filter (fun i => !listed.getD i true && ((l.toArray[i]?).map (·.after.all fun e => !Region.binds .any e || listed.getD e.on false)).getD false) = [] := by
        rw [List.filter_eq_nil_iff]
        intro i hi
        have := List.mem_range.1 hi
        rw [hl i (by omega)]
        simp [this]
      rw [h0] at hm ⊢
      rcases hm with hm | hm
      · cases hm
      · have := (List.mem_filter.1 hm).2
        rw [List.filter_cons_of_pos (by simpa using this)]
        rfl
    have hr2 : Region.ready .any l.toArray (listed.setIfInBounds n true) = [] := by
      apply List.eq_nil_iff_forall_not_mem.2
      intro j hj
      obtain ⟨h1, o, ho, _⟩ := mem_ready.1 hj
      have hj' : j < n + 1 := by rw [← hsz]; exact (Array.getElem?_eq_some_iff.1 ho).1
      rw [hset n listed (by omega) hl hs j hj'] at h1
      simp at h1; omega
    simp [Region.seqB, hr, hr2]
  have hhead : ∀ (f k : Nat) (listed : Array Bool), k + f = n → (∀ j, j < n + 1 → listed.getD j true = decide (j < k)) → listed.size = n + 1 → Region.lexHead .any l.toArray 1 f k listed = true := by
    intro f
    induction f with
    | zero => intro k listed hk hl hs; obtain rfl : k = n := by omega
              exact hlast listed hl hs
    | succ f ih =>
      intro k listed hk hl hs
      simp only [Region.lexHead, Bool.and_eq_true, List.contains_iff_mem]
      exact ⟨⟨hready k listed (by omega) hl hs, hfree k listed (by omega) hl⟩, ih (k + 1) _ (by omega) (hset k listed (by omega) hl hs) (by simp [hs])⟩
  simp only [Region.lexTailB, Bool.and_eq_true, decide_eq_true_eq]
  refine ⟨⟨⟨⟨hsel, by omega⟩, hsink⟩, hchain⟩, ?_⟩
  rw [show l.toArray.size - n = 1 from by omega]
  refine hhead n 0 _ (by omega) (fun j hj => ?_) (by simp [hn])
  simp [Array.getD]; omega
end

/-- THE LAW: a region that draws its order, the last operation waiting for all others, which only read. -/
theorem wp_region_quiet_last {P : Program} {id : Nat} {Q : Exit → Act → World → Prop} {a : Act} {w : World} {l : List Oper} (n : Nat) (S : List Sm) (hm : P.follows .mixedOrders = true)
    (hS : l.map (sm l.toArray) = S) (hn : n + 1 = l.length) (hsel : Region.noSelect l.toArray = true) (hp : pairsB 0 S = true) (hk : sinkS 0 S = true)
    (h : wpQuiet P l.toArray (fun w' => w' = w.drew) (fun a' => wpList P l.toArray Q (l.drop n) a' w.drew) (l.take n) a) : (Code.region id l.toArray true).wp P Q a w :=
  wp_region_still_tail n hm (lex_of_summary S hS hn hsel hp hk) (still_of_quiet _ _ h)

end Go.Proofs.Qxb6600217a
