/-
  Seat b6600241a: the plain law of FnFailureShiftFailureOutweighsSuccess. No Go in sight.
-/
import Derived.Test.Qxb6600241aQuad
namespace Go.Proofs.Qxb6600241a.Fl
open Ieee

/-- from one evidence, a failure and a success: all that the walk asks -/
structure Two (o r h score fade q rate t rS rF st r0 h0 m h' sh dF mF aF oF dS mS aS oS : Nat) (b1 : Bool) : Prop where
  hq : double.sub one score = some q
  nq : NN q
  hrate : fmax q c005 = rate
  lr : (double.order rate 4596373779694328218 == some .gt || double.order rate 4596373779694328218 == some .eq) = false
  hst : fmax o one = st
  ho : (double.order o 4607182418800017408 == some .lt || double.order o 4607182418800017408 == some .eq) = b1
  hr0 : r0 = if b1 then 0 else r
  hh0 : h0 = if b1 then 0 else h
  e1 : double.mul h0 fade = some m
  e2 : double.add m one = some h'
  e3 : double.div one h' = some sh
  f4 : double.sub 0 r0 = some dF
  f5 : double.mul dF sh = some mF
  f6 : double.add r0 mF = some aF
  s4 : double.sub one r0 = some dS
  s5 : double.mul dS sh = some mS
  s6 : double.add r0 mS = some aS
  e7 : double.sub one rate = some t
  e8 : double.div c08 t = some rS
  e9 : double.div c02 rate = some rF
  f10 : double.mul st rF = some oF
  s10 : double.mul st rS = some oS
  nF : NN oF
  nS : NN oS
  kFS : K oS ≤ K oF
  k1 : ∀ x, NN x → K x = K st → (double.order oF x == some .gt || double.order oF x == some .eq) = true
  k2 : ∀ x, NN x → K x = K st → (double.order oS x == some .lt || double.order oS x == some .eq) = true
  k3 : (double.order oS 0 == some .gt) = true
  k4 : (double.order aS aF == some .gt || double.order aS aF == some .eq) = true
  k5 : (double.order h' h' == some .eq) = true
  k6 : (double.order h' 4607182418800017408 == some .gt || double.order h' 4607182418800017408 == some .eq) = true

theorem two {o r h score fade : Nat} (no : NN o) (fr : Fin r) (fh : Fin h) (h0k : 0 ≤ K h) (s1 : NN score) (s2 : K c08 < K score) (s3 : K score ≤ K one) (f1 : NN fade) (f2 : 0 ≤ K fade) (f3 : K fade ≤ K one) :
    ∃ q rate t rS rF st r0 h0 m h' sh dF mF aF oF dS mS aS oS b1, Two o r h score fade q rate t rS rF st r0 h0 m h' sh dF mF aF oF dS mS aS oS b1 ∧ K st = max (K o) (K one) := by
  have ko := K_one; have ki := inf_val
  have kh : K half = 4602678819172646912 := by decide
  have k0 : K 0 = 0 := by decide
  have ff : Fin fade := fin_of f1 (by omega) (by omega)
  obtain ⟨q, hq, nq, qk⟩ := rate_mid s1 s2 s3
  obtain ⟨x1, x2, x3, t, rS, rF, e7, e8, e9, fS, fF, y1, y2, y3⟩ := rates nq qk
  obtain ⟨hor, hst⟩ := fmax_K no one_fin.nn
  have nst : NN (fmax o one) := by rcases hor with h | h <;> rw [h]; exact no; exact one_fin.nn
  obtain ⟨b1, hb1⟩ : ∃ b, (double.order o 4607182418800017408 == some .lt || double.order o 4607182418800017408 == some .eq) = b := ⟨_, rfl⟩
  have fr0 : Fin (if b1 then 0 else r) := by cases b1; exact fr; exact zero_fin
  have fh0 : Fin (if b1 then 0 else h) := by cases b1; exact fh; exact zero_fin
  have kh0 : 0 ≤ K (if b1 then 0 else h) := by
    cases b1
    · exact h0k
    · show 0 ≤ K 0; omega
  obtain ⟨m, h', sh, e1, e2, e3, w1, w2, w3, w4, w5, w6, w7, w8⟩ := weight_step fh0 kh0 ff f2 f3
  obtain ⟨dF, mF, aF, a1, a2, a3, a4, a5, a6, a7, a8, a9, a10⟩ := fold_step fr0 (.inl rfl) w5 w7 w8
  obtain ⟨dS, mS, aS, c1, c2, c3, c4, c5, c6, c7, c8, c9, c10⟩ := fold_step fr0 (.inr rfl) w5 w7 w8
  have hmean := fold_le w7 a8 a9 a10 c8 c9 c10
  obtain ⟨oF, p1, p2, p3, p4, p5, p6⟩ := odds_step nst (by omega) fF (by omega)
  obtain ⟨oS, q1, q2, q3, q4, q5, q6⟩ := odds_step nst (by omega) fS (by omega)
  have pF := p4 y3
  have qS := q5 y2
  have q0 := q6 y1
  refine ⟨q, _, t, rS, rF, _, _, _, m, h', sh, dF, mF, aF, oF, dS, mS, aS, oS, b1, ⟨hq, nq, rfl, ge_f x3 c02_fin.nn x2, rfl, hb1, rfl, rfl, e1, e2, e3, a1, a2, a3, c1, c2, c3, e7, e8, e9, p1, q1, p3, q3, by omega, ?_, ?_, ?_, ge_b c5 a5 hmean, ?_, ge_b w2.nn one_fin.nn w3⟩, hst⟩
  · intro x hx hk; exact ge_b p3 hx (by omega)
  · intro x hx hk; exact le_b q3 hx (by omega)
  · rw [order_eq q3 zero_fin.nn, cmp_gt (by omega)]; rfl
  · rw [order_eq w2.nn w2.nn, cmp_eq rfl]; rfl
end Go.Proofs.Qxb6600241a.Fl
