import Derived.Test.Qxb6001094aConclude
/-! Seat b6001094a: ZZSigmaConclude, sigConclude. -/
namespace Go.Proofs.Qxb6001094a
set_option linter.unusedVariables false
open Go.RowKit Go.Maps

/-- What the judge is built from, in memory. -/
structure Data (p : Prm) (RB : Nat → Nat) (w : World) (idb cb lb db sb : Nat) : Prop where
  small : p.n ≤ 131072
  ids : ∀ i, i < p.n → w.cell? ⟨idb, i, none⟩ = some (.int .i64 (p.f i))
  crash : ∀ i, i < p.n → w.cell? ⟨cb, i, none⟩ = some (.int .i64 (p.g i))
  last : ∀ i, i < p.n → w.cell? ⟨lb, i, none⟩ = some (rowV (p.nil i) (RB i) (p.L i))
  row : ∀ i, i < p.n → p.nil i = false → p.L i ≤ 131072 ∧ ∀ j, j < p.L i → w.cell? ⟨RB i, j, none⟩ = some (.int .i64 (p.R i j))
  lead : ∀ i, i < p.n → w.cell? ⟨db, i, none⟩ = some (.int .i64 (p.dl i))
  since : ∀ i, i < p.n → w.cell? ⟨sb, i, none⟩ = some (.int .i64 (p.sl i))
  wfF : ∀ i, (Lit.int .i64 (p.f i)).wf = true
  wfR : ∀ i j, (Lit.int .i64 (p.R i j)).wf = true
  wfD : ∀ i, (Lit.int .i64 (p.dl i)).wf = true
  sorted : ∀ i j, i < j → j < p.n → p.f i < p.f j

theorem Data.ext {p : Prm} {RB : Nat → Nat} {w w' : World} {idb cb lb db sb : Nat} (h : Data p RB w idb cb lb db sb) (hx : Ext w w') : Data p RB w' idb cb lb db sb :=
  ⟨h.small, fun i hi => hx.cell (h.ids i hi), fun i hi => hx.cell (h.crash i hi), fun i hi => hx.cell (h.last i hi),
   fun i hi hn => ⟨(h.row i hi hn).1, fun j hj => hx.cell ((h.row i hi hn).2 j hj)⟩, fun i hi => hx.cell (h.lead i hi), fun i hi => hx.cell (h.since i hi), h.wfF, h.wfR, h.wfD, h.sorted⟩

theorem Data.env {p : Prm} {RB : Nat → Nat} {w : World} {jb mb ib idb cb lb db sb : Nat} (h : Data p RB w idb cb lb db sb)
    (hj : Judge w jb (.slice (some ⟨idb, 0, none⟩) p.n p.n) mb p.e (.slice (some ⟨cb, 0, none⟩) p.n p.n) ib (.slice (some ⟨lb, 0, none⟩) p.n p.n) (.slice (some ⟨db, 0, none⟩) p.n p.n) (.slice (some ⟨sb, 0, none⟩) p.n p.n))
    (hh : w.cell? ⟨ib, 0, none⟩ = some (.bool true)) (hm : NumMap w mb p.n p.f) : Env p RB w jb mb ib idb cb lb db sb :=
  ⟨h.small, hj, hh, hm, h.ids, h.crash, h.last, h.row, h.lead, h.since, h.wfF, h.wfR, h.wfD, h.sorted⟩

theorem wrote5_os {w : World} {B : Nat} {a0 a1 a2 a3 a4 : Value} : (wrote5 w B a0 a1 a2 a3 a4).os = w.os := by simp only [wrote5, set_os]
theorem wrote5_tape {w : World} {B : Nat} {a0 a1 a2 a3 a4 : Value} : (wrote5 w B a0 a1 a2 a3 a4).tape = w.tape := by simp only [wrote5, set_tape]
theorem wrote5_output {w : World} {B : Nat} {a0 a1 a2 a3 a4 : Value} : (wrote5 w B a0 a1 a2 a3 a4).output = w.output := by simp only [wrote5, set_output]
theorem wrote3_os {w : World} {B : Nat} {a0 a1 a2 : Value} : (wrote3 w B a0 a1 a2).os = w.os := by simp only [wrote3, set_os]
theorem wrote3_tape {w : World} {B : Nat} {a0 a1 a2 : Value} : (wrote3 w B a0 a1 a2).tape = w.tape := by simp only [wrote3, set_tape]
theorem wrote3_output {w : World} {B : Nat} {a0 a1 a2 : Value} : (wrote3 w B a0 a1 a2).output = w.output := by simp only [wrote3, set_output]

/-- What the outer world knows of the results, whichever world holds them. -/
def ConcW (p : Prm) (RB : Nat → Nat) (w w' : World) (P : Nat → Nat) (LO : Value) (bl bf : Nat) : Prop :=
  Ext w w' ∧ w'.ownsRow w.heap.size 64 3 LO (p.outs p.n).length (outCells p RB P (p.outs p.n)) ∧ LO ≠ .slice none 0 0 ∧
    (∀ i ∈ p.outs p.n, p.nil i = false → w'.cell? ⟨P i, 0, none⟩ = some (.int .i64 (p.dl i))) ∧ w'.cell? ⟨bl, 0, none⟩ = some (.int .i64 (p.ldr p.n)) ∧ w'.cell? ⟨bf, 0, none⟩ = some (.int .i64 (p.frm p.n))

/-- The results handed on through two result cells of the caller's own. -/
theorem conc_shift {p : Prm} {RB : Nat → Nat} {w W1 w5 w' : World} {b1 b2 : Nat} {P : Nat → Nat} {LO : Value} {bl bf : Nat}
    (hx : Ext w W1) (hb1 : w.heap.size ≤ b1) (hb2 : w.heap.size ≤ b2)
    (k1 : Blk W1 b1 #[.string ⟨#[]⟩, .int .i64 0, .pointer none, .pointer none, .slice none 0 0] 58) (k2 : Blk W1 b2 #[.bool false, .bool false, .bool false] 60)
    (h : ConcW p RB W1 w5 P LO bl bf) (o1 : w'.os = w5.os) (o2 : w'.tape = w5.tape) (o3 : w'.output = w5.output) (o4 : w'.heap.size = w5.heap.size) (other : ∀ k, k ≠ b1 → k ≠ b2 → w'.heap[k]? = w5.heap[k]?) :
    ConcW p RB w w' P LO bl bf := by
  obtain ⟨h1, h2, h3, h4, h5, h6⟩ := h
  have l1 := k1.lt
  have l2 := k2.lt
  have k1' : w5.cell? ⟨b1, 0, none⟩ = some (.string ⟨#[]⟩) := (k1.ext h1).cell (i := 0) rfl
  have k2' : w5.cell? ⟨b2, 0, none⟩ = some (.bool false) := (k2.ext h1).cell (i := 0) rfl
  have cell : ∀ b x, w5.cell? ⟨b, 0, none⟩ = some (.int .i64 x) → w'.cell? ⟨b, 0, none⟩ = some (.int .i64 x) := by
    intro b x hc
    have e1 : b ≠ b1 := fun e => by subst e; rw [k1'] at hc; simp at hc
    have e2 : b ≠ b2 := fun e => by subst e; rw [k2'] at hc; simp at hc
    rw [World.cell?_of_block (w := w5) (other b e1 e2)]
    exact hc
  have hx5 := hx.trans h1
  refine ⟨⟨o1.trans hx5.os, o2.trans hx5.tape, o3.trans hx5.output, by rw [o4]; exact hx5.size, ?_⟩, ⟨h2.1, ?_⟩, h3, fun i hi hn => cell _ _ (h4 i hi hn), cell _ _ h5, cell _ _ h6⟩
  · intro k hk
    exact (other k (by omega) (by omega)).trans (hx5.block k hk)
  · rcases h2.2 with ⟨e, _⟩ | ⟨g, cap, cur, e, hb, hg, r⟩
    · exact absurd e h3
    · exact .inr ⟨g, cap, cur, e, Nat.le_trans hx.size hb, (other g (by omega) (by omega)).trans hg, r⟩

/-- .. where the two results are stored whole. -/
theorem conc_wrote {p : Prm} {RB : Nat → Nat} {w W1 w5 : World} {b1 b2 : Nat} {a0 a1 a2 a3 a4 c0 c1 c2 : Value} {P : Nat → Nat} {LO : Value} {bl bf : Nat}
    (hx : Ext w W1) (hb1 : w.heap.size ≤ b1) (hb2 : w.heap.size ≤ b2) (hne : b1 ≠ b2)
    (k1 : Blk W1 b1 #[.string ⟨#[]⟩, .int .i64 0, .pointer none, .pointer none, .slice none 0 0] 58) (k2 : Blk W1 b2 #[.bool false, .bool false, .bool false] 60)
    (h : ConcW p RB W1 w5 P LO bl bf) : ConcW p RB w (wrote3 (wrote5 w5 b1 a0 a1 a2 a3 a4) b2 c0 c1 c2) P LO bl bf ∧
      Blk (wrote3 (wrote5 w5 b1 a0 a1 a2 a3 a4) b2 c0 c1 c2) b1 #[a0, a1, a2, a3, a4] 58 ∧ Blk (wrote3 (wrote5 w5 b1 a0 a1 a2 a3 a4) b2 c0 c1 c2) b2 #[c0, c1, c2] 60 := by
  refine ⟨conc_shift hx hb1 hb2 k1 k2 h (by rw [wrote3_os, wrote5_os]) (by rw [wrote3_tape, wrote5_tape]) (by rw [wrote3_output, wrote5_output]) (by rw [wrote3_size, wrote5_size]) (fun k e1 e2 => (wrote3_other e2).trans (wrote5_other e1)), ?_, ?_⟩
  · exact (wrote5_blk (k1.ext h.1)).of_block (wrote3_other hne)
  · exact wrote3_blk ((k2.ext h.1).of_block (wrote5_other hne.symm))

set_option maxRecDepth 100000 in
set_option maxHeartbeats 400000 in
theorem zz43 (p : Prm) (RB : Nat → Nat) (mb idb cb lb db sb : Nat) (w : World) (hD : Data p RB w idb cb lb db sb) (hm : NumMap w mb p.n p.f) :
    Calls Try.prog 43 #[.slice (some ⟨idb, 0, none⟩) p.n p.n, .map (some mb), .int .i64 p.e, .slice (some ⟨cb, 0, none⟩) p.n p.n, .int .i64 0, .bool true, .slice (some ⟨lb, 0, none⟩) p.n p.n, .slice (some ⟨db, 0, none⟩) p.n p.n, .slice (some ⟨sb, 0, none⟩) p.n p.n] w (ConcP p RB w) := by
  have HD := hide hD
  have HM := hide hm
  clear hD hm
  go_enter Try.func43, Try.ntmps43
  go_wp2_with fail
  have X1 := (Ext.refl w).alloc (.cells #[.string { data := #[] }, .int .i64 0, .pointer none, .pointer none, .slice none 0 0] 58)
  have X2 := X1.alloc (.cells #[.bool false, .bool false, .bool false] 60)
  have X3 := X2.alloc (.cells #[.bool true, .map none, .int .i64 0, .slice none 0 0, .slice none 0 0, .slice none 0 0, .map none, .int .i64 0] 90)
  have HX := hide (X3.alloc (.cells #[.slice (some ⟨idb, 0, none⟩) p.n p.n, .map (some mb), .int .i64 p.e, .slice none 0 0, .slice (some ⟨cb, 0, none⟩) p.n p.n, .int .i64 0, .pointer (some ⟨w.heap.size + 1 + 1, 0, none⟩), .slice (some ⟨lb, 0, none⟩) p.n p.n, .slice (some ⟨db, 0, none⟩) p.n p.n, .slice (some ⟨sb, 0, none⟩) p.n p.n] 92))
  clear X1 X2 X3
  have HK1 := hide ((((Blk.new w rfl #[.string { data := #[] }, .int .i64 0, .pointer none, .pointer none, .slice none 0 0] 58).alloc (.cells #[.bool false, .bool false, .bool false] 60)).alloc (.cells #[.bool true, .map none, .int .i64 0, .slice none 0 0, .slice none 0 0, .slice none 0 0, .map none, .int .i64 0] 90)).alloc (.cells #[.slice (some ⟨idb, 0, none⟩) p.n p.n, .map (some mb), .int .i64 p.e, .slice none 0 0, .slice (some ⟨cb, 0, none⟩) p.n p.n, .int .i64 0, .pointer (some ⟨w.heap.size + 1 + 1, 0, none⟩), .slice (some ⟨lb, 0, none⟩) p.n p.n, .slice (some ⟨db, 0, none⟩) p.n p.n, .slice (some ⟨sb, 0, none⟩) p.n p.n] 92))
  have HK2 := hide (((Blk.new (w.alloc (.cells #[.string { data := #[] }, .int .i64 0, .pointer none, .pointer none, .slice none 0 0] 58)) (b := w.heap.size + 1) (by simp) #[.bool false, .bool false, .bool false] 60).alloc (.cells #[.bool true, .map none, .int .i64 0, .slice none 0 0, .slice none 0 0, .slice none 0 0, .map none, .int .i64 0] 90)).alloc (.cells #[.slice (some ⟨idb, 0, none⟩) p.n p.n, .map (some mb), .int .i64 p.e, .slice none 0 0, .slice (some ⟨cb, 0, none⟩) p.n p.n, .int .i64 0, .pointer (some ⟨w.heap.size + 1 + 1, 0, none⟩), .slice (some ⟨lb, 0, none⟩) p.n p.n, .slice (some ⟨db, 0, none⟩) p.n p.n, .slice (some ⟨sb, 0, none⟩) p.n p.n] 92))
  have HK3 := hide ((Blk.new ((w.alloc (.cells #[.string { data := #[] }, .int .i64 0, .pointer none, .pointer none, .slice none 0 0] 58)).alloc (.cells #[.bool false, .bool false, .bool false] 60)) (b := w.heap.size + 1 + 1) (by simp) #[.bool true, .map none, .int .i64 0, .slice none 0 0, .slice none 0 0, .slice none 0 0, .map none, .int .i64 0] 90).alloc (.cells #[.slice (some ⟨idb, 0, none⟩) p.n p.n, .map (some mb), .int .i64 p.e, .slice none 0 0, .slice (some ⟨cb, 0, none⟩) p.n p.n, .int .i64 0, .pointer (some ⟨w.heap.size + 1 + 1, 0, none⟩), .slice (some ⟨lb, 0, none⟩) p.n p.n, .slice (some ⟨db, 0, none⟩) p.n p.n, .slice (some ⟨sb, 0, none⟩) p.n p.n] 92))
  have HK4 := hide (Blk.new (((w.alloc (.cells #[.string { data := #[] }, .int .i64 0, .pointer none, .pointer none, .slice none 0 0] 58)).alloc (.cells #[.bool false, .bool false, .bool false] 60)).alloc (.cells #[.bool true, .map none, .int .i64 0, .slice none 0 0, .slice none 0 0, .slice none 0 0, .map none, .int .i64 0] 90)) (b := w.heap.size + 1 + 1 + 1) (by simp) #[.slice (some ⟨idb, 0, none⟩) p.n p.n, .map (some mb), .int .i64 p.e, .slice none 0 0, .slice (some ⟨cb, 0, none⟩) p.n p.n, .int .i64 0, .pointer (some ⟨w.heap.size + 1 + 1, 0, none⟩), .slice (some ⟨lb, 0, none⟩) p.n p.n, .slice (some ⟨db, 0, none⟩) p.n p.n, .slice (some ⟨sb, 0, none⟩) p.n p.n] 92)
  generalize ((((w.alloc (.cells #[.string { data := #[] }, .int .i64 0, .pointer none, .pointer none, .slice none 0 0] 58)).alloc (.cells #[.bool false, .bool false, .bool false] 60)).alloc (.cells #[.bool true, .map none, .int .i64 0, .slice none 0 0, .slice none 0 0, .slice none 0 0, .map none, .int .i64 0] 90)).alloc (.cells #[.slice (some ⟨idb, 0, none⟩) p.n p.n, .map (some mb), .int .i64 p.e, .slice none 0 0, .slice (some ⟨cb, 0, none⟩) p.n p.n, .int .i64 0, .pointer (some ⟨w.heap.size + 1 + 1, 0, none⟩), .slice (some ⟨lb, 0, none⟩) p.n p.n, .slice (some ⟨db, 0, none⟩) p.n p.n, .slice (some ⟨sb, 0, none⟩) p.n p.n] 92)) = W1 at HX HK1 HK2 HK3 HK4 ⊢
  refine (conc48 p RB (w.heap.size + 1 + 1 + 1) mb (w.heap.size + 1 + 1) idb cb lb db sb W1 ((HD.out.ext HX.out).env ⟨_, HK4.out⟩ (HK3.out.cell (i := 0) rfl) (HM.out.ext HX.out))).mono ?_
  rintro e w5 ⟨P, LO, bl, bf, rfl, hC⟩
  obtain ⟨gb, cp, hLO⟩ := own_shape' hC.2.1 hC.2.2.1
  subst hLO
  generalize hq1 : (if (p.nmd p.n && p.agr p.n) = true then some (⟨bl, 0, none⟩ : Addr) else none) = q1
  generalize hq2 : (if (p.nmd p.n && p.agr p.n) = true then some (⟨bf, 0, none⟩ : Addr) else none) = q2
  generalize hq3 : (p.nmd p.n && p.agr p.n && p.cor (p.ldr p.n)) = q3
  have HQ := hide (And.intro hq1 (And.intro hq2 hq3))
  clear hq1 hq2 hq3
  have HC := hide (show ConcW p RB W1 w5 P _ bl bf from hC)
  have k1 := HK1.out.ext hC.1
  have k2 := HK2.out.ext hC.1
  have r10 : w5.cell? ⟨w.heap.size, 0, none⟩ = some (.string ⟨#[]⟩) := k1.cell (i := 0) rfl
  have g10 : w5.frozen? ⟨w.heap.size, 0, none⟩ = false := k1.frozen 0
  have r11 : w5.cell? ⟨w.heap.size, 1, none⟩ = some (.int .i64 0) := k1.cell (i := 1) rfl
  have g11 : w5.frozen? ⟨w.heap.size, 1, none⟩ = false := k1.frozen 1
  have r12 : w5.cell? ⟨w.heap.size, 2, none⟩ = some (.pointer none) := k1.cell (i := 2) rfl
  have g12 : w5.frozen? ⟨w.heap.size, 2, none⟩ = false := k1.frozen 2
  have r13 : w5.cell? ⟨w.heap.size, 3, none⟩ = some (.pointer none) := k1.cell (i := 3) rfl
  have g13 : w5.frozen? ⟨w.heap.size, 3, none⟩ = false := k1.frozen 3
  have r14 : w5.cell? ⟨w.heap.size, 4, none⟩ = some (.slice none 0 0) := k1.cell (i := 4) rfl
  have g14 : w5.frozen? ⟨w.heap.size, 4, none⟩ = false := k1.frozen 4
  have r20 : w5.cell? ⟨w.heap.size + 1, 0, none⟩ = some (.bool false) := k2.cell (i := 0) rfl
  have g20 : w5.frozen? ⟨w.heap.size + 1, 0, none⟩ = false := k2.frozen 0
  have r21 : w5.cell? ⟨w.heap.size + 1, 1, none⟩ = some (.bool false) := k2.cell (i := 1) rfl
  have g21 : w5.frozen? ⟨w.heap.size + 1, 1, none⟩ = false := k2.frozen 1
  have r22 : w5.cell? ⟨w.heap.size + 1, 2, none⟩ = some (.bool false) := k2.cell (i := 2) rfl
  have g22 : w5.frozen? ⟨w.heap.size + 1, 2, none⟩ = false := k2.frozen 2
  clear hC k1 k2
  go_wp2
  obtain ⟨t1, t2, t3⟩ := conc_wrote (a0 := .string ⟨#[]⟩) (a1 := .int .i64 0) (a2 := .pointer q1) (a3 := .pointer q2) (a4 := .slice (some ⟨gb, 0, none⟩) (p.outs p.n).length cp)
    (c0 := .bool true) (c1 := .bool (p.cmpl p.cor p.n)) (c2 := .bool q3) HX.out (Nat.le_refl _) (by omega) (by omega) HK1.out HK2.out HC.out
  change bodyPost _ _ _ _ _ (wrote3 (wrote5 w5 w.heap.size (.string ⟨#[]⟩) (.int .i64 0) (.pointer q1) (.pointer q2) (.slice (some ⟨gb, 0, none⟩) (p.outs p.n).length cp)) (w.heap.size + 1) (.bool true) (.bool (p.cmpl p.cor p.n)) (.bool q3))
  refine bodyPost_ret (v := .tuple #[.agg #[.string ⟨#[]⟩, .int .i64 0, .pointer q1, .pointer q2, .slice (some ⟨gb, 0, none⟩) (p.outs p.n).length cp], .agg #[.bool true, .bool (p.cmpl p.cor p.n), .bool q3]]) ?_ rfl ?_
  · exact res5860 Try.results43 rfl rfl t2 t3
  · exact ⟨P, _, bl, bf, by rw [HQ.out.1, HQ.out.2.1, HQ.out.2.2], t1⟩

set_option maxRecDepth 100000 in
set_option maxHeartbeats 400000 in
theorem conc33 (p : Prm) (RB : Nat → Nat) (idb cb lb db sb : Nat) (w : World) (hD : Data p RB w idb cb lb db sb) :
    Calls Try.prog 33 #[.slice (some ⟨idb, 0, none⟩) p.n p.n, .slice (some ⟨cb, 0, none⟩) p.n p.n, .int .i64 p.e, .slice (some ⟨lb, 0, none⟩) p.n p.n, .slice (some ⟨db, 0, none⟩) p.n p.n, .slice (some ⟨sb, 0, none⟩) p.n p.n] w (ConcP p RB w) := by
  have HD := hide hD
  have hsm := hD.small
  clear hD
  go_enter Try.func33, Try.ntmps33
  go_wp2_with fail
  have X1 := (Ext.refl w).alloc (.cells #[.string { data := #[] }, .int .i64 0, .pointer none, .pointer none, .slice none 0 0] 58)
  have HX := hide (X1.alloc (.cells #[.bool false, .bool false, .bool false] 60))
  clear X1
  have HK1 := hide ((Blk.new w rfl #[.string { data := #[] }, .int .i64 0, .pointer none, .pointer none, .slice none 0 0] 58).alloc (.cells #[.bool false, .bool false, .bool false] 60))
  have HK2 := hide (Blk.new (w.alloc (.cells #[.string { data := #[] }, .int .i64 0, .pointer none, .pointer none, .slice none 0 0] 58)) (b := w.heap.size + 1) (by simp) #[.bool false, .bool false, .bool false] 60)
  generalize (w.alloc (.cells #[.string { data := #[] }, .int .i64 0, .pointer none, .pointer none, .slice none 0 0] 58)).alloc (.cells #[.bool false, .bool false, .bool false] 60) = W1 at HX HK1 HK2 ⊢
  refine (numbers44 idb 0 p.n p.n p.f W1 hsm (fun i hi => by simpa using HX.out.cell (HD.out.ids i hi)) HD.out.wfF).mono ?_
  rintro e w2 ⟨rfl, hx2, hnm⟩
  have HN := hide hnm
  have HX2 := hide (HX.out.trans hx2)
  have HL1 := hide (HK1.out.ext hx2)
  have HL2 := hide (HK2.out.ext hx2)
  clear hnm hx2 HK1 HK2 HX
  go_wp2_with fail
  refine (zz43 p RB W1.heap.size idb cb lb db sb w2 (HD.out.ext HX2.out) HN.out).mono ?_
  rintro e w5 ⟨P, LO, bl, bf, rfl, hC⟩
  obtain ⟨gb, cp, hLO⟩ := own_shape' hC.2.1 hC.2.2.1
  subst hLO
  generalize hq1 : (if (p.nmd p.n && p.agr p.n) = true then some (⟨bl, 0, none⟩ : Addr) else none) = q1
  generalize hq2 : (if (p.nmd p.n && p.agr p.n) = true then some (⟨bf, 0, none⟩ : Addr) else none) = q2
  generalize hq3 : (p.nmd p.n && p.agr p.n && p.cor (p.ldr p.n)) = q3
  have HQ := hide (And.intro hq1 (And.intro hq2 hq3))
  clear hq1 hq2 hq3
  have HC := hide (show ConcW p RB w2 w5 P _ bl bf from hC)
  have k1 := HL1.out.ext hC.1
  have k2 := HL2.out.ext hC.1
  have r10 : w5.cell? ⟨w.heap.size, 0, none⟩ = some (.string ⟨#[]⟩) := k1.cell (i := 0) rfl
  have g10 : w5.frozen? ⟨w.heap.size, 0, none⟩ = false := k1.frozen 0
  have r11 : w5.cell? ⟨w.heap.size, 1, none⟩ = some (.int .i64 0) := k1.cell (i := 1) rfl
  have g11 : w5.frozen? ⟨w.heap.size, 1, none⟩ = false := k1.frozen 1
  have r12 : w5.cell? ⟨w.heap.size, 2, none⟩ = some (.pointer none) := k1.cell (i := 2) rfl
  have g12 : w5.frozen? ⟨w.heap.size, 2, none⟩ = false := k1.frozen 2
  have r13 : w5.cell? ⟨w.heap.size, 3, none⟩ = some (.pointer none) := k1.cell (i := 3) rfl
  have g13 : w5.frozen? ⟨w.heap.size, 3, none⟩ = false := k1.frozen 3
  have r14 : w5.cell? ⟨w.heap.size, 4, none⟩ = some (.slice none 0 0) := k1.cell (i := 4) rfl
  have g14 : w5.frozen? ⟨w.heap.size, 4, none⟩ = false := k1.frozen 4
  have r20 : w5.cell? ⟨w.heap.size + 1, 0, none⟩ = some (.bool false) := k2.cell (i := 0) rfl
  have g20 : w5.frozen? ⟨w.heap.size + 1, 0, none⟩ = false := k2.frozen 0
  have r21 : w5.cell? ⟨w.heap.size + 1, 1, none⟩ = some (.bool false) := k2.cell (i := 1) rfl
  have g21 : w5.frozen? ⟨w.heap.size + 1, 1, none⟩ = false := k2.frozen 1
  have r22 : w5.cell? ⟨w.heap.size + 1, 2, none⟩ = some (.bool false) := k2.cell (i := 2) rfl
  have g22 : w5.frozen? ⟨w.heap.size + 1, 2, none⟩ = false := k2.frozen 2
  clear hC k1 k2
  go_wp2
  obtain ⟨t1, t2, t3⟩ := conc_wrote (a0 := .string ⟨#[]⟩) (a1 := .int .i64 0) (a2 := .pointer q1) (a3 := .pointer q2) (a4 := .slice (some ⟨gb, 0, none⟩) (p.outs p.n).length cp)
    (c0 := .bool true) (c1 := .bool (p.cmpl p.cor p.n)) (c2 := .bool q3) HX2.out (Nat.le_refl _) (by omega) (by omega) HL1.out HL2.out HC.out
  change bodyPost _ _ _ _ _ (wrote3 (wrote5 w5 w.heap.size (.string ⟨#[]⟩) (.int .i64 0) (.pointer q1) (.pointer q2) (.slice (some ⟨gb, 0, none⟩) (p.outs p.n).length cp)) (w.heap.size + 1) (.bool true) (.bool (p.cmpl p.cor p.n)) (.bool q3))
  refine bodyPost_ret (v := .tuple #[.agg #[.string ⟨#[]⟩, .int .i64 0, .pointer q1, .pointer q2, .slice (some ⟨gb, 0, none⟩) (p.outs p.n).length cp], .agg #[.bool true, .bool (p.cmpl p.cor p.n), .bool q3]]) ?_ rfl ?_
  · exact res5860 Try.results33 rfl rfl t2 t3
  · exact ⟨P, _, bl, bf, by rw [HQ.out.1, HQ.out.2.1, HQ.out.2.2], t1⟩
end Go.Proofs.Qxb6001094a
