import Derived.Test.Qxb6001094aState
/-! Seat b6001094a: '(*sigmaJudge).conclude', walked. -/
namespace Go.Proofs.Qxb6001094a
set_option linter.unusedVariables false
open Go.RowKit Go.Maps

theorem hide {p : Prop} (h : p) : Hid p := h

/-- A walk halts here. -/
def Stop (p : Prop) : Prop := p
theorem stop {p : Prop} (h : Stop p) : p := h
theorem Stop.go {p : Prop} (h : p) : Stop p := h

/-- The three cells of a new block. -/
theorem three_new (w : World) (a b c : Value) (t : TypeId) {m : Nat} (hm : m = w.heap.size) : ∀ j u, [a, b, c][j]? = some u → (w.alloc (.cells #[a, b, c] t)).cell? ((⟨m, 0, none⟩ : Addr).add j) = some u := by
  subst hm
  intro j u hj
  rw [Addr.add_lit, World.cell?_alloc_at _ _ _ _ rfl]
  match j, hj with
  | 0, hj => simpa using hj
  | 1, hj => simpa using hj
  | 2, hj => simpa using hj

theorem own_shape {w : World} {base n : Nat} {e : TypeId} {size : Nat} {v : Value} {xs : List Value} (h : w.ownsRow base e size v (n + 1) xs) : ∃ g cp, v = .slice (some ⟨g, 0, none⟩) (n + 1) cp := by
  rcases h.2 with ⟨_, h1⟩ | ⟨g, cap, cur, h1, _⟩
  · omega
  · exact ⟨g, cap, h1⟩

theorem own_shape' {w : World} {base n : Nat} {e : TypeId} {size : Nat} {v : Value} {xs : List Value} (h : w.ownsRow base e size v n xs) (hn : v ≠ .slice none 0 0) : ∃ g cp, v = .slice (some ⟨g, 0, none⟩) n cp := by
  rcases h.2 with ⟨h1, _⟩ | ⟨g, cap, cur, h1, _⟩
  · exact absurd h1 hn
  · exact ⟨g, cap, h1⟩

theorem info64 : (Try.prog.info? 64).map (fun i => (i.zero, i.size, i.bytes)) = some (some (.agg #[.int .i64 0, .slice none 0 0, .pointer none]), 3, 40) := by kernel_rfl

/-- What the judge is handed, in memory: identities, crash times, last outputs, leaders, times, each in a block of its own; the map of numbers; the judge itself. -/
structure Env (p : Prm) (RB : Nat → Nat) (w : World) (jb mb ib idb cb lb db sb : Nat) : Prop where
  small : p.n ≤ 131072
  judge : Judge w jb (.slice (some ⟨idb, 0, none⟩) p.n p.n) mb p.e (.slice (some ⟨cb, 0, none⟩) p.n p.n) ib (.slice (some ⟨lb, 0, none⟩) p.n p.n) (.slice (some ⟨db, 0, none⟩) p.n p.n) (.slice (some ⟨sb, 0, none⟩) p.n p.n)
  holds : w.cell? ⟨ib, 0, none⟩ = some (.bool true)
  nums : NumMap w mb p.n p.f
  ids : ∀ i, i < p.n → w.cell? ⟨idb, i, none⟩ = some (.int .i64 (p.f i))
  crash : ∀ i, i < p.n → w.cell? ⟨cb, i, none⟩ = some (.int .i64 (p.g i))
  last : ∀ i, i < p.n → w.cell? ⟨lb, i, none⟩ = some (rowV (p.nil i) (RB i) (p.L i))
  row : ∀ i, i < p.n → p.nil i = false → p.L i ≤ 131072 ∧ ∀ j, j < p.L i → w.cell? ⟨RB i, j, none⟩ = some (.int .i64 (p.R i j))
  lead : ∀ i, i < p.n → w.cell? ⟨db, i, none⟩ = some (.int .i64 (p.dl i))
  since : ∀ i, i < p.n → w.cell? ⟨sb, i, none⟩ = some (.int .i64 (p.sl i))
  wfF : ∀ i, (Lit.int .i64 (p.f i)).wf = true
  wfR : ∀ i j, (Lit.int .i64 (p.R i j)).wf = true
  wfD : ∀ i, (Lit.int .i64 (p.dl i)).wf = true
  sorted : ∀ i j, i < j → j < p.n → p.f i < p.f j

theorem Env.ext {p : Prm} {RB : Nat → Nat} {w w' : World} {jb mb ib idb cb lb db sb : Nat} (h : Env p RB w jb mb ib idb cb lb db sb) (hx : Ext w w') : Env p RB w' jb mb ib idb cb lb db sb :=
  ⟨h.small, h.judge.ext hx, hx.cell h.holds, h.nums.ext hx, fun i hi => hx.cell (h.ids i hi), fun i hi => hx.cell (h.crash i hi), fun i hi => hx.cell (h.last i hi),
   fun i hi hn => ⟨(h.row i hi hn).1, fun j hj => hx.cell ((h.row i hi hn).2 j hj)⟩, fun i hi => hx.cell (h.lead i hi), fun i hi => hx.cell (h.since i hi), h.wfF, h.wfR, h.wfD, h.sorted⟩

/-- 'correct' under such an Env. -/
theorem Env.correct {p : Prm} {RB : Nat → Nat} {w : World} {jb mb ib idb cb lb db sb : Nat} (h : Env p RB w jb mb ib idb cb lb db sb) (id : Int) (hw : (Lit.int .i64 id).wf = true) :
    Calls Try.prog 49 #[.pointer (some ⟨jb, 0, none⟩), .int .i64 id] w (CorP w (corK p.n p.f p.g p.e id)) :=
  correct49 jb mb ib p.n cb _ _ _ _ _ _ _ _ p.e id p.f p.g w hw h.small h.judge h.nums (fun _ => rfl) h.crash

/-- The judge's own notion of 'never crashes'. -/
def Prm.cor (p : Prm) (id : Int) : Bool := corK p.n p.f p.g p.e id

/-- What 'conclude' hands back. -/
def ConcP (p : Prm) (RB : Nat → Nat) (w : World) (e : Ending) (w' : World) : Prop :=
  ∃ (P : Nat → Nat) (LO : Value) (bl bf : Nat),
    e = .returned (.tuple #[.agg #[.string ⟨#[]⟩, .int .i64 0, .pointer (if p.nmd p.n && p.agr p.n then some ⟨bl, 0, none⟩ else none), .pointer (if p.nmd p.n && p.agr p.n then some ⟨bf, 0, none⟩ else none), LO],
      .agg #[.bool true, .bool (p.cmpl p.cor p.n), .bool (p.nmd p.n && p.agr p.n && p.cor (p.ldr p.n))]]) ∧
    Ext w w' ∧ w'.ownsRow w.heap.size 64 3 LO (p.outs p.n).length (outCells p RB P (p.outs p.n)) ∧ LO ≠ .slice none 0 0 ∧
    (∀ i ∈ p.outs p.n, p.nil i = false → w'.cell? ⟨P i, 0, none⟩ = some (.int .i64 (p.dl i))) ∧ w'.cell? ⟨bl, 0, none⟩ = some (.int .i64 (p.ldr p.n)) ∧ w'.cell? ⟨bf, 0, none⟩ = some (.int .i64 (p.frm p.n))

theorem Blk.new (w : World) {b : Nat} (hb : b = w.heap.size) (cs : Array Value) (t : TypeId) : Blk (w.alloc (.cells cs t)) b cs t := by
  subst hb
  exact heap_alloc_new w _
theorem Blk.alloc {w : World} {b : Nat} {cs : Array Value} {t : TypeId} (h : Blk w b cs t) (o : Obj) : Blk (w.alloc o) b cs t := h.ext ((Ext.refl w).alloc o)

theorem wf_ldr {p : Prm} (h : ∀ i, (Lit.int .i64 (p.dl i)).wf = true) (k : Nat) : (Lit.int .i64 (p.ldr k)).wf = true := by
  induction k with
  | zero => rfl
  | succ k ih => unfold Prm.ldr; split <;> first | exact h k | exact ih

theorem res5860 {fn : Func} {p u : Tmp} (h : fn.results = #[.cell p 58, .cell u 60]) {tmps : Array Value} {w : World} {b1 b2 : Nat} {a0 a1 a2 a3 a4 c0 c1 c2 : Value}
    (h1 : tmps.getD p undef = .pointer (some ⟨b1, 0, none⟩)) (h2 : tmps.getD u undef = .pointer (some ⟨b2, 0, none⟩))
    (k1 : Blk w b1 #[a0, a1, a2, a3, a4] 58) (k2 : Blk w b2 #[c0, c1, c2] 60) :
    (results fn tmps).run Try.prog w = .ok (.tuple #[.agg #[a0, a1, a2, a3, a4], .agg #[c0, c1, c2]]) w := by
  have e0 : w.cell? ⟨b1, 0, none⟩ = some a0 := k1.cell (i := 0) rfl
  have e1 : w.cell? ⟨b1, 1, none⟩ = some a1 := k1.cell (i := 1) rfl
  have e2 : w.cell? ⟨b1, 2, none⟩ = some a2 := k1.cell (i := 2) rfl
  have e3 : w.cell? ⟨b1, 3, none⟩ = some a3 := k1.cell (i := 3) rfl
  have e4 : w.cell? ⟨b1, 4, none⟩ = some a4 := k1.cell (i := 4) rfl
  have d0 : w.cell? ⟨b2, 0, none⟩ = some c0 := k2.cell (i := 0) rfl
  have d1 : w.cell? ⟨b2, 1, none⟩ = some c1 := k2.cell (i := 1) rfl
  have d2 : w.cell? ⟨b2, 2, none⟩ = some c2 := k2.cell (i := 2) rfl
  have h1' : tmps[p]?.getD undef = .pointer (some ⟨b1, 0, none⟩) := by simpa using h1
  have h2' : tmps[u]?.getD undef = .pointer (some ⟨b2, 0, none⟩) := by simpa using h2
  simp only [results, h]
  simp [h1', h2', go_sem, e0, e1, e2, e3, e4, d0, d1, d2, Sem.run_bind, Result.andThen]

/-- The end: the result cells alone have been written. -/
theorem conc_end {p : Prm} {RB : Nat → Nat} {W wr w' : World} {bo bv bl bf : Nat} {cm : Bool} {ld fr : Int} {os : List Nat} {P : Nat → Nat} {LO : Value} (h : CS p RB W wr bo bv bl bf cm ld fr os P LO)
    (h1 : w'.os = wr.os) (h2 : w'.tape = wr.tape) (h3 : w'.output = wr.output) (h4 : wr.heap.size ≤ w'.heap.size) (h5 : ∀ k, k < wr.heap.size → k ≠ W.heap.size → k ≠ W.heap.size + 1 → k ≠ bo → k ≠ bv → w'.heap[k]? = wr.heap[k]?) :
    Ext W w' ∧ w'.ownsRow W.heap.size 64 3 LO os.length (outCells p RB P os) ∧ LO ≠ .slice none 0 0 ∧ (∀ i ∈ os, p.nil i = false → w'.cell? ⟨P i, 0, none⟩ = some (.int .i64 (p.dl i))) ∧
    w'.cell? ⟨bl, 0, none⟩ = some (.int .i64 ld) ∧ w'.cell? ⟨bf, 0, none⟩ = some (.int .i64 fr) := by
  have keep : ∀ {b : Nat} {cs : Array Value} {t : TypeId}, Blk wr b cs t → t ≠ 58 → t ≠ 60 → Blk w' b cs t := fun hb t1 t2 =>
    hb.of_block (h5 _ hb.lt (hb.ne h.res1 t1) (hb.ne h.res2 t2) (hb.ne h.out t1) (hb.ne h.ver t2))
  have hB : Ext W w' := ⟨h1.trans h.ext.os, h2.trans h.ext.tape, h3.trans h.ext.output, Nat.le_trans h.ext.size h4, fun k hk => (h5 k (Nat.lt_of_lt_of_le hk h.ext.size) (by omega) (by omega) (by have := h.new; omega) (by have := h.new; omega)).trans (h.ext.block k hk)⟩
  refine ⟨hB, ⟨h.own.1, ?_⟩, h.non, fun i hi hn => (keep (h.ptr i hi hn).1 (by decide) (by decide)).cell (i := 0) rfl, (keep h.lea (by decide) (by decide)).cell (i := 0) rfl, (keep h.fro (by decide) (by decide)).cell (i := 0) rfl⟩
  rcases h.own.2 with ⟨h1, _⟩ | ⟨g, cap, cur, h1, hb, hg, r⟩
  · exact absurd h1 h.non
  · exact .inr ⟨g, cap, cur, h1, hb, keep hg (by decide) (by decide), r⟩

theorem cs_start (p : Prm) (RB : Nat → Nat) (w : World) : CS p RB w
    (((((((w.alloc (.cells #[.string { data := #[] }, .int .i64 0, .pointer none, .pointer none, .slice none 0 0] 58)).alloc (.cells #[.bool false, .bool false, .bool false] 60)).alloc (.cells #[] 64)).alloc
      (.cells #[.string { data := #[] }, .int .i64 0, .pointer none, .pointer none, .slice (some ⟨w.heap.size + 1 + 1, 0, none⟩) 0 0] 58)).alloc (.cells #[.bool true, .bool true, .bool false] 60)).alloc (.cells #[.int .i64 0] 3)).alloc (.cells #[.int .i64 0] 3))
    (w.heap.size + 1 + 1 + 1) (w.heap.size + 1 + 1 + 1 + 1) (w.heap.size + 1 + 1 + 1 + 1 + 1) (w.heap.size + 1 + 1 + 1 + 1 + 1 + 1) true 0 0 [] (fun _ => 0) (.slice (some ⟨w.heap.size + 1 + 1, 0, none⟩) 0 0) := by
  refine ⟨?_, ?_, ?_, ?_, ?_, ?_, by simp, by simp, by omega, ?_, ?_, by omega⟩
  · exact (((((((Ext.refl w).alloc _).alloc _).alloc _).alloc _).alloc _).alloc _).alloc _
  · exact (((Blk.new _ (by simp) _ _).alloc _).alloc _).alloc _
  · exact ((Blk.new _ (by simp) _ _).alloc _).alloc _
  · exact (Blk.new _ (by simp) _ _).alloc _
  · exact Blk.new _ (by simp) _ _
  · refine ⟨by simp [outCells], .inr ⟨w.heap.size + 1 + 1, 0, #[], rfl, by omega, ?_, Nat.le_refl _, Nat.zero_le _, by simp, by simp [outCells]⟩⟩
    exact ((((Blk.new _ (by simp) _ _).alloc _).alloc _).alloc _).alloc _
  · exact ((((((Blk.new _ (by simp) _ _).alloc _).alloc _).alloc _).alloc _).alloc _).alloc _
  · exact (((((Blk.new _ (by simp) _ _).alloc _).alloc _).alloc _).alloc _).alloc _

set_option maxRecDepth 100000 in
set_option maxHeartbeats 1000000 in
theorem conc48 (p : Prm) (RB : Nat → Nat) (jb mb ib idb cb lb db sb : Nat) (w : World) (hE : Env p RB w jb mb ib idb cb lb db sb) :
    Calls Try.prog 48 #[.pointer (some ⟨jb, 0, none⟩)] w (ConcP p RB w) := by
  have HE : Hid (Env p RB w jb mb ib idb cb lb db sb) := hE
  obtain ⟨j0, j1, j2, j3, j4, j5, j6, j7, j8, j9⟩ := hE.judge.cells
  have hi := hE.holds
  have hn := hE.small
  clear hE
  have hjl : jb < w.heap.size := World.block_lt_of_cell? w _ j0
  have hil : ib < w.heap.size := World.block_lt_of_cell? w _ hi
  have hjl1 : jb < w.heap.size + 1 := by omega
  have hjl2 : jb < w.heap.size + 1 + 1 := by omega
  have hjl3 : jb < w.heap.size + 1 + 1 + 1 := by omega
  have hjl4 : jb < w.heap.size + 1 + 1 + 1 + 1 := by omega
  have hjl5 : jb < w.heap.size + 1 + 1 + 1 + 1 + 1 := by omega
  have hjl6 : jb < w.heap.size + 1 + 1 + 1 + 1 + 1 + 1 := by omega
  have hjl7 : jb < w.heap.size + 1 + 1 + 1 + 1 + 1 + 1 + 1 := by omega
  have hil1 : ib < w.heap.size + 1 := by omega
  have hil2 : ib < w.heap.size + 1 + 1 := by omega
  have hil3 : ib < w.heap.size + 1 + 1 + 1 := by omega
  have hil4 : ib < w.heap.size + 1 + 1 + 1 + 1 := by omega
  have hil5 : ib < w.heap.size + 1 + 1 + 1 + 1 + 1 := by omega
  have hil6 : ib < w.heap.size + 1 + 1 + 1 + 1 + 1 + 1 := by omega
  have hil7 : ib < w.heap.size + 1 + 1 + 1 + 1 + 1 + 1 + 1 := by omega
  go_enter Try.func48, Try.ntmps48
  go_wp2
  clear hjl1 hil1 hjl2 hil2 hjl3 hil3 hjl4 hil4 hjl5 hil5 hjl6 hil6 hjl7 hil7
  clear j0 j1 j2 j3 j4 j5 j6 j7 j8 j9 hi
  go_loopg [8, 9, 36] p.n (fun gh nm ag i wr => ∃ (k : Nat) (P : Nat → Nat) (LO : Value), k + gh = p.n ∧ nm = .bool (p.nmd k) ∧ ag = .bool (p.agr k) ∧ i = .int .i64 (k : Int) ∧
    CS p RB w wr (w.heap.size + 1 + 1 + 1) (w.heap.size + 1 + 1 + 1 + 1) (w.heap.size + 1 + 1 + 1 + 1 + 1) (w.heap.size + 1 + 1 + 1 + 1 + 1 + 1) (p.cmpl p.cor k) (p.ldr k) (p.frm k) (p.outs k) P LO)
  case atStart => exact ⟨0, _, _, by omega, rfl, rfl, rfl, cs_start p RB w⟩
  case round =>
    obtain ⟨k, P, LO, hk, rfl, rfl, rfl, hcs⟩ := hrel
    have HC := hide hcs
    clear hcs
    have HW := hide (HE.out.ext HC.out.ext)
    by_cases hlt : k < p.n
    · have hid := HW.out.ids k hlt
      go_wp2_with fail
      refine (HW.out.correct (p.f k) (HE.out.wfF k)).mono ?_
      rintro e1 w1 ⟨rfl, hx⟩
      have hck : corK p.n p.f p.g p.e (p.f k) = p.c k := corK_at hlt HE.out.sorted
      rw [hck]
      clear hck hid
      have HC1 := hide (HC.out.later hx)
      have HW1 := hide (HW.out.ext hx)
      clear HC HW hx
      cases hc : p.c k with
      | false =>
        go_wp2
        go_roundg (gk - 1)
        case measure => omega
        case rel =>
          refine ⟨k + 1, P, LO, by omega, by simp [Prm.nmd, hc], by simp [Prm.agr, hc], by go_num, ?_⟩
          have := HC1.out
          simpa [Prm.cmpl, Prm.ldr, Prm.frm, Prm.outs_succ, hc] using this
      | true =>
        have b1 := HC1.out.out.lt
        have b2 := HC1.out.ver.lt
        have b3 := HC1.out.lea.lt
        have b4 := HC1.out.fro.lt
        obtain ⟨j0, j1, j2, j3, j4, j5, j6, j7, j8, j9⟩ := HW1.out.judge.cells
        have b5 := World.block_lt_of_cell? w1 _ j0
        have hla := HW1.out.last k hlt
        have b6 := World.block_lt_of_cell? w1 _ hla
        simp only at b5 b6
        have cLO : w1.cell? ⟨w.heap.size + 1 + 1 + 1, 4, none⟩ = some LO := HC1.out.out.cell (i := 4) rfl
        have fLO := HC1.out.out.frozen 4
        have cV : w1.cell? ⟨w.heap.size + 1 + 1 + 1 + 1, 1, none⟩ = some (.bool (p.cmpl p.cor k)) := HC1.out.ver.cell (i := 1) rfl
        have fV := HC1.out.ver.frozen 1
        have qj0 : jb < w1.heap.size := by omega
        have qj1 : jb < w1.heap.size + 1 := by omega
        have qj2 : jb < w1.heap.size + 1 + 1 := by omega
        have qj3 : jb < w1.heap.size + 1 + 1 + 1 := by omega
        have ql0 : lb < w1.heap.size := by omega
        have ql1 : lb < w1.heap.size + 1 := by omega
        have ql2 : lb < w1.heap.size + 1 + 1 := by omega
        have ql3 : lb < w1.heap.size + 1 + 1 + 1 := by omega
        have qo0 : w.heap.size + 1 + 1 + 1 < w1.heap.size := by omega
        have qo1 : w.heap.size + 1 + 1 + 1 < w1.heap.size + 1 := by omega
        have qo2 : w.heap.size + 1 + 1 + 1 < w1.heap.size + 1 + 1 := by omega
        have qo3 : w.heap.size + 1 + 1 + 1 < w1.heap.size + 1 + 1 + 1 := by omega
        have qv0 : w.heap.size + 1 + 1 + 1 + 1 < w1.heap.size := by omega
        have qv1 : w.heap.size + 1 + 1 + 1 + 1 < w1.heap.size + 1 := by omega
        have qv2 : w.heap.size + 1 + 1 + 1 + 1 < w1.heap.size + 1 + 1 := by omega
        have qv3 : w.heap.size + 1 + 1 + 1 + 1 < w1.heap.size + 1 + 1 + 1 := by omega
        have hol := p.outs_le k
        have h1 := @Lib.run_eql_slice_nil Try.prog
        obtain ⟨i0, hi, hz0, hz1, hz2⟩ := info_parts info64
        cases hnil : p.nil k with
        | true =>
          rw [hnil] at hla
          have hla' : w1.cell? ⟨lb, k, none⟩ = some (.slice none 0 0) := hla
          clear hla
          go_wp2_with (at_builtin; refine stop ?_)
          apply Stop.go
          have HX := hide (((HC1.out.setV false).later ((Ext.refl _).alloc (.cells #[.int .i64 (p.f k), .slice none 0 0, .pointer none] 64))).later ((Ext.refl _).alloc (.cells #[.int .i64 (p.f k), .slice none 0 0, .pointer none] 64)))
          refine wpList_append_own _ rfl (.tmp 57) (.tmp 59) 56 rfl w.heap.size 64 i0 (.agg #[.int .i64 0, .slice none 0 0, .pointer none]) 3 40 Try.underlying56 hi hz0 hz1 hz2 rfl (by decide) LO (p.outs k).length (outCells p RB P (p.outs k)) rfl HX.out.own ⟨w1.heap.size + 1, 0, none⟩ 1 1 [.int .i64 (p.f k), .slice none 0 0, .pointer none] rfl rfl ?c1 ?c2 ?c3 ?c4 ?c5 ?_
          case c1 => exact three_new _ _ _ _ _ (by simp [World.setCell])
          case c2 => intro u hu; simp at hu; rcases hu with rfl | rfl | rfl <;> rfl
          case c3 => unfold maxLen; omega
          case c4 => omega
          case c5 => have := HX.out.ext.size; exact this
          intro v' w2 hown2 hgrow2 hnil2
          obtain ⟨gb, cp, hv⟩ := own_shape hown2
          subst hv
          have HY := hide (HX.out.push (i := k) (P' := P) hgrow2 (by rw [show outCell p RB P k = [.int .i64 (p.f k), .slice none 0 0, .pointer none] by unfold outCell; rw [hnil]; rfl]; exact hown2) (fun e => HX.out.non (hnil2.1 e).1) (fun _ _ => rfl) (fun h => by rw [hnil] at h; cases h))
          have e0 := HX.out.out.grown hgrow2 (fun e => HX.out.row_ne HX.out.out (by decide) e.symm)
          have c0 := e0.cell (i := 4) rfl
          have f0 := e0.frozen 4
          clear hown2 hgrow2 hnil2 e0 HX
          go_wp2
          go_roundg (gk - 1)
          case measure => omega
          case rel =>
            have hfin := HY.out
            exact ⟨k + 1, P, _, by omega, by simp [Prm.nmd, hc, hnil], by simp [Prm.agr, hc, hnil], by go_num, by simpa [Prm.cmpl, Prm.ldr, Prm.frm, Prm.outs_succ, hc, hnil] using hfin⟩
        | false =>
          rw [hnil] at hla
          have hla' : w1.cell? ⟨lb, k, none⟩ = some (.slice (some ⟨RB k, 0, none⟩) (p.L k) (p.L k)) := hla
          have hld := HW1.out.lead k hlt
          have b7 := World.block_lt_of_cell? w1 _ hld
          simp only at b7
          have qd0 : db < w1.heap.size := by omega
          have qd1 : db < w1.heap.size + 1 := by omega
          have qd2 : db < w1.heap.size + 1 + 1 := by omega
          have qd3 : db < w1.heap.size + 1 + 1 + 1 := by omega
          clear hla
          go_wp2_with (at_builtin; refine stop ?_)
          apply Stop.go
          have HX := hide (((HC1.out.later ((Ext.refl _).alloc (.cells #[.int .i64 (p.f k), .slice (some ⟨RB k, 0, none⟩) (p.L k) (p.L k), .pointer (some ⟨w1.heap.size + 1, 0, none⟩)] 64))).later ((Ext.refl _).alloc (.cells #[.int .i64 (p.dl k)] 3))).later ((Ext.refl _).alloc (.cells #[.int .i64 (p.f k), .slice (some ⟨RB k, 0, none⟩) (p.L k) (p.L k), .pointer (some ⟨w1.heap.size + 1, 0, none⟩)] 64)))
          have HZ := hide (((Blk.new w1 rfl #[.int .i64 (p.f k), .slice (some ⟨RB k, 0, none⟩) (p.L k) (p.L k), .pointer (some ⟨w1.heap.size + 1, 0, none⟩)] 64).alloc (.cells #[.int .i64 (p.dl k)] 3)).alloc (.cells #[.int .i64 (p.f k), .slice (some ⟨RB k, 0, none⟩) (p.L k) (p.L k), .pointer (some ⟨w1.heap.size + 1, 0, none⟩)] 64))
          refine wpList_append_own _ rfl (.tmp 79) (.tmp 81) 56 rfl w.heap.size 64 i0 (.agg #[.int .i64 0, .slice none 0 0, .pointer none]) 3 40 Try.underlying56 hi hz0 hz1 hz2 rfl (by decide) LO (p.outs k).length (outCells p RB P (p.outs k)) rfl HX.out.own ⟨w1.heap.size + 1 + 1, 0, none⟩ 1 1 [.int .i64 (p.f k), .slice (some ⟨RB k, 0, none⟩) (p.L k) (p.L k), .pointer (some ⟨w1.heap.size + 1, 0, none⟩)] rfl rfl ?d1 ?d2 ?d3 ?d4 ?d5 ?_
          case d1 => exact three_new _ _ _ _ _ (by simp)
          case d2 => intro u hu; simp at hu; rcases hu with rfl | rfl | rfl <;> rfl
          case d3 => unfold maxLen; omega
          case d4 => omega
          case d5 => have := HX.out.ext.size; exact this
          intro v' w2 hown2 hgrow2 hnil2
          obtain ⟨gb, cp, hv⟩ := own_shape hown2
          subst hv
          have HY := hide (HX.out.push (i := k) (P' := fun j => if j = k then w1.heap.size + 1 else P j) hgrow2 (by rw [show outCell p RB (fun j => if j = k then w1.heap.size + 1 else P j) k = [.int .i64 (p.f k), .slice (some ⟨RB k, 0, none⟩) (p.L k) (p.L k), .pointer (some ⟨w1.heap.size + 1, 0, none⟩)] by unfold outCell; rw [hnil]; simp [rowV]]; exact hown2) (fun e => HX.out.non (hnil2.1 e).1)
            (fun j hj => by have hj2 : j < k := by { have := (List.mem_filter.1 hj).1; simpa using this }
                            rw [if_neg (by omega)])
            (fun _ => by rw [if_pos rfl]; exact ⟨(Blk.new _ (by simp) _ _).alloc _, by omega, by omega⟩))
          have e0 := HX.out.out.grown hgrow2 (fun e => HX.out.row_ne HX.out.out (by decide) e.symm)
          have c0 := e0.cell (i := 4) rfl
          have f0 := e0.frozen 4
          have z0 : w2.cell? ⟨w1.heap.size, 1, none⟩ = some (.slice (some ⟨RB k, 0, none⟩) (p.L k) (p.L k)) := hgrow2.cell (HZ.out.cell (i := 1) rfl) (fun e => absurd (HC1.out.own.lt _ e.symm).2 (Nat.lt_irrefl _))
          clear hown2 hgrow2 hnil2 e0 HX
          go_wp2
          clear c0 f0 z0 qj0 qj1 qj2 qj3 ql0 ql1 ql2 ql3 qo0 qo1 qo2 qo3 qv0 qv1 qv2 qv3 qd0 qd1 qd2 qd3 b6 b7 hla' hld cLO fLO cV fV j0 j1 j2 j3 j4 j5 j6 j7 j8 j9 HZ
          have hLs := (HW1.out.row k hlt hnil).1
          go_loopg [87] (p.L k) (fun g2 i wr2 => ∃ j : Nat, j + g2 = p.L k ∧ i = .int .i64 (j : Int) ∧
            CS p RB w wr2 (w.heap.size + 1 + 1 + 1) (w.heap.size + 1 + 1 + 1 + 1) (w.heap.size + 1 + 1 + 1 + 1 + 1) (w.heap.size + 1 + 1 + 1 + 1 + 1 + 1) (p.cmpl p.cor k && (List.range j).all fun j => p.cor (p.R k j)) (p.ldr k) (p.frm k) (p.outs k ++ [k]) (fun j => if j = k then w1.heap.size + 1 else P j) (.slice (some ⟨gb, 0, none⟩) ((p.outs k).length + 1) cp))
          case atStart => exact ⟨0, by omega, rfl, by simpa using HY.out⟩
          case round =>
            obtain ⟨j, hj, rfl, hcs2⟩ := hrel
            have HC2 := hide hcs2
            clear hcs2 HY
            have HW2 := hide (HE.out.ext HC2.out.ext)
            by_cases hjl2 : j < p.L k
            · have hrj := (HW2.out.row k hlt hnil).2 j hjl2
              go_wp2_with fail
              refine (HW2.out.correct (p.R k j) (HE.out.wfR k j)).mono ?_
              rintro e3 w3 ⟨rfl, hx3⟩
              have HC3 := hide (HC2.out.later hx3)
              have cV : w3.cell? ⟨w.heap.size + 1 + 1 + 1 + 1, 1, none⟩ = some (.bool (p.cmpl p.cor k && (List.range j).all fun j => p.cor (p.R k j))) := HC3.out.ver.cell (i := 1) rfl
              have fV := HC3.out.ver.frozen 1
              have HS := hide (List.range_succ (n := j))
              clear hx3 HC2 HW2 hrj
              cases hcor : corK p.n p.f p.g p.e (p.R k j) with
              | false =>
                go_wp2
                go_roundg (p.L k - (j + 1))
                case measure => omega
                case rel =>
                  have hfin := HC3.out.setV false
                  have e1 : (p.cmpl p.cor k && (List.range (j + 1)).all fun j => p.cor (p.R k j)) = false := by
                    rw [HS.out, List.all_append]
                    have : p.cor (p.R k j) = false := hcor
                    simp [this]
                  exact ⟨j + 1, by omega, by go_num, by rw [e1]; exact hfin⟩
              | true =>
                go_wp2
                go_roundg (p.L k - (j + 1))
                case measure => omega
                case rel =>
                  have hfin := HC3.out
                  have e1 : (p.cmpl p.cor k && (List.range (j + 1)).all fun j => p.cor (p.R k j)) = (p.cmpl p.cor k && (List.range j).all fun j => p.cor (p.R k j)) := by
                    rw [HS.out, List.all_append]
                    have : p.cor (p.R k j) = true := hcor
                    simp [this]
                  exact ⟨j + 1, by omega, by go_num, by rw [e1]; exact hfin⟩
            · have e0 : j = p.L k := by omega
              subst e0
              have hl0 := (HC2.out.ptr k (by simp) hnil).1
              simp only [if_true] at hl0
              have cl : wr.cell? ⟨w1.heap.size + 1, 0, none⟩ = some (.int .i64 (p.dl k)) := hl0.cell (i := 0) rfl
              have cL : wr.cell? ⟨w.heap.size + 1 + 1 + 1 + 1 + 1, 0, none⟩ = some (.int .i64 (p.ldr k)) := HC2.out.lea.cell (i := 0) rfl
              have fL := HC2.out.lea.frozen 0
              have cF : wr.cell? ⟨w.heap.size + 1 + 1 + 1 + 1 + 1 + 1, 0, none⟩ = some (.int .i64 (p.frm k)) := HC2.out.fro.cell (i := 0) rfl
              have fF := HC2.out.fro.frozen 0
              obtain ⟨j0, -, -, -, -, -, -, -, -, j9⟩ := HW2.out.judge.cells
              have hsi := HW2.out.since k hlt
              have nj : ¬ (w.heap.size + 1 + 1 + 1 + 1 + 1 = jb) := by omega
              have nj2 : ¬ (jb = w.heap.size + 1 + 1 + 1 + 1 + 1) := by omega
              cases hnm : p.nmd k with
              | false =>
                go_wp2
                have HC4 := hide (HC2.out.setL (p.dl k))
                generalize hw4 : wr.setCell ⟨w.heap.size + 1 + 1 + 1 + 1 + 1, 0, none⟩ (.int .i64 (p.dl k)) = w4 at HC4 ⊢
                clear hw4 cl cL fL cF fF j0 j9 hsi HW2 nj nj2 hl0
                have HW4 := hide (HE.out.ext HC4.out.ext)
                have cF : w4.cell? ⟨w.heap.size + 1 + 1 + 1 + 1 + 1 + 1, 0, none⟩ = some (.int .i64 (p.frm k)) := HC4.out.fro.cell (i := 0) rfl
                have fF := HC4.out.fro.frozen 0
                obtain ⟨-, -, -, -, -, -, -, -, -, j9⟩ := HW4.out.judge.cells
                have hsi := HW4.out.since k hlt
                rcases Int.lt_or_le (p.frm k) (p.sl k) with hmx | hmx
                ·
                  go_region
                  all_goals go_wp2
                  go_roundg (p.n - (k + 1))
                  case measure => omega
                  case rel =>
                    have hfin := (HC4.out.setF (p.sl k)).later ((Ext.refl _).drew)
                    refine ⟨k + 1, (fun j => if j = k then w1.heap.size + 1 else P j), (.slice (some ⟨gb, 0, none⟩) ((p.outs k).length + 1) cp), by omega, by simp [Prm.nmd, hc, hnil], by simp [Prm.agr, hc, hnil, hnm], by go_num, ?_⟩
                    have e1 : p.cmpl p.cor (k + 1) = (p.cmpl p.cor k && (List.range (p.L k)).all fun j => p.cor (p.R k j)) := by simp [Prm.cmpl, hc, hnil]
                    have e2 : p.ldr (k + 1) = p.dl k := by simp [Prm.ldr, hc, hnil]
                    have e3 : p.frm (k + 1) = p.sl k := by simp only [Prm.frm, hc, hnil]; simp; omega
                    have e4 : p.outs (k + 1) = p.outs k ++ [k] := by simp [Prm.outs_succ, hc]
                    rw [e1, e2, e3, e4]
                    exact hfin
                ·
                  go_region
                  all_goals go_wp2
                  go_roundg (p.n - (k + 1))
                  case measure => omega
                  case rel =>
                    have hfin := (HC4.out.setF (p.frm k)).later ((Ext.refl _).drew)
                    refine ⟨k + 1, (fun j => if j = k then w1.heap.size + 1 else P j), (.slice (some ⟨gb, 0, none⟩) ((p.outs k).length + 1) cp), by omega, by simp [Prm.nmd, hc, hnil], by simp [Prm.agr, hc, hnil, hnm], by go_num, ?_⟩
                    have e1 : p.cmpl p.cor (k + 1) = (p.cmpl p.cor k && (List.range (p.L k)).all fun j => p.cor (p.R k j)) := by simp [Prm.cmpl, hc, hnil]
                    have e2 : p.ldr (k + 1) = p.dl k := by simp [Prm.ldr, hc, hnil]
                    have e3 : p.frm (k + 1) = p.frm k := by simp only [Prm.frm, hc, hnil]; simp; omega
                    have e4 : p.outs (k + 1) = p.outs k ++ [k] := by simp [Prm.outs_succ, hc]
                    rw [e1, e2, e3, e4]
                    exact hfin
              | true =>
                cases hdd : (p.dl k != p.ldr k) with
                | true =>
                  go_wp2
                  have HC4 := hide (HC2.out.setL (p.dl k))
                  generalize hw4 : wr.setCell ⟨w.heap.size + 1 + 1 + 1 + 1 + 1, 0, none⟩ (.int .i64 (p.dl k)) = w4 at HC4 ⊢
                  clear hw4 cl cL fL cF fF j0 j9 hsi HW2 nj nj2 hl0
                  have HW4 := hide (HE.out.ext HC4.out.ext)
                  have cF : w4.cell? ⟨w.heap.size + 1 + 1 + 1 + 1 + 1 + 1, 0, none⟩ = some (.int .i64 (p.frm k)) := HC4.out.fro.cell (i := 0) rfl
                  have fF := HC4.out.fro.frozen 0
                  obtain ⟨-, -, -, -, -, -, -, -, -, j9⟩ := HW4.out.judge.cells
                  have hsi := HW4.out.since k hlt
                  rcases Int.lt_or_le (p.frm k) (p.sl k) with hmx | hmx
                  ·
                    go_region
                    all_goals go_wp2
                    go_roundg (p.n - (k + 1))
                    case measure => omega
                    case rel =>
                      have hfin := (HC4.out.setF (p.sl k)).later ((Ext.refl _).drew)
                      refine ⟨k + 1, (fun j => if j = k then w1.heap.size + 1 else P j), (.slice (some ⟨gb, 0, none⟩) ((p.outs k).length + 1) cp), by omega, by simp [Prm.nmd, hc, hnil], by simp [Prm.agr, hc, hnil, hnm, hdd], by go_num, ?_⟩
                      have e1 : p.cmpl p.cor (k + 1) = (p.cmpl p.cor k && (List.range (p.L k)).all fun j => p.cor (p.R k j)) := by simp [Prm.cmpl, hc, hnil]
                      have e2 : p.ldr (k + 1) = p.dl k := by simp [Prm.ldr, hc, hnil]
                      have e3 : p.frm (k + 1) = p.sl k := by simp only [Prm.frm, hc, hnil]; simp; omega
                      have e4 : p.outs (k + 1) = p.outs k ++ [k] := by simp [Prm.outs_succ, hc]
                      rw [e1, e2, e3, e4]
                      exact hfin
                  ·
                    go_region
                    all_goals go_wp2
                    go_roundg (p.n - (k + 1))
                    case measure => omega
                    case rel =>
                      have hfin := (HC4.out.setF (p.frm k)).later ((Ext.refl _).drew)
                      refine ⟨k + 1, (fun j => if j = k then w1.heap.size + 1 else P j), (.slice (some ⟨gb, 0, none⟩) ((p.outs k).length + 1) cp), by omega, by simp [Prm.nmd, hc, hnil], by simp [Prm.agr, hc, hnil, hnm, hdd], by go_num, ?_⟩
                      have e1 : p.cmpl p.cor (k + 1) = (p.cmpl p.cor k && (List.range (p.L k)).all fun j => p.cor (p.R k j)) := by simp [Prm.cmpl, hc, hnil]
                      have e2 : p.ldr (k + 1) = p.dl k := by simp [Prm.ldr, hc, hnil]
                      have e3 : p.frm (k + 1) = p.frm k := by simp only [Prm.frm, hc, hnil]; simp; omega
                      have e4 : p.outs (k + 1) = p.outs k ++ [k] := by simp [Prm.outs_succ, hc]
                      rw [e1, e2, e3, e4]
                      exact hfin
                | false =>
                  go_wp2
                  have HC4 := hide (HC2.out.setL (p.dl k))
                  generalize hw4 : wr.setCell ⟨w.heap.size + 1 + 1 + 1 + 1 + 1, 0, none⟩ (.int .i64 (p.dl k)) = w4 at HC4 ⊢
                  clear hw4 cl cL fL cF fF j0 j9 hsi HW2 nj nj2 hl0
                  have HW4 := hide (HE.out.ext HC4.out.ext)
                  have cF : w4.cell? ⟨w.heap.size + 1 + 1 + 1 + 1 + 1 + 1, 0, none⟩ = some (.int .i64 (p.frm k)) := HC4.out.fro.cell (i := 0) rfl
                  have fF := HC4.out.fro.frozen 0
                  obtain ⟨-, -, -, -, -, -, -, -, -, j9⟩ := HW4.out.judge.cells
                  have hsi := HW4.out.since k hlt
                  rcases Int.lt_or_le (p.frm k) (p.sl k) with hmx | hmx
                  ·
                    go_region
                    all_goals go_wp2
                    go_roundg (p.n - (k + 1))
                    case measure => omega
                    case rel =>
                      have hfin := (HC4.out.setF (p.sl k)).later ((Ext.refl _).drew)
                      refine ⟨k + 1, (fun j => if j = k then w1.heap.size + 1 else P j), (.slice (some ⟨gb, 0, none⟩) ((p.outs k).length + 1) cp), by omega, by simp [Prm.nmd, hc, hnil], by simp [Prm.agr, hc, hnil, hnm, hdd], by go_num, ?_⟩
                      have e1 : p.cmpl p.cor (k + 1) = (p.cmpl p.cor k && (List.range (p.L k)).all fun j => p.cor (p.R k j)) := by simp [Prm.cmpl, hc, hnil]
                      have e2 : p.ldr (k + 1) = p.dl k := by simp [Prm.ldr, hc, hnil]
                      have e3 : p.frm (k + 1) = p.sl k := by simp only [Prm.frm, hc, hnil]; simp; omega
                      have e4 : p.outs (k + 1) = p.outs k ++ [k] := by simp [Prm.outs_succ, hc]
                      rw [e1, e2, e3, e4]
                      exact hfin
                  ·
                    go_region
                    all_goals go_wp2
                    go_roundg (p.n - (k + 1))
                    case measure => omega
                    case rel =>
                      have hfin := (HC4.out.setF (p.frm k)).later ((Ext.refl _).drew)
                      refine ⟨k + 1, (fun j => if j = k then w1.heap.size + 1 else P j), (.slice (some ⟨gb, 0, none⟩) ((p.outs k).length + 1) cp), by omega, by simp [Prm.nmd, hc, hnil], by simp [Prm.agr, hc, hnil, hnm, hdd], by go_num, ?_⟩
                      have e1 : p.cmpl p.cor (k + 1) = (p.cmpl p.cor k && (List.range (p.L k)).all fun j => p.cor (p.R k j)) := by simp [Prm.cmpl, hc, hnil]
                      have e2 : p.ldr (k + 1) = p.dl k := by simp [Prm.ldr, hc, hnil]
                      have e3 : p.frm (k + 1) = p.frm k := by simp only [Prm.frm, hc, hnil]; simp; omega
                      have e4 : p.outs (k + 1) = p.outs k ++ [k] := by simp [Prm.outs_succ, hc]
                      rw [e1, e2, e3, e4]
                      exact hfin
    ·
      have e0 : k = p.n := by omega
      subst e0
      clear hk
      obtain ⟨gb, cp, hLO⟩ := own_shape' HC.out.own HC.out.non
      subst hLO
      have cO0 : wr.cell? ⟨w.heap.size + 1 + 1 + 1, 0, none⟩ = some (.string ⟨#[]⟩) := HC.out.out.cell (i := 0) rfl
      have cO1 : wr.cell? ⟨w.heap.size + 1 + 1 + 1, 1, none⟩ = some (.int .i64 0) := HC.out.out.cell (i := 1) rfl
      have cO2 : wr.cell? ⟨w.heap.size + 1 + 1 + 1, 2, none⟩ = some (.pointer none) := HC.out.out.cell (i := 2) rfl
      have cO3 : wr.cell? ⟨w.heap.size + 1 + 1 + 1, 3, none⟩ = some (.pointer none) := HC.out.out.cell (i := 3) rfl
      have cO4 : wr.cell? ⟨w.heap.size + 1 + 1 + 1, 4, none⟩ = some (.slice (some ⟨gb, 0, none⟩) (p.outs p.n).length cp) := HC.out.out.cell (i := 4) rfl
      have fO2 := HC.out.out.frozen 2
      have fO3 := HC.out.out.frozen 3
      have cV0 : wr.cell? ⟨w.heap.size + 1 + 1 + 1 + 1, 0, none⟩ = some (.bool true) := HC.out.ver.cell (i := 0) rfl
      have cV1 : wr.cell? ⟨w.heap.size + 1 + 1 + 1 + 1, 1, none⟩ = some (.bool (p.cmpl p.cor p.n)) := HC.out.ver.cell (i := 1) rfl
      have cV2 : wr.cell? ⟨w.heap.size + 1 + 1 + 1 + 1, 2, none⟩ = some (.bool false) := HC.out.ver.cell (i := 2) rfl
      have fV2 := HC.out.ver.frozen 2
      have cL : wr.cell? ⟨w.heap.size + 1 + 1 + 1 + 1 + 1, 0, none⟩ = some (.int .i64 (p.ldr p.n)) := HC.out.lea.cell (i := 0) rfl
      have r10 : wr.cell? ⟨w.heap.size, 0, none⟩ = some (.string ⟨#[]⟩) := HC.out.res1.cell (i := 0) rfl
      have g10 : wr.frozen? ⟨w.heap.size, 0, none⟩ = false := HC.out.res1.frozen 0
      have r11 : wr.cell? ⟨w.heap.size, 1, none⟩ = some (.int .i64 0) := HC.out.res1.cell (i := 1) rfl
      have g11 : wr.frozen? ⟨w.heap.size, 1, none⟩ = false := HC.out.res1.frozen 1
      have r12 : wr.cell? ⟨w.heap.size, 2, none⟩ = some (.pointer none) := HC.out.res1.cell (i := 2) rfl
      have g12 : wr.frozen? ⟨w.heap.size, 2, none⟩ = false := HC.out.res1.frozen 2
      have r13 : wr.cell? ⟨w.heap.size, 3, none⟩ = some (.pointer none) := HC.out.res1.cell (i := 3) rfl
      have g13 : wr.frozen? ⟨w.heap.size, 3, none⟩ = false := HC.out.res1.frozen 3
      have r14 : wr.cell? ⟨w.heap.size, 4, none⟩ = some (.slice none 0 0) := HC.out.res1.cell (i := 4) rfl
      have g14 : wr.frozen? ⟨w.heap.size, 4, none⟩ = false := HC.out.res1.frozen 4
      have r20 : wr.cell? ⟨w.heap.size + 1, 0, none⟩ = some (.bool false) := HC.out.res2.cell (i := 0) rfl
      have g20 : wr.frozen? ⟨w.heap.size + 1, 0, none⟩ = false := HC.out.res2.frozen 0
      have r21 : wr.cell? ⟨w.heap.size + 1, 1, none⟩ = some (.bool false) := HC.out.res2.cell (i := 1) rfl
      have g21 : wr.frozen? ⟨w.heap.size + 1, 1, none⟩ = false := HC.out.res2.frozen 1
      have r22 : wr.cell? ⟨w.heap.size + 1, 2, none⟩ = some (.bool false) := HC.out.res2.cell (i := 2) rfl
      have g22 : wr.frozen? ⟨w.heap.size + 1, 2, none⟩ = false := HC.out.res2.frozen 2
      cases hnm : p.nmd p.n with
      | false =>
        go_wp2
        go_region
        go_wp2
        change bodyPost _ _ _ _ _ (wroteAll wr w.heap.size (w.heap.size + 1) (.string ⟨#[]⟩) (.int .i64 0) (.pointer none) (.pointer none) (.slice (some ⟨gb, 0, none⟩) (p.outs p.n).length cp) (.bool true) (.bool (p.cmpl p.cor p.n)) (.bool false))
        have n1 : w.heap.size ≠ w.heap.size + 1 := by omega
        refine bodyPost_ret (v := .tuple #[.agg #[.string ⟨#[]⟩, .int .i64 0, .pointer none, .pointer none, .slice (some ⟨gb, 0, none⟩) (p.outs p.n).length cp], .agg #[.bool true, .bool (p.cmpl p.cor p.n), .bool false]]) ?_ rfl ?_
        · exact res5860 Try.results48 rfl rfl (wroteAll_1 n1 HC.out.res1) (wroteAll_2 n1 HC.out.res2)
        · have hend := conc_end (w' := (wroteAll wr w.heap.size (w.heap.size + 1) (.string ⟨#[]⟩) (.int .i64 0) (.pointer none) (.pointer none) (.slice (some ⟨gb, 0, none⟩) (p.outs p.n).length cp) (.bool true) (.bool (p.cmpl p.cor p.n)) (.bool false))) HC.out wroteAll_os wroteAll_tape wroteAll_output wroteAll_size (fun k _ h1 h2 _ _ => wroteAll_other h1 h2)
          exact ⟨P, _, _, _, by rw [hnm]; rfl, hend⟩
      | true =>
        cases hag : p.agr p.n with
        | false =>
          go_wp2
          go_region
          go_wp2
          change bodyPost _ _ _ _ _ (wroteAll wr w.heap.size (w.heap.size + 1) (.string ⟨#[]⟩) (.int .i64 0) (.pointer none) (.pointer none) (.slice (some ⟨gb, 0, none⟩) (p.outs p.n).length cp) (.bool true) (.bool (p.cmpl p.cor p.n)) (.bool false))
          have n1 : w.heap.size ≠ w.heap.size + 1 := by omega
          refine bodyPost_ret (v := .tuple #[.agg #[.string ⟨#[]⟩, .int .i64 0, .pointer none, .pointer none, .slice (some ⟨gb, 0, none⟩) (p.outs p.n).length cp], .agg #[.bool true, .bool (p.cmpl p.cor p.n), .bool false]]) ?_ rfl ?_
          · exact res5860 Try.results48 rfl rfl (wroteAll_1 n1 HC.out.res1) (wroteAll_2 n1 HC.out.res2)
          · have hend := conc_end (w' := (wroteAll wr w.heap.size (w.heap.size + 1) (.string ⟨#[]⟩) (.int .i64 0) (.pointer none) (.pointer none) (.slice (some ⟨gb, 0, none⟩) (p.outs p.n).length cp) (.bool true) (.bool (p.cmpl p.cor p.n)) (.bool false))) HC.out wroteAll_os wroteAll_tape wroteAll_output wroteAll_size (fun k _ h1 h2 _ _ => wroteAll_other h1 h2)
            exact ⟨P, _, _, _, by rw [hnm, hag]; rfl, hend⟩
        | true =>
          go_wp2_with fail
          have HX := hide (Below.setCell (Below.setCell HC.out.ext HC.out.new.1 (p := ⟨w.heap.size + 1 + 1 + 1, 2, none⟩) (.pointer (some ⟨w.heap.size + 1 + 1 + 1 + 1 + 1, 0, none⟩))) HC.out.new.1 (p := ⟨w.heap.size + 1 + 1 + 1, 3, none⟩) (.pointer (some ⟨w.heap.size + 1 + 1 + 1 + 1 + 1 + 1, 0, none⟩)))
          refine ((HE.out.ext HX.out).correct (p.ldr p.n) (wf_ldr HE.out.wfD p.n)).mono ?_
          rintro e5 w5 ⟨rfl, hx5⟩
          have HO := hide (((HC.out.out.put 2 (.pointer (some ⟨w.heap.size + 1 + 1 + 1 + 1 + 1, 0, none⟩)) #[.string ⟨#[]⟩, .int .i64 0, .pointer (some ⟨w.heap.size + 1 + 1 + 1 + 1 + 1, 0, none⟩), .pointer none, .slice (some ⟨gb, 0, none⟩) (p.outs p.n).length cp] rfl).put 3 (.pointer (some ⟨w.heap.size + 1 + 1 + 1 + 1 + 1 + 1, 0, none⟩)) #[.string ⟨#[]⟩, .int .i64 0, .pointer (some ⟨w.heap.size + 1 + 1 + 1 + 1 + 1, 0, none⟩), .pointer (some ⟨w.heap.size + 1 + 1 + 1 + 1 + 1 + 1, 0, none⟩), .slice (some ⟨gb, 0, none⟩) (p.outs p.n).length cp] rfl).ext hx5)
          have HV := hide (((HC.out.ver.setOther (HC.out.ver.ne HC.out.out (by decide)) (.pointer (some ⟨w.heap.size + 1 + 1 + 1 + 1 + 1, 0, none⟩)) (a := ⟨w.heap.size + 1 + 1 + 1, 2, none⟩)).setOther (HC.out.ver.ne HC.out.out (by decide)) (.pointer (some ⟨w.heap.size + 1 + 1 + 1 + 1 + 1 + 1, 0, none⟩)) (a := ⟨w.heap.size + 1 + 1 + 1, 3, none⟩)).ext hx5)
          have HR1 := hide (((HC.out.res1.setOther HC.out.ne.1 (.pointer (some ⟨w.heap.size + 1 + 1 + 1 + 1 + 1, 0, none⟩)) (a := ⟨w.heap.size + 1 + 1 + 1, 2, none⟩)).setOther HC.out.ne.1 (.pointer (some ⟨w.heap.size + 1 + 1 + 1 + 1 + 1 + 1, 0, none⟩)) (a := ⟨w.heap.size + 1 + 1 + 1, 3, none⟩)).ext hx5)
          have HR2 := hide (((HC.out.res2.setOther (HC.out.res2.ne HC.out.out (by decide)) (.pointer (some ⟨w.heap.size + 1 + 1 + 1 + 1 + 1, 0, none⟩)) (a := ⟨w.heap.size + 1 + 1 + 1, 2, none⟩)).setOther (HC.out.res2.ne HC.out.out (by decide)) (.pointer (some ⟨w.heap.size + 1 + 1 + 1 + 1 + 1 + 1, 0, none⟩)) (a := ⟨w.heap.size + 1 + 1 + 1, 3, none⟩)).ext hx5)
          have HK := hide (show ∀ k, k < wr.heap.size → k ≠ w.heap.size + 1 + 1 + 1 → w5.heap[k]? = wr.heap[k]? from fun k hk h1 => (hx5.block k (by simpa [World.setCell] using hk)).trans ((Below.heap_setCell _ _ _ _ h1).trans (Below.heap_setCell _ _ _ _ h1)))
          have HS5 := hide (show w5.os = wr.os ∧ w5.tape = wr.tape ∧ w5.output = wr.output ∧ wr.heap.size ≤ w5.heap.size from ⟨hx5.os, hx5.tape, hx5.output, by have := hx5.size; simpa [World.setCell] using this⟩)
          clear cO0 cO1 cO2 cO3 cO4 fO2 fO3 cV0 cV1 cV2 fV2 cL hx5 r10 g10 r11 g11 r12 g12 r13 g13 r14 g14 r20 g20 r21 g21 r22 g22 HX
          have cV2 : w5.cell? ⟨w.heap.size + 1 + 1 + 1 + 1, 2, none⟩ = some (.bool false) := HV.out.cell (i := 2) rfl
          have fV2 := HV.out.frozen 2
          go_wp2
          have HV6 := hide (HV.out.put 2 (.bool (corK p.n p.f p.g p.e (p.ldr p.n))) #[.bool true, .bool (p.cmpl p.cor p.n), .bool (corK p.n p.f p.g p.e (p.ldr p.n))] rfl)
          have HO6 := hide (HO.out.setOther (HO.out.ne HV.out (by decide)) (.bool (corK p.n p.f p.g p.e (p.ldr p.n))) (a := ⟨w.heap.size + 1 + 1 + 1 + 1, 2, none⟩))
          have HR16 := hide (HR1.out.setOther (HR1.out.ne HV.out (by decide)) (.bool (corK p.n p.f p.g p.e (p.ldr p.n))) (a := ⟨w.heap.size + 1 + 1 + 1 + 1, 2, none⟩))
          have HR26 := hide (HR2.out.setOther HC.out.ne.2 (.bool (corK p.n p.f p.g p.e (p.ldr p.n))) (a := ⟨w.heap.size + 1 + 1 + 1 + 1, 2, none⟩))
          have HK6 := hide (show ∀ k, k < wr.heap.size → k ≠ w.heap.size + 1 + 1 + 1 → k ≠ w.heap.size + 1 + 1 + 1 + 1 → (w5.setCell ⟨w.heap.size + 1 + 1 + 1 + 1, 2, none⟩ (.bool (corK p.n p.f p.g p.e (p.ldr p.n)))).heap[k]? = wr.heap[k]? from fun k hk h1 h2 => (Below.heap_setCell _ _ _ _ h2).trans (HK.out k hk h1))
          have HS6 := hide (show (w5.setCell ⟨w.heap.size + 1 + 1 + 1 + 1, 2, none⟩ (.bool (corK p.n p.f p.g p.e (p.ldr p.n)))).os = wr.os ∧ (w5.setCell ⟨w.heap.size + 1 + 1 + 1 + 1, 2, none⟩ (.bool (corK p.n p.f p.g p.e (p.ldr p.n)))).tape = wr.tape ∧ (w5.setCell ⟨w.heap.size + 1 + 1 + 1 + 1, 2, none⟩ (.bool (corK p.n p.f p.g p.e (p.ldr p.n)))).output = wr.output ∧ wr.heap.size ≤ (w5.setCell ⟨w.heap.size + 1 + 1 + 1 + 1, 2, none⟩ (.bool (corK p.n p.f p.g p.e (p.ldr p.n)))).heap.size from ⟨HS5.out.1, HS5.out.2.1, HS5.out.2.2.1, by have := HS5.out.2.2.2; simpa [World.setCell] using this⟩)
          clear HV HO HR1 HR2 HK HS5 cV2 fV2
          generalize w5.setCell ⟨w.heap.size + 1 + 1 + 1 + 1, 2, none⟩ (.bool (corK p.n p.f p.g p.e (p.ldr p.n))) = w6 at HV6 HO6 HR16 HR26 HK6 HS6 ⊢
          have r10 : w6.cell? ⟨w.heap.size, 0, none⟩ = some (.string ⟨#[]⟩) := HR16.out.cell (i := 0) rfl
          have g10 : w6.frozen? ⟨w.heap.size, 0, none⟩ = false := HR16.out.frozen 0
          have r11 : w6.cell? ⟨w.heap.size, 1, none⟩ = some (.int .i64 0) := HR16.out.cell (i := 1) rfl
          have g11 : w6.frozen? ⟨w.heap.size, 1, none⟩ = false := HR16.out.frozen 1
          have r12 : w6.cell? ⟨w.heap.size, 2, none⟩ = some (.pointer none) := HR16.out.cell (i := 2) rfl
          have g12 : w6.frozen? ⟨w.heap.size, 2, none⟩ = false := HR16.out.frozen 2
          have r13 : w6.cell? ⟨w.heap.size, 3, none⟩ = some (.pointer none) := HR16.out.cell (i := 3) rfl
          have g13 : w6.frozen? ⟨w.heap.size, 3, none⟩ = false := HR16.out.frozen 3
          have r14 : w6.cell? ⟨w.heap.size, 4, none⟩ = some (.slice none 0 0) := HR16.out.cell (i := 4) rfl
          have g14 : w6.frozen? ⟨w.heap.size, 4, none⟩ = false := HR16.out.frozen 4
          have r20 : w6.cell? ⟨w.heap.size + 1, 0, none⟩ = some (.bool false) := HR26.out.cell (i := 0) rfl
          have g20 : w6.frozen? ⟨w.heap.size + 1, 0, none⟩ = false := HR26.out.frozen 0
          have r21 : w6.cell? ⟨w.heap.size + 1, 1, none⟩ = some (.bool false) := HR26.out.cell (i := 1) rfl
          have g21 : w6.frozen? ⟨w.heap.size + 1, 1, none⟩ = false := HR26.out.frozen 1
          have r22 : w6.cell? ⟨w.heap.size + 1, 2, none⟩ = some (.bool false) := HR26.out.cell (i := 2) rfl
          have g22 : w6.frozen? ⟨w.heap.size + 1, 2, none⟩ = false := HR26.out.frozen 2
          have o0 : w6.cell? ⟨w.heap.size + 1 + 1 + 1, 0, none⟩ = some (.string ⟨#[]⟩) := HO6.out.cell (i := 0) rfl
          have o1 : w6.cell? ⟨w.heap.size + 1 + 1 + 1, 1, none⟩ = some (.int .i64 0) := HO6.out.cell (i := 1) rfl
          have o2 : w6.cell? ⟨w.heap.size + 1 + 1 + 1, 2, none⟩ = some (.pointer (some ⟨w.heap.size + 1 + 1 + 1 + 1 + 1, 0, none⟩)) := HO6.out.cell (i := 2) rfl
          have o3 : w6.cell? ⟨w.heap.size + 1 + 1 + 1, 3, none⟩ = some (.pointer (some ⟨w.heap.size + 1 + 1 + 1 + 1 + 1 + 1, 0, none⟩)) := HO6.out.cell (i := 3) rfl
          have o4 : w6.cell? ⟨w.heap.size + 1 + 1 + 1, 4, none⟩ = some (.slice (some ⟨gb, 0, none⟩) (p.outs p.n).length cp) := HO6.out.cell (i := 4) rfl
          have v0 : w6.cell? ⟨w.heap.size + 1 + 1 + 1 + 1, 0, none⟩ = some (.bool true) := HV6.out.cell (i := 0) rfl
          have v1 : w6.cell? ⟨w.heap.size + 1 + 1 + 1 + 1, 1, none⟩ = some (.bool (p.cmpl p.cor p.n)) := HV6.out.cell (i := 1) rfl
          have v2 : w6.cell? ⟨w.heap.size + 1 + 1 + 1 + 1, 2, none⟩ = some (.bool (corK p.n p.f p.g p.e (p.ldr p.n))) := HV6.out.cell (i := 2) rfl
          go_region
          go_wp2
          change bodyPost _ _ _ _ _ (wroteAll w6 w.heap.size (w.heap.size + 1) (.string ⟨#[]⟩) (.int .i64 0) (.pointer (some ⟨w.heap.size + 1 + 1 + 1 + 1 + 1, 0, none⟩)) (.pointer (some ⟨w.heap.size + 1 + 1 + 1 + 1 + 1 + 1, 0, none⟩)) (.slice (some ⟨gb, 0, none⟩) (p.outs p.n).length cp) (.bool true) (.bool (p.cmpl p.cor p.n)) (.bool (corK p.n p.f p.g p.e (p.ldr p.n))))
          have n1 : w.heap.size ≠ w.heap.size + 1 := by omega
          refine bodyPost_ret (v := .tuple #[.agg #[.string ⟨#[]⟩, .int .i64 0, .pointer (some ⟨w.heap.size + 1 + 1 + 1 + 1 + 1, 0, none⟩), .pointer (some ⟨w.heap.size + 1 + 1 + 1 + 1 + 1 + 1, 0, none⟩), .slice (some ⟨gb, 0, none⟩) (p.outs p.n).length cp], .agg #[.bool true, .bool (p.cmpl p.cor p.n), .bool (corK p.n p.f p.g p.e (p.ldr p.n))]]) ?_ rfl ?_
          · exact res5860 Try.results48 rfl rfl (wroteAll_1 n1 HR16.out) (wroteAll_2 n1 HR26.out)
          · have hend := conc_end (w' := (wroteAll w6 w.heap.size (w.heap.size + 1) (.string ⟨#[]⟩) (.int .i64 0) (.pointer (some ⟨w.heap.size + 1 + 1 + 1 + 1 + 1, 0, none⟩)) (.pointer (some ⟨w.heap.size + 1 + 1 + 1 + 1 + 1 + 1, 0, none⟩)) (.slice (some ⟨gb, 0, none⟩) (p.outs p.n).length cp) (.bool true) (.bool (p.cmpl p.cor p.n)) (.bool (corK p.n p.f p.g p.e (p.ldr p.n))))) HC.out (wroteAll_os.trans HS6.out.1) (wroteAll_tape.trans HS6.out.2.1) (wroteAll_output.trans HS6.out.2.2.1) (Nat.le_trans HS6.out.2.2.2 wroteAll_size) (fun k hk h1 h2 h3 h4 => (wroteAll_other h1 h2).trans (HK6.out k hk h3 h4))
            exact ⟨P, _, _, _, by rw [hnm, hag]; rfl, hend⟩
end Go.Proofs.Qxb6001094a
