import Derived.Test.Qxb6001235aVisit
import Derived.Deep.CutRange
import Derived.Laws.EntriesVeiled
/-! Seat b6001235a: 'components' walked. -/
namespace Go.Proofs.Qxb6001235a
set_option linter.unusedVariables false
open Go.RowKit Go.Maps

section
variable (w : World) (o0 o1 o2 o3 : Obj)
theorem four_ext : Ext w ((((w.alloc o0).alloc o1).alloc o2).alloc o3).drew := ((((Ext.refl w).alloc o0).alloc o1).alloc o2).alloc o3 |>.drew
theorem four0 : ((((w.alloc o0).alloc o1).alloc o2).alloc o3).drew.heap[w.heap.size]? = some o0 := by
  show ((((w.alloc o0).alloc o1).alloc o2).alloc o3).heap[w.heap.size]? = some o0
  rw [heap_alloc_old _ _ (by simp; omega), heap_alloc_old _ _ (by simp; omega), heap_alloc_old _ _ (by simp), heap_alloc_new]
theorem four1 : ((((w.alloc o0).alloc o1).alloc o2).alloc o3).drew.heap[w.heap.size + 1]? = some o1 := by
  show ((((w.alloc o0).alloc o1).alloc o2).alloc o3).heap[w.heap.size + 1]? = some o1
  rw [heap_alloc_old _ _ (by simp), heap_alloc_old _ _ (by simp)]
  have := heap_alloc_new (w.alloc o0) o1
  simpa using this
theorem four2 : ((((w.alloc o0).alloc o1).alloc o2).alloc o3).drew.heap[w.heap.size + 1 + 1]? = some o2 := by
  show ((((w.alloc o0).alloc o1).alloc o2).alloc o3).heap[w.heap.size + 1 + 1]? = some o2
  rw [heap_alloc_old _ _ (by simp)]
  have := heap_alloc_new ((w.alloc o0).alloc o1) o2
  simpa using this
theorem four3 : ((((w.alloc o0).alloc o1).alloc o2).alloc o3).drew.heap[w.heap.size + 1 + 1 + 1]? = some o3 := by
  show ((((w.alloc o0).alloc o1).alloc o2).alloc o3).heap[w.heap.size + 1 + 1 + 1]? = some o3
  have := heap_alloc_new (((w.alloc o0).alloc o1).alloc o2) o3
  simpa using this
end

theorem rowIs_of_made {w : World} {b n : Nat} {t : TypeId} {z : Value} (h : w.heap[b]? = some (.cells (madeCells #[z] n) t (0, 0))) : w.rowIs b t n (fun _ => z) :=
  ⟨_, h, size_madeCells _ _, fun i hi => by simp [madeCells, hi, Nat.mod_one]⟩

/-- Behind 'order, low := make([]int, n), make([]int, n)', in whichever order. -/
structure R2 (W0 wx : World) (n bO bL aO aL : Nat) : Prop where
  ext : Ext W0 wx
  ge : W0.heap.size ≤ bO ∧ W0.heap.size ≤ bL ∧ W0.heap.size ≤ aO ∧ W0.heap.size ≤ aL
  ne : bO ≠ bL ∧ bO ≠ aO ∧ bO ≠ aL ∧ bL ≠ aO ∧ bL ≠ aL ∧ aO ≠ aL
  o : wx.heap[bO]? = some (.cells #[.slice (some ⟨aO, 0, none⟩) n n] 25 (0, 0))
  l : wx.heap[bL]? = some (.cells #[.slice (some ⟨aL, 0, none⟩) n n] 25 (0, 0))
  ao : wx.heap[aO]? = some (.cells (madeCells #[.int .i64 0] n) 3 (0, 0))
  al : wx.heap[aL]? = some (.cells (madeCells #[.int .i64 0] n) 3 (0, 0))

theorem R2.mk4 {W0 wx : World} {n bO bL aO aL : Nat} (ext : Ext W0 wx) (o : wx.heap[bO]? = some (.cells #[.slice (some ⟨aO, 0, none⟩) n n] 25 (0, 0))) (l : wx.heap[bL]? = some (.cells #[.slice (some ⟨aL, 0, none⟩) n n] 25 (0, 0)))
    (ao : wx.heap[aO]? = some (.cells (madeCells #[.int .i64 0] n) 3 (0, 0))) (al : wx.heap[aL]? = some (.cells (madeCells #[.int .i64 0] n) 3 (0, 0)))
    (ge : W0.heap.size ≤ bO ∧ W0.heap.size ≤ bL ∧ W0.heap.size ≤ aO ∧ W0.heap.size ≤ aL) (ne : bO ≠ bL ∧ bO ≠ aO ∧ bO ≠ aL ∧ bL ≠ aO ∧ bL ≠ aL ∧ aO ≠ aL) : R2 W0 wx n bO bL aO aL := ⟨ext, ge, ne, o, l, ao, al⟩
theorem info4 : (Try.prog.info? 4).map (fun i => (i.zero, i.size, i.bytes)) = some (some (.bool false), 1, 1) := by kernel_rfl

def CompP (W : World) (G : Gr) (comp : Nat → Int) (size : List Nat) (e : Ending) (w' : World) : Prop :=
  ∃ aC za gz zc, e = .returned (.tuple #[.slice (some ⟨aC, 0, none⟩) G.n G.n, .slice za size.length zc]) ∧ Ext W w' ∧ (∀ i, i < G.n → w'.cell? ⟨aC, i, none⟩ = some (.int .i64 (comp i))) ∧
    (0 < size.length → za = some ⟨gz, 0, none⟩) ∧ ∀ (c x : Nat), size[c]? = some x → w'.cell? ⟨gz, c, none⟩ = some (.int .i64 (x : Int))

def idsOf (bN bO bL bS bK bE bV bZ bC aO aL aK aC : Nat) : Nat → Nat
  | 0 => bN | 1 => bO | 2 => bL | 3 => bS | 4 => bK | 5 => bE | 6 => bV | 7 => bZ | 8 => bC | 9 => aO | 10 => aL | 11 => aK | 12 => aC | _ => 0

/-- The memory while 'order' is laid out: k cells are done. -/
structure C1 (W wd : World) (n : Nat) (ea : Option Addr) (bO bL aO aL aC k : Nat) : Prop where
  ext : Ext W wd
  bE : Blk wd W.heap.size #[.slice ea n n] 22
  bC : Blk wd (W.heap.size + 1) #[.slice (some ⟨aC, 0, none⟩) n n] 25
  bZ : Blk wd (W.heap.size + 1 + 1) #[.slice none 0 0] 25
  o : Blk wd bO #[.slice (some ⟨aO, 0, none⟩) n n] 25
  l : Blk wd bL #[.slice (some ⟨aL, 0, none⟩) n n] 25
  ao : wd.rowIs aO 3 n (fun i => .int .i64 (if i < k then -1 else 0))
  al : wd.rowIs aL 3 n (fun _ => .int .i64 0)
  ac : wd.rowIs aC 3 n (fun _ => .int .i64 0)
  ge : W.heap.size + 2 < bO ∧ W.heap.size + 2 < bL ∧ W.heap.size + 2 < aO ∧ W.heap.size + 2 < aL ∧ W.heap.size + 2 < aC
  ne : bO ≠ bL ∧ bO ≠ aO ∧ bO ≠ aL ∧ bL ≠ aO ∧ bL ≠ aL ∧ aO ≠ aL
  nc : bO < aC ∧ bL < aC ∧ aO < aC ∧ aL < aC

theorem C1.start {W W0 wc : World} {n bO bL aO aL : Nat} {ea : Option Addr} (hx : Ext W W0) (b1 : Blk W0 W.heap.size #[.slice ea n n] 22) (b2 : Blk W0 (W.heap.size + 1) #[.slice none 0 0] 25) (b3 : Blk W0 (W.heap.size + 1 + 1) #[.slice none 0 0] 25) (r : R2 W0 wc n bO bL aO aL) :
    C1 W ((wc.setCell ⟨W.heap.size + 1, 0, none⟩ (.slice (some ⟨wc.heap.size, 0, none⟩) n n)).alloc (.cells (madeCells #[.int .i64 0] n) 3)) n ea bO bL aO aL wc.heap.size 0 := by
  have l3 := b3.lt
  obtain ⟨g1, g2, g3, g4⟩ := r.ge
  have s1 : bO < wc.heap.size := (Array.getElem?_eq_some_iff.1 r.o).1
  have s2 : bL < wc.heap.size := (Array.getElem?_eq_some_iff.1 r.l).1
  have s3 : aO < wc.heap.size := (Array.getElem?_eq_some_iff.1 r.ao).1
  have s4 : aL < wc.heap.size := (Array.getElem?_eq_some_iff.1 r.al).1
  have keep : ∀ {b : Nat} {cs : Array Value} {t : TypeId}, Blk wc b cs t → b ≠ W.heap.size + 1 → Blk ((wc.setCell ⟨W.heap.size + 1, 0, none⟩ (.slice (some ⟨wc.heap.size, 0, none⟩) n n)).alloc (.cells (madeCells #[.int .i64 0] n) 3)) b cs t := fun h hne => (h.setOther hne _).alloc _
  have keepr : ∀ {b : Nat} {f : Nat → Value} {t : TypeId}, wc.rowIs b t n f → b ≠ W.heap.size + 1 → ((wc.setCell ⟨W.heap.size + 1, 0, none⟩ (.slice (some ⟨wc.heap.size, 0, none⟩) n n)).alloc (.cells (madeCells #[.int .i64 0] n) 3)).rowIs b t n f := fun h hne => (h.setOther hne _).alloc _
  refine ⟨Ext.alloc (Below.setCell (hx.trans r.ext) (show W.heap.size ≤ W.heap.size + 1 by omega) _) _, keep (b1.ext r.ext) (by omega), ((b2.ext r.ext).put 0 _ _ rfl).alloc _, keep (b3.ext r.ext) (by omega), keep r.o (by omega), keep r.l (by omega), ?_, ?_, ?_, by omega, r.ne, by omega⟩
  · exact (keepr (rowIs_of_made r.ao) (by omega)).congr (fun i _ => by simp)
  · exact keepr (rowIs_of_made r.al) (by omega)
  · have := World.rowIs_made (wc.setCell ⟨W.heap.size + 1, 0, none⟩ (.slice (some ⟨wc.heap.size, 0, none⟩) n n)) (.int .i64 0) n 3
    rw [show (wc.setCell ⟨W.heap.size + 1, 0, none⟩ (.slice (some ⟨wc.heap.size, 0, none⟩) n n)).heap.size = wc.heap.size by simp [World.setCell]] at this
    exact this

theorem C1.step {W wd : World} {n bO bL aO aL aC k : Nat} {ea : Option Addr} (h : C1 W wd n ea bO bL aO aL aC k) : C1 W (wd.setCell ⟨aO, k, none⟩ (.int .i64 (-1))) n ea bO bL aO aL aC (k + 1) := by
  obtain ⟨g1, g2, g3, g4, g5⟩ := h.ge
  obtain ⟨n1, n2, n3, n4, n5, n6⟩ := h.ne
  obtain ⟨m1, m2, m3, m4⟩ := h.nc
  refine ⟨Below.setCell h.ext (show W.heap.size ≤ aO by omega) _, h.bE.setOther (show _ ≠ aO by omega) _, h.bC.setOther (show _ ≠ aO by omega) _, h.bZ.setOther (show _ ≠ aO by omega) _, h.o.setOther n2 _, h.l.setOther n4 _, ?_, h.al.setOther (fun e => n6 e.symm) _, h.ac.setOther (show _ ≠ aO by omega) _, h.ge, h.ne, h.nc⟩
  refine (h.ao.set k _).congr fun i hi => ?_
  by_cases e : i = k
  · subst e; simp
  · by_cases e2 : i < k
    · simp [e, e2, show i < k + 1 by omega]
    · simp [e, e2, show ¬ i < k + 1 by omega]

def clos' (bN bO bL bS bK bE bV bZ bC : Nat) : Value := .func (.func 30) #[] #[.pointer (some ⟨bN, 0, none⟩), .pointer (some ⟨bO, 0, none⟩), .pointer (some ⟨bL, 0, none⟩), .pointer (some ⟨bS, 0, none⟩), .pointer (some ⟨bK, 0, none⟩), .pointer (some ⟨bE, 0, none⟩), .pointer (some ⟨bV, 0, none⟩), .pointer (some ⟨bZ, 0, none⟩), .pointer (some ⟨bC, 0, none⟩)]

theorem C1.tm {W wr : World} {n bO bL aO aL aC : Nat} {ea : Option Addr} (h : C1 W wr n ea bO bL aO aL aC n) :
    TM (idsOf (wr.heap.size + 1 + 1 + 1) bO bL (wr.heap.size + 1 + 1) (wr.heap.size + 1) W.heap.size (wr.heap.size + 1 + 1 + 1 + 1) (W.heap.size + 1 + 1) (W.heap.size + 1) aO aL wr.heap.size aC) n ea W
      (((((wr.alloc (.cells (madeCells #[.bool false] n) 4)).alloc (.cells #[.slice (some ⟨wr.heap.size, 0, none⟩) n n] 30)).alloc (.cells #[.slice none 0 0] 25)).alloc (.cells #[.int .i64 0] 3)).alloc
        (.cells #[clos' (wr.heap.size + 1 + 1 + 1) bO bL (wr.heap.size + 1 + 1) (wr.heap.size + 1) W.heap.size (wr.heap.size + 1 + 1 + 1 + 1) (W.heap.size + 1 + 1) (W.heap.size + 1)] 37)) TS.init (.slice none 0 0) (.slice none 0 0) := by
  obtain ⟨g1, g2, g3, g4, g5⟩ := h.ge
  obtain ⟨n1, n2, n3, n4, n5, n6⟩ := h.ne
  obtain ⟨m1, m2, m3, m4⟩ := h.nc
  have s5 := h.ac.lt
  have hx : Ext wr (((((wr.alloc (.cells (madeCells #[.bool false] n) 4)).alloc (.cells #[.slice (some ⟨wr.heap.size, 0, none⟩) n n] 30)).alloc (.cells #[.slice none 0 0] 25)).alloc (.cells #[.int .i64 0] 3)).alloc
        (.cells #[clos' (wr.heap.size + 1 + 1 + 1) bO bL (wr.heap.size + 1 + 1) (wr.heap.size + 1) W.heap.size (wr.heap.size + 1 + 1 + 1 + 1) (W.heap.size + 1 + 1) (W.heap.size + 1)] 37)) := (((((Ext.refl wr).alloc _).alloc _).alloc _).alloc _).alloc _
  refine ⟨h.ext.trans hx, ?_, ?_, ?_, World.ownsRow_nil _ _ _ _, World.ownsRow_nil _ _ _ _, fun k _ e => (by cases e), fun k _ e => (by cases e), .inl rfl⟩
  · intro i j hi hj e
    have hij : ∀ i, i < 13 → ∃ m, m = i ∧ (m = 0 ∨ m = 1 ∨ m = 2 ∨ m = 3 ∨ m = 4 ∨ m = 5 ∨ m = 6 ∨ m = 7 ∨ m = 8 ∨ m = 9 ∨ m = 10 ∨ m = 11 ∨ m = 12) := fun i h => ⟨i, rfl, by omega⟩
    obtain ⟨_, rfl, hi'⟩ := hij i hi
    obtain ⟨_, rfl, hj'⟩ := hij j hj
    clear hij
    rcases hi' with rfl | rfl | rfl | rfl | rfl | rfl | rfl | rfl | rfl | rfl | rfl | rfl | rfl <;> rcases hj' with rfl | rfl | rfl | rfl | rfl | rfl | rfl | rfl | rfl | rfl | rfl | rfl | rfl <;> first | rfl | (exfalso; simp only [idsOf] at e; omega)
  · intro i hi
    match i, hi with
    | 0, _ => simp only [idsOf]; omega
    | 1, _ => simp only [idsOf]; omega
    | 2, _ => simp only [idsOf]; omega
    | 3, _ => simp only [idsOf]; omega
    | 4, _ => simp only [idsOf]; omega
    | 5, _ => simp only [idsOf]; omega
    | 6, _ => simp only [idsOf]; omega
    | 7, _ => simp only [idsOf]; omega
    | 8, _ => simp only [idsOf]; omega
    | 9, _ => simp only [idsOf]; omega
    | 10, _ => simp only [idsOf]; omega
    | 11, _ => simp only [idsOf]; omega
    | 12, _ => simp only [idsOf]; omega
  · intro k hk
    match k, hk with
    | 0, _ => exact (Blk.new _ (by simp [idsOf]) #[.int .i64 0] 3).alloc _
    | 1, _ => exact h.o.ext hx
    | 2, _ => exact h.l.ext hx
    | 3, _ => exact ((Blk.new _ (by simp [idsOf]) #[.slice none 0 0] 25).alloc _).alloc _
    | 4, _ => exact (((Blk.new _ (by simp [idsOf]) #[.slice (some ⟨wr.heap.size, 0, none⟩) n n] 30).alloc _).alloc _).alloc _
    | 5, _ => exact h.bE.ext hx
    | 6, _ => exact Blk.new _ (by simp [idsOf]) _ 37
    | 7, _ => exact h.bZ.ext hx
    | 8, _ => exact h.bC.ext hx
    | 9, _ => exact (h.ao.of_block (hx.block _ h.ao.lt)).congr (fun i hi => by simp [hi, TS.init])
    | 10, _ => exact (h.al.of_block (hx.block _ h.al.lt)).congr (fun i hi => by simp [TS.init])
    | 11, _ => exact ((((World.rowIs_made wr (.bool false) n 4).alloc _).alloc _).alloc _).alloc _
    | 12, _ => exact (h.ac.of_block (hx.block _ h.ac.lt)).congr (fun i hi => by simp [TS.init])

theorem res2525 {fn : Func} {p u : Tmp} (h : fn.results = #[.cell p 25, .cell u 25]) {tmps : Array Value} {w : World} {b1 b2 : Nat} {x1 x2 : Option Addr} {n1 n2 c1 c2 : Nat}
    (h1 : tmps.getD p undef = .pointer (some ⟨b1, 0, none⟩)) (h2 : tmps.getD u undef = .pointer (some ⟨b2, 0, none⟩)) (k1 : w.cell? ⟨b1, 0, none⟩ = some (.slice x1 n1 c1)) (k2 : w.cell? ⟨b2, 0, none⟩ = some (.slice x2 n2 c2)) :
    (results fn tmps).run Try.prog w = .ok (.tuple #[.slice x1 n1 c1, .slice x2 n2 c2]) w := by
  have h1' : tmps[p]?.getD undef = .pointer (some ⟨b1, 0, none⟩) := by simpa using h1
  have h2' : tmps[u]?.getD undef = .pointer (some ⟨b2, 0, none⟩) := by simpa using h2
  simp only [results, h]
  simp [h1', h2', go_sem, k1, k2, Sem.run_bind, Result.andThen]

theorem TM.compP {G : Gr} {W w : World} {ea za : Option Addr} {bN bO bL bS bK bE bV bZ bC aO aL aK aC zc : Nat} {SV : Value} {s : TS} (h : TM (idsOf bN bO bL bS bK bE bV bZ bC aO aL aK aC) G.n ea W w s SV (.slice za s.size.length zc)) :
    CompP W G s.comp s.size (.returned (.tuple #[.slice (some ⟨aC, 0, none⟩) G.n G.n, .slice za s.size.length zc])) w := by
  have h12 := h.po 12 (by decide)
  rcases h.zo.2 with ⟨e1, e2⟩ | ⟨g, cap, cur, e1, _⟩
  · refine ⟨aC, za, 0, zc, rfl, h.ext, fun i hi => World.rowIs.cell h12 hi, fun h0 => absurd h0 (by omega), fun c x hc => ?_⟩
    have := (List.getElem?_eq_some_iff.1 hc).1
    omega
  · simp at e1
    obtain ⟨rfl, rfl⟩ := e1
    refine ⟨aC, _, g, zc, rfl, h.ext, fun i hi => World.rowIs.cell h12 hi, fun _ => rfl, fun c x hc => ?_⟩
    have := h.zo.cells (g := g) rfl c (.int .i64 (x : Int)) (by simp [ints, List.getElem?_map, hc])
    rw [Addr.add_lit, Nat.zero_add] at this
    exact this

set_option maxRecDepth 100000 in
set_option maxHeartbeats 1000000 in
theorem comp26 {G : Gr} {W : World} {ea : Option Addr} {eb : Nat} {RA : Nat → Option Addr} {RB : Nat → Nat} (hE : EdG W ea eb G RA RB) :
    Calls Try.prog 26 #[.slice ea G.n G.n] W (CompP W G (visitAll G G.n).comp (visitAll G G.n).size) := by
  have HE := hide hE
  have hsm := hE.small
  clear hE
  have hmk := run_make_row' (P := Try.prog) 25 3 (.int .i64 0) 8 Try.underlying25 info3 rfl .i64 .i64 G.n (by omega) (by omega)
  have hmkb := run_make_row' (P := Try.prog) 30 4 (.bool false) 1 Try.underlying30 info4 rfl .i64 .i64 G.n (by omega) (by omega)
  go_enter Try.func26, Try.ntmps26
  go_upto_region 2 with fail
  have HX := hide ((((Ext.refl W).alloc (.cells #[.slice ea G.n G.n] 22)).alloc (.cells #[.slice none 0 0] 25)).alloc (.cells #[.slice none 0 0] 25))
  have HB1 := hide (((Blk.new W rfl #[.slice ea G.n G.n] 22).alloc (.cells #[.slice none 0 0] 25)).alloc (.cells #[.slice none 0 0] 25))
  have HB2 := hide ((Blk.new (W.alloc (.cells #[.slice ea G.n G.n] 22)) (b := W.heap.size + 1) (by simp) #[.slice none 0 0] 25).alloc (.cells #[.slice none 0 0] 25))
  have HB3 := hide (Blk.new ((W.alloc (.cells #[.slice ea G.n G.n] 22)).alloc (.cells #[.slice none 0 0] 25)) (b := W.heap.size + 1 + 1) (by simp) #[.slice none 0 0] 25)
  generalize ((W.alloc (.cells #[.slice ea G.n G.n] 22)).alloc (.cells #[.slice none 0 0] 25)).alloc (.cells #[.slice none 0 0] 25) = W0 at HX HB1 HB2 HB3 ⊢
  go_cut [5, 6] from 15 to 18 (fun o l wx => ∃ bO bL aO aL : Nat, o = .pointer (some ⟨bO, 0, none⟩) ∧ l = .pointer (some ⟨bL, 0, none⟩) ∧ R2 W0 wx G.n bO bL aO aL)
  case first =>
    go_region
    all_goals (go_wp2; go_meet)
    all_goals exact ⟨_, _, _, _, rfl, rfl, R2.mk4 (four_ext _ _ _ _ _) (by first | exact four0 _ _ _ _ _ | exact four1 _ _ _ _ _ | exact four2 _ _ _ _ _ | exact four3 _ _ _ _ _) (by first | exact four0 _ _ _ _ _ | exact four1 _ _ _ _ _ | exact four2 _ _ _ _ _ | exact four3 _ _ _ _ _) (by first | exact four0 _ _ _ _ _ | exact four1 _ _ _ _ _ | exact four2 _ _ _ _ _ | exact four3 _ _ _ _ _) (by first | exact four0 _ _ _ _ _ | exact four1 _ _ _ _ _ | exact four2 _ _ _ _ _ | exact four3 _ _ _ _ _) (by refine ⟨?_, ?_, ?_, ?_⟩ <;> omega) (by refine ⟨?_, ?_, ?_, ?_, ?_, ?_⟩ <;> omega)⟩
  case rest =>
    obtain ⟨bO, bL, aO, aL, rfl, rfl, hR2⟩ := hcut
    have HR := hide hR2
    clear hR2
    have hW := HX.out.size
    have l1 := HB1.out.lt
    have l2 := HB2.out.lt
    have l3 := HB3.out.lt
    have hs0 := HR.out.ext.size
    have c2 : wc.cell? ⟨W.heap.size + 1, 0, none⟩ = some (.slice none 0 0) := (HB2.out.ext HR.out.ext).cell (i := 0) rfl
    have f2 : wc.frozen? ⟨W.heap.size + 1, 0, none⟩ = false := (HB2.out.ext HR.out.ext).frozen 0
    have q2 : W.heap.size + 1 < wc.heap.size := by omega
    go_wp2_with fail
    have HC := hide (C1.start HX.out HB1.out HB2.out HB3.out HR.out)
    clear c2 f2 q2
    generalize hac : wc.heap.size = aC at HC ⊢
    generalize (wc.setCell ⟨W.heap.size + 1, 0, none⟩ (.slice (some ⟨aC, 0, none⟩) G.n G.n)).alloc (.cells (madeCells #[.int .i64 0] G.n) 3) = w1 at HC ⊢
    clear hac hW l1 l2 l3 hs0 HX HB1 HB2 HB3 HR
    go_loopg [22] G.n (fun g i wr => ∃ k : Nat, k + g = G.n ∧ i = .int .i64 (k : Int) ∧ C1 W wr G.n ea bO bL aO aL aC k)
    case atStart => exact ⟨0, by omega, rfl, HC.out⟩
    case round =>
      obtain ⟨k, hk, rfl, hc⟩ := hrel
      have HK := hide hc
      clear HC hc
      by_cases hlt : k < G.n
      · have c1 : wr.cell? ⟨bO, 0, none⟩ = some (.slice (some ⟨aO, 0, none⟩) G.n G.n) := HK.out.o.cell (i := 0) rfl
        have c9 := HK.out.ao.cell hlt
        have f9 := HK.out.ao.frozen k
        go_wp2
        go_roundg (G.n - (k + 1))
        case measure => omega
        case rel => exact ⟨k + 1, by omega, by go_num, HK.out.step⟩
      · obtain rfl : k = G.n := by omega
        have HK2 := hide HK.out
        clear HK
        obtain ⟨wo, rfl⟩ : ∃ wo, wo = wr := ⟨wr, rfl⟩
        go_wp2_with fail
        have HT := hide HK2.out.tm
        unfold clos' at HT
        generalize (((((wo.alloc (.cells (madeCells #[.bool false] G.n) 4)).alloc (.cells #[.slice (some ⟨wo.heap.size, 0, none⟩) G.n G.n] 30)).alloc (.cells #[.slice none 0 0] 25)).alloc (.cells #[.int .i64 0] 3)).alloc
          (.cells #[.func (.func 30) #[] #[.pointer (some ⟨wo.heap.size + 1 + 1 + 1, 0, none⟩), .pointer (some ⟨bO, 0, none⟩), .pointer (some ⟨bL, 0, none⟩), .pointer (some ⟨wo.heap.size + 1 + 1, 0, none⟩), .pointer (some ⟨wo.heap.size + 1, 0, none⟩), .pointer (some ⟨W.heap.size, 0, none⟩), .pointer (some ⟨wo.heap.size + 1 + 1 + 1 + 1, 0, none⟩), .pointer (some ⟨W.heap.size + 1 + 1, 0, none⟩), .pointer (some ⟨W.heap.size + 1, 0, none⟩)]] 37)) = w2 at HT ⊢
        clear HK2
        go_loopg [33] G.n (fun g i wr => ∃ (k : Nat) (SV ZV : Value), k + g = G.n ∧ i = .int .i64 (k : Int) ∧ TM (idsOf (wo.heap.size + 1 + 1 + 1) bO bL (wo.heap.size + 1 + 1) (wo.heap.size + 1) W.heap.size (wo.heap.size + 1 + 1 + 1 + 1) (W.heap.size + 1 + 1) (W.heap.size + 1) aO aL wo.heap.size aC) G.n ea W wr (visitAll G k) SV ZV)
        case atStart => exact ⟨0, _, _, by omega, rfl, HT.out⟩
        case round =>
          obtain ⟨k2, SV, ZV, hk2, rfl, hTk⟩ := hrel
          have HK := hide hTk
          clear HT hTk
          by_cases hlt2 : k2 < G.n
          · have c1 : wr.cell? ⟨bO, 0, none⟩ = some (.slice (some ⟨aO, 0, none⟩) G.n G.n) := Blk.cell (HK.out.po 1 (by decide)) rfl
            have c9 : wr.cell? ⟨aO, k2, none⟩ = some (.int .i64 ((visitAll G k2).order k2)) := World.rowIs.cell (HK.out.po 9 (by decide)) hlt2
            have HV := hide (visitAll_inv HE.out.ok k2 (by omega)).1
            by_cases ho : (visitAll G k2).order k2 = -1
            · have hb : ((visitAll G k2).order k2 == -1) = true := by simp [ho]
              have c6 : wr.cell? ⟨wo.heap.size + 1 + 1 + 1 + 1, 0, none⟩ = some (.func (.func 30) #[] #[.pointer (some ⟨wo.heap.size + 1 + 1 + 1, 0, none⟩), .pointer (some ⟨bO, 0, none⟩), .pointer (some ⟨bL, 0, none⟩), .pointer (some ⟨wo.heap.size + 1 + 1, 0, none⟩), .pointer (some ⟨wo.heap.size + 1, 0, none⟩), .pointer (some ⟨W.heap.size, 0, none⟩), .pointer (some ⟨wo.heap.size + 1 + 1 + 1 + 1, 0, none⟩), .pointer (some ⟨W.heap.size + 1 + 1, 0, none⟩), .pointer (some ⟨W.heap.size + 1, 0, none⟩)]) := Blk.cell (HK.out.po 6 (by decide)) rfl
              have HO := hide ho
              clear ho
              go_wp2_with fail
              refine (visit30 HE.out _ G.n k2 (visitAll G k2) [] wr SV ZV HV.out hlt2 HO.out (fun g hg => by cases hg) (by omega) HK.out).mono ?_
              rintro e w4 ⟨rfl, SV3, ZV3, hT3⟩
              have HT3 := hide hT3
              clear hT3 c1 c9 hb c6
              go_wp2
              go_roundg (G.n - (k2 + 1))
              case measure => omega
              case rel => exact ⟨k2 + 1, SV3, ZV3, by omega, by go_num, by rw [show visitAll G (k2 + 1) = visit G G.n k2 (visitAll G k2) from by rw [visitAll, if_pos HO.out]]; exact HT3.out⟩
            · have hb : ((visitAll G k2).order k2 == -1) = false := by simp [ho]
              have HO := hide ho
              clear ho
              go_wp2
              go_roundg (G.n - (k2 + 1))
              case measure => omega
              case rel => exact ⟨k2 + 1, SV, ZV, by omega, by go_num, by rw [show visitAll G (k2 + 1) = visitAll G k2 from by rw [visitAll, if_neg HO.out]]; exact HK.out⟩
          · obtain rfl : k2 = G.n := by omega
            have HK3 := hide HK.out
            clear HK
            obtain ⟨za, zc, hz⟩ := own_len HK3.out.zo
            subst hz
            have c8 : wr.cell? ⟨W.heap.size + 1, 0, none⟩ = some (.slice (some ⟨aC, 0, none⟩) G.n G.n) := Blk.cell (HK3.out.po 8 (by decide)) rfl
            have f8 : wr.frozen? ⟨W.heap.size + 1, 0, none⟩ = false := Blk.frozen (HK3.out.po 8 (by decide)) 0
            have c7 : wr.cell? ⟨W.heap.size + 1 + 1, 0, none⟩ = some (.slice za (visitAll G G.n).size.length zc) := Blk.cell (HK3.out.po 7 (by decide)) rfl
            have f7 : wr.frozen? ⟨W.heap.size + 1 + 1, 0, none⟩ = false := Blk.frozen (HK3.out.po 7 (by decide)) 0
            have n1 : W.heap.size + 1 ≠ W.heap.size + 1 + 1 := by omega
            have HK4 := hide (((HK3.out.set (visitAll G G.n) (k := 8) (i := 0) (v := .slice (some ⟨aC, 0, none⟩) G.n G.n) (by decide) (Blk.put (HK3.out.po 8 (by decide)) 0 _ _ rfl) (fun _ _ _ h => h) rfl rfl).set (visitAll G G.n) (k := 7) (i := 0) (v := .slice za (visitAll G G.n).size.length zc) (by decide)
              (Blk.put (Blk.setOther (HK3.out.po 7 (by decide)) (HK3.out.ne (i := 7) (j := 8) (by decide)) _) 0 _ _ rfl) (fun _ _ _ h => h) rfl rfl).later ((Ext.refl _).drew))
            go_wp2
            go_region
            go_wp2
            refine bodyPost_ret (v := .tuple #[.slice (some ⟨aC, 0, none⟩) G.n G.n, .slice za (visitAll G G.n).size.length zc]) ?_ rfl ?_
            · exact res2525 Try.results26 rfl rfl (Blk.cell (HK4.out.po 8 (by decide)) rfl) (Blk.cell (HK4.out.po 7 (by decide)) rfl)
            · exact HK4.out.compP
end Go.Proofs.Qxb6001235a
