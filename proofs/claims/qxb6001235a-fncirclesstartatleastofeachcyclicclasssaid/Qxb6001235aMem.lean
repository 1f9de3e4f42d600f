import Derived.Test.Qxb6001235aGuards
import Derived.WalkSmall
import Derived.Maps.AppendAt
/-! Seat b6001235a: the graph in memory; the memory of Tarjan's algorithm. -/
namespace Go.Proofs.Qxb6001235a
set_option linter.unusedVariables false
open Go.RowKit Go.Maps

/-- The graph in memory. -/
structure EdG (w : World) (ea : Option Addr) (eb : Nat) (G : Gr) (RA : Nat → Option Addr) (RB : Nat → Nat) : Prop where
  ok : G.ok
  small : G.n ≤ 65536
  len : ∀ i, i < G.n → (G.adj i).length ≤ 131072
  ea : 0 < G.n → ea = some ⟨eb, 0, none⟩
  outer : ∀ i, i < G.n → w.cell? ⟨eb, i, none⟩ = some (.slice (RA i) (G.adj i).length (G.adj i).length)
  ra : ∀ i, i < G.n → 0 < (G.adj i).length → RA i = some ⟨RB i, 0, none⟩
  inner : ∀ i, i < G.n → ∀ (j x : Nat), (G.adj i)[j]? = some x → w.cell? ⟨RB i, j, none⟩ = some (.int .i64 (x : Int))

theorem EdG.ext {w w' : World} {ea : Option Addr} {eb : Nat} {G : Gr} {RA : Nat → Option Addr} {RB : Nat → Nat} (h : EdG w ea eb G RA RB) (hx : Ext w w') : EdG w' ea eb G RA RB :=
  ⟨h.ok, h.small, h.len, h.ea, fun i hi => hx.cell (h.outer i hi), h.ra, fun i hi j x hj => hx.cell (h.inner i hi j x hj)⟩

def grOf (n : Nat) (L : Nat → Nat) (R : Nat → Nat → Int) : Gr := ⟨n, fun v => (List.range (L v)).map (fun j => (R v j).toNat)⟩

theorem Ed.graph {w : World} {ea : Option Addr} {eb n : Nat} {L : Nat → Nat} {R : Nat → Nat → Int} {RA : Nat → Option Addr} {RB : Nat → Nat} (h : Ed w ea eb n L R RA RB) (hn : n ≤ 65536) (hf : FitP n L) (hr : RangeP n L R) :
    EdG w ea eb (grOf n L R) RA RB := by
  have hl : ∀ i, ((grOf n L R).adj i).length = L i := fun i => by simp [grOf]
  have hx : ∀ i j x, ((grOf n L R).adj i)[j]? = some x → j < L i ∧ x = (R i j).toNat := by
    intro i j x hj
    have hlt := (List.getElem?_eq_some_iff.1 hj).1
    rw [hl] at hlt
    simp [grOf, List.getElem?_map, List.getElem?_range hlt] at hj
    exact ⟨hlt, hj.symm⟩
  refine ⟨?_, hn, fun i hi => by rw [hl]; exact hf.2 i hi, h.ea, fun i hi => by rw [hl]; exact h.outer i hi, fun i hi h0 => h.ra i hi (by rw [hl] at h0; exact h0), fun i hi j x hj => ?_⟩
  · intro v hv x hx'
    obtain ⟨j, hj⟩ := List.mem_iff_getElem?.1 hx'
    obtain ⟨h1, rfl⟩ := hx v j x hj
    have := hr v hv j h1
    show (R v j).toNat < n
    omega
  · obtain ⟨h1, rfl⟩ := hx i j x hj
    have := hr i hi j h1
    rw [h.inner i hi j h1, Int.toNat_of_nonneg this.1]

/-! ### The thirteen blocks of 'components' -/
def ptr (b : Nat) : Value := .pointer (some ⟨b, 0, none⟩)
def clos (I : Nat → Nat) : Value := .func (.func 30) #[] #[ptr (I 0), ptr (I 1), ptr (I 2), ptr (I 3), ptr (I 4), ptr (I 5), ptr (I 6), ptr (I 7), ptr (I 8)]

/-- What block k holds: next, order, low, stack, onStack, edges, visit, size, component; the four rows. -/
def PO (I : Nat → Nat) (n : Nat) (ea : Option Addr) (s : TS) (SV ZV : Value) (w : World) : Nat → Prop
  | 0 => Blk w (I 0) #[.int .i64 (s.next : Int)] 3
  | 1 => Blk w (I 1) #[.slice (some ⟨I 9, 0, none⟩) n n] 25
  | 2 => Blk w (I 2) #[.slice (some ⟨I 10, 0, none⟩) n n] 25
  | 3 => Blk w (I 3) #[SV] 25
  | 4 => Blk w (I 4) #[.slice (some ⟨I 11, 0, none⟩) n n] 30
  | 5 => Blk w (I 5) #[.slice ea n n] 22
  | 6 => Blk w (I 6) #[clos I] 37
  | 7 => Blk w (I 7) #[ZV] 25
  | 8 => Blk w (I 8) #[.slice (some ⟨I 12, 0, none⟩) n n] 25
  | 9 => w.rowIs (I 9) 3 n (fun i => .int .i64 (s.order i))
  | 10 => w.rowIs (I 10) 3 n (fun i => .int .i64 (s.low i))
  | 11 => w.rowIs (I 11) 4 n (fun i => .bool (s.ons i))
  | 12 => w.rowIs (I 12) 3 n (fun i => .int .i64 (s.comp i))
  | _ => True

theorem PO.of_block {I : Nat → Nat} {n : Nat} {ea : Option Addr} {s : TS} {SV ZV : Value} {w w' : World} {k : Nat} (h : PO I n ea s SV ZV w k) (e : w'.heap[I k]? = w.heap[I k]?) : PO I n ea s SV ZV w' k := by
  match k, h, e with
  | 0, h, e => exact Blk.of_block h e
  | 1, h, e => exact Blk.of_block h e
  | 2, h, e => exact Blk.of_block h e
  | 3, h, e => exact Blk.of_block h e
  | 4, h, e => exact Blk.of_block h e
  | 5, h, e => exact Blk.of_block h e
  | 6, h, e => exact Blk.of_block h e
  | 7, h, e => exact Blk.of_block h e
  | 8, h, e => exact Blk.of_block h e
  | 9, h, e => exact World.rowIs.of_block h e
  | 10, h, e => exact World.rowIs.of_block h e
  | 11, h, e => exact World.rowIs.of_block h e
  | 12, h, e => exact World.rowIs.of_block h e
  | _ + 13, _, _ => trivial

theorem PO.lt {I : Nat → Nat} {n : Nat} {ea : Option Addr} {s : TS} {SV ZV : Value} {w : World} {k : Nat} (hk : k < 13) (h : PO I n ea s SV ZV w k) : I k < w.heap.size := by
  match k, hk, h with
  | 0, _, h => exact Blk.lt h
  | 1, _, h => exact Blk.lt h
  | 2, _, h => exact Blk.lt h
  | 3, _, h => exact Blk.lt h
  | 4, _, h => exact Blk.lt h
  | 5, _, h => exact Blk.lt h
  | 6, _, h => exact Blk.lt h
  | 7, _, h => exact Blk.lt h
  | 8, _, h => exact Blk.lt h
  | 9, _, h => exact World.rowIs.lt h
  | 10, _, h => exact World.rowIs.lt h
  | 11, _, h => exact World.rowIs.lt h
  | 12, _, h => exact World.rowIs.lt h

def ints (l : List Nat) : List Value := l.map (fun (v : Nat) => Value.int .i64 (v : Int))

structure TM (I : Nat → Nat) (n : Nat) (ea : Option Addr) (W w : World) (s : TS) (SV ZV : Value) : Prop where
  ext : Ext W w
  inj : ∀ i j, i < 13 → j < 13 → I i = I j → i = j
  new : ∀ i, i < 13 → W.heap.size ≤ I i
  po : ∀ k, k < 13 → PO I n ea s SV ZV w k
  so : w.ownsRow W.heap.size 3 1 SV s.stk.length (ints s.stk.reverse)
  zo : w.ownsRow W.heap.size 3 1 ZV s.size.length (ints s.size)
  sne : ∀ k, k < 13 → SV.ownBlock ≠ some (I k)
  zne : ∀ k, k < 13 → ZV.ownBlock ≠ some (I k)
  sz : SV.ownBlock = none ∨ SV.ownBlock ≠ ZV.ownBlock

section
variable {I : Nat → Nat} {n : Nat} {ea : Option Addr} {W w : World} {s : TS} {SV ZV : Value}

theorem grown_set (w : World) (a : Addr) (v : Value) : w.grownBy (w.setCell a v) (some a.block) :=
  ⟨rfl, rfl, rfl, by simp [World.setCell], fun k _ hne => Below.heap_setCell _ _ _ _ (by intro e; exact hne (by rw [e]))⟩
theorem grown_drew (w : World) : w.grownBy w.drew none := ⟨rfl, rfl, rfl, Nat.le_refl _, fun _ _ _ => rfl⟩

/-- A store into block k, which turns s alone. -/
theorem TM.set (h : TM I n ea W w s SV ZV) {k i : Nat} {v : Value} (s' : TS) (hk : k < 13) (hp : PO I n ea s' SV ZV (w.setCell ⟨I k, i, none⟩ v) k)
    (ho : ∀ j, j < 13 → j ≠ k → PO I n ea s SV ZV w j → PO I n ea s' SV ZV w j) (e1 : s'.stk = s.stk) (e2 : s'.size = s.size) : TM I n ea W (w.setCell ⟨I k, i, none⟩ v) s' SV ZV := by
  refine ⟨Below.setCell h.ext (h.new k hk) _, h.inj, h.new, fun j hj => ?_, ?_, ?_, h.sne, h.zne, h.sz⟩
  · by_cases e : j = k
    · subst e; exact hp
    · exact (ho j hj e (h.po j hj)).of_block (Below.heap_setCell _ _ _ _ (fun e2 => e (h.inj j k hj hk e2)))
  · rw [e1]; exact h.so.kept (grown_set _ _ _) (.inr (h.sne k hk))
  · rw [e2]; exact h.zo.kept (grown_set _ _ _) (.inr (h.zne k hk))

theorem TM.setNext (h : TM I n ea W w s SV ZV) (x : Nat) : TM I n ea W (w.setCell ⟨I 0, 0, none⟩ (.int .i64 (x : Int))) { s with next := x } SV ZV := by
  refine h.set _ (by decide) (Blk.put (h.po 0 (by decide)) 0 _ _ rfl) (fun j hj hne hp => ?_) rfl rfl
  match j, hj, hne, hp with
  | 1, _, _, hp => exact hp
  | 2, _, _, hp => exact hp
  | 3, _, _, hp => exact hp
  | 4, _, _, hp => exact hp
  | 5, _, _, hp => exact hp
  | 6, _, _, hp => exact hp
  | 7, _, _, hp => exact hp
  | 8, _, _, hp => exact hp
  | 9, _, _, hp => exact hp
  | 10, _, _, hp => exact hp
  | 11, _, _, hp => exact hp
  | 12, _, _, hp => exact hp

theorem TM.setOrder (h : TM I n ea W w s SV ZV) (v : Nat) (x : Int) : TM I n ea W (w.setCell ⟨I 9, v, none⟩ (.int .i64 x)) { s with order := upd s.order v x } SV ZV := by
  refine h.set _ (by decide) ?_ (fun j hj hne hp => ?_) rfl rfl
  · exact World.rowIs.congr (World.rowIs.set (h.po 9 (by decide)) v _) (fun i hi => by show _ = Value.int .i64 (upd s.order v x i); unfold upd; split <;> rfl)
  match j, hj, hne, hp with
  | 0, _, _, hp => exact hp
  | 1, _, _, hp => exact hp
  | 2, _, _, hp => exact hp
  | 3, _, _, hp => exact hp
  | 4, _, _, hp => exact hp
  | 5, _, _, hp => exact hp
  | 6, _, _, hp => exact hp
  | 7, _, _, hp => exact hp
  | 8, _, _, hp => exact hp
  | 10, _, _, hp => exact hp
  | 11, _, _, hp => exact hp
  | 12, _, _, hp => exact hp
theorem TM.setLow (h : TM I n ea W w s SV ZV) (v : Nat) (x : Int) : TM I n ea W (w.setCell ⟨I 10, v, none⟩ (.int .i64 x)) { s with low := upd s.low v x } SV ZV := by
  refine h.set _ (by decide) ?_ (fun j hj hne hp => ?_) rfl rfl
  · exact World.rowIs.congr (World.rowIs.set (h.po 10 (by decide)) v _) (fun i hi => by show _ = Value.int .i64 (upd s.low v x i); unfold upd; split <;> rfl)
  match j, hj, hne, hp with
  | 0, _, _, hp => exact hp
  | 1, _, _, hp => exact hp
  | 2, _, _, hp => exact hp
  | 3, _, _, hp => exact hp
  | 4, _, _, hp => exact hp
  | 5, _, _, hp => exact hp
  | 6, _, _, hp => exact hp
  | 7, _, _, hp => exact hp
  | 8, _, _, hp => exact hp
  | 9, _, _, hp => exact hp
  | 11, _, _, hp => exact hp
  | 12, _, _, hp => exact hp
theorem TM.setOns (h : TM I n ea W w s SV ZV) (v : Nat) (x : Bool) : TM I n ea W (w.setCell ⟨I 11, v, none⟩ (.bool x)) { s with ons := upd s.ons v x } SV ZV := by
  refine h.set _ (by decide) ?_ (fun j hj hne hp => ?_) rfl rfl
  · exact World.rowIs.congr (World.rowIs.set (h.po 11 (by decide)) v _) (fun i hi => by show _ = Value.bool (upd s.ons v x i); unfold upd; split <;> rfl)
  match j, hj, hne, hp with
  | 0, _, _, hp => exact hp
  | 1, _, _, hp => exact hp
  | 2, _, _, hp => exact hp
  | 3, _, _, hp => exact hp
  | 4, _, _, hp => exact hp
  | 5, _, _, hp => exact hp
  | 6, _, _, hp => exact hp
  | 7, _, _, hp => exact hp
  | 8, _, _, hp => exact hp
  | 9, _, _, hp => exact hp
  | 10, _, _, hp => exact hp
  | 12, _, _, hp => exact hp
theorem TM.setComp (h : TM I n ea W w s SV ZV) (v : Nat) (x : Int) : TM I n ea W (w.setCell ⟨I 12, v, none⟩ (.int .i64 x)) { s with comp := upd s.comp v x } SV ZV := by
  refine h.set _ (by decide) ?_ (fun j hj hne hp => ?_) rfl rfl
  · exact World.rowIs.congr (World.rowIs.set (h.po 12 (by decide)) v _) (fun i hi => by show _ = Value.int .i64 (upd s.comp v x i); unfold upd; split <;> rfl)
  match j, hj, hne, hp with
  | 0, _, _, hp => exact hp
  | 1, _, _, hp => exact hp
  | 2, _, _, hp => exact hp
  | 3, _, _, hp => exact hp
  | 4, _, _, hp => exact hp
  | 5, _, _, hp => exact hp
  | 6, _, _, hp => exact hp
  | 7, _, _, hp => exact hp
  | 8, _, _, hp => exact hp
  | 9, _, _, hp => exact hp
  | 10, _, _, hp => exact hp
  | 11, _, _, hp => exact hp
  | 12, _, hne, _ => exact absurd rfl hne

/-- A world that keeps every block. -/
theorem TM.later {w' : World} (h : TM I n ea W w s SV ZV) (hx : Ext w w') : TM I n ea W w' s SV ZV :=
  ⟨h.ext.trans hx, h.inj, h.new, fun k hk => (h.po k hk).of_block (hx.block _ (PO.lt hk (h.po k hk))),
    h.so.kept (row := none) ⟨hx.os, hx.tape, hx.output, hx.size, fun k hk _ => hx.block k hk⟩ (by cases SV.ownBlock <;> simp),
    h.zo.kept (row := none) ⟨hx.os, hx.tape, hx.output, hx.size, fun k hk _ => hx.block k hk⟩ (by cases ZV.ownBlock <;> simp), h.sne, h.zne, h.sz⟩

theorem ints_append (a b : List Nat) : ints (a ++ b) = ints a ++ ints b := List.map_append

theorem TM.row_ge (h : TM I n ea W w s SV ZV) : ∀ k, SV.ownBlock = some k → W.heap.size ≤ k := fun k hk => (h.so.lt k hk).1
theorem TM.zrow_ge (h : TM I n ea W w s SV ZV) : ∀ k, ZV.ownBlock = some k → W.heap.size ≤ k := fun k hk => (h.zo.lt k hk).1

/-- Behind 'stack = append(stack, v)'. -/
theorem TM.push {w2 : World} {SV' : Value} {v : Nat} (h : TM I n ea W w s SV ZV) (hg : w.grownBy w2 SV.ownBlock) (hown : w2.ownsRow W.heap.size 3 1 SV' (s.stk.length + 1) (ints s.stk.reverse ++ [.int .i64 (v : Int)]))
    (hat : SV'.ownBlock = SV.ownBlock ∨ SV'.ownBlock = some w.heap.size) : TM I n ea W (w2.setCell ⟨I 3, 0, none⟩ SV') { s with stk := v :: s.stk } SV' ZV := by
  have hx2 : Ext W w2 := Below.grown h.ext hg h.ext.size h.row_ge
  have hS : ∀ k, k < 13 → SV'.ownBlock ≠ some (I k) := by
    intro k hk e
    rcases hat with h1 | h1
    · exact h.sne k hk (h1 ▸ e)
    · rw [h1] at e
      have := PO.lt hk (h.po k hk)
      simp at e
      omega
  have keep : ∀ k, k < 13 → PO I n ea s SV ZV w2 k := fun k hk => (h.po k hk).of_block (hg.block _ (PO.lt hk (h.po k hk)) (fun e => h.sne k hk e.symm))
  refine ⟨Below.setCell hx2 (h.new 3 (by decide)) _, h.inj, h.new, fun j hj => ?_, ?_, ?_, hS, h.zne, ?_⟩
  · by_cases e : j = 3
    · subst e
      exact Blk.put (keep 3 hj) 0 _ _ rfl
    · have := (keep j hj).of_block (w' := w2.setCell ⟨I 3, 0, none⟩ SV') (Below.heap_setCell _ _ _ _ (fun e2 => e (h.inj j 3 hj (by decide) e2)))
      match j, hj, e, this with
      | 0, _, _, hp => exact hp
      | 1, _, _, hp => exact hp
      | 2, _, _, hp => exact hp
      | 4, _, _, hp => exact hp
      | 5, _, _, hp => exact hp
      | 6, _, _, hp => exact hp
      | 7, _, _, hp => exact hp
      | 8, _, _, hp => exact hp
      | 9, _, _, hp => exact hp
      | 10, _, _, hp => exact hp
      | 11, _, _, hp => exact hp
      | 12, _, _, hp => exact hp
  · have := hown.kept (grown_set w2 ⟨I 3, 0, none⟩ SV') (.inr (hS 3 (by decide)))
    simpa [ints] using this
  · have hz : w2.ownsRow W.heap.size 3 1 ZV s.size.length (ints s.size) := h.zo.kept hg (by
      rcases h.sz with e | e
      · rw [e]; cases ZV.ownBlock <;> simp
      · exact .inr (fun e2 => e e2.symm))
    exact hz.kept (grown_set w2 ⟨I 3, 0, none⟩ SV') (.inr (h.zne 3 (by decide)))
  · rcases hat with h1 | h1
    · rw [h1]; exact h.sz
    · right
      rw [h1]
      intro e
      have := (h.zo.lt _ e.symm).2
      omega

/-- Behind 'size = append(size, x)'. -/
theorem TM.zpush {w2 : World} {ZV' : Value} {x : Nat} (h : TM I n ea W w s SV ZV) (hg : w.grownBy w2 ZV.ownBlock) (hown : w2.ownsRow W.heap.size 3 1 ZV' (s.size.length + 1) (ints s.size ++ [.int .i64 (x : Int)]))
    (hat : ZV'.ownBlock = ZV.ownBlock ∨ ZV'.ownBlock = some w.heap.size) : TM I n ea W (w2.setCell ⟨I 7, 0, none⟩ ZV') { s with size := s.size ++ [x] } SV ZV' := by
  have hx2 : Ext W w2 := Below.grown h.ext hg h.ext.size h.zrow_ge
  have hZ : ∀ k, k < 13 → ZV'.ownBlock ≠ some (I k) := by
    intro k hk e
    rcases hat with h1 | h1
    · exact h.zne k hk (h1 ▸ e)
    · rw [h1] at e
      have := PO.lt hk (h.po k hk)
      simp at e
      omega
  have keep : ∀ k, k < 13 → PO I n ea s SV ZV w2 k := fun k hk => (h.po k hk).of_block (hg.block _ (PO.lt hk (h.po k hk)) (fun e => h.zne k hk e.symm))
  refine ⟨Below.setCell hx2 (h.new 7 (by decide)) _, h.inj, h.new, fun j hj => ?_, ?_, ?_, h.sne, hZ, ?_⟩
  · by_cases e : j = 7
    · subst e
      exact Blk.put (keep 7 hj) 0 _ _ rfl
    · have := (keep j hj).of_block (w' := w2.setCell ⟨I 7, 0, none⟩ ZV') (Below.heap_setCell _ _ _ _ (fun e2 => e (h.inj j 7 hj (by decide) e2)))
      match j, hj, e, this with
      | 0, _, _, hp => exact hp
      | 1, _, _, hp => exact hp
      | 2, _, _, hp => exact hp
      | 3, _, _, hp => exact hp
      | 4, _, _, hp => exact hp
      | 5, _, _, hp => exact hp
      | 6, _, _, hp => exact hp
      | 8, _, _, hp => exact hp
      | 9, _, _, hp => exact hp
      | 10, _, _, hp => exact hp
      | 11, _, _, hp => exact hp
      | 12, _, _, hp => exact hp
  · have hs : w2.ownsRow W.heap.size 3 1 SV s.stk.length (ints s.stk.reverse) := h.so.kept hg h.sz
    exact hs.kept (grown_set w2 ⟨I 7, 0, none⟩ ZV') (.inr (h.sne 7 (by decide)))
  · have := hown.kept (grown_set w2 ⟨I 7, 0, none⟩ ZV') (.inr (hZ 7 (by decide)))
    simpa [ints] using this
  · rcases h.sz with e | e
    · exact .inl e
    · rcases hat with h1 | h1
      · right; rw [h1]; exact e
      · right
        rw [h1]
        intro e2
        have := (h.so.lt _ e2).2
        omega

/-- Behind 'stack = stack[:len(stack)-1]'. -/
theorem TM.pop {g cap v : Nat} {r : List Nat} (h : TM I n ea W w s (.slice (some ⟨g, 0, none⟩) (r.length + 1) cap) ZV) (hs : s.stk = v :: r) :
    TM I n ea W (w.setCell ⟨I 3, 0, none⟩ (.slice (some ⟨g, 0, none⟩) r.length cap)) { s with stk := r } (.slice (some ⟨g, 0, none⟩) r.length cap) ZV := by
  refine ⟨Below.setCell h.ext (h.new 3 (by decide)) _, h.inj, h.new, fun j hj => ?_, ?_, ?_, h.sne, h.zne, h.sz⟩
  · by_cases e : j = 3
    · subst e
      exact Blk.put (h.po 3 hj) 0 _ _ rfl
    · have := (h.po j hj).of_block (w' := w.setCell ⟨I 3, 0, none⟩ (.slice (some ⟨g, 0, none⟩) r.length cap)) (Below.heap_setCell _ _ _ _ (fun e2 => e (h.inj j 3 hj (by decide) e2)))
      match j, hj, e, this with
      | 0, _, _, hp => exact hp
      | 1, _, _, hp => exact hp
      | 2, _, _, hp => exact hp
      | 4, _, _, hp => exact hp
      | 5, _, _, hp => exact hp
      | 6, _, _, hp => exact hp
      | 7, _, _, hp => exact hp
      | 8, _, _, hp => exact hp
      | 9, _, _, hp => exact hp
      | 10, _, _, hp => exact hp
      | 11, _, _, hp => exact hp
      | 12, _, _, hp => exact hp
  · have h1 := h.so
    rw [hs] at h1
    have h2 := ownsRow_pop (size := 1) (n := r.length) (xs := ints r.reverse) (last := [.int .i64 (v : Int)]) (by simp [ints]) (by simpa [ints] using h1)
    have := h2.kept (grown_set w ⟨I 3, 0, none⟩ (.slice (some ⟨g, 0, none⟩) r.length cap)) (.inr (h.sne 3 (by decide)))
    exact this
  · exact h.zo.kept (grown_set _ _ _) (.inr (h.zne 3 (by decide)))

/-- Behind 'size[id]++', id the last. -/
theorem TM.zset {g cap x y : Nat} {l : List Nat} (h : TM I n ea W w s SV (.slice (some ⟨g, 0, none⟩) (l.length + 1) cap)) (hs : s.size = l ++ [x]) :
    TM I n ea W (w.setCell ⟨g, l.length, none⟩ (.int .i64 (y : Int))) { s with size := l ++ [y] } SV (.slice (some ⟨g, 0, none⟩) (l.length + 1) cap) := by
  have hne : ∀ k, k < 13 → g ≠ I k := fun k hk e => h.zne k hk (by rw [← e]; rfl)
  have hge : W.heap.size ≤ g := h.zrow_ge g rfl
  refine ⟨Below.setCell h.ext hge _, h.inj, h.new, fun j hj => ?_, ?_, ?_, h.sne, h.zne, h.sz⟩
  · have := (h.po j hj).of_block (w' := w.setCell ⟨g, l.length, none⟩ (.int .i64 (y : Int))) (Below.heap_setCell _ _ _ _ (fun e2 => hne j hj e2.symm))
    match j, hj, this with
    | 0, _, hp => exact hp
    | 1, _, hp => exact hp
    | 2, _, hp => exact hp
    | 3, _, hp => exact hp
    | 4, _, hp => exact hp
    | 5, _, hp => exact hp
    | 6, _, hp => exact hp
    | 7, _, hp => exact hp
    | 8, _, hp => exact hp
    | 9, _, hp => exact hp
    | 10, _, hp => exact hp
    | 11, _, hp => exact hp
    | 12, _, hp => exact hp
  · exact h.so.kept (grown_set _ _ _) (h.sz)
  · have h1 := h.zo
    rw [hs] at h1
    obtain ⟨_, h2⟩ := h1
    rcases h2 with ⟨h0, _⟩ | ⟨g', cap', cur, hv, hg, hh, hn, hcap, hsz, htake⟩
    · cases h0
    · have hgg : g' = g ∧ cap' = cap := by simp at hv; exact ⟨hv.1.symm, hv.2.symm⟩
      obtain ⟨rfl, rfl⟩ := hgg
      refine ⟨by simp [ints], .inr ⟨g', cap', cur.setIfInBounds l.length (.int .i64 (y : Int)), by simp, hg, ?_, by simpa using hn, hcap, by simpa using hsz, ?_⟩⟩
      · simp [World.setCell, Array.getElem?_modify, hh]
      · have hl : l.length < cur.size := by simp at hn; omega
        rw [Array.toList_setIfInBounds]
        have e1 : (l ++ [y]).length * 1 = l.length + 1 := by simp
        have e2 : (l ++ [x]).length * 1 = l.length + 1 := by simp
        rw [e1]
        rw [e2] at htake
        apply List.ext_getElem?
        intro j
        have hj := congrArg (fun z => z[j]?) htake
        simp only [List.getElem?_take] at hj ⊢
        by_cases c : j < l.length + 1
        · rw [if_pos c] at hj ⊢
          rw [List.getElem?_set]
          by_cases c2 : l.length = j
          · subst c2
            simp [ints, hl]
          · rw [if_neg c2, hj]
            have : j < l.length := by omega
            simp [ints, List.getElem?_append, this]
        · rw [if_neg c] at hj ⊢
          simp [ints]
          omega
end

theorem one_new (w : World) (x : Value) (t : TypeId) {m : Nat} (hm : m = w.heap.size) : ∀ j u, [x][j]? = some u → (w.alloc (.cells #[x] t)).cell? ((⟨m, 0, none⟩ : Addr).add j) = some u := by
  subst hm
  exact cell_one_new w x t
theorem take_snoc {l : List Nat} {k x : Nat} (h : l[k]? = some x) : l.take k ++ [x] = l.take (k + 1) := by
  obtain ⟨h1, h2⟩ := List.getElem?_eq_some_iff.1 h
  rw [List.take_succ_eq_append_getElem h1, h2]
theorem drop_step {l : List Nat} {k x : Nat} (h : l[k]? = some x) : l.drop k = x :: l.drop (k + 1) := by
  obtain ⟨h1, h2⟩ := List.getElem?_eq_some_iff.1 h
  rw [List.drop_eq_getElem_cons h1, h2]

theorem own_frozen {w : World} {base n g c m i : Nat} {e : TypeId} {size : Nat} {xs : List Value} (h : w.ownsRow base e size (.slice (some ⟨g, 0, none⟩) m c) n xs) : w.frozen? ⟨g, i, none⟩ = false := by
  rcases h.2 with ⟨h1, h2⟩ | ⟨g', cap, cur, h1, _, hg, _⟩
  · cases h1
  · have : g = g' := by simp at h1; exact h1.1
    subst this
    simp [World.frozen?, hg]
theorem own_cap {w : World} {base n g c m : Nat} {e : TypeId} {size : Nat} {xs : List Value} (h : w.ownsRow base e size (.slice (some ⟨g, 0, none⟩) m c) n xs) : m ≤ c ∧ c ≤ 9223372036854775807 := by
  rcases h.2 with ⟨h1, h2⟩ | ⟨g', cap, cur, h1, _, _, h2, h3, _⟩
  · cases h1
  · simp at h1
    obtain ⟨_, rfl, rfl⟩ := h1
    unfold maxLen at h3
    exact ⟨h2, h3⟩
theorem own_len {w : World} {base n : Nat} {e : TypeId} {size : Nat} {v : Value} {xs : List Value} (h : w.ownsRow base e size v n xs) : ∃ a c, v = .slice a n c := by
  rcases h.2 with ⟨h1, h2⟩ | ⟨g, cap, cur, h1, _⟩
  · exact ⟨none, 0, by rw [h1, h2]⟩
  · exact ⟨_, _, h1⟩
theorem TM.ne {I : Nat → Nat} {n : Nat} {ea : Option Addr} {W w : World} {s : TS} {SV ZV : Value} (h : TM I n ea W w s SV ZV) {i j : Nat} (hij : i < 13 ∧ j < 13 ∧ i ≠ j) : I i ≠ I j := fun e => hij.2.2 (h.inj i j hij.1 hij.2.1 e)
end Go.Proofs.Qxb6001235a
