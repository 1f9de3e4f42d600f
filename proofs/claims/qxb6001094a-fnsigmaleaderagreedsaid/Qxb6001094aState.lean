import Derived.Test.Qxb6001094aNumbers
import Derived.Test.Qxb6001094aPlain
/-! Seat b6001094a: the memory of '(*sigmaJudge).conclude' while its loop runs. -/
namespace Go.Proofs.Qxb6001094a
set_option linter.unusedVariables false
open Go.RowKit Go.Maps

/-- Block b is a row of cells, none frozen. -/
def Blk (w : World) (b : Nat) (cs : Array Value) (t : TypeId) : Prop := w.heap[b]? = some (.cells cs t (0, 0))

theorem Blk.lt {w : World} {b : Nat} {cs : Array Value} {t : TypeId} (h : Blk w b cs t) : b < w.heap.size := (Array.getElem?_eq_some_iff.1 h).1
theorem Blk.cell {w : World} {b : Nat} {cs : Array Value} {t : TypeId} (h : Blk w b cs t) {i : Nat} {v : Value} (hv : cs[i]? = some v) : w.cell? ⟨b, i, none⟩ = some v := by
  unfold Blk at h
  simp [World.cell?, h, hv]
theorem Blk.frozen {w : World} {b : Nat} {cs : Array Value} {t : TypeId} (h : Blk w b cs t) (i : Nat) : w.frozen? ⟨b, i, none⟩ = false := by
  unfold Blk at h
  simp [World.frozen?, h]
theorem Blk.of_block {w w' : World} {b : Nat} {cs : Array Value} {t : TypeId} (h : Blk w b cs t) (e : w'.heap[b]? = w.heap[b]?) : Blk w' b cs t := e.trans h
theorem Blk.ext {w w' : World} {b : Nat} {cs : Array Value} {t : TypeId} (h : Blk w b cs t) (hx : Ext w w') : Blk w' b cs t := h.of_block (hx.block b h.lt)
theorem Blk.set {w : World} {b : Nat} {cs : Array Value} {t : TypeId} (h : Blk w b cs t) (i : Nat) (v : Value) : Blk (w.setCell ⟨b, i, none⟩ v) b (cs.setIfInBounds i v) t := by
  unfold Blk at h ⊢
  simp [World.setCell, Array.getElem?_modify, h]
theorem Blk.setOther {w : World} {b : Nat} {cs : Array Value} {t : TypeId} (h : Blk w b cs t) {a : Addr} (ha : b ≠ a.block) (v : Value) : Blk (w.setCell a v) b cs t := h.of_block (Below.heap_setCell _ _ _ _ ha)
theorem Blk.grown {w w' : World} {b : Nat} {cs : Array Value} {t : TypeId} {row : Option Nat} (h : Blk w b cs t) (hg : w.grownBy w' row) (hne : some b ≠ row) : Blk w' b cs t := h.of_block (hg.block b h.lt hne)
theorem Blk.ne {w : World} {b b' : Nat} {cs cs' : Array Value} {t t' : TypeId} (h : Blk w b cs t) (h' : Blk w b' cs' t') (hne : t ≠ t') : b ≠ b' := by
  intro e
  subst e
  unfold Blk at h h'
  rw [h] at h'
  simp at h'
  exact hne h'.2

theorem Blk.put {w : World} {b : Nat} {cs : Array Value} {t : TypeId} (h : Blk w b cs t) (i : Nat) (v : Value) (cs' : Array Value) (e : cs.setIfInBounds i v = cs') : Blk (w.setCell ⟨b, i, none⟩ v) b cs' t := e ▸ h.set i v
theorem Blk.drew {w : World} {b : Nat} {cs : Array Value} {t : TypeId} (h : Blk w b cs t) : Blk w.drew b cs t := h

def wrote5 (w : World) (B : Nat) (a0 a1 a2 a3 a4 : Value) : World := ((((w.setCell ⟨B, 0, none⟩ a0).setCell ⟨B, 1, none⟩ a1).setCell ⟨B, 2, none⟩ a2).setCell ⟨B, 3, none⟩ a3).setCell ⟨B, 4, none⟩ a4
def wrote3 (w : World) (B : Nat) (c0 c1 c2 : Value) : World := ((w.setCell ⟨B, 0, none⟩ c0).setCell ⟨B, 1, none⟩ c1).setCell ⟨B, 2, none⟩ c2

theorem wrote5_blk {w : World} {B : Nat} {v0 v1 v2 v3 v4 a0 a1 a2 a3 a4 : Value} (k1 : Blk w B #[v0, v1, v2, v3, v4] 58) : Blk (wrote5 w B a0 a1 a2 a3 a4) B #[a0, a1, a2, a3, a4] 58 := by
  have s0 := k1.put 0 a0 #[a0, v1, v2, v3, v4] rfl
  have s1 := s0.put 1 a1 #[a0, a1, v2, v3, v4] rfl
  have s2 := s1.put 2 a2 #[a0, a1, a2, v3, v4] rfl
  have s3 := s2.put 3 a3 #[a0, a1, a2, a3, v4] rfl
  exact s3.put 4 a4 #[a0, a1, a2, a3, a4] rfl
theorem wrote3_blk {w : World} {B : Nat} {v0 v1 v2 a0 a1 a2 : Value} (k1 : Blk w B #[v0, v1, v2] 60) : Blk (wrote3 w B a0 a1 a2) B #[a0, a1, a2] 60 := by
  have s0 := k1.put 0 a0 #[a0, v1, v2] rfl
  have s1 := s0.put 1 a1 #[a0, a1, v2] rfl
  exact s1.put 2 a2 #[a0, a1, a2] rfl
theorem wrote5_other {w : World} {B k : Nat} {a0 a1 a2 a3 a4 : Value} (h : k ≠ B) : (wrote5 w B a0 a1 a2 a3 a4).heap[k]? = w.heap[k]? := by
  unfold wrote5
  rw [Below.heap_setCell _ _ _ _ h, Below.heap_setCell _ _ _ _ h, Below.heap_setCell _ _ _ _ h, Below.heap_setCell _ _ _ _ h, Below.heap_setCell _ _ _ _ h]
theorem wrote3_other {w : World} {B k : Nat} {a0 a1 a2 : Value} (h : k ≠ B) : (wrote3 w B a0 a1 a2).heap[k]? = w.heap[k]? := by
  unfold wrote3
  rw [Below.heap_setCell _ _ _ _ h, Below.heap_setCell _ _ _ _ h, Below.heap_setCell _ _ _ _ h]
theorem wrote5_size {w : World} {B : Nat} {a0 a1 a2 a3 a4 : Value} : (wrote5 w B a0 a1 a2 a3 a4).heap.size = w.heap.size := by simp [wrote5, World.setCell]
theorem wrote3_size {w : World} {B : Nat} {a0 a1 a2 : Value} : (wrote3 w B a0 a1 a2).heap.size = w.heap.size := by simp [wrote3, World.setCell]

section
variable {w : World} {B B' k : Nat} {a0 a1 a2 a3 a4 c0 c1 c2 : Value}
/-- The world behind the stores of the two results. -/
def wroteAll (w : World) (B B' : Nat) (a0 a1 a2 a3 a4 c0 c1 c2 : Value) : World := (wrote3 (wrote5 w B a0 a1 a2 a3 a4) B' c0 c1 c2).drew
theorem set_os (w : World) (a : Addr) (v : Value) : (w.setCell a v).os = w.os := rfl
theorem set_tape (w : World) (a : Addr) (v : Value) : (w.setCell a v).tape = w.tape := rfl
theorem set_output (w : World) (a : Addr) (v : Value) : (w.setCell a v).output = w.output := rfl
theorem drew_os (w : World) : w.drew.os = w.os := rfl
theorem drew_tape (w : World) : w.drew.tape = w.tape := rfl
theorem drew_output (w : World) : w.drew.output = w.output := rfl
theorem wroteAll_os : (wroteAll w B B' a0 a1 a2 a3 a4 c0 c1 c2).os = w.os := by simp only [wroteAll, wrote3, wrote5, drew_os, set_os]
theorem wroteAll_tape : (wroteAll w B B' a0 a1 a2 a3 a4 c0 c1 c2).tape = w.tape := by simp only [wroteAll, wrote3, wrote5, drew_tape, set_tape]
theorem wroteAll_output : (wroteAll w B B' a0 a1 a2 a3 a4 c0 c1 c2).output = w.output := by simp only [wroteAll, wrote3, wrote5, drew_output, set_output]
theorem drew_heap (w : World) : w.drew.heap = w.heap := rfl
theorem wroteAll_size : w.heap.size ≤ (wroteAll w B B' a0 a1 a2 a3 a4 c0 c1 c2).heap.size := by
  unfold wroteAll
  rw [drew_heap, wrote3_size, wrote5_size]
  exact Nat.le_refl _
theorem wroteAll_other (h1 : k ≠ B) (h2 : k ≠ B') : (wroteAll w B B' a0 a1 a2 a3 a4 c0 c1 c2).heap[k]? = w.heap[k]? := by
  unfold wroteAll
  rw [drew_heap, wrote3_other h2, wrote5_other h1]
theorem wroteAll_1 {v0 v1 v2 v3 v4 : Value} (hne : B ≠ B') (k1 : Blk w B #[v0, v1, v2, v3, v4] 58) : Blk (wroteAll w B B' a0 a1 a2 a3 a4 c0 c1 c2) B #[a0, a1, a2, a3, a4] 58 := by
  unfold wroteAll
  exact ((wrote5_blk k1).of_block (wrote3_other hne)).drew
theorem wroteAll_2 {v0 v1 v2 : Value} (hne : B ≠ B') (k1 : Blk w B' #[v0, v1, v2] 60) : Blk (wroteAll w B B' a0 a1 a2 a3 a4 c0 c1 c2) B' #[c0, c1, c2] 60 := by
  unfold wroteAll
  exact (wrote3_blk (k1.of_block (wrote5_other hne.symm))).drew
end

/-- The cells of one output. -/
def outCell (p : Prm) (RB P : Nat → Nat) (i : Nat) : List Value := [.int .i64 (p.f i), rowV (p.nil i) (RB i) (p.L i), .pointer (if p.nil i then none else some ⟨P i, 0, none⟩)]
def outCells (p : Prm) (RB P : Nat → Nat) (os : List Nat) : List Value := os.flatMap (outCell p RB P)

structure CS (p : Prm) (RB : Nat → Nat) (W w : World) (bo bv bl bf : Nat) (cm : Bool) (ld fr : Int) (os : List Nat) (P : Nat → Nat) (LO : Value) : Prop where
  ext : Ext W w
  out : Blk w bo #[.string ⟨#[]⟩, .int .i64 0, .pointer none, .pointer none, LO] 58
  ver : Blk w bv #[.bool true, .bool cm, .bool false] 60
  lea : Blk w bl #[.int .i64 ld] 3
  fro : Blk w bf #[.int .i64 fr] 3
  own : w.ownsRow W.heap.size 64 3 LO os.length (outCells p RB P os)
  non : LO ≠ .slice none 0 0
  ptr : ∀ i ∈ os, p.nil i = false → Blk w (P i) #[.int .i64 (p.dl i)] 3 ∧ P i ≠ bl ∧ P i ≠ bf
  new : W.heap.size ≤ bo ∧ W.heap.size ≤ bv ∧ W.heap.size ≤ bl ∧ W.heap.size ≤ bf ∧ bl ≠ bf
  res1 : Blk w W.heap.size #[.string ⟨#[]⟩, .int .i64 0, .pointer none, .pointer none, .slice none 0 0] 58
  res2 : Blk w (W.heap.size + 1) #[.bool false, .bool false, .bool false] 60
  ne : W.heap.size ≠ bo ∧ W.heap.size + 1 ≠ bv

section
variable {p : Prm} {RB : Nat → Nat} {W w : World} {bo bv bl bf : Nat} {cm : Bool} {ld fr : Int} {os : List Nat} {P : Nat → Nat} {LO : Value}

theorem CS.own_ext {w' : World} (h : w.ownsRow W.heap.size 64 3 LO os.length (outCells p RB P os)) (hx : Ext w w') : w'.ownsRow W.heap.size 64 3 LO os.length (outCells p RB P os) :=
  h.kept (row := none) ⟨hx.os, hx.tape, hx.output, hx.size, fun k hk _ => hx.block k hk⟩ (by cases LO.ownBlock <;> simp)

theorem CS.later {w' : World} (h : CS p RB W w bo bv bl bf cm ld fr os P LO) (hx : Ext w w') : CS p RB W w' bo bv bl bf cm ld fr os P LO :=
  ⟨h.ext.trans hx, h.out.ext hx, h.ver.ext hx, h.lea.ext hx, h.fro.ext hx, CS.own_ext h.own hx, h.non, fun i hi hn => ⟨(h.ptr i hi hn).1.ext hx, (h.ptr i hi hn).2⟩, h.new, h.res1.ext hx, h.res2.ext hx, h.ne⟩

/-- The row of the outputs is none of the other blocks. -/
theorem CS.row_ne (h : CS p RB W w bo bv bl bf cm ld fr os P LO) {b : Nat} {cs : Array Value} {t : TypeId} (hb : Blk w b cs t) (ht : t ≠ 64) : LO.ownBlock ≠ some b := by
  intro e
  rcases h.own.2 with ⟨h1, _⟩ | ⟨g, cap, cur, h1, _, hg, _⟩
  · exact h.non h1
  · rw [h1] at e
    simp [Value.ownBlock] at e
    subst e
    exact hb.ne hg ht rfl

theorem CS.own_set {b i : Nat} {cs : Array Value} {t : TypeId} (h : CS p RB W w bo bv bl bf cm ld fr os P LO) (hb : Blk w b cs t) (ht : t ≠ 64) (v : Value) :
    (w.setCell ⟨b, i, none⟩ v).ownsRow W.heap.size 64 3 LO os.length (outCells p RB P os) :=
  h.own.kept (row := some b) ⟨rfl, rfl, rfl, by simp [World.setCell], fun k hk hne => Below.heap_setCell _ _ _ _ (by intro e; exact hne (by rw [e]))⟩ (.inr (h.row_ne hb ht))

theorem CS.setV (h : CS p RB W w bo bv bl bf cm ld fr os P LO) (b : Bool) : CS p RB W (w.setCell ⟨bv, 1, none⟩ (.bool b)) bo bv bl bf b ld fr os P LO := by
  refine ⟨Below.setCell h.ext h.new.2.1 _, h.out.setOther (h.out.ne h.ver (by decide)) _, ?_, h.lea.setOther (h.lea.ne h.ver (by decide)) _, h.fro.setOther (h.fro.ne h.ver (by decide)) _, h.own_set h.ver (by decide) _, h.non, ?_, h.new, h.res1.setOther (h.res1.ne h.ver (by decide)) _, h.res2.setOther h.ne.2 _, h.ne⟩
  · exact h.ver.set 1 _
  · intro i hi hn
    obtain ⟨h1, h2⟩ := h.ptr i hi hn
    exact ⟨h1.setOther (h1.ne h.ver (by decide)) _, h2⟩

theorem CS.setL (h : CS p RB W w bo bv bl bf cm ld fr os P LO) (x : Int) : CS p RB W (w.setCell ⟨bl, 0, none⟩ (.int .i64 x)) bo bv bl bf cm x fr os P LO := by
  refine ⟨Below.setCell h.ext h.new.2.2.1 _, h.out.setOther (h.out.ne h.lea (by decide)) _, h.ver.setOther (h.ver.ne h.lea (by decide)) _, ?_, h.fro.setOther (fun e => h.new.2.2.2.2 e.symm) _, h.own_set h.lea (by decide) _, h.non, ?_, h.new, h.res1.setOther (h.res1.ne h.lea (by decide)) _, h.res2.setOther (h.res2.ne h.lea (by decide)) _, h.ne⟩
  · exact h.lea.set 0 _
  · intro i hi hn
    obtain ⟨h1, h2⟩ := h.ptr i hi hn
    exact ⟨h1.setOther h2.1 _, h2⟩

theorem CS.setF (h : CS p RB W w bo bv bl bf cm ld fr os P LO) (x : Int) : CS p RB W (w.setCell ⟨bf, 0, none⟩ (.int .i64 x)) bo bv bl bf cm ld x os P LO := by
  refine ⟨Below.setCell h.ext h.new.2.2.2.1 _, h.out.setOther (h.out.ne h.fro (by decide)) _, h.ver.setOther (h.ver.ne h.fro (by decide)) _, h.lea.setOther h.new.2.2.2.2 _, ?_, h.own_set h.fro (by decide) _, h.non, ?_, h.new, h.res1.setOther (h.res1.ne h.fro (by decide)) _, h.res2.setOther (h.res2.ne h.fro (by decide)) _, h.ne⟩
  · exact h.fro.set 0 _
  · intro i hi hn
    obtain ⟨h1, h2⟩ := h.ptr i hi hn
    exact ⟨h1.setOther h2.2 _, h2⟩

/-- Behind 'out.LastOutputs = append(out.LastOutputs, o)'. -/
theorem CS.push {w2 : World} {LO' : Value} {i : Nat} {P' : Nat → Nat} (h : CS p RB W w bo bv bl bf cm ld fr os P LO) (hg : w.grownBy w2 LO.ownBlock)
    (hown : w2.ownsRow W.heap.size 64 3 LO' (os.length + 1) (outCells p RB P os ++ outCell p RB P' i)) (hnon : LO' ≠ .slice none 0 0) (hP : ∀ j ∈ os, P' j = P j)
    (hi : p.nil i = false → Blk w (P' i) #[.int .i64 (p.dl i)] 3 ∧ P' i ≠ bl ∧ P' i ≠ bf) :
    CS p RB W (w2.setCell ⟨bo, 4, none⟩ LO') bo bv bl bf cm ld fr (os ++ [i]) P' LO' := by
  have hB2 : Ext W w2 := Below.grown h.ext hg h.ext.size (fun k hk => by
    rcases h.own.2 with ⟨h1, _⟩ | ⟨g, cap, cur, h1, hb, _⟩
    · exact absurd h1 h.non
    · rw [h1] at hk; simp [Value.ownBlock] at hk; omega)
  have keep : ∀ {b : Nat} {cs : Array Value} {t : TypeId}, Blk w b cs t → t ≠ 64 → Blk w2 b cs t := fun hb ht => hb.grown hg (fun e => h.row_ne hb ht e.symm)
  have ho := keep h.out (by decide)
  have keep2 : ∀ {b : Nat} {cs : Array Value} {t : TypeId}, Blk w b cs t → t ≠ 64 → t ≠ 58 → Blk (w2.setCell ⟨bo, 4, none⟩ LO') b cs t := fun hb ht ht' => (keep hb ht).setOther ((keep hb ht).ne ho ht') _
  have hcells : outCells p RB P os ++ outCell p RB P' i = outCells p RB P' (os ++ [i]) := by
    unfold outCells
    rw [List.flatMap_append]
    congr 1
    · have : ∀ l : List Nat, (∀ j ∈ l, P' j = P j) → l.flatMap (outCell p RB P) = l.flatMap (outCell p RB P') := by
        intro l
        induction l with
        | nil => intro _; rfl
        | cons a l ih =>
          intro hl
          simp only [List.flatMap_cons]
          rw [ih (fun j hj => hl j (List.mem_cons_of_mem _ hj))]
          congr 1
          unfold outCell
          rw [hl a List.mem_cons_self]
      exact this os hP
  refine ⟨Below.setCell hB2 h.new.1 _, ho.set 4 _, keep2 h.ver (by decide) (by decide), keep2 h.lea (by decide) (by decide), keep2 h.fro (by decide) (by decide), ?_, hnon, ?_, h.new, (keep h.res1 (by decide)).setOther h.ne.1 _, keep2 h.res2 (by decide) (by decide), h.ne⟩
  · rw [hcells] at hown
    have hne : LO'.ownBlock ≠ some bo := by
      intro e
      rcases hown.2 with ⟨h1, _⟩ | ⟨g, cap, cur, h1, _, hgg, _⟩
      · exact hnon h1
      · rw [h1] at e
        simp [Value.ownBlock] at e
        subst e
        exact ho.ne hgg (by decide) rfl
    have := hown.kept (w' := w2.setCell ⟨bo, 4, none⟩ LO') (row := some bo) ⟨rfl, rfl, rfl, by simp [World.setCell], fun k hk hne => Below.heap_setCell _ _ _ _ (by intro e; exact hne (by rw [e]))⟩ (.inr hne)
    simpa using this
  · intro j hj hn
    rcases List.mem_append.1 hj with hj | hj
    · rw [hP j hj]
      obtain ⟨h1, h2⟩ := h.ptr j hj hn
      exact ⟨keep2 h1 (by decide) (by decide), h2⟩
    · simp at hj
      subst hj
      obtain ⟨h1, h2⟩ := hi hn
      exact ⟨keep2 h1 (by decide) (by decide), h2⟩
end
end Go.Proofs.Qxb6001094a
