import Derived.Test.Qxb6001235aMem
import Derived.Deep.CutRange
import Derived.Laws.EntriesVeiled
/-! Seat b6001235a: maps of ints to bools; the memory of circleThrough. -/
namespace Go.Proofs.Qxb6001235a
set_option linter.unusedVariables false
open Go.RowKit Go.Maps

theorem law3 : Keyed Try.prog 3 := int_keyed Try.underlying3
theorem zero4 (w : World) : (zeroValue 4).run Try.prog w = .ok (.bool false) w := by kernel_rfl
theorem wf_nat {c : Nat} (h : c ≤ 9223372036854775807) : (Lit.int .i64 (c : Int)).wf = true := WalkArith.wf_i64 (by omega)

/-- Block b is a map[int]bool that answers f at the numbers from 0 on; k bounds its entries. -/
def VM (w : World) (b k : Nat) (f : Nat → Bool) : Prop :=
  ∃ D : DataW Unit, w.ownsMap Try.prog 3 (plainElem Try.prog 4) b k D ∧ IsMap D ∧ ∀ c : Nat, D.atKey (.int .i64 (c : Int)) (.lit (.bool false)) = .lit (.bool (f c))

theorem VM.lt {w : World} {b k : Nat} {f : Nat → Bool} (h : VM w b k f) : b < w.heap.size := by
  obtain ⟨D, h1, _⟩ := h
  exact h1.lt
theorem VM.of_block {w w' : World} {b k : Nat} {f : Nat → Bool} (h : VM w b k f) (e : w'.heap[b]? = w.heap[b]?) : VM w' b k f := by
  obtain ⟨D, h1, h2, h3⟩ := h
  obtain ⟨es, clock, hb, r⟩ := h1
  exact ⟨D, ⟨es, clock, e.trans hb, r⟩, h2, h3⟩
theorem VM.new (w : World) {b : Nat} (hb : b = w.heap.size) : VM (w.alloc (.map #[] 0)) b 0 (fun _ => false) := by
  subst hb
  exact ⟨.map [], World.ownsMap_made _ _ _ _, isMap_empty, fun _ => rfl⟩
theorem VM.look {w : World} {b k : Nat} {f : Nat → Bool} (h : VM w b k f) {c : Nat} (hc : c ≤ 9223372036854775807) (m : Nat) :
    (Instr.lookup 35 (.map (some b)) (.int .i64 (c : Int)) false).run Try.prog (w.drewN m) = .ok (.bool (f c)) (w.drewN m) := by
  obtain ⟨D, h1, h2, h3⟩ := VM.of_block (w' := w.drewN m) h rfl
  have hkey := keyOf_int_mk (P := Try.prog) (k := 3) Try.underlying3 (wf_nat hc)
  obtain ⟨v, ps, hrun, hv⟩ := h1.lookup law3 Try.underlying35 (zero4 _) (plainElem_bool Try.underlying4 false) hkey
  rw [h3 c] at hv
  unfold plainElem at hv
  rw [Try.underlying4] at hv
  cases v <;> simp at hv
  obtain ⟨rfl, _⟩ := hv
  exact hrun
theorem VM.put {w : World} {b k : Nat} {f : Nat → Bool} (h : VM w b k f) {c : Nat} (hc : c ≤ 9223372036854775807) (hk : k ≤ 1000000) :
    ∃ w', (Instr.mapUpdate 35 (.map (some b)) (.int .i64 (c : Int)) (.bool true)).run Try.prog w = .ok () w' ∧ VM w' b (k + 1) (upd f c true) ∧ w.grownBy w' (some b) := by
  obtain ⟨D, h1, h2, h3⟩ := h
  have hkey := keyOf_int_mk (P := Try.prog) (k := 3) Try.underlying3 (wf_nat hc)
  obtain ⟨w', r1, r2, r3⟩ := h1.update law3 Try.underlying35 (by unfold maxLen; omega) hkey (plainElem_bool Try.underlying4 true)
  refine ⟨w', r1, ⟨_, r2, h2.put _ _, fun c' => ?_⟩, r3⟩
  by_cases e : c' = c
  · subst e
    rw [atKey_put_same h2 (by trivial), upd_same]
  · rw [atKey_put_other (by simp; omega), h3, upd_other _ _ e]

def clos2 (J : Nat → Nat) : Value := .func (.func 31) #[] #[ptr (J 0), ptr (J 1), ptr (J 2), ptr (J 3), ptr (J 4), ptr (J 5)]

/-- What block k holds: edges, start, path, component, visited, walk; the map. -/
def PQ (J : Nat → Nat) (n : Nat) (ea ca : Option Addr) (start k : Nat) (s : CS) (PV : Value) (w : World) : Nat → Prop
  | 0 => Blk w (J 0) #[.slice ea n n] 22
  | 1 => Blk w (J 1) #[.int .i64 (start : Int)] 3
  | 2 => Blk w (J 2) #[PV] 25
  | 3 => Blk w (J 3) #[.slice ca n n] 25
  | 4 => Blk w (J 4) #[.map (some (J 6))] 35
  | 5 => Blk w (J 5) #[clos2 J] 38
  | 6 => VM w (J 6) k s.vis
  | _ => True

section
variable {J : Nat → Nat} {n : Nat} {ea ca : Option Addr} {start k : Nat} {s : CS} {PV : Value} {W w w' : World}

theorem PQ.of_block {j : Nat} (h : PQ J n ea ca start k s PV w j) (e : w'.heap[J j]? = w.heap[J j]?) : PQ J n ea ca start k s PV w' j := by
  match j, h, e with
  | 0, h, e => exact Blk.of_block h e
  | 1, h, e => exact Blk.of_block h e
  | 2, h, e => exact Blk.of_block h e
  | 3, h, e => exact Blk.of_block h e
  | 4, h, e => exact Blk.of_block h e
  | 5, h, e => exact Blk.of_block h e
  | 6, h, e => exact VM.of_block h e
  | _ + 7, _, _ => trivial
theorem PQ.lt {j : Nat} (hj : j < 7) (h : PQ J n ea ca start k s PV w j) : J j < w.heap.size := by
  match j, hj, h with
  | 0, _, h => exact Blk.lt h
  | 1, _, h => exact Blk.lt h
  | 2, _, h => exact Blk.lt h
  | 3, _, h => exact Blk.lt h
  | 4, _, h => exact Blk.lt h
  | 5, _, h => exact Blk.lt h
  | 6, _, h => exact VM.lt h

structure CM (J : Nat → Nat) (n : Nat) (ea ca : Option Addr) (start : Nat) (W w : World) (k : Nat) (s : CS) (PV : Value) : Prop where
  ext : Ext W w
  inj : ∀ i j, i < 7 → j < 7 → J i = J j → i = j
  new : ∀ i, i < 7 → W.heap.size ≤ J i
  pq : ∀ j, j < 7 → PQ J n ea ca start k s PV w j
  own : w.ownsRow W.heap.size 3 1 PV s.path.length (ints s.path)
  pne : ∀ j, j < 7 → PV.ownBlock ≠ some (J j)

theorem CM.later (h : CM J n ea ca start W w k s PV) (hx : Ext w w') : CM J n ea ca start W w' k s PV :=
  ⟨h.ext.trans hx, h.inj, h.new, fun j hj => (h.pq j hj).of_block (hx.block _ (PQ.lt hj (h.pq j hj))),
    h.own.kept (row := none) ⟨hx.os, hx.tape, hx.output, hx.size, fun k hk _ => hx.block k hk⟩ (by cases PV.ownBlock <;> simp), h.pne⟩
theorem CM.ne (h : CM J n ea ca start W w k s PV) {i j : Nat} (hij : i < 7 ∧ j < 7 ∧ i ≠ j) : J i ≠ J j := fun e => hij.2.2 (h.inj i j hij.1 hij.2.1 e)
theorem CM.row_ge (h : CM J n ea ca start W w k s PV) : ∀ g, PV.ownBlock = some g → W.heap.size ≤ g := fun g hg => (h.own.lt g hg).1

/-- Behind 'visited[x] = true'. -/
theorem CM.mark {x : Nat} (h : CM J n ea ca start W w k s PV) (hv : VM w' (J 6) (k + 1) (upd s.vis x true)) (hg : w.grownBy w' (some (J 6))) : CM J n ea ca start W w' (k + 1) { s with vis := upd s.vis x true } PV := by
  refine ⟨Below.grown h.ext hg h.ext.size (fun g e => by cases e; exact h.new 6 (by decide)), h.inj, h.new, fun j hj => ?_, h.own.kept hg (.inr (h.pne 6 (by decide))), h.pne⟩
  by_cases e : j = 6
  · subst e; exact hv
  · have := (h.pq j hj).of_block (hg.block _ (PQ.lt hj (h.pq j hj)) (fun e2 => e (h.inj j 6 hj (by decide) (Option.some.inj e2))))
    match j, hj, e, this with
    | 0, _, _, hp => exact hp
    | 1, _, _, hp => exact hp
    | 2, _, _, hp => exact hp
    | 3, _, _, hp => exact hp
    | 4, _, _, hp => exact hp
    | 5, _, _, hp => exact hp
    | 6, _, e, _ => exact absurd rfl e

/-- Behind 'path = append(path, x)'. -/
theorem CM.push {w2 : World} {PV' : Value} {x : Nat} (h : CM J n ea ca start W w k s PV) (hg : w.grownBy w2 PV.ownBlock) (hown : w2.ownsRow W.heap.size 3 1 PV' (s.path.length + 1) (ints s.path ++ [.int .i64 (x : Int)]))
    (hat : PV'.ownBlock = PV.ownBlock ∨ PV'.ownBlock = some w.heap.size) : CM J n ea ca start W (w2.setCell ⟨J 2, 0, none⟩ PV') k { s with path := s.path ++ [x] } PV' := by
  have hx2 : Ext W w2 := Below.grown h.ext hg h.ext.size h.row_ge
  have hS : ∀ j, j < 7 → PV'.ownBlock ≠ some (J j) := by
    intro j hj e
    rcases hat with h1 | h1
    · exact h.pne j hj (h1 ▸ e)
    · rw [h1] at e
      have := PQ.lt hj (h.pq j hj)
      simp at e
      omega
  have keep : ∀ j, j < 7 → PQ J n ea ca start k s PV w2 j := fun j hj => (h.pq j hj).of_block (hg.block _ (PQ.lt hj (h.pq j hj)) (fun e => h.pne j hj e.symm))
  refine ⟨Below.setCell hx2 (h.new 2 (by decide)) _, h.inj, h.new, fun j hj => ?_, ?_, hS⟩
  · by_cases e : j = 2
    · subst e
      exact Blk.put (keep 2 hj) 0 _ _ rfl
    · have := (keep j hj).of_block (w' := w2.setCell ⟨J 2, 0, none⟩ PV') (Below.heap_setCell _ _ _ _ (fun e2 => e (h.inj j 2 hj (by decide) e2)))
      match j, hj, e, this with
      | 0, _, _, hp => exact hp
      | 1, _, _, hp => exact hp
      | 3, _, _, hp => exact hp
      | 4, _, _, hp => exact hp
      | 5, _, _, hp => exact hp
      | 6, _, _, hp => exact hp
  · have := hown.kept (grown_set w2 ⟨J 2, 0, none⟩ PV') (.inr (hS 2 (by decide)))
    simpa [ints] using this

/-- Behind 'path = path[:len(path)-1]'. -/
theorem CM.pop {g cap x : Nat} {r : List Nat} (h : CM J n ea ca start W w k s (.slice (some ⟨g, 0, none⟩) (r.length + 1) cap)) (hs : s.path = r ++ [x]) :
    CM J n ea ca start W (w.setCell ⟨J 2, 0, none⟩ (.slice (some ⟨g, 0, none⟩) r.length cap)) k { s with path := r } (.slice (some ⟨g, 0, none⟩) r.length cap) := by
  refine ⟨Below.setCell h.ext (h.new 2 (by decide)) _, h.inj, h.new, fun j hj => ?_, ?_, h.pne⟩
  · by_cases e : j = 2
    · subst e
      exact Blk.put (h.pq 2 hj) 0 _ _ rfl
    · have := (h.pq j hj).of_block (w' := w.setCell ⟨J 2, 0, none⟩ (.slice (some ⟨g, 0, none⟩) r.length cap)) (Below.heap_setCell _ _ _ _ (fun e2 => e (h.inj j 2 hj (by decide) e2)))
      match j, hj, e, this with
      | 0, _, _, hp => exact hp
      | 1, _, _, hp => exact hp
      | 3, _, _, hp => exact hp
      | 4, _, _, hp => exact hp
      | 5, _, _, hp => exact hp
      | 6, _, _, hp => exact hp
  · have h1 := h.own
    rw [hs] at h1
    have h2 := ownsRow_pop (size := 1) (n := r.length) (xs := ints r) (last := [.int .i64 (x : Int)]) (by simp [ints]) (by simpa [ints] using h1)
    exact h2.kept (grown_set w ⟨J 2, 0, none⟩ (.slice (some ⟨g, 0, none⟩) r.length cap)) (.inr (h.pne 2 (by decide)))
end
end Go.Proofs.Qxb6001235a
