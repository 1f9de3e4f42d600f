import Derived.Test.Qxb6001094aProg
import Derived.WalkKit
import Derived.WalkSpells
import Derived.WalkLawsBesides
import Derived.Deep.LoopGhost
import Derived.Deep.OwnRows
import Derived.Laws.CopyOwn
import Derived.BigQuiet
import Derived.Deep.QuietTactic
/-! Seat b6001094a: cloneInts, cloneRows. -/
namespace Go.Proofs.Qxb6001094a
set_option linter.unusedVariables false
open Go.RowKit

theorem info3 : (Try.prog.info? 3).map (fun i => (i.zero, i.size, i.bytes)) = some (some (.int .i64 0), 1, 8) := by kernel_rfl
theorem info37 : (Try.prog.info? 37).map (fun i => (i.zero, i.size, i.bytes)) = some (some (.slice none 0 0), 1, 24) := by kernel_rfl
theorem size3 : (Try.prog.info? 3).map (·.size) = some 1 := by kernel_rfl

/-- Nothing that was there has turned. -/
def Ext (w w' : World) : Prop := Below w.heap.size w w'
theorem Ext.refl (w : World) : Ext w w := Below.refl _ _
theorem Ext.trans {a b c : World} (h : Ext a b) (k : Ext b c) : Ext a c := Below.trans h (Below.mono k h.size)
theorem Ext.drew {a b : World} (h : Ext a b) : Ext a b.drew := Below.drew h
theorem Ext.alloc {a b : World} (h : Ext a b) (o : Obj) : Ext a (b.alloc o) := Below.alloc h h.size o
theorem Ext.cell {w w' : World} (h : Ext w w') {p : Addr} {v : Value} (hp : w.cell? p = some v) : w'.cell? p = some v := (Below.cell h (World.block_lt_of_cell? w p hp)).trans hp

def CloneP (w : World) (n : Nat) (f : Nat → Int) (e : Ending) (w' : World) : Prop :=
  e = .returned (.slice (some ⟨w.heap.size, 0, none⟩) n n) ∧ Ext w w' ∧ w.heap.size < w'.heap.size ∧ ∀ i, i < n → w'.cell? ⟨w.heap.size, i, none⟩ = some (.int .i64 (f i))

set_option maxHeartbeats 400000 in
theorem clone_nil (w : World) :
    Calls Try.prog 24 #[.slice none 0 0] w fun e w' => e = .returned (.slice none 0 0) ∧ w' = w := by
  have h1 := @Lib.run_eql_slice_nil Try.prog
  go_enter Try.func24, Try.ntmps24
  go_wp2
  go_ret
  exact ⟨rfl, rfl⟩

theorem cloneP_mk {w w' : World} {n : Nat} {f : Nat → Int} (hb : Below w.heap.size w w') 
   (hg : w'.heap[w.heap.size]? = some (.cells (splice (madeCells #[.int .i64 0] n).toList 0 ((List.range n).map fun i => Value.int .i64 (f i))).toArray 3 (0, 0))) :
   CloneP w n f (.returned (.slice (some ⟨w.heap.size, 0, none⟩) n n)) w' := by
  refine ⟨rfl, hb, (Array.getElem?_eq_some_iff.1 hg).1, fun i hi => ?_⟩
  simp only [World.cell?, hg, splice, List.take_zero, List.nil_append]
  simp [List.getElem?_append, hi]

set_option maxRecDepth 100000 in
set_option maxHeartbeats 400000 in
theorem clone24 (x : Addr) (n c : Nat) (f : Nat → Int) (w : World) (hn : n ≤ 131072) (hc : ∀ i, i < n → w.cell? (x.add i) = some (.int .i64 (f i))) :
    Calls Try.prog 24 #[.slice (some x) n c] w (CloneP w n f) := by
  have h1 := @Lib.run_eql_slice_nil Try.prog
  have hmk := run_make_row' (P := Try.prog) 37 3 (.int .i64 0) 8 Try.underlying37 info3 rfl .i64 .i64 n (by omega) (by omega)
  have H : Hid (∀ i, i < n → w.cell? (x.add i) = some (.int .i64 (f i))) := hc
  clear hc
  obtain ⟨w2, hcp, HG, HB⟩ : ∃ w2, Sem.run Try.prog (Builtin.copy_ #[37, 37] 3 #[.slice (some ⟨w.heap.size, 0, none⟩) n n, .slice (some x) n c]) (w.alloc (.cells (madeCells #[.int .i64 0] n) 3)) = .ok (goInt n) w2 ∧
      Hid (w2.heap[w.heap.size]? = some (.cells (splice (madeCells #[.int .i64 0] n).toList 0 ((List.range n).map fun i => Value.int .i64 (f i))).toArray 3 (0, 0))) ∧ Hid (Below w.heap.size w w2) := by
    have hg : (w.alloc (.cells (madeCells #[.int .i64 0] n) 3)).heap[w.heap.size]? = some (.cells (madeCells #[.int .i64 0] n) 3 (0, 0)) := heap_alloc_new w _
    have hrun := run_copy_row (P := Try.prog) (w.alloc (.cells (madeCells #[.int .i64 0] n) 3)) 37 37 3 3 w.heap.size 0 n n x n c (madeCells #[.int .i64 0] n) 3 ((List.range n).map fun i => Value.int .i64 (f i)) Try.underlying37 size3 hg (by simp)
      (by
        intro j v hv
        obtain ⟨hj, hv⟩ := List.getElem?_eq_some_iff.1 hv
        simp at hj hv
        subst hv
        have h := H.out j hj
        exact ((Ext.refl w).alloc _).cell h)
      (by simp [size_madeCells]) (by intro v hv; simp at hv; obtain ⟨i, _, rfl⟩ := hv; rfl)
    refine ⟨_, by simpa using hrun, ?_, ?_⟩
    · show _ = _
      simpa [splice] using setRow_heap _ w.heap.size _ _ 3 _ hg
    · exact below_setRow ((Below.refl _ _).alloc (Nat.le_refl _) _) (Nat.le_refl _) _
  clear H
  go_enter Try.func24, Try.ntmps24
  go_wp2
  go_ret
  exact cloneP_mk HB.out HG.out

/-- A row of the clone: nil, or a block of its own. -/
def rowV (nil : Bool) (b l : Nat) : Value := if nil then .slice none 0 0 else .slice (some ⟨b, 0, none⟩) l l

/-- The cloned rows up to k. -/
structure CR (w wr : World) (n k : Nat) (A : Nat → Option Addr) (L : Nat → Nat) (R : Nat → Nat → Int) (RB : Nat → Nat) : Prop where
  ext : Ext w wr
  lt : w.heap.size < wr.heap.size
  outer : wr.rowIs w.heap.size 37 n (fun i => if i < k then rowV (A i).isNone (RB i) (L i) else .slice none 0 0)
  inner : ∀ i, i < k → (A i).isNone = false → w.heap.size < RB i ∧ ∀ j, j < L i → wr.cell? ⟨RB i, j, none⟩ = some (.int .i64 (R i j))

def CloneRowsP (w : World) (n : Nat) (A : Nat → Option Addr) (L : Nat → Nat) (R : Nat → Nat → Int) (e : Ending) (w' : World) : Prop :=
  e = .returned (.slice (some ⟨w.heap.size, 0, none⟩) n n) ∧ ∃ RB, CR w w' n n A L R RB

theorem CR.start (w : World) (n : Nat) (A : Nat → Option Addr) (L : Nat → Nat) (R : Nat → Nat → Int) :
    CR w (w.alloc (.cells (madeCells #[.slice none 0 0] n) 37)) n 0 A L R (fun _ => 0) :=
  ⟨(Ext.refl w).alloc _, by simp, (World.rowIs_made w _ n 37).congr (fun i _ => by simp), fun i hi => absurd hi (by omega)⟩

/-- Behind a store of v into the outer row at k. -/
theorem CR.step {w wr w1 : World} {n k : Nat} {A : Nat → Option Addr} {L : Nat → Nat} {R : Nat → Nat → Int} {RB : Nat → Nat} (h : CR w wr n k A L R RB) (hx : Ext wr w1) (b : Nat)
    (hb : (A k).isNone = false → w.heap.size < b ∧ ∀ j, j < L k → w1.cell? ⟨b, j, none⟩ = some (.int .i64 (R k j))) :
    CR w (w1.setCell ⟨w.heap.size, k, none⟩ (rowV (A k).isNone b (L k))) n (k + 1) A L R (fun i => if i = k then b else RB i) := by
  have hlt := h.lt
  refine ⟨Below.setCell (h.ext.trans hx) (Nat.le_refl _) _, ?_, ?_, ?_⟩
  · have := hx.size
    simp [World.setCell]
    omega
  · have h1 := h.outer.of_block (w' := w1) (hx.block _ hlt)
    refine (h1.set k _).congr fun i hi => ?_
    by_cases e : i = k
    · subst e; simp
    · by_cases e2 : i < k
      · simp [e, e2, show i < k + 1 by omega]
      · simp [e, e2, show ¬ i < k + 1 by omega]
  · intro i hi hA
    by_cases e : i = k
    · subst e
      obtain ⟨g1, g2⟩ := hb hA
      refine ⟨by simpa using g1, fun j hj => ?_⟩
      simp only [if_true]
      rw [World.cell?_setCell_other _ _ _ _ (by intro h; have := congrArg Addr.block h; simp at this; omega)]
      simpa using g2 j hj
    · obtain ⟨g1, g2⟩ := h.inner i (by omega) hA
      simp only [e, if_false]
      refine ⟨g1, fun j hj => ?_⟩
      rw [World.cell?_setCell_other _ _ _ _ (by intro h; have := congrArg Addr.block h; simp at this; omega)]
      exact hx.cell (g2 j hj)

set_option maxRecDepth 100000 in
set_option maxHeartbeats 400000 in
theorem rows25 (x : Addr) (n c : Nat) (A : Nat → Option Addr) (L C : Nat → Nat) (R : Nat → Nat → Int) (w : World) (hn : n ≤ 131072)
    (hc : ∀ i, i < n → w.cell? (x.add i) = some (.slice (A i) (L i) (C i)))
    (hnil : ∀ i, i < n → A i = none → L i = 0 ∧ C i = 0)
    (hr : ∀ i y, i < n → A i = some y → L i ≤ 131072 ∧ ∀ j, j < L i → w.cell? (y.add j) = some (.int .i64 (R i j))) :
    Calls Try.prog 25 #[.slice (some x) n c] w (CloneRowsP w n A L R) := by
  have h1 := @Lib.run_eql_slice_nil Try.prog
  have hmk := run_make_row' (P := Try.prog) 38 37 (.slice none 0 0) 24 Try.underlying38 info37 rfl .i64 .i64 n (by omega) (by omega)
  have H : Hid ((∀ i, i < n → w.cell? (x.add i) = some (.slice (A i) (L i) (C i))) ∧ (∀ i, i < n → A i = none → L i = 0 ∧ C i = 0) ∧ (∀ i y, i < n → A i = some y → L i ≤ 131072 ∧ ∀ j, j < L i → w.cell? (y.add j) = some (.int .i64 (R i j)))) := ⟨hc, hnil, hr⟩
  clear hc hnil hr
  go_enter Try.func25, Try.ntmps25
  go_wp2
  go_loopg [4] n (fun g i wr => ∃ (k : Nat) (RB : Nat → Nat), k + g = n ∧ i = .int .i64 k ∧ CR w wr n k A L R RB)
  case atStart => exact ⟨0, _, by omega, rfl, CR.start w n A L R⟩
  case round =>
    obtain ⟨k, RB, hk, rfl, hcr⟩ := hrel
    by_cases hlt : k < n
    · have HC : Hid (CR w wr n k A L R RB) := hcr
      have hcx := hcr.ext.cell (H.out.1 k hlt)
      clear hcr
      cases hA : A k with
      | none =>
        obtain ⟨hl0, hc0⟩ := H.out.2.1 k hlt hA
        rw [hA, hl0, hc0] at hcx
        have hco : wr.cell? ⟨w.heap.size, k, none⟩ = some (.slice none 0 0) := by have := HC.out.outer.cell hlt; simpa using this
        have hfo : wr.frozen? ⟨w.heap.size, k, none⟩ = false := HC.out.outer.frozen k
        have HA : Hid (A k = none ∧ L k = 0) := ⟨hA, hl0⟩
        clear hA hl0 hc0
        go_wp2_with (go_at_call 24; refine (clone_nil _).mono ?_; rintro e w' ⟨rfl, hw⟩; obtain rfl : wr = w' := hw.symm)
        go_roundg (gk - 1)
        case measure => omega
        case rel =>
          have := HC.out.step (Ext.refl wr) 0 (by rw [HA.out.1]; simp)
          rw [HA.out.1] at this
          exact ⟨k + 1, _, by omega, by go_num, this⟩
      | some y =>
        obtain ⟨hl0, hrr⟩ := H.out.2.2 k y hlt hA
        rw [hA] at hcx
        have HR : Hid (∀ j, j < L k → wr.cell? (y.add j) = some (.int .i64 (R k j))) := fun j hj => HC.out.ext.cell (hrr j hj)
        have HA : Hid (A k = some y) := hA
        clear hA hrr
        go_wp2_with fail
        refine (clone24 y (L k) (C k) (R k) wr hl0 HR.out).mono ?_
        rintro e w1 ⟨rfl, hx1, hs1, hcl⟩
        have hco : w1.cell? ⟨w.heap.size, k, none⟩ = some (.slice none 0 0) := hx1.cell (by have := HC.out.outer.cell hlt; simpa using this)
        have hfo : w1.frozen? ⟨w.heap.size, k, none⟩ = false := (Below.frozen hx1 (by exact HC.out.lt)).trans (HC.out.outer.frozen k)
        have HX : Hid (Ext wr w1 ∧ ∀ j, j < L k → w1.cell? ⟨wr.heap.size, j, none⟩ = some (.int .i64 (R k j))) := ⟨hx1, hcl⟩
        clear hx1 hcl
        go_wp2
        go_roundg (gk - 1)
        case measure => omega
        case rel =>
          have := HC.out.step HX.out.1 wr.heap.size (fun _ => ⟨HC.out.lt, HX.out.2⟩)
          rw [HA.out] at this
          exact ⟨k + 1, _, by omega, by go_num, this⟩
    · have e : k = n := by omega
      subst e
      go_wp2
      go_ret
      exact ⟨rfl, RB, hcr⟩
end Go.Proofs.Qxb6001094a
