import Derived.Test.Qxb6001235aProg
import Derived.Test.Qxb6001235aKahn
import Derived.WalkKit
import Derived.WalkSpells
import Derived.WalkLawsBesides
import Derived.Deep.LoopGhost
import Derived.Deep.OwnRows
import Derived.BigQuiet
import Derived.Deep.QuietTactic
import Derived.Maps.OwnOps
import Derived.Maps.Views
/-! Seat b6001235a: what the walks share. -/
namespace Go.Proofs.Qxb6001235a
set_option linter.unusedVariables false
open Go.RowKit

/-- Nothing that was there has turned. -/
def Ext (w w' : World) : Prop := Below w.heap.size w w'
theorem Ext.refl (w : World) : Ext w w := Below.refl _ _
theorem Ext.trans {a b c : World} (h : Ext a b) (k : Ext b c) : Ext a c := Below.trans h (Below.mono k h.size)
theorem Ext.drew {a b : World} (h : Ext a b) : Ext a b.drew := Below.drew h
theorem Ext.alloc {a b : World} (h : Ext a b) (o : Obj) : Ext a (b.alloc o) := Below.alloc h h.size o
theorem Ext.cell {w w' : World} (h : Ext w w') {p : Addr} {v : Value} (hp : w.cell? p = some v) : w'.cell? p = some v := (Below.cell h (World.block_lt_of_cell? w p hp)).trans hp

theorem hide {p : Prop} (h : p) : Hid p := h

/-- A walk halts here. -/
def Stop (p : Prop) : Prop := p
theorem stop {p : Prop} (h : Stop p) : p := h
theorem Stop.go {p : Prop} (h : p) : Stop p := h

/-- The three cells of a new block. -/
theorem three_new (w : World) (a b c : Value) (t : TypeId) {m : Nat} (hm : m = w.heap.size) : ∀ j u, [a, b, c][j]? = some u → (w.alloc (.cells #[a, b, c] t)).cell? ((⟨m, 0, none⟩ : Addr).add j) = some u := by
  subst hm
  intro j u hj
  rw [Addr.add_lit, World.cell?_alloc_at _ _ _ _ rfl]
  match j, hj with
  | 0, hj => simpa using hj
  | 1, hj => simpa using hj
  | 2, hj => simpa using hj

theorem own_shape {w : World} {base n : Nat} {e : TypeId} {size : Nat} {v : Value} {xs : List Value} (h : w.ownsRow base e size v (n + 1) xs) : ∃ g cp, v = .slice (some ⟨g, 0, none⟩) (n + 1) cp := by
  rcases h.2 with ⟨_, h1⟩ | ⟨g, cap, cur, h1, _⟩
  · omega
  · exact ⟨g, cap, h1⟩

theorem own_shape' {w : World} {base n : Nat} {e : TypeId} {size : Nat} {v : Value} {xs : List Value} (h : w.ownsRow base e size v n xs) (hn : v ≠ .slice none 0 0) : ∃ g cp, v = .slice (some ⟨g, 0, none⟩) n cp := by
  rcases h.2 with ⟨h1, _⟩ | ⟨g, cap, cur, h1, _⟩
  · exact absurd h1 hn
  · exact ⟨g, cap, h1⟩

/-- Block b is a row of cells, none frozen. -/
def Blk (w : World) (b : Nat) (cs : Array Value) (t : TypeId) : Prop := w.heap[b]? = some (.cells cs t (0, 0))

theorem Blk.lt {w : World} {b : Nat} {cs : Array Value} {t : TypeId} (h : Blk w b cs t) : b < w.heap.size := (Array.getElem?_eq_some_iff.1 h).1
theorem Blk.cell {w : World} {b : Nat} {cs : Array Value} {t : TypeId} (h : Blk w b cs t) {i : Nat} {v : Value} (hv : cs[i]? = some v) : w.cell? ⟨b, i, none⟩ = some v := by
  unfold Blk at h
  simp [World.cell?, h, hv]
theorem Blk.frozen {w : World} {b : Nat} {cs : Array Value} {t : TypeId} (h : Blk w b cs t) (i : Nat) : w.frozen? ⟨b, i, none⟩ = false := by
  unfold Blk at h
  simp [World.frozen?, h]
theorem Blk.of_block {w w' : World} {b : Nat} {cs : Array Value} {t : TypeId} (h : Blk w b cs t) (e : w'.heap[b]? = w.heap[b]?) : Blk w' b cs t := e.trans h
theorem Blk.ext {w w' : World} {b : Nat} {cs : Array Value} {t : TypeId} (h : Blk w b cs t) (hx : Ext w w') : Blk w' b cs t := h.of_block (hx.block b h.lt)
theorem Blk.set {w : World} {b : Nat} {cs : Array Value} {t : TypeId} (h : Blk w b cs t) (i : Nat) (v : Value) : Blk (w.setCell ⟨b, i, none⟩ v) b (cs.setIfInBounds i v) t := by
  unfold Blk at h ⊢
  simp [World.setCell, Array.getElem?_modify, h]
theorem Blk.setOther {w : World} {b : Nat} {cs : Array Value} {t : TypeId} (h : Blk w b cs t) {a : Addr} (ha : b ≠ a.block) (v : Value) : Blk (w.setCell a v) b cs t := h.of_block (Below.heap_setCell _ _ _ _ ha)
theorem Blk.grown {w w' : World} {b : Nat} {cs : Array Value} {t : TypeId} {row : Option Nat} (h : Blk w b cs t) (hg : w.grownBy w' row) (hne : some b ≠ row) : Blk w' b cs t := h.of_block (hg.block b h.lt hne)
theorem Blk.ne {w : World} {b b' : Nat} {cs cs' : Array Value} {t t' : TypeId} (h : Blk w b cs t) (h' : Blk w b' cs' t') (hne : t ≠ t') : b ≠ b' := by
  intro e
  subst e
  unfold Blk at h h'
  rw [h] at h'
  simp at h'
  exact hne h'.2

theorem Blk.put {w : World} {b : Nat} {cs : Array Value} {t : TypeId} (h : Blk w b cs t) (i : Nat) (v : Value) (cs' : Array Value) (e : cs.setIfInBounds i v = cs') : Blk (w.setCell ⟨b, i, none⟩ v) b cs' t := e ▸ h.set i v
theorem Blk.drew {w : World} {b : Nat} {cs : Array Value} {t : TypeId} (h : Blk w b cs t) : Blk w.drew b cs t := h

theorem Blk.new (w : World) {b : Nat} (hb : b = w.heap.size) (cs : Array Value) (t : TypeId) : Blk (w.alloc (.cells cs t)) b cs t := by
  subst hb
  exact heap_alloc_new w _
theorem Blk.alloc {w : World} {b : Nat} {cs : Array Value} {t : TypeId} (h : Blk w b cs t) (o : Obj) : Blk (w.alloc o) b cs t := h.ext ((Ext.refl w).alloc o)

/-- 'Some bool comes back; the world stands.' -/
def RetB (w : World) (e : Ending) (w' : World) : Prop := (∃ b, e = .returned (.bool b)) ∧ w' = w
theorem retB (b : Bool) (w : World) : RetB w (.returned (.bool b)) w := ⟨⟨b, rfl⟩, rfl⟩

/-- 'Some bool comes back, and where it is true, p holds; the world stands.' -/
def RetIf (w : World) (p : Prop) (e : Ending) (w' : World) : Prop := (∃ b, e = .returned (.bool b) ∧ (b = true → p)) ∧ w' = w
theorem retIf_false {p : Prop} (w : World) : RetIf w p (.returned (.bool false)) w := ⟨⟨false, rfl, fun h => by cases h⟩, rfl⟩
theorem retIf_true {p : Prop} (w : World) (h : p) : RetIf w p (.returned (.bool true)) w := ⟨⟨true, rfl, fun _ => h⟩, rfl⟩

/-- A slice of slices of integers that came in. -/
structure SlR (w : World) (a : Option Addr) (n c : Nat) (A : Nat → Option Addr) (L C : Nat → Nat) (R : Nat → Nat → Int) : Prop where
  small : n ≤ 9223372036854775807
  smallL : ∀ i, L i ≤ 9223372036854775807
  wf : ∀ i j, (Lit.int .i64 (R i j)).wf = true
  at_ : (a = none ∧ n = 0 ∧ c = 0) ∨ ∃ x : Addr, a = some x ∧ ∀ i, i < n → w.cell? (x.add i) = some (.slice (A i) (L i) (C i)) ∧ (A i = none → L i = 0 ∧ C i = 0) ∧
    ∀ y, A i = some y → ∀ j, j < L i → w.cell? (y.add j) = some (.int .i64 (R i j))

theorem add_zero' (x : Addr) : x.add 0 = x := by
  unfold Addr.add
  cases x with
  | mk b o s => cases s <;> simp

theorem plain_addr {w : World} {x : Addr} {v : Value} (h : w.cell? x = some v) : x = ⟨x.block, x.off, none⟩ := by
  have := World.cell?_spot h
  cases x with
  | mk b o s => simp at this; subst this; rfl

/-- .. with its places laid open. -/
structure In (w : World) (a : Option Addr) (n c : Nat) (A : Nat → Option Addr) (L C : Nat → Nat) (R : Nat → Nat → Int) (b o : Nat) (rb ro : Nat → Nat) : Prop where
  small : n ≤ 9223372036854775807
  len : ∀ i, L i ≤ 9223372036854775807
  at_ : 0 < n → a = some ⟨b, o, none⟩
  nil : a = none → n = 0 ∧ c = 0
  cell : ∀ i, i < n → w.cell? ⟨b, o + i, none⟩ = some (.slice (A i) (L i) (C i))
  inil : ∀ i, i < n → A i = none → L i = 0 ∧ C i = 0
  iat : ∀ i, i < n → 0 < L i → A i = some ⟨rb i, ro i, none⟩
  icell : ∀ i, i < n → ∀ j, j < L i → w.cell? ⟨rb i, ro i + j, none⟩ = some (.int .i64 (R i j))

theorem SlR.open {w : World} {a : Option Addr} {n c : Nat} {A : Nat → Option Addr} {L C : Nat → Nat} {R : Nat → Nat → Int} (h : SlR w a n c A L C R) : ∃ b o rb ro, In w a n c A L C R b o rb ro := by
  rcases h.at_ with ⟨rfl, rfl, rfl⟩ | ⟨x, rfl, hx⟩
  · exact ⟨0, 0, fun _ => 0, fun _ => 0, h.small, h.smallL, fun h => absurd h (by omega), fun _ => ⟨rfl, rfl⟩, fun i hi => absurd hi (by omega), fun i hi => absurd hi (by omega), fun i hi => absurd hi (by omega), fun i hi => absurd hi (by omega)⟩
  · have hp : 0 < n → x = ⟨x.block, x.off, none⟩ := fun h0 => by
      have := (hx 0 h0).1
      rw [add_zero'] at this
      exact plain_addr this
    have hq : ∀ i, i < n → 0 < L i → A i = some ⟨((A i).getD ⟨0, 0, none⟩).block, ((A i).getD ⟨0, 0, none⟩).off, none⟩ := fun i hi h0 => by
      obtain ⟨h1, h2, h3⟩ := hx i hi
      cases hA : A i with
      | none => have := (h2 hA).1; omega
      | some y =>
        have := h3 y hA 0 h0
        rw [add_zero'] at this
        have := plain_addr this
        simp only [Option.getD_some]
        rw [← this]
    refine ⟨x.block, x.off, fun i => ((A i).getD ⟨0, 0, none⟩).block, fun i => ((A i).getD ⟨0, 0, none⟩).off, h.small, h.smallL, fun h0 => (by rw [← hp h0]), fun h => (by cases h), fun i hi => ?_, fun i hi => (hx i hi).2.1, hq, fun i hi j hj => ?_⟩
    · have := (hx i hi).1
      rw [hp (by omega), Addr.add_lit] at this
      exact this
    · have := (hx i hi).2.2 _ (hq i hi (by omega)) j hj
      rw [Addr.add_lit] at this
      exact this
end Go.Proofs.Qxb6001235a
