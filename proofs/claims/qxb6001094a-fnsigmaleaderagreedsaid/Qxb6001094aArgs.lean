import Derived.Test.Qxb6001094aCalls
import Derived.Test.Qxb6001094aGuards
/-! Seat b6001094a: the arguments as they come in, and what the clones make of them. -/
namespace Go.Proofs.Qxb6001094a
set_option linter.unusedVariables false
open Go.RowKit Go.Maps

/-- A slice of integers that came in: nil, or an address with n numbers. -/
structure SlI (w : World) (a : Option Addr) (n c : Nat) (f : Nat → Int) : Prop where
  small : n ≤ 9223372036854775807
  wf : ∀ i, (Lit.int .i64 (f i)).wf = true
  at_ : (a = none ∧ n = 0 ∧ c = 0) ∨ ∃ x : Addr, a = some x ∧ ∀ i, i < n → w.cell? (x.add i) = some (.int .i64 (f i))

/-- A slice of slices of integers that came in. -/
structure SlR (w : World) (a : Option Addr) (n c : Nat) (A : Nat → Option Addr) (L C : Nat → Nat) (R : Nat → Nat → Int) : Prop where
  small : n ≤ 9223372036854775807
  smallL : ∀ i, L i ≤ 9223372036854775807
  wf : ∀ i j, (Lit.int .i64 (R i j)).wf = true
  at_ : (a = none ∧ n = 0 ∧ c = 0) ∨ ∃ x : Addr, a = some x ∧ ∀ i, i < n → w.cell? (x.add i) = some (.slice (A i) (L i) (C i)) ∧ (A i = none → L i = 0 ∧ C i = 0) ∧
    ∀ y, A i = some y → ∀ j, j < L i → w.cell? (y.add j) = some (.int .i64 (R i j))

theorem add_zero' (x : Addr) : x.add 0 = x := by
  unfold Addr.add
  cases x with
  | mk b o s => cases s <;> simp

theorem plain_addr {w : World} {x : Addr} {v : Value} (h : w.cell? x = some v) : x = ⟨x.block, x.off, none⟩ := by
  have := World.cell?_spot h
  cases x with
  | mk b o s => simp at this; subst this; rfl

theorem SlI.pos {w : World} {a : Option Addr} {n c : Nat} {f : Nat → Int} (h : SlI w a n c f) (hn : 0 < n) : ∃ b o, a = some ⟨b, o, none⟩ ∧ ∀ i, i < n → w.cell? ⟨b, o + i, none⟩ = some (.int .i64 (f i)) := by
  rcases h.at_ with ⟨_, h0, _⟩ | ⟨x, rfl, hx⟩
  · omega
  · have h0 := hx 0 hn
    rw [add_zero'] at h0
    have e := plain_addr h0
    refine ⟨x.block, x.off, by rw [← e], fun i hi => ?_⟩
    have := hx i hi
    rw [e, Addr.add_lit] at this
    exact this

theorem SlR.rows {w : World} {a : Option Addr} {n c : Nat} {A : Nat → Option Addr} {L C : Nat → Nat} {R : Nat → Nat → Int} (h : SlR w a n c A L C R) : RowsIn w a n L := by
  refine ⟨h.smallL, ?_⟩
  rcases h.at_ with ⟨_, h0, _⟩ | ⟨x, rfl, hx⟩
  · exact .inl h0
  · by_cases hn : n = 0
    · exact .inl hn
    · right
      have h0 := (hx 0 (by omega)).1
      rw [add_zero'] at h0
      have e := plain_addr h0
      refine ⟨x.block, x.off, A, C, by rw [← e], fun i hi => ?_⟩
      have := (hx i hi).1
      rw [e, Addr.add_lit] at this
      exact this

theorem SlI.ext {w w' : World} {a : Option Addr} {n c : Nat} {f : Nat → Int} (h : SlI w a n c f) (hx : Ext w w') : SlI w' a n c f :=
  ⟨h.small, h.wf, h.at_.imp id (fun ⟨x, e, hc⟩ => ⟨x, e, fun i hi => hx.cell (hc i hi)⟩)⟩
theorem SlR.ext {w w' : World} {a : Option Addr} {n c : Nat} {A : Nat → Option Addr} {L C : Nat → Nat} {R : Nat → Nat → Int} (h : SlR w a n c A L C R) (hx : Ext w w') : SlR w' a n c A L C R :=
  ⟨h.small, h.smallL, h.wf, h.at_.imp id (fun ⟨x, e, hc⟩ => ⟨x, e, fun i hi => ⟨hx.cell (hc i hi).1, (hc i hi).2.1, fun y hy j hj => hx.cell ((hc i hi).2.2 y hy j hj)⟩⟩)⟩

/-- The clone of a slice that is not empty. -/
theorem SlI.clone {w : World} {a : Option Addr} {n c : Nat} {f : Nat → Int} (h : SlI w a n c f) (h0 : 0 < n) (hn : n ≤ 131072) : Calls Try.prog 24 #[.slice a n c] w (CloneP w n f) := by
  rcases h.at_ with ⟨_, h1, _⟩ | ⟨x, rfl, hx⟩
  · omega
  · exact clone24 x n c f w hn hx

def Clone0P (w : World) (e : Ending) (w' : World) : Prop := ∃ a', e = .returned (.slice a' 0 0) ∧ Ext w w'

theorem SlI.clone0 {w : World} {a : Option Addr} {c : Nat} {f : Nat → Int} (h : SlI w a 0 c f) : Calls Try.prog 24 #[.slice a 0 c] w (Clone0P w) := by
  rcases h.at_ with ⟨rfl, _, rfl⟩ | ⟨x, rfl, hx⟩
  · exact (clone_nil w).mono (fun e w' ⟨h1, h2⟩ => ⟨none, h1, by rw [h2]; exact Ext.refl w⟩)
  · exact (clone24 x 0 c f w (by omega) hx).mono (fun e w' ⟨h1, h2, _⟩ => ⟨_, h1, h2⟩)

theorem SlR.clone {w : World} {a : Option Addr} {n c : Nat} {A : Nat → Option Addr} {L C : Nat → Nat} {R : Nat → Nat → Int} (h : SlR w a n c A L C R) (h0 : 0 < n) (hn : n ≤ 131072) (hL : ∀ i, i < n → L i ≤ 131072) :
    Calls Try.prog 25 #[.slice a n c] w (CloneRowsP w n A L R) := by
  rcases h.at_ with ⟨_, h1, _⟩ | ⟨x, rfl, hx⟩
  · omega
  · exact rows25 x n c A L C R w hn (fun i hi => (hx i hi).1) (fun i hi => (hx i hi).2.1) (fun i y hi hy => ⟨hL i hi, (hx i hi).2.2 y hy⟩)

set_option maxHeartbeats 400000 in
theorem rows_nil (w : World) : Calls Try.prog 25 #[.slice none 0 0] w fun e w' => e = .returned (.slice none 0 0) ∧ w' = w := by
  have h1 := @Lib.run_eql_slice_nil Try.prog
  go_enter Try.func25, Try.ntmps25
  go_wp2
  go_ret
  exact ⟨rfl, rfl⟩

theorem SlR.clone0 {w : World} {a : Option Addr} {c : Nat} {A : Nat → Option Addr} {L C : Nat → Nat} {R : Nat → Nat → Int} (h : SlR w a 0 c A L C R) : Calls Try.prog 25 #[.slice a 0 c] w (Clone0P w) := by
  rcases h.at_ with ⟨rfl, _, rfl⟩ | ⟨x, rfl, hx⟩
  · exact (rows_nil w).mono (fun e w' ⟨h1, h2⟩ => ⟨none, h1, by rw [h2]; exact Ext.refl w⟩)
  · exact (rows25 x 0 c A L C R w (by omega) (fun i hi => absurd hi (by omega)) (fun i hi => absurd hi (by omega)) (fun i y hi => absurd hi (by omega))).mono (fun e w' ⟨h1, RB, h2⟩ => ⟨_, h1, h2.ext⟩)

/-- From the five clones to what the judge is built from. -/
theorem data_of {p : Prm} {A : Nat → Option Addr} {RB : Nat → Nat} {w1 w2 w3 w4 w5 w6 : World} (hsm : p.n ≤ 131072) (hL : ∀ i, i < p.n → p.L i ≤ 131072) (hnil : ∀ i, p.nil i = (A i).isNone)
    (wfF : ∀ i, (Lit.int .i64 (p.f i)).wf = true) (wfR : ∀ i j, (Lit.int .i64 (p.R i j)).wf = true) (wfD : ∀ i, (Lit.int .i64 (p.dl i)).wf = true) (hs : ShapedP p.n p.f)
    (x2 : Ext w2 w6) (x3 : Ext w3 w6) (x4 : Ext w4 w6) (x5 : Ext w5 w6)
    (c1 : ∀ i, i < p.n → w2.cell? ⟨w1.heap.size, i, none⟩ = some (.int .i64 (p.f i))) (c2 : ∀ i, i < p.n → w3.cell? ⟨w2.heap.size, i, none⟩ = some (.int .i64 (p.g i)))
    (c3 : CR w3 w4 p.n p.n A p.L p.R RB) (c4 : ∀ i, i < p.n → w5.cell? ⟨w4.heap.size, i, none⟩ = some (.int .i64 (p.dl i))) (c5 : ∀ i, i < p.n → w6.cell? ⟨w5.heap.size, i, none⟩ = some (.int .i64 (p.sl i))) :
    Data p RB w6 w1.heap.size w2.heap.size w3.heap.size w4.heap.size w5.heap.size := by
  have srt : ∀ j i, i < j → j < p.n → p.f i < p.f j := by
    intro j
    induction j with
    | zero => intro i h; omega
    | succ j ih =>
      intro i hi hj
      have h1 := hs j hj
      by_cases e : i = j
      · subst e; exact h1
      · have := ih i (by omega) (by omega); omega
  refine ⟨hsm, fun i hi => x2.cell (c1 i hi), fun i hi => x3.cell (c2 i hi), fun i hi => ?_, fun i hi hn => ⟨hL i hi, fun j hj => ?_⟩, fun i hi => x5.cell (c4 i hi), c5, wfF, wfR, wfD, fun i j => srt j i⟩
  · have := c3.outer.cell hi
    simp only [hi, if_true] at this
    rw [hnil i]
    exact x4.cell this
  · exact x4.cell ((c3.inner i hi (by rw [← hnil i]; exact hn)).2 j hj)
end Go.Proofs.Qxb6001094a
