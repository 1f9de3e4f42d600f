import Derived.Test.Qxb6001235aBase
/-! Seat b6001235a: the guards: the byte guards, edgesFit, edgesInRange; cloneEdges. -/
namespace Go.Proofs.Qxb6001235a
set_option linter.unusedVariables false
open Go.RowKit

section
variable {w : World} {a : Option Addr} {n c : Nat} {A : Nat → Option Addr} {L C : Nat → Nat} {R : Nat → Nat → Int} {b o : Nat} {rb ro : Nat → Nat}

set_option maxHeartbeats 400000 in
theorem zz21 (h : In w a n c A L C R b o rb ro) : Calls Try.prog 21 #[.slice a n c] w (RetB w) := by
  have H := hide h
  have hn := h.small
  clear h
  go_enter Try.func21, Try.ntmps21
  go_wp2
  all_goals (try (go_ret; exact retB _ _))
  go_loopg [3, 4] n (fun g t i wr => ∃ k : Nat, ∃ q : Int, k + g = n ∧ i = .int .i64 k ∧ t = .int .i64 q ∧ 0 ≤ q ∧ q ≤ 1048576 ∧ wr = w)
  case atStart => exact ⟨0, _, by omega, rfl, rfl, by omega, by omega, rfl⟩
  case round =>
    obtain ⟨k, q, hk, rfl, rfl, hq0, hq1, rfl⟩ := hrel
    by_cases hlt : k < n
    · obtain rfl := H.out.at_ (by omega)
      have hcx := H.out.cell k hlt
      have hLx := H.out.len k
      go_wp2
      · go_ret
        exact retB _ _
      · go_ret
        exact retB _ _
      · go_roundg (gk - 1)
        case measure => omega
        case rel => exact ⟨k + 1, _, by omega, by go_num, rfl, by omega, by omega, rfl⟩
    · go_wp2
      go_ret
      exact retB _ _
set_option maxHeartbeats 400000 in
theorem zz24 (h : In w a n c A L C R b o rb ro) : Calls Try.prog 24 #[.slice a n c] w (RetB w) := by
  have H := hide h
  have hn := h.small
  clear h
  go_enter Try.func24, Try.ntmps24
  go_wp2
  all_goals (try (go_ret; exact retB _ _))
  go_loopg [3, 4] n (fun g t i wr => ∃ k : Nat, ∃ q : Int, k + g = n ∧ i = .int .i64 k ∧ t = .int .i64 q ∧ 0 ≤ q ∧ q ≤ 1048576 ∧ wr = w)
  case atStart => exact ⟨0, _, by omega, rfl, rfl, by omega, by omega, rfl⟩
  case round =>
    obtain ⟨k, q, hk, rfl, rfl, hq0, hq1, rfl⟩ := hrel
    by_cases hlt : k < n
    · obtain rfl := H.out.at_ (by omega)
      have hcx := H.out.cell k hlt
      have hLx := H.out.len k
      go_wp2
      · go_ret
        exact retB _ _
      · go_ret
        exact retB _ _
      · go_roundg (gk - 1)
        case measure => omega
        case rel => exact ⟨k + 1, _, by omega, by go_num, rfl, by omega, by omega, rfl⟩
    · go_wp2
      go_ret
      exact retB _ _
set_option maxHeartbeats 400000 in
theorem zz25 (h : In w a n c A L C R b o rb ro) : Calls Try.prog 25 #[.slice a n c] w (RetB w) := by
  have H := hide h
  have hn := h.small
  clear h
  go_enter Try.func25, Try.ntmps25
  go_wp2
  all_goals (try (go_ret; exact retB _ _))
  go_loopg [3, 4] n (fun g t i wr => ∃ k : Nat, ∃ q : Int, k + g = n ∧ i = .int .i64 k ∧ t = .int .i64 q ∧ 0 ≤ q ∧ q ≤ 1048576 ∧ wr = w)
  case atStart => exact ⟨0, _, by omega, rfl, rfl, by omega, by omega, rfl⟩
  case round =>
    obtain ⟨k, q, hk, rfl, rfl, hq0, hq1, rfl⟩ := hrel
    by_cases hlt : k < n
    · obtain rfl := H.out.at_ (by omega)
      have hcx := H.out.cell k hlt
      have hLx := H.out.len k
      go_wp2
      · go_ret
        exact retB _ _
      · go_ret
        exact retB _ _
      · go_roundg (gk - 1)
        case measure => omega
        case rel => exact ⟨k + 1, _, by omega, by go_num, rfl, by omega, by omega, rfl⟩
    · go_wp2
      go_ret
      exact retB _ _
/-- What a true answer of edgesFit says. -/
def FitP (n : Nat) (L : Nat → Nat) : Prop := n ≤ 131072 ∧ ∀ i, i < n → L i ≤ 131072

set_option maxHeartbeats 400000 in
theorem fit11 (h : In w a n c A L C R b o rb ro) : Calls Try.prog 11 #[.slice a n c] w (RetIf w (FitP n L)) := by
  have H := hide h
  have hn := h.small
  clear h
  go_enter Try.func11, Try.ntmps11
  go_wp2
  · go_ret
    exact retIf_false _
  have hnn : n ≤ 131072 := by omega
  go_loopg [3, 4] n (fun g t i wr => ∃ k : Nat, ∃ q : Int, k + g = n ∧ i = .int .i64 k ∧ t = .int .i64 q ∧ 0 ≤ q ∧ q ≤ 1048576 ∧ wr = w ∧ Hid (∀ i, i < k → L i ≤ 131072))
  case atStart => exact ⟨0, _, by omega, rfl, rfl, by omega, by omega, rfl, fun i hi => absurd hi (by omega)⟩
  case round =>
    obtain ⟨k, q, hk, rfl, rfl, hq0, hq1, rfl, HB⟩ := hrel
    by_cases hlt : k < n
    · obtain rfl := H.out.at_ (by omega)
      have hcx := H.out.cell k hlt
      have hLx := H.out.len k
      go_wp2
      · go_ret
        exact retIf_false _
      · go_ret
        exact retIf_false _
      · go_roundg (gk - 1)
        case measure => omega
        case rel =>
          refine ⟨k + 1, _, by omega, by go_num, rfl, by omega, by omega, rfl, ?_⟩
          intro i hi
          by_cases e : i = k
          · subst e; omega
          · exact HB.out i (by omega)
    · go_wp2
      go_ret
      have e : k = n := by omega
      subst e
      exact retIf_true _ ⟨hnn, HB.out⟩

/-- What a true answer of edgesInRange says. -/
def RangeP (n : Nat) (L : Nat → Nat) (R : Nat → Nat → Int) : Prop := ∀ i, i < n → ∀ j, j < L i → 0 ≤ R i j ∧ R i j < n

set_option maxHeartbeats 400000 in
theorem range12 (h : In w a n c A L C R b o rb ro) (hf : FitP n L) : Calls Try.prog 12 #[.slice a n c] w (RetIf w (RangeP n L R)) := by
  have H := hide h
  have F := hide hf
  have hn := hf.1
  clear h hf
  go_enter Try.func12, Try.ntmps12
  go_wp2
  go_loopg [4] n (fun g i wr => ∃ k : Nat, k + g = n ∧ i = .int .i64 k ∧ wr = w ∧ Hid (∀ i, i < k → ∀ j, j < L i → 0 ≤ R i j ∧ R i j < n))
  case atStart => exact ⟨0, by omega, rfl, rfl, fun i hi => absurd hi (by omega)⟩
  case round =>
    obtain ⟨k, hk, rfl, rfl, HB⟩ := hrel
    by_cases hlt : k < n
    · obtain rfl := H.out.at_ (by omega)
      have hcx := H.out.cell k hlt
      have hLx := F.out.2 k hlt
      have HA := hide (H.out.iat k hlt)
      generalize A k = y at hcx HA
      go_wp2
      go_loopg [6] (L k) (fun g i wr' => ∃ j : Nat, j + g = L k ∧ i = .int .i64 j ∧ wr' = wr ∧ Hid (∀ i, i < j → 0 ≤ R k i ∧ R k i < n))
      case atStart => exact ⟨0, by omega, rfl, rfl, fun i hi => absurd hi (by omega)⟩
      case round =>
        obtain ⟨j, hj, rfl, rfl, HJ⟩ := hrel
        by_cases hjl : j < L k
        · obtain rfl := HA.out (by omega)
          have hcj := H.out.icell k hlt j hjl
          by_cases h1 : R k j < 0
          · go_wp2
            go_ret
            exact retIf_false _
          · have h1' : ¬ R k j < 0 := h1
            by_cases h2 : (n : Int) ≤ R k j
            · go_wp2
              go_ret
              exact retIf_false _
            · go_wp2
              go_roundg (L k - (j + 1))
              case measure => omega
              case rel =>
                refine ⟨j + 1, by omega, by go_num, rfl, ?_⟩
                intro i hi
                by_cases e : i = j
                · subst e; omega
                · exact HJ.out i (by omega)
        · go_wp2
          go_roundg (n - (k + 1))
          case measure => omega
          case rel =>
            refine ⟨k + 1, by omega, by go_num, rfl, ?_⟩
            intro i hi j' hj'
            by_cases e : i = k
            · subst e; exact HJ.out j' (by omega)
            · exact HB.out i (by omega) j' hj'
    · go_wp2
      go_ret
      have e : k = n := by omega
      subst e
      exact retIf_true _ HB.out

/-- The cloned rows up to k. -/
structure CR (w wr : World) (n k : Nat) (L : Nat → Nat) (R : Nat → Nat → Int) (RA : Nat → Option Addr) (RB : Nat → Nat) : Prop where
  ext : Ext w wr
  lt : w.heap.size < wr.heap.size
  outer : wr.rowIs w.heap.size 25 n (fun i => if i < k then .slice (RA i) (L i) (L i) else .slice none 0 0)
  ra : ∀ i, i < k → 0 < L i → RA i = some ⟨RB i, 0, none⟩ ∧ w.heap.size < RB i
  inner : ∀ i, i < k → ∀ j, j < L i → wr.cell? ⟨RB i, j, none⟩ = some (.int .i64 (R i j))

theorem info25 : (Try.prog.info? 25).map (fun i => (i.zero, i.size, i.bytes)) = some (some (.slice none 0 0), 1, 24) := by kernel_rfl
theorem info3 : (Try.prog.info? 3).map (fun i => (i.zero, i.size, i.bytes)) = some (some (.int .i64 0), 1, 8) := by kernel_rfl

theorem CR.start (w : World) (n : Nat) (L : Nat → Nat) (R : Nat → Nat → Int) : CR w (w.alloc (.cells (madeCells #[.slice none 0 0] n) 25)) n 0 L R (fun _ => none) (fun _ => 0) :=
  ⟨(Ext.refl w).alloc _, by simp, (World.rowIs_made w _ n 25).congr (fun i _ => by simp), fun i hi => absurd hi (by omega), fun i hi => absurd hi (by omega)⟩

/-- A nil row: nothing is stored. -/
theorem CR.skip {w wr : World} {n k : Nat} {L : Nat → Nat} {R : Nat → Nat → Int} {RA : Nat → Option Addr} {RB : Nat → Nat} (h : CR w wr n k L R RA RB) (h0 : L k = 0) :
    CR w wr n (k + 1) L R (fun i => if i = k then none else RA i) RB := by
  refine ⟨h.ext, h.lt, h.outer.congr fun i hi => ?_, fun i hi hl => ?_, fun i hi j hj => ?_⟩
  · by_cases e : i = k
    · subst e; simp [h0]
    · by_cases e2 : i < k
      · simp [e, e2, show i < k + 1 by omega]
      · simp [e2, show ¬ i < k + 1 by omega]
  · have e : i ≠ k := fun e => by subst e; omega
    simp only [e, if_false]
    exact h.ra i (by omega) hl
  · have e : i ≠ k := fun e => by subst e; omega
    exact h.inner i (by omega) j hj

/-- Behind a store of a row into the outer row at k. -/
theorem CR.step {w wr w1 : World} {n k : Nat} {L : Nat → Nat} {R : Nat → Nat → Int} {RA : Nat → Option Addr} {RB : Nat → Nat} (h : CR w wr n k L R RA RB) (hx : Ext wr w1)
    (hb : ∀ j, j < L k → w1.cell? ⟨wr.heap.size, j, none⟩ = some (.int .i64 (R k j))) :
    CR w (w1.setCell ⟨w.heap.size, k, none⟩ (.slice (some ⟨wr.heap.size, 0, none⟩) (L k) (L k))) n (k + 1) L R (fun i => if i = k then some ⟨wr.heap.size, 0, none⟩ else RA i) (fun i => if i = k then wr.heap.size else RB i) := by
  have hlt := h.lt
  refine ⟨Below.setCell (h.ext.trans hx) (Nat.le_refl _) _, ?_, ?_, ?_, ?_⟩
  · have := hx.size
    simp [World.setCell]
    omega
  · have h1 := h.outer.of_block (w' := w1) (hx.block _ hlt)
    refine (h1.set k _).congr fun i hi => ?_
    by_cases e : i = k
    · subst e; simp
    · by_cases e2 : i < k
      · simp [e, e2, show i < k + 1 by omega]
      · simp [e, e2, show ¬ i < k + 1 by omega]
  · intro i hi hl
    by_cases e : i = k
    · subst e
      simp only [if_true]
      exact ⟨trivial, hlt⟩
    · simp only [e, if_false]
      exact h.ra i (by omega) hl
  · intro i hi j hj
    by_cases e : i = k
    · subst e
      simp only [if_true]
      rw [World.cell?_setCell_other _ _ _ _ (by intro h; have := congrArg Addr.block h; simp at this; omega)]
      exact hb j hj
    · simp only [e, if_false]
      have := (h.ra i (by omega) (by omega)).2
      rw [World.cell?_setCell_other _ _ _ _ (by intro h; have := congrArg Addr.block h; simp at this; omega)]
      exact hx.cell (h.inner i (by omega) j hj)

/-- The clone in memory. -/
structure Ed (w : World) (ea : Option Addr) (eb : Nat) (n : Nat) (L : Nat → Nat) (R : Nat → Nat → Int) (RA : Nat → Option Addr) (RB : Nat → Nat) : Prop where
  ea : 0 < n → ea = some ⟨eb, 0, none⟩
  outer : ∀ i, i < n → w.cell? ⟨eb, i, none⟩ = some (.slice (RA i) (L i) (L i))
  ra : ∀ i, i < n → 0 < L i → RA i = some ⟨RB i, 0, none⟩
  inner : ∀ i, i < n → ∀ j, j < L i → w.cell? ⟨RB i, j, none⟩ = some (.int .i64 (R i j))

def CloneP (w : World) (n : Nat) (L : Nat → Nat) (R : Nat → Nat → Int) (e : Ending) (w' : World) : Prop :=
  ∃ ea eb RA RB, e = .returned (.slice ea n n) ∧ Ext w w' ∧ Ed w' ea eb n L R RA RB

theorem CR.ed {w wr : World} {n : Nat} {L : Nat → Nat} {R : Nat → Nat → Int} {RA : Nat → Option Addr} {RB : Nat → Nat} (h : CR w wr n n L R RA RB) : Ed wr (some ⟨w.heap.size, 0, none⟩) w.heap.size n L R RA RB :=
  ⟨fun _ => rfl, fun i hi => by have := h.outer.cell hi; simpa [hi] using this, fun i hi hl => (h.ra i hi hl).1, h.inner⟩

set_option maxHeartbeats 400000 in
theorem clone_nil (w : World) (L : Nat → Nat) (R : Nat → Nat → Int) : Calls Try.prog 13 #[.slice none 0 0] w (CloneP w 0 L R) := by
  have h1 := @Lib.run_eql_slice_nil Try.prog
  go_enter Try.func13, Try.ntmps13
  go_wp2
  go_ret
  exact ⟨none, 0, fun _ => none, fun _ => 0, rfl, Ext.refl w, fun h => absurd h (by omega), fun i hi => absurd hi (by omega), fun i hi => absurd hi (by omega), fun i hi => absurd hi (by omega)⟩

/-- The row in hand while it is copied. -/
def CI (wr w1 : World) (l j : Nat) (f : Nat → Int) : Prop := Ext wr w1 ∧ w1.rowIs wr.heap.size 3 l (fun i => .int .i64 (if i < j then f i else 0))
theorem CI.start (wr : World) (l : Nat) (f : Nat → Int) : CI wr (wr.alloc (.cells (madeCells #[.int .i64 0] l) 3)) l 0 f :=
  ⟨(Ext.refl wr).alloc _, (World.rowIs_made wr _ l 3).congr (fun i _ => by simp)⟩
theorem CI.step {wr w1 : World} {l j : Nat} {f : Nat → Int} (h : CI wr w1 l j f) : CI wr (w1.setCell ⟨wr.heap.size, j, none⟩ (.int .i64 (f j))) l (j + 1) f := by
  refine ⟨Below.setCell h.1 (Nat.le_refl _) _, (h.2.set j _).congr fun i hi => ?_⟩
  by_cases e : i = j
  · subst e; simp
  · by_cases e2 : i < j
    · simp [e, e2, show i < j + 1 by omega]
    · simp [e, e2, show ¬ i < j + 1 by omega]

set_option maxRecDepth 100000 in
set_option maxHeartbeats 800000 in
theorem clone13 (h : In w a n c A L C R b o rb ro) (hf : FitP n L) : Calls Try.prog 13 #[.slice a n c] w (CloneP w n L R) := by
  cases a with
  | none =>
    obtain ⟨rfl, rfl⟩ := h.nil rfl
    exact clone_nil w L R
  | some x =>
    have H := hide h
    have F := hide hf
    have hn := hf.1
    clear h hf
    have h1 := @Lib.run_eql_slice_nil Try.prog
    have hmk := run_make_row' (P := Try.prog) 22 25 (.slice none 0 0) 24 Try.underlying22 info25 rfl .i64 .i64 n (by omega) (by omega)
    go_enter Try.func13, Try.ntmps13
    go_wp2
    go_loopg [4] n (fun g i wr => ∃ (k : Nat) (RA : Nat → Option Addr) (RB : Nat → Nat), k + g = n ∧ i = .int .i64 k ∧ CR w wr n k L R RA RB)
    case atStart => exact ⟨0, _, _, by omega, rfl, CR.start w n L R⟩
    case round =>
      obtain ⟨k, RA, RB, hk, rfl, hcr⟩ := hrel
      have HC := hide hcr
      clear hcr
      by_cases hlt : k < n
      · obtain rfl := Option.some.inj (H.out.at_ (by omega))
        have hcx := HC.out.ext.cell (H.out.cell k hlt)
        have HA := hide (H.out.iat k hlt)
        have hnil := hide (H.out.inil k hlt)
        have hLx := F.out.2 k hlt
        cases hA : A k with
        | none =>
          rw [hA] at hcx hnil HA
          obtain ⟨hl0, hc0⟩ := hnil.out rfl
          rw [hl0, hc0] at hcx
          have HL := hide hl0
          clear hl0 hc0 hA HA hnil hLx
          go_wp2
          go_roundg (n - (k + 1))
          case measure => omega
          case rel => exact ⟨k + 1, _, _, by omega, by go_num, HC.out.skip HL.out⟩
        | some y =>
          rw [hA] at hcx hnil HA
          clear hA hnil
          have hmk2 := run_make_row' (P := Try.prog) 25 3 (.int .i64 0) 8 Try.underlying25 info3 rfl .i64 .i64 (L k) (by omega) (by omega)
          obtain ⟨wo, rfl⟩ : ∃ wo, wo = wr := ⟨wr, rfl⟩
          go_wp2
          have HI := hide (CI.start wo (L k) (R k))
          have hxx := (Ext.refl wo).alloc (.cells (madeCells #[.int .i64 0] (L k)) 3)
          clear hcx hxx
          generalize wo.alloc (.cells (madeCells #[.int .i64 0] (L k)) 3) = w1 at HI ⊢
          go_loopg [7] (L k) (fun g i wr' => ∃ j : Nat, j + g = L k ∧ i = .int .i64 j ∧ CI wo wr' (L k) j (R k))
          case atStart => exact ⟨0, by omega, rfl, HI.out⟩
          case round =>
            obtain ⟨j, hj, rfl, hci⟩ := hrel
            have HJ := hide hci
            clear hci
            by_cases hjl : j < L k
            · obtain rfl := Option.some.inj (HA.out (by omega))
              have hcj := (HC.out.ext.trans HJ.out.1).cell (H.out.icell k hlt j hjl)
              have hco := HJ.out.2.cell hjl
              have hfo := HJ.out.2.frozen j
              go_wp2
              go_roundg (L k - (j + 1))
              case measure => omega
              case rel => exact ⟨j + 1, by omega, by go_num, HJ.out.step⟩
            · have ej : j = L k := by omega
              have HE := hide (show ∀ i, i < L k → wr.cell? ⟨wo.heap.size, i, none⟩ = some (.int .i64 (R k i)) from fun i hi => by
                have := HJ.out.2.cell hi
                rw [ej] at this
                simpa [hi] using this)
              have hco : wr.cell? ⟨w.heap.size, k, none⟩ = some (.slice none 0 0) := HJ.out.1.cell (by have := HC.out.outer.cell hlt; simpa using this)
              have hfo : wr.frozen? ⟨w.heap.size, k, none⟩ = false := (Below.frozen HJ.out.1 (by exact HC.out.lt)).trans (HC.out.outer.frozen k)
              go_wp2
              go_roundg (n - (k + 1))
              case measure => omega
              case rel => exact ⟨k + 1, _, _, by omega, by go_num, HC.out.step HJ.out.1 HE.out⟩
      · have e : k = n := by omega
        subst e
        go_wp2
        go_ret
        exact ⟨_, _, RA, RB, rfl, HC.out.ext, HC.out.ed⟩
end
end Go.Proofs.Qxb6001235a
