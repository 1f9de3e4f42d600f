import Derived.Test.Qxb6001094aClones
import Derived.Test.Qxb6001094aSmall
import Derived.Maps.OwnOps
import Derived.Maps.Views
/-! Seat b6001094a: sigNumbers, (roster).number, (*sigmaJudge).correct. -/
namespace Go.Proofs.Qxb6001094a
set_option linter.unusedVariables false
open Go.RowKit Go.Maps

/-- What the map of numbers answers after k rounds. -/
def numK (f : Nat → Int) : Nat → Int → Int
  | 0, _ => 0
  | k + 1, id => if f k = id then (k : Int) + 1 else numK f k id

theorem law3 : Keyed Try.prog 3 := int_keyed Try.underlying3
theorem zero3 (w : World) : (zeroValue 3).run Try.prog w = .ok (.int .i64 0) w := by kernel_rfl

/-- Block b is the map of numbers of the first k identities. -/
def NumMap (w : World) (b k : Nat) (f : Nat → Int) : Prop :=
  ∃ D : DataW Unit, w.ownsMap Try.prog 3 (plainElem Try.prog 3) b k D ∧ IsMap D ∧ ∀ id, D.atKey (.int .i64 id) (.lit (.int .i64 0)) = .lit (.int .i64 (numK f k id))

theorem NumMap.ext {w w' : World} {b k : Nat} {f : Nat → Int} (h : NumMap w b k f) (hx : Ext w w') : NumMap w' b k f := by
  obtain ⟨D, h1, h2, h3⟩ := h
  have hlt := h1.lt
  obtain ⟨es, clock, hb, r⟩ := h1
  exact ⟨D, ⟨es, clock, (hx.block b hlt).trans hb, r⟩, h2, h3⟩

theorem NumMap.step {D : DataW Unit} {k : Nat} {f : Nat → Int} (h2 : IsMap D) (h3 : ∀ id, D.atKey (.int .i64 id) (.lit (.int .i64 0)) = .lit (.int .i64 (numK f k id))) :
    IsMap (D.put (.int .i64 (f k)) (.lit (.int .i64 ((k : Int) + 1)))) ∧ ∀ id, (D.put (.int .i64 (f k)) (.lit (.int .i64 ((k : Int) + 1)))).atKey (.int .i64 id) (.lit (.int .i64 0)) = .lit (.int .i64 (numK f (k + 1) id)) := by
  refine ⟨h2.put _ _, fun id => ?_⟩
  by_cases e : f k = id
  · subst e
    rw [atKey_put_same h2 (by trivial)]
    simp [numK]
  · rw [atKey_put_other (by simp; exact fun h => e h.symm), h3]
    simp [numK, e]

theorem makeMap77 (n : Int) (w : World) : (Instr.makeMap 77 (some (.int .i64 n))).run Try.prog w = .ok (.map (some w.heap.size)) (w.alloc (.map #[] 0)) := by
  simp [Instr.makeMap, run_underlying Try.underlying77, asInt, asIntOf, Result.andThen]

def NumbersP (w : World) (n : Nat) (f : Nat → Int) (e : Ending) (w' : World) : Prop := e = .returned (.map (some w.heap.size)) ∧ Ext w w' ∧ NumMap w' w.heap.size n f

set_option maxHeartbeats 400000 in
theorem numbers44_zero (a : Option Addr) (c : Nat) (f : Nat → Int) (w : World) : Calls Try.prog 44 #[.slice a 0 c] w (NumbersP w 0 f) := by
  have hmm := makeMap77
  go_enter Try.func44, Try.ntmps44
  go_wp2
  refine wp_loop_rounds 1 ?_
  rw [rounds_succ]
  go_wp2
  go_ret
  exact ⟨rfl, (Ext.refl w).alloc _, .map [], World.ownsMap_made _ _ _ _, isMap_empty, fun _ => rfl⟩

set_option maxHeartbeats 400000 in
theorem numbers44 (b o n c : Nat) (f : Nat → Int) (w : World) (hn : n ≤ 131072) (hc : ∀ i, i < n → w.cell? ⟨b, o + i, none⟩ = some (.int .i64 (f i))) (hw : ∀ i, (Lit.int .i64 (f i)).wf = true) :
    Calls Try.prog 44 #[.slice (some ⟨b, o, none⟩) n c] w (NumbersP w n f) := by
  have hmm := makeMap77
  have H : Hid ((∀ i, i < n → w.cell? ⟨b, o + i, none⟩ = some (.int .i64 (f i))) ∧ ∀ i, (Lit.int .i64 (f i)).wf = true) := ⟨hc, hw⟩
  clear hc hw
  go_enter Try.func44, Try.ntmps44
  go_wp2
  go_loopg [4] n (fun g i wr => ∃ (k : Nat) (D : DataW Unit), k + g = n ∧ i = .int .i64 (k : Int) ∧ Hid (Ext w wr ∧ wr.ownsMap Try.prog 3 (plainElem Try.prog 3) w.heap.size k D ∧ IsMap D ∧ ∀ id, D.atKey (.int .i64 id) (.lit (.int .i64 0)) = .lit (.int .i64 (numK f k id))))
  case atStart => exact ⟨0, .map [], by omega, rfl, (Ext.refl w).alloc _, World.ownsMap_made _ _ _ _, isMap_empty, fun _ => rfl⟩
  case round =>
    obtain ⟨k, D, hk, rfl, HB⟩ := hrel
    by_cases hlt : k < n
    · have hcx := HB.out.1.cell (H.out.1 k hlt)
      have hkey := keyOf_int_mk (P := Try.prog) (k := 3) Try.underlying3 (H.out.2 k)
      have hval : plainElem (H := Unit) Try.prog 3 (.int .i64 ((k : Int) + 1)) = some (.lit (.int .i64 ((k : Int) + 1)), []) := plainElem_int Try.underlying3 (WalkArith.wf_i64 (by omega))
      go_wp2_with (at_mapUpdate; refine wpList_mapUpdate_own _ rfl _ _ _ 77 rfl 3 3 law3 Try.underlying77 _ w.heap.size k _ rfl HB.out.2.1 (by unfold maxLen; omega) _ _ _ rfl rfl hkey _ [] hval ?_; intro w1 hown1 hgrow1)
      go_roundg (gk - 1)
      case measure => omega
      case rel =>
        have := NumMap.step (f := f) HB.out.2.2.1 HB.out.2.2.2
        refine ⟨k + 1, _, by omega, by go_num, Below.grown HB.out.1 hgrow1 HB.out.1.size (fun j hj => by cases hj; exact Nat.le_refl _), hown1, this.1, this.2⟩
    · have e : k = n := by omega
      subst e
      go_wp2
      go_ret
      exact ⟨rfl, HB.out.1, D, HB.out.2.1, HB.out.2.2.1, HB.out.2.2.2⟩

/-- The answer of 'correct': by the map of numbers. -/
def corK (n : Nat) (f g : Nat → Int) (e id : Int) : Bool := decide (0 < numK f n id) && (g (numK f n id - 1).toNat == e)

def NumP (w : World) (n : Nat) (f : Nat → Int) (id : Int) (e : Ending) (w' : World) : Prop := e = .returned (.int .i64 (numK f n id)) ∧ Ext w w'

set_option maxHeartbeats 400000 in
theorem number50 (v0 v3 v4 : Value) (mb n : Nat) (e id : Int) (f : Nat → Int) (w : World) (hw : (Lit.int .i64 id).wf = true) (hm : NumMap w mb n f) :
    Calls Try.prog 50 #[.agg #[v0, .map (some mb), .int .i64 e, v3, v4], .int .i64 id] w (NumP w n f id) := by
  obtain ⟨D, h1, h2, h3⟩ := hm
  have hkey := keyOf_int_mk (P := Try.prog) (k := 3) Try.underlying3 hw
  have h3' : Hid (∀ id, D.atKey (.int .i64 id) (.lit (.int .i64 0)) = .lit (.int .i64 (numK f n id))) := h3
  clear h3
  go_enter Try.func50, Try.ntmps50
  go_wp2_with (at_lookup; refine wpList_lookup_own_int _ rfl _ _ 77 rfl 3 3 .i64 law3 Try.underlying77 Try.underlying3 (zero3 _) mb n _ rfl (h1.alloc _) _ _ rfl hkey ?_; intro c hat hwc)
  go_ret
  refine ⟨?_, (Ext.refl w).alloc _⟩
  rw [h3'.out id] at hat
  injection hat with hat
  injection hat with _ hat
  rw [hat]
  rfl

/-- The judge behind a pointer: its ten cells. -/
def Judge (w : World) (jb : Nat) (vi : Value) (mb : Nat) (e : Int) (vc : Value) (ib : Nat) (vl vd vs : Value) : Prop :=
  ∃ fr, w.heap[jb]? = some (.cells #[vi, .map (some mb), .int .i64 e, .slice none 0 0, vc, .int .i64 0, .pointer (some ⟨ib, 0, none⟩), vl, vd, vs] 92 fr)

theorem Judge.ext {w w' : World} {jb mb ib : Nat} {vi vc vl vd vs : Value} {e : Int} (h : Judge w jb vi mb e vc ib vl vd vs) (hx : Ext w w') : Judge w' jb vi mb e vc ib vl vd vs := by
  obtain ⟨fr, h⟩ := h
  exact ⟨fr, (hx.block jb (Array.getElem?_eq_some_iff.1 h).1).trans h⟩

theorem Judge.cells {w : World} {jb mb ib : Nat} {vi vc vl vd vs : Value} {e : Int} (h : Judge w jb vi mb e vc ib vl vd vs) :
    w.cell? ⟨jb, 0, none⟩ = some vi ∧ w.cell? ⟨jb, 1, none⟩ = some (.map (some mb)) ∧ w.cell? ⟨jb, 2, none⟩ = some (.int .i64 e) ∧ w.cell? ⟨jb, 3, none⟩ = some (.slice none 0 0) ∧ w.cell? ⟨jb, 4, none⟩ = some vc ∧
    w.cell? ⟨jb, 5, none⟩ = some (.int .i64 0) ∧ w.cell? ⟨jb, 6, none⟩ = some (.pointer (some ⟨ib, 0, none⟩)) ∧ w.cell? ⟨jb, 7, none⟩ = some vl ∧ w.cell? ⟨jb, 8, none⟩ = some vd ∧ w.cell? ⟨jb, 9, none⟩ = some vs := by
  obtain ⟨fr, h⟩ := h
  simp [World.cell?, h]

def CorP (w : World) (b : Bool) (e : Ending) (w' : World) : Prop := e = .returned (.bool b) ∧ Ext w w'

theorem numK_le (f : Nat → Int) (n : Nat) (id : Int) : 0 ≤ numK f n id ∧ numK f n id ≤ n := by
  induction n with
  | zero => simp [numK]
  | succ k ih => unfold numK; split <;> omega

set_option maxHeartbeats 400000 in
theorem correct49 (jb mb ib n cb : Nat) (si sc : Option Addr) (ni ci cc : Nat) (vl vd vs : Value) (e id : Int) (f g : Nat → Int) (w : World) (hw : (Lit.int .i64 id).wf = true) (hn : n ≤ 131072)
    (hJ : Judge w jb (.slice si ni ci) mb e (.slice sc n cc) ib vl vd vs) (hm : NumMap w mb n f) (hcr : 0 < n → sc = some ⟨cb, 0, none⟩) (hc : ∀ i, i < n → w.cell? ⟨cb, i, none⟩ = some (.int .i64 (g i))) :
    Calls Try.prog 49 #[.pointer (some ⟨jb, 0, none⟩), .int .i64 id] w (CorP w (corK n f g e id)) := by
  have HJ : Hid (Judge w jb (.slice si ni ci) mb e (.slice sc n cc) ib vl vd vs) := hJ
  obtain ⟨j0, j1, j2, j3, j4, -, -, -, -, -⟩ := hJ.cells
  have HC : Hid (∀ i, i < n → w.cell? ⟨cb, i, none⟩ = some (.int .i64 (g i))) := hc
  have HM : Hid (NumMap w mb n f) := hm
  have HR : Hid (0 < n → sc = some ⟨cb, 0, none⟩) := hcr
  clear hJ hc hm hcr
  go_enter Try.func49, Try.ntmps49
  go_wp2_with fail
  refine (number50 _ _ _ mb n e id f w hw HM.out).mono ?_
  rintro e1 w1 ⟨rfl, hx⟩
  obtain ⟨k0, k1⟩ := numK_le f n id
  by_cases hp : 0 < numK f n id
  · have hpos : 0 < n := by omega
    obtain rfl : sc = some ⟨cb, 0, none⟩ := HR.out hpos
    obtain ⟨-, -, i2, -, i4, -, -, -, -, -⟩ := (HJ.out.ext hx).cells
    obtain ⟨m, hm⟩ : ∃ m : Nat, numK f n id = (m : Int) + 1 := ⟨(numK f n id - 1).toNat, by omega⟩
    have hcx : w1.cell? ⟨cb, m, none⟩ = some (.int .i64 (g m)) := hx.cell (HC.out m (by omega))
    have hfin : Hid (corK n f g e id = (g m == e)) := by
      show _ = _
      unfold corK
      rw [hm]
      simp <;> omega
    have hml : m < n := by omega
    have HX : Hid (Ext w w1) := hx
    clear j0 j1 j2 j3 j4 hx k0 k1 hp
    rw [hm]
    clear hm
    have hd : decide ((0 : Int) < (m : Int) + 1) = true := by simp <;> omega
    go_wp2
    go_quiet (fail)
    go_wp2
    go_ret
    exact ⟨by rw [hfin.out]; rfl, below_drewN HX.out _⟩
  · have h0 : numK f n id = 0 := by omega
    have hfin : Hid (corK n f g e id = false) := by
      show _ = _
      unfold corK
      rw [h0]; rfl
    have HX : Hid (Ext w w1) := hx
    clear j0 j1 j2 j3 j4 hx k0 k1 hp
    rw [h0]
    clear h0
    have hd : decide ((0 : Int) < 0) = false := by decide
    go_wp2
    go_quiet (fail)
    go_wp2
    go_ret
    exact ⟨by rw [hfin.out]; rfl, below_drewN HX.out _⟩

/-- By strictly increasing identities the map's answer is the one of the search. -/
theorem numK_zero {f : Nat → Int} {n : Nat} {id : Int} (h : ∀ i, i < n → f i ≠ id) : numK f n id = 0 := by
  induction n with
  | zero => rfl
  | succ k ih => unfold numK; rw [if_neg (h k (by omega))]; exact ih (fun i hi => h i (by omega))
theorem numK_at {f : Nat → Int} {n i : Nat} (hi : i < n) (hs : ∀ i j, i < j → j < n → f i < f j) : numK f n (f i) = (i : Int) + 1 := by
  induction n with
  | zero => omega
  | succ k ih =>
    unfold numK
    by_cases e : i = k
    · subst e; simp
    · have := hs i k (by omega) (by omega)
      rw [if_neg (by omega)]
      exact ih (by omega) (fun a b h1 h2 => hs a b h1 (by omega))
theorem corK_at {f g : Nat → Int} {n i : Nat} {e : Int} (hi : i < n) (hs : ∀ i j, i < j → j < n → f i < f j) : corK n f g e (f i) = (g i == e) := by
  unfold corK
  rw [numK_at hi hs]
  simp <;> omega
theorem corK_corrAt {f g : Nat → Int} {n : Nat} {e id : Int} (hs : ∀ i j, i < j → j < n → f i < f j) : corK n f g e id = corrAt n f g e id := by
  by_cases h : ∃ i, i < n ∧ f i = id
  · obtain ⟨i, hi, rfl⟩ := h
    rw [corK_at hi hs]
    rw [Bool.eq_iff_iff]
    simp only [corrAt, List.any_eq_true, List.mem_range, Bool.and_eq_true, beq_iff_eq]
    constructor
    · intro h; exact ⟨i, hi, rfl, h⟩
    · rintro ⟨j, hj, e1, e2⟩
      rcases Nat.lt_trichotomy i j with h | h | h
      · have := hs i j h hj; omega
      · subst h; exact e2
      · have := hs j i h hi; omega
  · have h0 : ∀ i, i < n → f i ≠ id := fun i hi e => h ⟨i, hi, e⟩
    unfold corK
    rw [numK_zero h0]
    have : corrAt n f g e id = false := by
      rw [Bool.eq_false_iff]
      unfold corrAt
      rw [ne_eq, List.any_eq_true]
      rintro ⟨j, hj, e1⟩
      simp at e1 hj
      exact h0 j hj e1.1
    rw [this]; rfl
end Go.Proofs.Qxb6001094a
