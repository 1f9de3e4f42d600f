import Derived.Test.Qxb6001094aProg
import Derived.WalkKit
import Derived.WalkSpells
import Derived.WalkLawsBesides
import Derived.Deep.LoopGhost
import Derived.Deep.OwnRows
import Derived.BigQuiet
import Derived.Deep.QuietTactic
import Derived.Maps.OwnOps
import Derived.Maps.Views
/-! Seat b6001094a: sigShaped, sameInts, sigCorrect, sigNumbers, number, correct. -/
namespace Go.Proofs.Qxb6001094a
set_option linter.unusedVariables false
open Go.RowKit

/-- 'Some bool comes back, and where it is true, p holds; the world has at most drawn.' -/
def RetIfD (w : World) (p : Prop) (e : Ending) (w' : World) : Prop := (∃ b, e = .returned (.bool b) ∧ (b = true → p)) ∧ ∃ m, w' = w.drewN m
theorem retIfD_false {p : Prop} (w : World) (m : Nat) : RetIfD w p (.returned (.bool false)) (w.drewN m) := ⟨⟨false, rfl, fun h => by cases h⟩, m, rfl⟩
theorem retIfD_true {p : Prop} (w : World) (m : Nat) (h : p) : RetIfD w p (.returned (.bool true)) (w.drewN m) := ⟨⟨true, rfl, fun _ => h⟩, m, rfl⟩

/-- What a true answer of sigShaped says of the identities. -/
def ShapedP (n : Nat) (f : Nat → Int) : Prop := ∀ i, i + 1 < n → f i < f (i + 1)

set_option maxHeartbeats 400000 in
theorem shaped_no (n n1 n3 n4 n5 c c1 c3 c4 c5 : Nat) (a a1 a3 a4 a5 : Option Addr) (w : World) (h : ¬ (n1 = n ∧ n3 = n ∧ n4 = n ∧ n5 = n)) :
    Calls Try.prog 32 #[.slice a n c, .slice a1 n1 c1, .slice a3 n3 c3, .slice a4 n4 c4, .slice a5 n5 c5] w fun e w' => e = .returned (.bool false) ∧ w' = w := by
  have H : Hid (¬ (n1 = n ∧ n3 = n ∧ n4 = n ∧ n5 = n)) := h
  clear h
  go_enter Try.func32, Try.ntmps32
  go_wp2
  all_goals (try (go_ret; exact ⟨rfl, rfl⟩))
  exfalso
  have h5 : ((n5 : Int) != (n : Int)) = false := by assumption
  have h5' : (n5 : Int) = (n : Int) := by simpa using h5
  exact H.out ⟨by omega, by omega, by omega, by omega⟩

set_option maxHeartbeats 400000 in
theorem shaped_yes0 (c c1 c3 c4 c5 : Nat) (a a1 a3 a4 a5 : Option Addr) (w : World) :
    Calls Try.prog 32 #[.slice a 0 c, .slice a1 0 c1, .slice a3 0 c3, .slice a4 0 c4, .slice a5 0 c5] w fun e w' => e = .returned (.bool true) ∧ w' = w := by
  go_enter Try.func32, Try.ntmps32
  go_wp2
  refine wp_loop_rounds 1 ?_
  rw [rounds_succ]
  go_wp2
  go_ret
  exact ⟨rfl, rfl⟩

set_option maxHeartbeats 400000 in
theorem shaped_yes (b o n c c1 c3 c4 c5 : Nat) (a1 a3 a4 a5 : Option Addr) (f : Nat → Int) (w : World) (h0 : 0 < n) (hn : n ≤ 131072)
    (hc : ∀ i, i < n → w.cell? ⟨b, o + i, none⟩ = some (.int .i64 (f i))) :
    Calls Try.prog 32 #[.slice (some ⟨b, o, none⟩) n c, .slice a1 n c1, .slice a3 n c3, .slice a4 n c4, .slice a5 n c5] w (RetIfD w (ShapedP n f)) := by
  have H : Hid (∀ i, i < n → w.cell? ⟨b, o + i, none⟩ = some (.int .i64 (f i))) := hc
  clear hc
  go_enter Try.func32, Try.ntmps32
  go_wp2
  go_loopg [12] n (fun g i wr => ∃ (k m : Nat), k + g = n ∧ i = .int .i64 ((k : Int) + 1) ∧ k < n ∧ wr = w.drewN m ∧ Hid (∀ i, i < k → f i < f (i + 1)))
  case atStart => exact ⟨0, 0, by omega, rfl, h0, rfl, fun i hi => absurd hi (by omega)⟩
  case round =>
    obtain ⟨k, m, hk, rfl, hkn, rfl, HB⟩ := hrel
    by_cases hlt : k + 1 < n
    · have hlt2 : (k : Int) + 1 < (n : Int) := by omega
      have hcx : w.cell? ⟨b, o + k, none⟩ = some (.int .i64 (f k)) := H.out k (by omega)
      have hcy : w.cell? ⟨b, o + (k + 1), none⟩ = some (.int .i64 (f (k + 1))) := H.out (k + 1) (by omega)
      go_wp2
      go_quiet (fail)
      go_wp2
      · go_ret
        first | exact retIfD_false _ _ | (rw [World.drewN_drewN]; exact retIfD_false _ _)
      · have hff : f k < f (k + 1) := by assumption
        go_roundg (gk - 1)
        case measure => omega
        case rel =>
          refine ⟨k + 1, _, by omega, by go_num, hlt, by first | rfl | (rw [World.drewN_drewN]), ?_⟩
          intro i hi
          by_cases e : i = k
          · subst e; exact hff
          · exact HB.out i (by omega)
    · have hlt2 : ¬ (k : Int) + 1 < (n : Int) := by omega
      go_wp2
      go_ret
      exact retIfD_true _ _ (fun i hi => HB.out i (by omega))

/-! ### sameInts: two slices that read the same numbers -/

/-- Two slices of one length, the same numbers in both: true. -/
def TrueD (w : World) (e : Ending) (w' : World) : Prop := e = .returned (.bool true) ∧ ∃ m, w' = w.drewN m

set_option maxHeartbeats 400000 in
theorem same34_zero (a a' : Option Addr) (c c' : Nat) (w : World) : Calls Try.prog 34 #[.slice a 0 c, .slice a' 0 c'] w (TrueD w) := by
  go_enter Try.func34, Try.ntmps34
  go_wp2
  refine wp_loop_rounds 1 ?_
  rw [rounds_succ]
  go_wp2
  go_ret
  exact ⟨rfl, 0, rfl⟩

set_option maxHeartbeats 400000 in
theorem same34_pos (b o b' o' n c c' : Nat) (f : Nat → Int) (w : World) (hn : n ≤ 131072) (hc : ∀ i, i < n → w.cell? ⟨b, o + i, none⟩ = some (.int .i64 (f i)))
    (hc' : ∀ i, i < n → w.cell? ⟨b', o' + i, none⟩ = some (.int .i64 (f i))) :
    Calls Try.prog 34 #[.slice (some ⟨b, o, none⟩) n c, .slice (some ⟨b', o', none⟩) n c'] w (TrueD w) := by
  have H : Hid ((∀ i, i < n → w.cell? ⟨b, o + i, none⟩ = some (.int .i64 (f i))) ∧ (∀ i, i < n → w.cell? ⟨b', o' + i, none⟩ = some (.int .i64 (f i)))) := ⟨hc, hc'⟩
  clear hc hc'
  go_enter Try.func34, Try.ntmps34
  go_wp2
  go_loopg [5] n (fun g i wr => ∃ (k m : Nat), k + g = n ∧ i = .int .i64 (k : Int) ∧ wr = w.drewN m)
  case atStart => exact ⟨0, 0, by omega, rfl, rfl⟩
  case round =>
    obtain ⟨k, m, hk, rfl, rfl⟩ := hrel
    by_cases hlt : k < n
    · have hlt2 : (k : Int) < (n : Int) := by omega
      have hcx := H.out.1 k hlt
      have hcy := H.out.2 k hlt
      go_wp2
      go_quiet (fail)
      go_wp2
      go_roundg (gk - 1)
      case measure => omega
      case rel => exact ⟨k + 1, _, by omega, by go_num, by first | rfl | (rw [World.drewN_drewN])⟩
    · go_wp2
      go_ret
      exact ⟨rfl, _, rfl⟩

/-! ### sigCorrect: by binary search -/
def corrAt (n : Nat) (f g : Nat → Int) (e id : Int) : Bool := (List.range n).any fun i => f i == id && g i == e
theorem corrAt_at {n l : Nat} {f g : Nat → Int} {e id : Int} (hl : l < n) (h1 : ∀ i, i < l → f i < id) (h2 : ∀ i, l ≤ i → i < n → id ≤ f i) (hs : ∀ i j, i < j → j < n → f i < f j) :
    corrAt n f g e id = (f l == id && g l == e) := by
  have hl2 := h2 l (Nat.le_refl _) hl
  rw [Bool.eq_iff_iff]
  simp only [corrAt, List.any_eq_true, List.mem_range, Bool.and_eq_true, beq_iff_eq]
  constructor
  · rintro ⟨i, hi, e1, e2⟩
    rcases Nat.lt_trichotomy i l with h | h | h
    · have := h1 i h; omega
    · subst h; exact ⟨e1, e2⟩
    · have := hs l i h hi; omega
  · rintro ⟨e1, e2⟩
    exact ⟨l, hl, e1, e2⟩
theorem corrAt_out {n l : Nat} {f g : Nat → Int} {e id : Int} (hl : n ≤ l) (h1 : ∀ i, i < l → f i < id) : corrAt n f g e id = false := by
  rw [Bool.eq_false_iff]
  simp only [corrAt, ne_eq, List.any_eq_true, List.mem_range, Bool.and_eq_true, beq_iff_eq]
  rintro ⟨i, hi, e1, e2⟩
  have := h1 i (by omega); omega

set_option maxHeartbeats 400000 in
theorem sigc36_zero (a a' : Option Addr) (c c' : Nat) (e id : Int) (w : World) : Calls Try.prog 36 #[.slice a 0 c, .slice a' 0 c', .int .i64 e, .int .i64 id] w fun r w' => r = .returned (.bool false) ∧ w' = w := by
  go_enter Try.func36, Try.ntmps36
  go_wp2
  refine wp_loop_rounds 1 ?_
  rw [rounds_succ]
  go_wp2
  go_ret
  exact ⟨rfl, rfl⟩

set_option maxHeartbeats 400000 in
theorem sigc36 (b o b' o' n c c' : Nat) (f g : Nat → Int) (e id : Int) (w : World) (hn : n ≤ 131072) (hc : ∀ i, i < n → w.cell? ⟨b, o + i, none⟩ = some (.int .i64 (f i)))
    (hc' : ∀ i, i < n → w.cell? ⟨b', o' + i, none⟩ = some (.int .i64 (g i))) (hs : ∀ i j, i < j → j < n → f i < f j) :
    Calls Try.prog 36 #[.slice (some ⟨b, o, none⟩) n c, .slice (some ⟨b', o', none⟩) n c', .int .i64 e, .int .i64 id] w fun r w' => r = .returned (.bool (corrAt n f g e id)) ∧ w' = w := by
  have H : Hid ((∀ i, i < n → w.cell? ⟨b, o + i, none⟩ = some (.int .i64 (f i))) ∧ (∀ i, i < n → w.cell? ⟨b', o' + i, none⟩ = some (.int .i64 (g i))) ∧ ∀ i j, i < j → j < n → f i < f j) := ⟨hc, hc', hs⟩
  clear hc hc' hs
  go_enter Try.func36, Try.ntmps36
  go_wp2
  go_loopg [9, 10] n (fun gh lo hi wr => ∃ (l h : Nat), l + gh = h ∧ l ≤ h ∧ h ≤ n ∧ lo = .int .i64 (l : Int) ∧ hi = .int .i64 (h : Int) ∧ wr = w ∧ Hid ((∀ i, i < l → f i < id) ∧ (∀ i, h ≤ i → i < n → id ≤ f i)))
  case atStart => exact ⟨0, n, by omega, by omega, by omega, rfl, rfl, rfl, fun i hi => absurd hi (by omega), fun i hi h => absurd hi (by omega)⟩
  case round =>
    obtain ⟨l, h, hk, hlh, hhn, rfl, rfl, rfl, HB⟩ := hrel
    by_cases hlt : l < h
    · have hlt2 : (l : Int) < (h : Int) := by omega
      have hm : l + (h - l) / 2 < n := by omega
      have hcx := H.out.1 (l + (h - l) / 2) hm
      go_wp2
      · have hff : f (l + (h - l) / 2) < id := by assumption
        go_roundg (h - (l + (h - l) / 2 + 1))
        case measure => omega
        case rel =>
          refine ⟨l + (h - l) / 2 + 1, h, by omega, by omega, hhn, by go_num, rfl, rfl, ?_, HB.out.2⟩
          intro i hi
          by_cases e : i = l + (h - l) / 2
          · rw [e]; exact hff
          · have := H.out.2.2 i (l + (h - l) / 2) (by omega) hm; omega
      · have hff : id ≤ f (l + (h - l) / 2) := by assumption
        go_roundg ((h - l) / 2)
        case measure => omega
        case rel =>
          refine ⟨l, l + (h - l) / 2, by omega, by omega, by omega, rfl, by go_num, rfl, HB.out.1, ?_⟩
          intro i hi hin
          by_cases e : i = l + (h - l) / 2
          · rw [e]; exact hff
          · have := H.out.2.2 (l + (h - l) / 2) i (by omega) hin; omega
    · have e0 : l = h := by omega
      subst e0
      clear hk hlh
      by_cases hln : l < n
      · have hcx := H.out.1 l hln
        have hcy := H.out.2.1 l hln
        have hfin : Hid (corrAt n f g e id = (f l == id && g l == e)) := corrAt_at hln HB.out.1 HB.out.2 H.out.2.2
        cases hb1 : (f l == id) with
        | false =>
          go_wp2
          go_ret
          exact ⟨by rw [hfin.out, hb1]; rfl, rfl⟩
        | true =>
          go_wp2
          go_ret
          refine ⟨?_, rfl⟩
          rw [hfin.out, hb1]; rfl
      · have hfin : Hid (corrAt n f g e id = false) := corrAt_out (by omega) HB.out.1
        go_wp2
        go_ret
        exact ⟨by rw [hfin.out]; rfl, rfl⟩
end Go.Proofs.Qxb6001094a
