import Derived.Test.Qxb6001094aProg
import Derived.WalkKit
import Derived.WalkSpells
import Derived.WalkLawsBesides
import Derived.Deep.LoopGhost
/-! Seat b6001094a: the guards of the Sigma laws: the three byte guards, sigFits. -/
namespace Go.Proofs.Qxb6001094a
set_option linter.unusedVariables false
open Go.RowKit

/-- The rows of a '[][]int' whose lengths alone are read: no row at all, or an address with a slice in each cell. -/
def RowsIn (w : World) (a : Option Addr) (n : Nat) (L : Nat → Nat) : Prop :=
  (∀ i, L i ≤ 9223372036854775807) ∧ (n = 0 ∨ ∃ (b o : Nat) (A : Nat → Option Addr) (C : Nat → Nat), a = some ⟨b, o, none⟩ ∧ ∀ i, i < n → w.cell? ⟨b, o + i, none⟩ = some (.slice (A i) (L i) (C i)))

/-- 'Some bool comes back; the world stands.' -/
def RetB (w : World) (e : Ending) (w' : World) : Prop := (∃ b, e = .returned (.bool b)) ∧ w' = w
theorem retB (b : Bool) (w : World) : RetB w (.returned (.bool b)) w := ⟨⟨b, rfl⟩, rfl⟩

/-- 'Some bool comes back, and where it is true, p holds; the world stands.' -/
def RetIf (w : World) (p : Prop) (e : Ending) (w' : World) : Prop := (∃ b, e = .returned (.bool b) ∧ (b = true → p)) ∧ w' = w
theorem retIf_false {p : Prop} (w : World) : RetIf w p (.returned (.bool false)) w := ⟨⟨false, rfl, fun h => by cases h⟩, rfl⟩
theorem retIf_true {p : Prop} (w : World) (h : p) : RetIf w p (.returned (.bool true)) w := ⟨⟨true, rfl, fun _ => h⟩, rfl⟩

set_option maxHeartbeats 400000 in
theorem zz30 (a0 a1 a3 a4 a5 : Option Addr) (n0 n1 n4 n5 c0 c1 c3 c4 c5 n : Nat) (e0 : Int) (w : World) (L : Nat → Nat)
   (hn : n ≤ 9223372036854775807) (h0 : n0 ≤ 9223372036854775807) (h1 : n1 ≤ 9223372036854775807) (h4 : n4 ≤ 9223372036854775807) (h5 : n5 ≤ 9223372036854775807)
   (hR : RowsIn w a3 n L) :
    Calls Try.prog 30 #[.slice a0 n0 c0, .slice a1 n1 c1, .int .i64 e0, .slice a3 n c3, .slice a4 n4 c4, .slice a5 n5 c5] w (RetB w) := by
  obtain ⟨hL, hR⟩ := hR
  rcases hR with rfl | ⟨b, o, A, C, rfl, hc⟩
  · go_enter Try.func30, Try.ntmps30
    go_wp2
    all_goals (try (go_ret; exact retB _ _))
    refine wp_loop_rounds 1 ?_
    rw [rounds_succ]
    go_wp2
    all_goals (go_ret; exact retB _ _)
  · go_enter Try.func30, Try.ntmps30
    go_wp2
    all_goals (try (go_ret; exact retB _ _))
    go_loopg [13, 14] n (fun g t i wr => ∃ k : Nat, ∃ q : Int, k + g = n ∧ i = .int .i64 k ∧ t = .int .i64 q ∧ 0 ≤ q ∧ q ≤ 1048576 ∧ wr = w)
    case atStart => exact ⟨0, _, by omega, rfl, rfl, by omega, by omega, rfl⟩
    case round =>
      obtain ⟨k, q, hk, rfl, rfl, hq0, hq1, rfl⟩ := hrel
      by_cases hlt : k < n
      · have hcx := hc k hlt
        have hLx := hL k
        clear hc hL
        go_wp2
        · go_ret
          exact retB _ _
        · go_ret
          exact retB _ _
        · go_roundg (gk - 1)
          case measure => omega
          case rel => exact ⟨k + 1, _, by omega, by go_num, rfl, by omega, by omega, rfl⟩
      · go_wp2
        all_goals (go_ret; exact retB _ _)
set_option maxHeartbeats 400000 in
theorem zz35 (a0 a1 a3 a4 a5 a6 a7 : Option Addr) (n0 n1 n4 n5 n6 n7 c0 c1 c3 c4 c5 c6 c7 n : Nat) (e0 : Int) (w : World) (L : Nat → Nat)
   (hn : n ≤ 9223372036854775807) (h0 : n0 ≤ 9223372036854775807) (h1 : n1 ≤ 9223372036854775807) (h4 : n4 ≤ 9223372036854775807) (h5 : n5 ≤ 9223372036854775807) (h6 : n6 ≤ 9223372036854775807) (h7 : n7 ≤ 9223372036854775807)
   (hR : RowsIn w a3 n L) :
    Calls Try.prog 35 #[.slice a0 n0 c0, .slice a1 n1 c1, .int .i64 e0, .slice a3 n c3, .slice a4 n4 c4, .slice a5 n5 c5, .slice a6 n6 c6, .slice a7 n7 c7] w (RetB w) := by
  obtain ⟨hL, hR⟩ := hR
  rcases hR with rfl | ⟨b, o, A, C, rfl, hc⟩
  · go_enter Try.func35, Try.ntmps35
    go_wp2
    all_goals (try (go_ret; exact retB _ _))
    refine wp_loop_rounds 1 ?_
    rw [rounds_succ]
    go_wp2
    all_goals (go_ret; exact retB _ _)
  · go_enter Try.func35, Try.ntmps35
    go_wp2
    all_goals (try (go_ret; exact retB _ _))
    go_loopg [17, 18] n (fun g t i wr => ∃ k : Nat, ∃ q : Int, k + g = n ∧ i = .int .i64 k ∧ t = .int .i64 q ∧ 0 ≤ q ∧ q ≤ 1048576 ∧ wr = w)
    case atStart => exact ⟨0, _, by omega, rfl, rfl, by omega, by omega, rfl⟩
    case round =>
      obtain ⟨k, q, hk, rfl, rfl, hq0, hq1, rfl⟩ := hrel
      by_cases hlt : k < n
      · have hcx := hc k hlt
        have hLx := hL k
        clear hc hL
        go_wp2
        · go_ret
          exact retB _ _
        · go_ret
          exact retB _ _
        · go_roundg (gk - 1)
          case measure => omega
          case rel => exact ⟨k + 1, _, by omega, by go_num, rfl, by omega, by omega, rfl⟩
      · go_wp2
        all_goals (go_ret; exact retB _ _)
set_option maxHeartbeats 400000 in
theorem zz37 (a0 a1 a3 a4 a5 : Option Addr) (n0 n1 n4 n5 c0 c1 c3 c4 c5 n : Nat) (e0 : Int) (w : World) (L : Nat → Nat)
   (hn : n ≤ 9223372036854775807) (h0 : n0 ≤ 9223372036854775807) (h1 : n1 ≤ 9223372036854775807) (h4 : n4 ≤ 9223372036854775807) (h5 : n5 ≤ 9223372036854775807)
   (hR : RowsIn w a3 n L) :
    Calls Try.prog 37 #[.slice a0 n0 c0, .slice a1 n1 c1, .int .i64 e0, .slice a3 n c3, .slice a4 n4 c4, .slice a5 n5 c5] w (RetB w) := by
  obtain ⟨hL, hR⟩ := hR
  rcases hR with rfl | ⟨b, o, A, C, rfl, hc⟩
  · go_enter Try.func37, Try.ntmps37
    go_wp2
    all_goals (try (go_ret; exact retB _ _))
    refine wp_loop_rounds 1 ?_
    rw [rounds_succ]
    go_wp2
    all_goals (go_ret; exact retB _ _)
  · go_enter Try.func37, Try.ntmps37
    go_wp2
    all_goals (try (go_ret; exact retB _ _))
    go_loopg [13, 14] n (fun g t i wr => ∃ k : Nat, ∃ q : Int, k + g = n ∧ i = .int .i64 k ∧ t = .int .i64 q ∧ 0 ≤ q ∧ q ≤ 1048576 ∧ wr = w)
    case atStart => exact ⟨0, _, by omega, rfl, rfl, by omega, by omega, rfl⟩
    case round =>
      obtain ⟨k, q, hk, rfl, rfl, hq0, hq1, rfl⟩ := hrel
      by_cases hlt : k < n
      · have hcx := hc k hlt
        have hLx := hL k
        clear hc hL
        go_wp2
        · go_ret
          exact retB _ _
        · go_ret
          exact retB _ _
        · go_roundg (gk - 1)
          case measure => omega
          case rel => exact ⟨k + 1, _, by omega, by go_num, rfl, by omega, by omega, rfl⟩
      · go_wp2
        all_goals (go_ret; exact retB _ _)

/-- What a true answer of sigFits says. -/
def FitsP (n0 n : Nat) (L : Nat → Nat) : Prop := n0 ≤ 131072 ∧ n ≤ 131072 ∧ ∀ i, i < n → L i ≤ 131072

set_option maxHeartbeats 800000 in
theorem fits31 (a0 a1 a3 a4 a5 a6 a7 : Option Addr) (n0 n1 n4 n5 n6 n7 c0 c1 c3 c4 c5 c6 c7 n : Nat) (w : World) (L : Nat → Nat)
   (hn : n ≤ 9223372036854775807) (h0 : n0 ≤ 9223372036854775807) (h1 : n1 ≤ 9223372036854775807) (h4 : n4 ≤ 9223372036854775807) (h5 : n5 ≤ 9223372036854775807) (h6 : n6 ≤ 9223372036854775807) (h7 : n7 ≤ 9223372036854775807)
   (hR : RowsIn w a3 n L) :
    Calls Try.prog 31 #[.slice a0 n0 c0, .slice a1 n1 c1, .slice a3 n c3, .slice a4 n4 c4, .slice a5 n5 c5, .slice a6 n6 c6, .slice a7 n7 c7] w (RetIf w (FitsP n0 n L)) := by
  obtain ⟨hL, hR⟩ := hR
  rcases hR with rfl | ⟨b, o, A, C, rfl, hc⟩
  · clear hL
    go_enter Try.func31, Try.ntmps31
    go_wp2
    all_goals (try (go_ret; exact retIf_false _))
    refine wp_loop_rounds 1 ?_
    rw [rounds_succ]
    go_wp2
    go_ret
    exact retIf_true _ ⟨by omega, by omega, fun i hi => absurd hi (by omega)⟩
  · have H : Hid ((∀ i, L i ≤ 9223372036854775807) ∧ ∀ i, i < n → w.cell? ⟨b, o + i, none⟩ = some (.slice (A i) (L i) (C i))) := ⟨hL, hc⟩
    clear hL hc
    go_enter Try.func31, Try.ntmps31
    go_wp2
    all_goals (try (go_ret; exact retIf_false _))
    have hn0 : n0 ≤ 131072 := by omega
    have hnn : n ≤ 131072 := by omega
    go_loopg [15, 76] n (fun g t i wr => ∃ k : Nat, ∃ q : Int, k + g = n ∧ i = .int .i64 k ∧ t = .int .i64 q ∧ 0 ≤ q ∧ q ≤ 1048576 ∧ wr = w ∧ Hid (∀ i, i < k → L i ≤ 131072))
    case atStart => exact ⟨0, _, by omega, rfl, rfl, by omega, by omega, rfl, fun i hi => absurd hi (by omega)⟩
    case round =>
      obtain ⟨k, q, hk, rfl, rfl, hq0, hq1, rfl, HB⟩ := hrel
      by_cases hlt : k < n
      · have hcx := H.out.2 k hlt
        have hLx := H.out.1 k
        go_wp2
        · go_ret
          exact retIf_false _
        · go_ret
          exact retIf_false _
        · go_roundg (gk - 1)
          case measure => omega
          case rel => 
            refine ⟨k + 1, _, by omega, by go_num, rfl, by omega, by omega, rfl, ?_⟩
            intro i hi
            by_cases e : i = k
            · subst e; omega
            · exact HB i (by omega)
      · go_wp2
        go_ret
        have e : k = n := by omega
        subst e
        exact retIf_true _ ⟨hn0, hnn, HB⟩
end Go.Proofs.Qxb6001094a
