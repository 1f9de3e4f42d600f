import Derived.Test.Qxb6001235aCircs
import Derived.Test.Qxb6001235aKahnWalk
/-! Seat b6001235a: FnCirclesNoneIffAcyclic walked. -/
namespace Go.Proofs.Qxb6001235a
set_option linter.unusedVariables false
open Go.RowKit Go.Maps

def TrueX (w : World) (e : Ending) (w' : World) : Prop := e = .returned (.bool true) ∧ Ext w w'

set_option maxRecDepth 100000 in
set_option maxHeartbeats 1000000 in
theorem law7 (a : Option Addr) (n c : Nat) (A : Nat → Option Addr) (L C : Nat → Nat) (R : Nat → Nat → Int) (w : World) (h : SlR w a n c A L C R) : Calls Try.prog 7 #[.slice a n c] w (TrueX w) := by
  obtain ⟨b, o, rb, ro, hI⟩ := h.open
  have H := hide hI
  have hn := hI.small
  clear h hI
  go_enter Try.func7, Try.ntmps7
  go_wp2_with fail
  refine (zz21 H.out).mono ?_
  rintro e1 w1 ⟨⟨b1, rfl⟩, hw1⟩
  rw [hw1]
  clear hw1 w1
  cases b1 with
  | false =>
    go_wp2
    go_ret
    exact ⟨rfl, Ext.refl w⟩
  | true =>
    go_wp2_with fail
    refine (fit11 H.out).mono ?_
    rintro e2 w2 ⟨⟨b2, rfl, hb2⟩, hw2⟩
    rw [hw2]
    clear hw2 w2
    cases b2 with
    | false =>
      clear hb2
      go_wp2
      go_ret
      exact ⟨rfl, Ext.refl w⟩
    | true =>
      have HF := hide (hb2 rfl)
      clear hb2
      by_cases hle : 65536 < n
      · go_wp2
        go_ret
        exact ⟨rfl, Ext.refl w⟩
      · have hle2 : n ≤ 65536 := by omega
        clear hle
        go_wp2_with fail
        refine (range12 H.out HF.out).mono ?_
        rintro e3 w3 ⟨⟨b3, rfl, hb3⟩, hw3⟩
        rw [hw3]
        clear hw3 w3
        cases b3 with
        | false =>
          clear hb3
          go_wp2
          go_ret
          exact ⟨rfl, Ext.refl w⟩
        | true =>
          have HR := hide (hb3 rfl)
          clear hb3
          go_wp2_with fail
          refine (clone13 H.out HF.out).mono ?_
          rintro e4 w4 ⟨ea, eb, RA, RB, rfl, hx4, hed⟩
          have HX4 := hide hx4
          have HE := hide (hed.graph hle2 HF.out HR.out)
          clear hx4 hed
          go_wp2_with fail
          refine (circles22 HE.out).mono ?_
          rintro e5 w5 ⟨FV, rows, rfl, hx5, hown, hrows⟩
          have HX5 := hide hx5
          obtain ⟨fa, fc, hFV⟩ := own_len hown
          subst hFV
          clear hown hrows hx5
          go_wp2_with fail
          refine (kahn23 (HE.out.ext HX5.out)).mono ?_
          rintro e6 w6 ⟨bk, rfl, hk, hx6⟩
          have HX6 := hide hx6
          have hS := starts_nil HE.out.ok (sccT HE.out.ok)
          have hiff : bk = true ↔ (startsT (grOf n L R) (grOf n L R).n).length = 0 := by rw [hk, ← hS]; unfold startsT; rw [List.length_eq_zero_iff]
          clear hk hx6 hS
          cases bk with
          | true =>
            have h0 := hiff.1 rfl
            rw [h0]
            clear hiff h0
            go_wp2
            go_ret
            exact ⟨rfl, HX4.out.trans (HX5.out.trans HX6.out)⟩
          | false =>
            have h0 : (startsT (grOf n L R) (grOf n L R).n).length ≠ 0 := fun e => by have := hiff.2 e; cases this
            generalize (startsT (grOf n L R) (grOf n L R).n).length = m at h0 ⊢
            have hb : ((m : Int) == 0) = false := by simp; omega
            clear hiff h0
            go_wp2
            go_ret
            exact ⟨rfl, HX4.out.trans (HX5.out.trans HX6.out)⟩
end Go.Proofs.Qxb6001235a
