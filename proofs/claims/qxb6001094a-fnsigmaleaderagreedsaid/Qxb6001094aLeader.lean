import Derived.Test.Qxb6001094aArgs
import Derived.Test.Qxb6001094aZero
namespace Go.Proofs.Qxb6001094a
set_option linter.unusedVariables false
set_option linter.unusedSimpArgs false
open Go.RowKit Go.Maps

/-- 'It returns true, and nothing that was there has turned.' -/
def TrueP (w : World) (e : Ending) (w' : World) : Prop := e = .returned (.bool true) ∧ Ext w w'

set_option maxRecDepth 100000 in
set_option maxHeartbeats 1000000 in
theorem law10 (a0 a1 a3 a4 a5 : Option Addr) (n0 n1 n3 n4 n5 c0 c1 c3 c4 c5 : Nat) (f0 f1 f4 f5 : Nat → Int) (e : Int) (A : Nat → Option Addr) (L C : Nat → Nat) (R : Nat → Nat → Int) (w : World)
    (s0 : SlI w a0 n0 c0 f0) (s1 : SlI w a1 n1 c1 f1) (s3 : SlR w a3 n3 c3 A L C R) (s4 : SlI w a4 n4 c4 f4) (s5 : SlI w a5 n5 c5 f5) :
    Calls Try.prog 10 #[.slice a0 n0 c0, .slice a1 n1 c1, .int .i64 e, .slice a3 n3 c3, .slice a4 n4 c4, .slice a5 n5 c5] w (TrueP w) := by
  have S0 := hide s0
  have S1 := hide s1
  have S3 := hide s3
  have S4 := hide s4
  have S5 := hide s5
  have hz := zz37 a0 a1 a3 a4 a5 n0 n1 n4 n5 c0 c1 c3 c4 c5 n3 e w L s3.small s0.small s1.small s4.small s5.small s3.rows
  have hf := fits31 a0 a1 a3 a4 a5 none none n0 n1 n4 n5 0 0 c0 c1 c3 c4 c5 0 0 n3 w L s3.small s0.small s1.small s4.small s5.small (by omega) (by omega) s3.rows
  have HZ := hide hz
  have HF := hide hf
  clear s0 s1 s3 s4 s5 hz hf
  go_enter Try.func10, Try.ntmps10
  go_wp2_with fail
  refine HZ.out.mono ?_
  rintro e1 w1 ⟨⟨b1, rfl⟩, hw1⟩
  rw [hw1]
  clear hw1
  cases b1 with
  | false =>
    go_wp2
    go_ret
    exact ⟨rfl, Ext.refl w⟩
  | true =>
    go_wp2_with fail
    refine HF.out.mono ?_
    rintro e2 w2 ⟨⟨b2, rfl, hb2⟩, hw2⟩
    rw [hw2]
    clear hw2
    cases b2 with
    | false =>
      go_wp2
      go_ret
      exact ⟨rfl, Ext.refl w⟩
    | true =>
      obtain ⟨hn0, hn3, hLs⟩ := hb2 rfl
      have HLs := hide hLs
      clear hLs hb2 HZ HF
      by_cases hlen : n1 = n0 ∧ n3 = n0 ∧ n4 = n0 ∧ n5 = n0
      ·
        have eq1 : n0 = n1 := hlen.1.symm
        have eq3 : n0 = n3 := hlen.2.1.symm
        have eq4 : n0 = n4 := hlen.2.2.1.symm
        have eq5 : n0 = n5 := hlen.2.2.2.symm
        clear hlen
        subst eq1
        subst eq3
        subst eq4
        subst eq5
        by_cases h00 : n0 = 0
        ·
          subst h00
          go_wp2_with fail
          refine (shaped_yes0 c0 c1 c3 c4 c5 a0 a1 a3 a4 a5 w).mono ?_
          rintro e3 w3 ⟨rfl, hw3⟩
          rw [hw3]
          clear hw3
          go_wp2_with fail
          refine S0.out.clone0.mono ?_
          rintro e4 w2 ⟨b0, rfl, x2⟩
          have X2 := hide x2
          clear x2
          go_wp2_with fail
          refine (S1.out.ext X2.out).clone0.mono ?_
          rintro e5 w3 ⟨b1, rfl, x3⟩
          have X3 := hide (X2.out.trans x3)
          clear x3
          go_wp2_with fail
          refine (S3.out.ext X3.out).clone0.mono ?_
          rintro e6 w4 ⟨b3, rfl, x4⟩
          have X4 := hide (X3.out.trans x4)
          clear x4
          go_wp2_with fail
          refine (S4.out.ext X4.out).clone0.mono ?_
          rintro e7 w5 ⟨b4, rfl, x5⟩
          have X5 := hide (X4.out.trans x5)
          clear x5
          go_wp2_with fail
          refine (S5.out.ext X5.out).clone0.mono ?_
          rintro e8 w6 ⟨b5, rfl, x6⟩
          have X6 := hide (X5.out.trans x6)
          clear x6
          have h1 := @Lib.run_eql_slice_nil Try.prog
          go_wp2_with fail
          refine (conc33_zero b0 b1 b3 b4 b5 0 0 0 0 0 e w6).mono ?_
          rintro e9 w7 ⟨gb, cp, rfl, x7⟩
          have X7 := hide (X6.out.trans x7)
          clear x7
          go_wp2
          refine wp_loop_rounds 1 ?_
          rw [rounds_succ]
          go_wp2
          go_ret
          exact ⟨rfl, (X7.out.alloc _).alloc _⟩
        ·
          have hpos : 0 < n0 := by omega
          obtain ⟨ib, io, ha0, hci⟩ := S0.out.pos hpos
          subst ha0
          have HI := hide hci
          clear hci
          go_wp2_with fail
          refine (shaped_yes ib io n0 c0 c1 c3 c4 c5 a1 a3 a4 a5 f0 w hpos hn0 HI.out).mono ?_
          rintro e3 w3 ⟨⟨b3, rfl, hb3⟩, m, rfl⟩
          cases b3 with
          | false =>
            go_wp2
            go_ret
            exact ⟨rfl, below_drewN (Ext.refl w) m⟩
          | true =>
            have HS := hide (hb3 rfl)
            have X1 := hide (show Ext w (w.drewN m) from below_drewN (Ext.refl w) m)
            clear hb3 HI
            generalize w.drewN m = w1 at X1 ⊢
            go_wp2_with fail
            refine ((S0.out.ext X1.out).clone hpos hn0).mono ?_
            rintro e4 w2 ⟨rfl, x2, -, k1⟩
            have X2 := hide x2
            have K1 := hide k1
            clear x2 k1
            go_wp2_with fail
            refine ((S1.out.ext (X1.out.trans X2.out)).clone hpos hn0).mono ?_
            rintro e5 w3 ⟨rfl, x3, -, k2⟩
            have X3 := hide x3
            have K2 := hide k2
            clear x3 k2
            go_wp2_with fail
            refine ((S3.out.ext ((X1.out.trans X2.out).trans X3.out)).clone hpos hn0 HLs.out).mono ?_
            rintro e6 w4 ⟨rfl, RB, k3⟩
            have X4 := hide k3.ext
            have K3 := hide k3
            clear k3
            go_wp2_with fail
            refine ((S4.out.ext (((X1.out.trans X2.out).trans X3.out).trans X4.out)).clone hpos hn0).mono ?_
            rintro e7 w5 ⟨rfl, x5, -, k4⟩
            have X5 := hide x5
            have K4 := hide k4
            clear x5 k4
            go_wp2_with fail
            refine ((S5.out.ext ((((X1.out.trans X2.out).trans X3.out).trans X4.out).trans X5.out)).clone hpos hn0).mono ?_
            rintro e8 w6 ⟨rfl, x6, -, k5⟩
            have X6 := hide x6
            have K5 := hide k5
            clear x6 k5
            have XX := hide (((((X1.out.trans X2.out).trans X3.out).trans X4.out).trans X5.out).trans X6.out)
            obtain ⟨p, hp⟩ : ∃ p : Prm, p = ⟨n0, f0, f1, f4, f5, e, fun i => (A i).isNone, L, R⟩ := ⟨_, rfl⟩
            have HD := hide (show Data p RB w6 w1.heap.size w2.heap.size w3.heap.size w4.heap.size w5.heap.size by
              subst hp
              exact data_of hn0 HLs.out (fun _ => rfl) S0.out.wf S3.out.wf S4.out.wf HS.out (((X3.out.trans X4.out).trans X5.out).trans X6.out) ((X4.out.trans X5.out).trans X6.out) (X5.out.trans X6.out) X6.out K1.out K2.out K3.out K4.out K5.out)
            have en : n0 = p.n := by rw [hp]
            have ee : e = p.e := by rw [hp]
            clear hp K1 K2 K3 K4 K5 X1 X2 X3 X4 X5 X6 S0 S1 S3 S4 S5 HS HLs
            subst en
            subst ee
            generalize w1.heap.size = idb at HD ⊢
            generalize w2.heap.size = cb at HD ⊢
            generalize w3.heap.size = lb at HD ⊢
            generalize w4.heap.size = db at HD ⊢
            generalize w5.heap.size = sb at HD ⊢
            clear w1 w2 w3 w4 w5
            go_wp2_with fail
            refine (conc33 p RB idb cb lb db sb w6 HD.out).mono ?_
            rintro e9 w7 ⟨P, LO, bl, bf, rfl, hC⟩
            obtain ⟨gb, cp, hLO⟩ := own_shape' hC.2.1 hC.2.2.1
            subst hLO
            generalize hq1 : (if (p.nmd p.n && p.agr p.n) = true then some (⟨bl, 0, none⟩ : Addr) else none) = q1
            generalize hq2 : (if (p.nmd p.n && p.agr p.n) = true then some (⟨bf, 0, none⟩ : Addr) else none) = q2
            generalize hq3 : (p.nmd p.n && p.agr p.n && p.cor (p.ldr p.n)) = q3
            have HQ := hide (And.intro hq1 (And.intro hq2 hq3))
            clear hq1 hq2 hq3
            have HC := hide (show ConcW p RB w6 w7 P _ bl bf from hC)
            clear hC
            have h1 := @Lib.run_eql_slice_nil Try.prog
            go_wp2
            have HX8 := hide (((Ext.refl w7).alloc (.cells #[.string { data := #[] }, .int .i64 0, .pointer q1, .pointer q2, .slice (some ⟨gb, 0, none⟩) (p.outs p.n).length cp] 58)).alloc (.cells #[.bool true, .bool (p.cmpl p.cor p.n), .bool q3] 60))
            have HB8 := hide ((Blk.new w7 rfl #[.string { data := #[] }, .int .i64 0, .pointer q1, .pointer q2, .slice (some ⟨gb, 0, none⟩) (p.outs p.n).length cp] 58).alloc (.cells #[.bool true, .bool (p.cmpl p.cor p.n), .bool q3] 60))
            have HV8 := hide (Blk.new (w7.alloc (.cells #[.string { data := #[] }, .int .i64 0, .pointer q1, .pointer q2, .slice (some ⟨gb, 0, none⟩) (p.outs p.n).length cp] 58)) (b := w7.heap.size + 1) (by simp) #[.bool true, .bool (p.cmpl p.cor p.n), .bool q3] 60)
            generalize (w7.alloc (.cells #[.string { data := #[] }, .int .i64 0, .pointer q1, .pointer q2, .slice (some ⟨gb, 0, none⟩) (p.outs p.n).length cp] 58)).alloc (.cells #[.bool true, .bool (p.cmpl p.cor p.n), .bool q3] 60) = w8 at HX8 HB8 HV8 ⊢
            have HDr := hide (HD.out.ext (HC.out.1.trans HX8.out))
            have HL8 := hide (HX8.out.cell HC.out.2.2.2.2.1)
            have HF8 := hide (HX8.out.cell HC.out.2.2.2.2.2)
            have HXX := hide (XX.out.trans (HC.out.1.trans HX8.out))
            have HSg := hide (show ∀ m id, Calls Try.prog 36 #[.slice (some ⟨idb, 0, none⟩) p.n p.n, .slice (some ⟨cb, 0, none⟩) p.n p.n, .int .i64 p.e, .int .i64 id] (w8.drewN m) fun r w' => r = .returned (.bool (p.cor id)) ∧ w' = w8.drewN m from fun m id => by
              have := sigc36 idb 0 cb 0 p.n p.n p.n p.f p.g p.e id (w8.drewN m) HDr.out.small (fun i hi => by simpa using HDr.out.ids i hi) (fun i hi => by simpa using HDr.out.crash i hi) HDr.out.sorted
              rw [← corK_corrAt HDr.out.sorted] at this
              exact this)
            clear HD HC XX HX8
            go_loopg [15, 16, 17, 18, 19, 20] p.n (fun g an al se sa fi ii wr => ∃ i : Nat, i + g = p.n ∧ ii = .int .i64 (i : Int) ∧ an = .bool (p.any i) ∧ al = .bool (p.allOut i) ∧ se = .bool (p.seen i) ∧ sa = .bool (p.same i) ∧ fi = .int .i64 (p.first i) ∧ wr = w8)
            case atStart => exact ⟨0, by omega, rfl, rfl, rfl, rfl, rfl, rfl, rfl⟩
            case round =>
              obtain ⟨i, hi, rfl, rfl, rfl, rfl, rfl, rfl, hwr⟩ := hrel
              subst hwr
              by_cases hlt : i < p.n
              · have hcr := HDr.out.crash i hlt
                have hla := HDr.out.last i hlt
                have hld := HDr.out.lead i hlt
                cases hc : (p.g i == p.e) with
                | false =>
                  have hc' : (p.g i != p.e) = true := by simpa using hc
                  have hcc : p.c i = false := hc
                  clear hla
                  go_wp2
                  go_roundg (gk - 1)
                  case measure => omega
                  case rel => exact ⟨i + 1, by omega, by go_num, by simp [Prm.any, hcc], by simp [Prm.allOut, hcc], by simp [Prm.seen, hcc], by simp [Prm.same, hcc], by simp [Prm.first, hcc], rfl⟩
                | true =>
                  have hc' : (p.g i != p.e) = false := by simpa using hc
                  have hcc : p.c i = true := hc
                  cases hnil : p.nil i with
                  | true =>
                    have hla' : wr.cell? ⟨lb, i, none⟩ = some (.slice none 0 0) := by rw [hnil] at hla; exact hla
                    clear hla
                    go_wp2
                    go_roundg (gk - 1)
                    case measure => omega
                    case rel => exact ⟨i + 1, by omega, by go_num, by simp [Prm.any, hcc, hnil], by simp [Prm.allOut, hcc, hnil], by simp [Prm.seen, hcc, hnil], by simp [Prm.same, hcc, hnil], by simp [Prm.first, hcc, hnil], rfl⟩
                  | false =>
                    have hla' : wr.cell? ⟨lb, i, none⟩ = some (.slice (some ⟨RB i, 0, none⟩) (p.L i) (p.L i)) := by rw [hnil] at hla; exact hla
                    clear hla
                    cases hse : p.seen i with
                    | false =>
                      go_wp2
                      go_roundg (gk - 1)
                      case measure => omega
                      case rel => exact ⟨i + 1, by omega, by go_num, by simp [Prm.any, hcc, hnil, hse], by simp [Prm.allOut, hcc, hnil, hse], by simp [Prm.seen, hcc, hnil, hse], by simp [Prm.same, hcc, hnil, hse], by simp [Prm.first, hcc, hnil, hse], rfl⟩
                    | true =>
                      cases hdf : (p.dl i != p.first i) with
                      | true =>
                        go_wp2
                        go_roundg (gk - 1)
                        case measure => omega
                        case rel => exact ⟨i + 1, by omega, by go_num, by simp [Prm.any, hcc, hnil, hse, hdf], by simp [Prm.allOut, hcc, hnil, hse, hdf], by simp [Prm.seen, hcc, hnil, hse, hdf], by simp [Prm.same, hcc, hnil, hse, hdf], by simp [Prm.first, hcc, hnil, hse, hdf], rfl⟩
                      | false =>
                        go_wp2
                        go_roundg (gk - 1)
                        case measure => omega
                        case rel => exact ⟨i + 1, by omega, by go_num, by simp [Prm.any, hcc, hnil, hse, hdf], by simp [Prm.allOut, hcc, hnil, hse, hdf], by simp [Prm.seen, hcc, hnil, hse, hdf], by simp [Prm.same, hcc, hnil, hse, hdf], by simp [Prm.first, hcc, hnil, hse, hdf], rfl⟩
              · have e0 : i = p.n := by omega
                subst e0
                clear hi
                have cO2 : wr.cell? ⟨w7.heap.size, 2, none⟩ = some (.pointer q1) := HB8.out.cell (i := 2) rfl
                have cO3 : wr.cell? ⟨w7.heap.size, 3, none⟩ = some (.pointer q2) := HB8.out.cell (i := 3) rfl
                have cV2 : wr.cell? ⟨w7.heap.size + 1, 2, none⟩ = some (.bool q3) := HV8.out.cell (i := 2) rfl
                cases hag : (p.nmd p.n && p.agr p.n) with
                | false =>
                  have e1 : q1 = none := by rw [← HQ.out.1, hag]; rfl
                  have e2 : q2 = none := by rw [← HQ.out.2.1, hag]; rfl
                  have e3 : q3 = false := by rw [← HQ.out.2.2, hag]; rfl
                  rw [e1] at cO2
                  rw [e2] at cO3
                  rw [e3] at cV2
                  have hg := p.agreed_eq p.n
                  rw [hag] at hg
                  clear e1 e2 e3 hag HQ
                  cases han : p.any p.n with
                  | false =>
                    clear hg
                    go_wp2
                    go_ret
                    exact ⟨rfl, HXX.out⟩
                  | true =>
                    cases hal : p.allOut p.n with
                    | false =>
                      clear hg
                      go_wp2
                      go_ret
                      exact ⟨rfl, HXX.out⟩
                    | true =>
                      have hsa : p.same p.n = false := by rw [han, hal] at hg; simpa using hg.symm
                      clear hg
                      go_wp2
                      go_ret
                      exact ⟨rfl, HXX.out⟩
                | true =>
                  have e1 : q1 = some ⟨bl, 0, none⟩ := by rw [← HQ.out.1, hag]; rfl
                  have e2 : q2 = some ⟨bf, 0, none⟩ := by rw [← HQ.out.2.1, hag]; rfl
                  have e4 := p.first_eq p.n hag
                  have e3 : q3 = p.cor (p.first p.n) := by rw [← HQ.out.2.2, hag, e4]; rfl
                  rw [e1] at cO2
                  rw [e2] at cO3
                  rw [e3] at cV2
                  have cL : wr.cell? ⟨bl, 0, none⟩ = some (.int .i64 (p.first p.n)) := by rw [← e4]; exact HL8.out
                  have cF : wr.cell? ⟨bf, 0, none⟩ = some (.int .i64 (p.frm p.n)) := HF8.out
                  have hg := p.agreed_eq p.n
                  rw [hag] at hg
                  simp at hg
                  obtain ⟨⟨han, hal⟩, hsa⟩ := hg
                  have hf0 := p.frm_nonneg p.n
                  have HAL := hide hal
                  clear e1 e2 e3 e4 hag HQ
                  go_wp2
                  go_loopg [23, 24] p.n (fun g ht ii wr2 => ∃ i : Nat, i + g = p.n ∧ ii = .int .i64 (i : Int) ∧ ht = .bool (p.hit (p.frm p.n) i) ∧ wr2 = wr)
                  case atStart => exact ⟨0, by omega, rfl, rfl, rfl⟩
                  case round =>
                    obtain ⟨i, hi, rfl, rfl, hwr2⟩ := hrel
                    subst hwr2
                    clear hlt
                    by_cases hlt : i < p.n
                    · have hcr := HDr.out.crash i hlt
                      have hsi := HDr.out.since i hlt
                      cases hc : (p.g i == p.e) with
                      | false =>
                        have hc' : (p.g i != p.e) = true := by simpa using hc
                        have hcc : p.c i = false := hc
                        go_wp2
                        go_roundg (gk - 1)
                        case measure => omega
                        case rel => exact ⟨i + 1, by omega, by go_num, by simp [Prm.hit, hcc], rfl⟩
                      | true =>
                        have hc' : (p.g i != p.e) = false := by simpa using hc
                        have hcc : p.c i = true := hc
                        have hge := p.frm_ge hlt hcc (p.allOut_nil HAL.out hlt hcc)
                        cases hst : (p.sl i == p.frm p.n) with
                        | true =>
                          go_wp2
                          go_roundg (gk - 1)
                          case measure => omega
                          case rel => exact ⟨i + 1, by omega, by go_num, by simp [Prm.hit, hcc, hst], rfl⟩
                        | false =>
                          go_wp2
                          go_roundg (gk - 1)
                          case measure => omega
                          case rel => exact ⟨i + 1, by omega, by go_num, by simp [Prm.hit, hcc, hst], rfl⟩
                    · have e0 : i = p.n := by omega
                      subst e0
                      clear hi
                      have hht := p.hit_frm p.n
                      go_wp2
                      go_quiet ((go_at_call 36; exact Calls.quiet_of_same (HSg.out _ _)))
                      go_wp2
                      go_ret
                      refine ⟨by simp, below_drewN HXX.out _⟩
      · have HH := hide hlen
        clear hlen
        go_wp2_with fail
        refine (shaped_no n0 n1 n3 n4 n5 c0 c1 c3 c4 c5 a0 a1 a3 a4 a5 w HH.out).mono ?_
        rintro e3 w3 ⟨rfl, hw3⟩
        rw [hw3]
        clear hw3
        go_wp2
        go_ret
        exact ⟨rfl, Ext.refl w⟩
end Go.Proofs.Qxb6001094a
