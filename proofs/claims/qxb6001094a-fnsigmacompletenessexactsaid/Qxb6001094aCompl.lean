import Derived.Test.Qxb6001094aArgs
import Derived.Test.Qxb6001094aZero
namespace Go.Proofs.Qxb6001094a
set_option linter.unusedVariables false
open Go.RowKit Go.Maps

/-- 'It returns true, and nothing that was there has turned.' -/
def TrueP (w : World) (e : Ending) (w' : World) : Prop := e = .returned (.bool true) ∧ Ext w w'

set_option maxRecDepth 100000 in
set_option maxHeartbeats 1000000 in
theorem law9 (a0 a1 a3 a4 a5 a6 a7 : Option Addr) (n0 n1 n3 n4 n5 c0 c1 c3 c4 c5 n6 n7 c6 c7 : Nat) (f0 f1 f4 f5 f6 f7 : Nat → Int) (e : Int) (A : Nat → Option Addr) (L C : Nat → Nat) (R : Nat → Nat → Int) (w : World)
    (s0 : SlI w a0 n0 c0 f0) (s1 : SlI w a1 n1 c1 f1) (s3 : SlR w a3 n3 c3 A L C R) (s4 : SlI w a4 n4 c4 f4) (s5 : SlI w a5 n5 c5 f5) (s6 : SlI w a6 n6 c6 f6) (s7 : SlI w a7 n7 c7 f7) :
    Calls Try.prog 9 #[.slice a0 n0 c0, .slice a1 n1 c1, .int .i64 e, .slice a3 n3 c3, .slice a4 n4 c4, .slice a5 n5 c5, .slice a6 n6 c6, .slice a7 n7 c7] w (TrueP w) := by
  have S0 := hide s0
  have S1 := hide s1
  have S3 := hide s3
  have S4 := hide s4
  have S5 := hide s5
  have S6 := hide s6
  have S7 := hide s7
  have hz := zz35 a0 a1 a3 a4 a5 a6 a7 n0 n1 n4 n5 n6 n7 c0 c1 c3 c4 c5 c6 c7 n3 e w L s3.small s0.small s1.small s4.small s5.small s6.small s7.small s3.rows
  have hf := fits31 a0 a1 a3 a4 a5 a6 a7 n0 n1 n4 n5 n6 n7 c0 c1 c3 c4 c5 c6 c7 n3 w L s3.small s0.small s1.small s4.small s5.small s6.small s7.small s3.rows
  have HZ := hide hz
  have HF := hide hf
  clear s0 s1 s3 s4 s5 hz hf s6 s7
  go_enter Try.func9, Try.ntmps9
  go_wp2_with fail
  refine HZ.out.mono ?_
  rintro e1 w1 ⟨⟨b1, rfl⟩, hw1⟩
  rw [hw1]
  clear hw1
  cases b1 with
  | false =>
    go_wp2
    go_ret
    exact ⟨rfl, Ext.refl w⟩
  | true =>
    go_wp2_with fail
    refine HF.out.mono ?_
    rintro e2 w2 ⟨⟨b2, rfl, hb2⟩, hw2⟩
    rw [hw2]
    clear hw2
    cases b2 with
    | false =>
      go_wp2
      go_ret
      exact ⟨rfl, Ext.refl w⟩
    | true =>
      obtain ⟨hn0, hn3, hLs⟩ := hb2 rfl
      have HLs := hide hLs
      clear hLs hb2 HZ HF
      by_cases hlen : n1 = n0 ∧ n3 = n0 ∧ n4 = n0 ∧ n5 = n0
      ·
        have eq1 : n0 = n1 := hlen.1.symm
        have eq3 : n0 = n3 := hlen.2.1.symm
        have eq4 : n0 = n4 := hlen.2.2.1.symm
        have eq5 : n0 = n5 := hlen.2.2.2.symm
        clear hlen
        subst eq1
        subst eq3
        subst eq4
        subst eq5
        by_cases h00 : n0 = 0
        ·
          subst h00
          go_wp2_with fail
          refine (shaped_yes0 c0 c1 c3 c4 c5 a0 a1 a3 a4 a5 w).mono ?_
          rintro e3 w3 ⟨rfl, hw3⟩
          rw [hw3]
          clear hw3
          have HXY := hide (Ext.refl w)
          by_cases hx6 : n6 = 0 ∧ n7 = 0
          ·
            have eq6 := hx6.1
            have eq7 := hx6.2
            clear hx6
            subst eq6
            subst eq7
            go_wp2_with fail
            refine S0.out.clone0.mono ?_
            rintro e4 w2 ⟨b0, rfl, x2⟩
            have X2 := hide x2
            clear x2
            go_wp2_with fail
            refine (S1.out.ext X2.out).clone0.mono ?_
            rintro e5 w3 ⟨b1, rfl, x3⟩
            have X3 := hide (X2.out.trans x3)
            clear x3
            go_wp2_with fail
            refine (S3.out.ext X3.out).clone0.mono ?_
            rintro e6 w4 ⟨b3, rfl, x4⟩
            have X4 := hide (X3.out.trans x4)
            clear x4
            go_wp2_with fail
            refine (S4.out.ext X4.out).clone0.mono ?_
            rintro e7 w5 ⟨b4, rfl, x5⟩
            have X5 := hide (X4.out.trans x5)
            clear x5
            go_wp2_with fail
            refine (S5.out.ext X5.out).clone0.mono ?_
            rintro e8 w6 ⟨b5, rfl, x6⟩
            have X6 := hide (X5.out.trans x6)
            clear x6
            go_wp2_with fail
            refine (S6.out.ext X6.out).clone0.mono ?_
            rintro e10 w8 ⟨b6, rfl, x8⟩
            have X8 := hide (X6.out.trans x8)
            clear x8
            go_wp2_with fail
            refine (S7.out.ext X8.out).clone0.mono ?_
            rintro e11 w9 ⟨b7, rfl, x9⟩
            have X9 := hide (X8.out.trans x9)
            clear x9
            go_wp2_with fail
            refine (conc33_zero b0 b1 b3 b4 b5 0 0 0 0 0 e w9).mono ?_
            rintro e12 w10 ⟨gb, cp, rfl, x10⟩
            have X10 := hide (X9.out.trans x10)
            clear x10
            go_wp2
            refine wp_loop_rounds 1 ?_
            rw [rounds_succ]
            have HX11 := hide ((X10.out.alloc (.cells #[.string { data := #[] }, .int .i64 0, .pointer none, .pointer none, .slice (some ⟨gb, 0, none⟩) 0 cp] 58)).alloc (.cells #[.bool true, .bool true, .bool false] 60))
            have HB11 := hide (Blk.new (w10.alloc (.cells #[.string { data := #[] }, .int .i64 0, .pointer none, .pointer none, .slice (some ⟨gb, 0, none⟩) 0 cp] 58)) (b := w10.heap.size + 1) (by simp) #[.bool true, .bool true, .bool false] 60)
            generalize (w10.alloc (.cells #[.string { data := #[] }, .int .i64 0, .pointer none, .pointer none, .slice (some ⟨gb, 0, none⟩) 0 cp] 58)).alloc (.cells #[.bool true, .bool true, .bool false] 60) = w11 at HX11 HB11 ⊢
            have cv : w11.cell? ⟨w10.heap.size + 1, 1, none⟩ = some (.bool true) := HB11.out.cell (i := 1) rfl
            go_wp2_with fail
            refine (conc33_zero b0 b1 b3 b6 b7 0 0 0 0 0 e w11).mono ?_
            rintro e13 w12 ⟨gb2, cp2, rfl, x12⟩
            have X12 := hide (HX11.out.trans x12)
            have cv2 : w12.cell? ⟨w10.heap.size + 1, 1, none⟩ = some (.bool true) := x12.cell cv
            have lv := World.block_lt_of_cell? w12 _ cv2
            simp only at lv
            have lv1 : w10.heap.size + 1 < w12.heap.size + 1 := by omega
            have lv2 : w10.heap.size + 1 < w12.heap.size + 1 + 1 := by omega
            clear x12 cv
            go_wp2
            go_ret
            exact ⟨rfl, (X12.out.alloc _).alloc _⟩
          ·
            have H6 := hide hx6
            clear hx6
            go_wp2
            all_goals (try (go_ret; exact ⟨rfl, HXY.out⟩))
            exfalso
            have t7 := ‹((n7 : Int) != _) = false›
            simp at t7
            exact H6.out ⟨by omega, by omega⟩
        ·
          have hpos : 0 < n0 := by omega
          obtain ⟨ib, io, ha0, hci⟩ := S0.out.pos hpos
          subst ha0
          have HI := hide hci
          clear hci
          go_wp2_with fail
          refine (shaped_yes ib io n0 c0 c1 c3 c4 c5 a1 a3 a4 a5 f0 w hpos hn0 HI.out).mono ?_
          rintro e3 w3 ⟨⟨b3, rfl, hb3⟩, m, rfl⟩
          cases b3 with
          | false =>
            go_wp2
            go_ret
            exact ⟨rfl, below_drewN (Ext.refl w) m⟩
          | true =>
            have HS := hide (hb3 rfl)
            have X1 := hide (show Ext w (w.drewN m) from below_drewN (Ext.refl w) m)
            clear hb3 HI
            by_cases hx6 : n6 = n0 ∧ n7 = n0
            ·
              have eq6 : n0 = n6 := hx6.1.symm
              have eq7 : n0 = n7 := hx6.2.symm
              clear hx6
              subst eq6
              subst eq7
              generalize w.drewN m = w1 at X1 ⊢
              go_wp2_with fail
              refine ((S0.out.ext X1.out).clone hpos hn0).mono ?_
              rintro e4 w2 ⟨rfl, x2, -, k1⟩
              have X2 := hide x2
              have K1 := hide k1
              clear x2 k1
              go_wp2_with fail
              refine ((S1.out.ext (X1.out.trans X2.out)).clone hpos hn0).mono ?_
              rintro e5 w3 ⟨rfl, x3, -, k2⟩
              have X3 := hide x3
              have K2 := hide k2
              clear x3 k2
              go_wp2_with fail
              refine ((S3.out.ext ((X1.out.trans X2.out).trans X3.out)).clone hpos hn0 HLs.out).mono ?_
              rintro e6 w4 ⟨rfl, RB, k3⟩
              have X4 := hide k3.ext
              have K3 := hide k3
              clear k3
              go_wp2_with fail
              refine ((S4.out.ext (((X1.out.trans X2.out).trans X3.out).trans X4.out)).clone hpos hn0).mono ?_
              rintro e7 w5 ⟨rfl, x5, -, k4⟩
              have X5 := hide x5
              have K4 := hide k4
              clear x5 k4
              go_wp2_with fail
              refine ((S5.out.ext ((((X1.out.trans X2.out).trans X3.out).trans X4.out).trans X5.out)).clone hpos hn0).mono ?_
              rintro e8 w6 ⟨rfl, x6, -, k5⟩
              have X6 := hide x6
              have K5 := hide k5
              clear x6 k5
              have X06 := hide (((((X1.out.trans X2.out).trans X3.out).trans X4.out).trans X5.out).trans X6.out)
              go_wp2_with fail
              refine ((S6.out.ext X06.out).clone hpos hn0).mono ?_
              rintro e9 w7 ⟨rfl, x7, -, k6⟩
              have X7 := hide x7
              have K6 := hide k6
              clear x7 k6
              go_wp2_with fail
              refine ((S7.out.ext (X06.out.trans X7.out)).clone hpos hn0).mono ?_
              rintro e10 w8 ⟨rfl, x8, -, k7⟩
              have X8 := hide x8
              have K7 := hide k7
              clear x8 k7
              have XX := hide ((X06.out.trans X7.out).trans X8.out)
              obtain ⟨p, hp⟩ : ∃ p : Prm, p = ⟨n0, f0, f1, f4, f5, e, fun i => (A i).isNone, L, R⟩ := ⟨_, rfl⟩
              obtain ⟨p2, hp2⟩ : ∃ p2 : Prm, p2 = ⟨n0, f0, f1, f6, f7, e, fun i => (A i).isNone, L, R⟩ := ⟨_, rfl⟩
              have HD := hide (show Data p RB w8 w1.heap.size w2.heap.size w3.heap.size w4.heap.size w5.heap.size by
                subst hp
                exact (data_of hn0 HLs.out (fun _ => rfl) S0.out.wf S3.out.wf S4.out.wf HS.out (((X3.out.trans X4.out).trans X5.out).trans X6.out) ((X4.out.trans X5.out).trans X6.out) (X5.out.trans X6.out) X6.out K1.out K2.out K3.out K4.out K5.out).ext (X7.out.trans X8.out))
              have HD2 := hide (show Data p2 RB w8 w1.heap.size w2.heap.size w3.heap.size w6.heap.size w7.heap.size by
                subst hp2
                have d := (data_of (p := ⟨n0, f0, f1, f4, f5, e, fun i => (A i).isNone, L, R⟩) hn0 HLs.out (fun _ => rfl) S0.out.wf S3.out.wf S4.out.wf HS.out (((X3.out.trans X4.out).trans X5.out).trans X6.out) ((X4.out.trans X5.out).trans X6.out) (X5.out.trans X6.out) X6.out K1.out K2.out K3.out K4.out K5.out).ext (X7.out.trans X8.out)
                exact ⟨d.small, d.ids, d.crash, d.last, d.row, fun i hi => X8.out.cell (K6.out i hi), K7.out, d.wfF, d.wfR, S6.out.wf, d.sorted⟩)
              have HP := hide (show p2.n = p.n ∧ p2.f = p.f ∧ p2.g = p.g ∧ p2.e = p.e ∧ p2.nil = p.nil ∧ p2.L = p.L ∧ p2.R = p.R by rw [hp, hp2]; exact ⟨rfl, rfl, rfl, rfl, rfl, rfl, rfl⟩)
              have en : n0 = p.n := by rw [hp]
              have ee : e = p.e := by rw [hp]
              clear hp hp2 K1 K2 K3 K4 K5 K6 K7 X1 X2 X3 X4 X5 X6 X7 X8 X06 S0 S1 S3 S4 S5 S6 S7 HS HLs
              subst en
              subst ee
              generalize w1.heap.size = idb at HD HD2 ⊢
              generalize w2.heap.size = cb at HD HD2 ⊢
              generalize w3.heap.size = lb at HD HD2 ⊢
              generalize w4.heap.size = db at HD ⊢
              generalize w5.heap.size = sb at HD ⊢
              generalize w6.heap.size = db2 at HD2 ⊢
              generalize w7.heap.size = sb2 at HD2 ⊢
              clear w1 w2 w3 w4 w5 w6 w7
              go_wp2_with fail
              refine (conc33 p RB idb cb lb db sb w8 HD.out).mono ?_
              rintro ea w9 ⟨Pa, LOa, bla, bfa, rfl, hCa⟩
              obtain ⟨gba, cpa, hLOa⟩ := own_shape' hCa.2.1 hCa.2.2.1
              subst hLOa
              generalize (if (p.nmd p.n && p.agr p.n) = true then some (⟨bla, 0, none⟩ : Addr) else none) = q1a
              generalize (if (p.nmd p.n && p.agr p.n) = true then some (⟨bfa, 0, none⟩ : Addr) else none) = q2a
              generalize (p.nmd p.n && p.agr p.n && p.cor (p.ldr p.n)) = q3a
              have XCa := hide hCa.1
              clear hCa
              have h1 := @Lib.run_eql_slice_nil Try.prog
              go_wp2
              have HX10 := hide (((Ext.refl w9).alloc (.cells #[.string { data := #[] }, .int .i64 0, .pointer q1a, .pointer q2a, .slice (some ⟨gba, 0, none⟩) (p.outs p.n).length cpa] 58)).alloc (.cells #[.bool true, .bool (p.cmpl p.cor p.n), .bool q3a] 60))
              have HB10 := hide (Blk.new (w9.alloc (.cells #[.string { data := #[] }, .int .i64 0, .pointer q1a, .pointer q2a, .slice (some ⟨gba, 0, none⟩) (p.outs p.n).length cpa] 58)) (b := w9.heap.size + 1) (by simp) #[.bool true, .bool (p.cmpl p.cor p.n), .bool q3a] 60)
              generalize (w9.alloc (.cells #[.string { data := #[] }, .int .i64 0, .pointer q1a, .pointer q2a, .slice (some ⟨gba, 0, none⟩) (p.outs p.n).length cpa] 58)).alloc (.cells #[.bool true, .bool (p.cmpl p.cor p.n), .bool q3a] 60) = w10 at HX10 HB10 ⊢
              have HDr := hide (HD.out.ext (XCa.out.trans HX10.out))
              have HSg := hide (show ∀ id, Calls Try.prog 36 #[.slice (some ⟨idb, 0, none⟩) p.n p.n, .slice (some ⟨cb, 0, none⟩) p.n p.n, .int .i64 p.e, .int .i64 id] w10 fun r w' => r = .returned (.bool (p.cor id)) ∧ w' = w10 from fun id => by
                have := sigc36 idb 0 cb 0 p.n p.n p.n p.f p.g p.e id w10 HDr.out.small (fun i hi => by simpa using HDr.out.ids i hi) (fun i hi => by simpa using HDr.out.crash i hi) HDr.out.sorted
                rw [← corK_corrAt HDr.out.sorted] at this
                exact this)
              go_loopg [19, 20] p.n (fun g wt ii wr => ∃ i : Nat, i + g = p.n ∧ ii = .int .i64 (i : Int) ∧ wt = .bool (p.cmpl p.cor i) ∧ wr = w10)
              case atStart => exact ⟨0, by omega, rfl, rfl, rfl⟩
              case round =>
                obtain ⟨i, hi, rfl, rfl, hwr⟩ := hrel
                subst hwr
                by_cases hlt : i < p.n
                · have hcr := HDr.out.crash i hlt
                  have hla := HDr.out.last i hlt
                  cases hc : (p.g i == p.e) with
                  | false =>
                    have hc' : (p.g i != p.e) = true := by simpa using hc
                    have hcc : p.c i = false := hc
                    clear hla
                    go_wp2
                    go_roundg (gk - 1)
                    case measure => omega
                    case rel => exact ⟨i + 1, by omega, by go_num, by simp [Prm.cmpl, hcc], rfl⟩
                  | true =>
                    have hc' : (p.g i != p.e) = false := by simpa using hc
                    have hcc : p.c i = true := hc
                    cases hnil : p.nil i with
                    | true =>
                      have hla' : wr.cell? ⟨lb, i, none⟩ = some (.slice none 0 0) := by rw [hnil] at hla; exact hla
                      clear hla
                      go_wp2
                      go_roundg (gk - 1)
                      case measure => omega
                      case rel => exact ⟨i + 1, by omega, by go_num, by simp [Prm.cmpl, hcc, hnil], rfl⟩
                    | false =>
                      have hla' : wr.cell? ⟨lb, i, none⟩ = some (.slice (some ⟨RB i, 0, none⟩) (p.L i) (p.L i)) := by rw [hnil] at hla; exact hla
                      have hLi := (HDr.out.row i hlt hnil).1
                      have HRi := hide (HDr.out.row i hlt hnil).2
                      clear hla
                      go_wp2
                      go_loopg [19, 109] (p.L i) (fun g2 wt jj wr2 => ∃ j : Nat, j + g2 = p.L i ∧ jj = .int .i64 (j : Int) ∧ wt = .bool (p.cmpl p.cor i && (List.range j).all fun j => p.cor (p.R i j)) ∧ wr2 = wr)
                      case atStart => exact ⟨0, by omega, rfl, by simp, rfl⟩
                      case round =>
                        obtain ⟨j, hj, rfl, rfl, hwr2⟩ := hrel
                        subst hwr2
                        by_cases hj2 : j < p.L i
                        · have hrj := HRi.out j hj2
                          have HS := hide (List.range_succ (n := j))
                          go_wp2_with fail
                          refine (HSg.out (p.R i j)).mono ?_
                          rintro e3 w3 ⟨rfl, hw3⟩
                          rw [hw3]
                          clear hw3
                          cases hcor : p.cor (p.R i j) with
                          | false =>
                            go_wp2
                            go_roundg (p.L i - (j + 1))
                            case measure => omega
                            case rel => exact ⟨j + 1, by omega, by go_num, by rw [HS.out, List.all_append]; simp [hcor], rfl⟩
                          | true =>
                            go_wp2
                            go_roundg (p.L i - (j + 1))
                            case measure => omega
                            case rel => exact ⟨j + 1, by omega, by go_num, by rw [HS.out, List.all_append]; simp [hcor], rfl⟩
                        · have e0 : j = p.L i := by omega
                          subst e0
                          clear hj
                          go_wp2
                          go_roundg (p.n - (i + 1))
                          case measure => omega
                          case rel => exact ⟨i + 1, by omega, by go_num, by simp [Prm.cmpl, hcc, hnil], rfl⟩
                · have e0 : i = p.n := by omega
                  subst e0
                  clear hi
                  have cv : wr.cell? ⟨w9.heap.size + 1, 1, none⟩ = some (.bool (p.cmpl p.cor p.n)) := HB10.out.cell (i := 1) rfl
                  have eN := HP.out.1
                  have eE := HP.out.2.2.2.1
                  have HE := hide (show p2.cmpl p2.cor p2.n = p.cmpl p.cor p.n by
                    obtain ⟨z1, z2, z3, z4, z5, z6, z7⟩ := HP.out
                    rw [z1]
                    exact (Prm.cmpl_congr p p.cor (q := p2) (cor' := p2.cor) z3 z4 z5 z6 z7 (fun x => by unfold Prm.cor; rw [z1, z2, z3, z4]) p.n).symm)
                  have HC2 := hide (conc33 p2 RB idb cb lb db2 sb2 wr (HD2.out.ext (XCa.out.trans HX10.out)))
                  rw [eN, eE] at HC2
                  clear eN eE
                  go_wp2_with fail
                  refine HC2.out.mono ?_
                  rintro eb w11 ⟨Pb, LOb, blb, bfb, rfl, hCb⟩
                  obtain ⟨gbb, cpb, hLOb⟩ := own_shape' hCb.2.1 hCb.2.2.1
                  subst hLOb
                  rw [HE.out]
                  generalize (if (p2.nmd p2.n && p2.agr p2.n) = true then some (⟨blb, 0, none⟩ : Addr) else none) = q1b
                  generalize (if (p2.nmd p2.n && p2.agr p2.n) = true then some (⟨bfb, 0, none⟩ : Addr) else none) = q2b
                  generalize (p2.nmd p2.n && p2.agr p2.n && p2.cor (p2.ldr p2.n)) = q3b
                  generalize (p2.outs p2.n).length = lnb
                  have XCb := hide hCb.1
                  have cv2 : w11.cell? ⟨w9.heap.size + 1, 1, none⟩ = some (.bool (p.cmpl p.cor p.n)) := hCb.1.cell cv
                  have lv := World.block_lt_of_cell? w11 _ cv2
                  simp only at lv
                  have lv1 : w9.heap.size + 1 < w11.heap.size + 1 := by omega
                  have lv2 : w9.heap.size + 1 < w11.heap.size + 1 + 1 := by omega
                  clear hCb cv
                  go_wp2
                  go_ret
                  refine ⟨by simp, ?_⟩
                  exact (((XX.out.trans (XCa.out.trans HX10.out)).trans XCb.out).alloc _).alloc _
            ·
              have HXY := hide X1.out
              have H6 := hide hx6
              clear hx6
              go_wp2
              all_goals (try (go_ret; exact ⟨rfl, HXY.out⟩))
              exfalso
              have t7 := ‹((n7 : Int) != _) = false›
              simp at t7
              exact H6.out ⟨by omega, by omega⟩
      · have HH := hide hlen
        clear hlen
        go_wp2_with fail
        refine (shaped_no n0 n1 n3 n4 n5 c0 c1 c3 c4 c5 a0 a1 a3 a4 a5 w HH.out).mono ?_
        rintro e3 w3 ⟨rfl, hw3⟩
        rw [hw3]
        clear hw3
        go_wp2
        go_ret
        exact ⟨rfl, Ext.refl w⟩
end Go.Proofs.Qxb6001094a
