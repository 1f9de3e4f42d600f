import Derived.Test.Qxb6001094aArgs
import Derived.Test.Qxb6001094aZero
namespace Go.Proofs.Qxb6001094a
set_option linter.unusedVariables false
open Go.RowKit Go.Maps

/-- 'It returns true, and nothing that was there has turned.' -/
def TrueP (w : World) (e : Ending) (w' : World) : Prop := e = .returned (.bool true) ∧ Ext w w'

/-- The cells of output number j. -/
theorem out_cells {p : Prm} {RB P : Nat → Nat} {w : World} {base gb cp : Nat} {os : List Nat} (h : w.ownsRow base 64 3 (.slice (some ⟨gb, 0, none⟩) os.length cp) os.length (outCells p RB P os)) {j i : Nat} (hj : os[j]? = some i) :
    w.cell? ⟨gb, j * 3, none⟩ = some (.int .i64 (p.f i)) ∧ w.cell? ⟨gb, j * 3 + 1, none⟩ = some (rowV (p.nil i) (RB i) (p.L i)) ∧ w.cell? ⟨gb, j * 3 + 2, none⟩ = some (.pointer (if p.nil i then none else some ⟨P i, 0, none⟩)) := by
  have key : ∀ (os : List Nat) (j : Nat), os[j]? = some i → ∀ t v, (outCell p RB P i)[t]? = some v → (outCells p RB P os)[j * 3 + t]? = some v := by
    intro os
    induction os with
    | nil => intro j hj; simp at hj
    | cons a os ih =>
      intro j hj t v hv
      have e : outCells p RB P (a :: os) = outCell p RB P a ++ outCells p RB P os := by simp [outCells]
      have hl : (outCell p RB P a).length = 3 := rfl
      rw [e]
      match j, hj with
      | 0, hj =>
        simp at hj
        subst hj
        have ht : t < 3 := by have := (List.getElem?_eq_some_iff.1 hv).1; simpa [outCell] using this
        rw [List.getElem?_append_left (by omega)]
        simpa using hv
      | j + 1, hj =>
        rw [List.getElem?_append_right (by omega), hl]
        have := ih j (by simpa using hj) t v hv
        rw [show (j + 1) * 3 + t - 3 = j * 3 + t by omega]
        exact this
  have hc := h.cells (g := gb) rfl
  have f : ∀ t v, (outCell p RB P i)[t]? = some v → w.cell? ⟨gb, j * 3 + t, none⟩ = some v := by
    intro t v hv
    have := hc (j * 3 + t) v (key os j hj t v hv)
    rw [Addr.add_lit] at this
    simpa using this
  exact ⟨f 0 _ rfl, f 1 _ rfl, f 2 _ rfl⟩

set_option maxRecDepth 100000 in
set_option maxHeartbeats 1000000 in
theorem law8 (a0 a1 a3 a4 a5 : Option Addr) (n0 n1 n3 n4 n5 c0 c1 c3 c4 c5 : Nat) (f0 f1 f4 f5 : Nat → Int) (e : Int) (A : Nat → Option Addr) (L C : Nat → Nat) (R : Nat → Nat → Int) (w : World)
    (s0 : SlI w a0 n0 c0 f0) (s1 : SlI w a1 n1 c1 f1) (s3 : SlR w a3 n3 c3 A L C R) (s4 : SlI w a4 n4 c4 f4) (s5 : SlI w a5 n5 c5 f5) :
    Calls Try.prog 8 #[.slice a0 n0 c0, .slice a1 n1 c1, .int .i64 e, .slice a3 n3 c3, .slice a4 n4 c4, .slice a5 n5 c5] w (TrueP w) := by
  have S0 := hide s0
  have S1 := hide s1
  have S3 := hide s3
  have S4 := hide s4
  have S5 := hide s5
  have hz := zz30 a0 a1 a3 a4 a5 n0 n1 n4 n5 c0 c1 c3 c4 c5 n3 e w L s3.small s0.small s1.small s4.small s5.small s3.rows
  have hf := fits31 a0 a1 a3 a4 a5 none none n0 n1 n4 n5 0 0 c0 c1 c3 c4 c5 0 0 n3 w L s3.small s0.small s1.small s4.small s5.small (by omega) (by omega) s3.rows
  have HZ := hide hz
  have HF := hide hf
  clear s0 s1 s3 s4 s5 hz hf
  go_enter Try.func8, Try.ntmps8
  go_wp2_with fail
  refine HZ.out.mono ?_
  rintro e1 w1 ⟨⟨b1, rfl⟩, hw1⟩
  rw [hw1]
  clear hw1
  cases b1 with
  | false =>
    go_wp2
    go_ret
    exact ⟨rfl, Ext.refl w⟩
  | true =>
    go_wp2_with fail
    refine HF.out.mono ?_
    rintro e2 w2 ⟨⟨b2, rfl, hb2⟩, hw2⟩
    rw [hw2]
    clear hw2
    cases b2 with
    | false =>
      go_wp2
      go_ret
      exact ⟨rfl, Ext.refl w⟩
    | true =>
      obtain ⟨hn0, hn3, hLs⟩ := hb2 rfl
      have HLs := hide hLs
      clear hLs hb2 HZ HF
      by_cases hlen : n1 = n0 ∧ n3 = n0 ∧ n4 = n0 ∧ n5 = n0
      ·
        have eq1 : n0 = n1 := hlen.1.symm
        have eq3 : n0 = n3 := hlen.2.1.symm
        have eq4 : n0 = n4 := hlen.2.2.1.symm
        have eq5 : n0 = n5 := hlen.2.2.2.symm
        clear hlen
        subst eq1
        subst eq3
        subst eq4
        subst eq5
        by_cases h00 : n0 = 0
        ·
          subst h00
          go_wp2_with fail
          refine (shaped_yes0 c0 c1 c3 c4 c5 a0 a1 a3 a4 a5 w).mono ?_
          rintro e3 w3 ⟨rfl, hw3⟩
          rw [hw3]
          clear hw3
          go_wp2_with fail
          refine S0.out.clone0.mono ?_
          rintro e4 w2 ⟨b0, rfl, x2⟩
          have X2 := hide x2
          clear x2
          go_wp2_with fail
          refine (S1.out.ext X2.out).clone0.mono ?_
          rintro e5 w3 ⟨b1, rfl, x3⟩
          have X3 := hide (X2.out.trans x3)
          clear x3
          go_wp2_with fail
          refine (S3.out.ext X3.out).clone0.mono ?_
          rintro e6 w4 ⟨b3, rfl, x4⟩
          have X4 := hide (X3.out.trans x4)
          clear x4
          go_wp2_with fail
          refine (S4.out.ext X4.out).clone0.mono ?_
          rintro e7 w5 ⟨b4, rfl, x5⟩
          have X5 := hide (X4.out.trans x5)
          clear x5
          go_wp2_with fail
          refine (S5.out.ext X5.out).clone0.mono ?_
          rintro e8 w6 ⟨b5, rfl, x6⟩
          have X6 := hide (X5.out.trans x6)
          clear x6
          have h1 := @Lib.run_eql_slice_nil Try.prog
          go_wp2_with fail
          refine (conc33_zero b0 b1 b3 b4 b5 0 0 0 0 0 e w6).mono ?_
          rintro e9 w7 ⟨gb, cp, rfl, x7⟩
          have X7 := hide (X6.out.trans x7)
          clear x7
          go_wp2
          refine wp_loop_rounds 1 ?_
          rw [rounds_succ]
          go_wp2
          go_ret
          exact ⟨rfl, (X7.out.alloc _).alloc _⟩
        ·
          have hpos : 0 < n0 := by omega
          obtain ⟨ib, io, ha0, hci⟩ := S0.out.pos hpos
          subst ha0
          have HI := hide hci
          clear hci
          go_wp2_with fail
          refine (shaped_yes ib io n0 c0 c1 c3 c4 c5 a1 a3 a4 a5 f0 w hpos hn0 HI.out).mono ?_
          rintro e3 w3 ⟨⟨b3, rfl, hb3⟩, m, rfl⟩
          cases b3 with
          | false =>
            go_wp2
            go_ret
            exact ⟨rfl, below_drewN (Ext.refl w) m⟩
          | true =>
            have HS := hide (hb3 rfl)
            have X1 := hide (show Ext w (w.drewN m) from below_drewN (Ext.refl w) m)
            clear hb3 HI
            generalize w.drewN m = w1 at X1 ⊢
            go_wp2_with fail
            refine ((S0.out.ext X1.out).clone hpos hn0).mono ?_
            rintro e4 w2 ⟨rfl, x2, -, k1⟩
            have X2 := hide x2
            have K1 := hide k1
            clear x2 k1
            go_wp2_with fail
            refine ((S1.out.ext (X1.out.trans X2.out)).clone hpos hn0).mono ?_
            rintro e5 w3 ⟨rfl, x3, -, k2⟩
            have X3 := hide x3
            have K2 := hide k2
            clear x3 k2
            go_wp2_with fail
            refine ((S3.out.ext ((X1.out.trans X2.out).trans X3.out)).clone hpos hn0 HLs.out).mono ?_
            rintro e6 w4 ⟨rfl, RB, k3⟩
            have X4 := hide k3.ext
            have K3 := hide k3
            clear k3
            go_wp2_with fail
            refine ((S4.out.ext (((X1.out.trans X2.out).trans X3.out).trans X4.out)).clone hpos hn0).mono ?_
            rintro e7 w5 ⟨rfl, x5, -, k4⟩
            have X5 := hide x5
            have K4 := hide k4
            clear x5 k4
            go_wp2_with fail
            refine ((S5.out.ext ((((X1.out.trans X2.out).trans X3.out).trans X4.out).trans X5.out)).clone hpos hn0).mono ?_
            rintro e8 w6 ⟨rfl, x6, -, k5⟩
            have X6 := hide x6
            have K5 := hide k5
            clear x6 k5
            have XX := hide (((((X1.out.trans X2.out).trans X3.out).trans X4.out).trans X5.out).trans X6.out)
            obtain ⟨p, hp⟩ : ∃ p : Prm, p = ⟨n0, f0, f1, f4, f5, e, fun i => (A i).isNone, L, R⟩ := ⟨_, rfl⟩
            have HD := hide (show Data p RB w6 w1.heap.size w2.heap.size w3.heap.size w4.heap.size w5.heap.size by
              subst hp
              exact data_of hn0 HLs.out (fun _ => rfl) S0.out.wf S3.out.wf S4.out.wf HS.out (((X3.out.trans X4.out).trans X5.out).trans X6.out) ((X4.out.trans X5.out).trans X6.out) (X5.out.trans X6.out) X6.out K1.out K2.out K3.out K4.out K5.out)
            have en : n0 = p.n := by rw [hp]
            have ee : e = p.e := by rw [hp]
            clear hp K1 K2 K3 K4 K5 X1 X2 X3 X4 X5 X6 S0 S1 S3 S4 S5 HS HLs
            subst en
            subst ee
            generalize w1.heap.size = idb at HD ⊢
            generalize w2.heap.size = cb at HD ⊢
            generalize w3.heap.size = lb at HD ⊢
            generalize w4.heap.size = db at HD ⊢
            generalize w5.heap.size = sb at HD ⊢
            clear w1 w2 w3 w4 w5
            go_wp2_with fail
            refine (conc33 p RB idb cb lb db sb w6 HD.out).mono ?_
            rintro e9 w7 ⟨P, LO, bl, bf, rfl, hC⟩
            obtain ⟨gb, cp, hLO⟩ := own_shape' hC.2.1 hC.2.2.1
            subst hLO
            generalize hq1 : (if (p.nmd p.n && p.agr p.n) = true then some (⟨bl, 0, none⟩ : Addr) else none) = q1
            generalize hq2 : (if (p.nmd p.n && p.agr p.n) = true then some (⟨bf, 0, none⟩ : Addr) else none) = q2
            generalize hq3 : (p.nmd p.n && p.agr p.n && p.cor (p.ldr p.n)) = q3
            have HQ := hide (And.intro hq1 (And.intro hq2 hq3))
            clear hq1 hq2 hq3
            have HC := hide (show ConcW p RB w6 w7 P _ bl bf from hC)
            clear hC
            have h1 := @Lib.run_eql_slice_nil Try.prog
            go_wp2
            have HX8 := hide (((Ext.refl w7).alloc (.cells #[.string { data := #[] }, .int .i64 0, .pointer q1, .pointer q2, .slice (some ⟨gb, 0, none⟩) (p.outs p.n).length cp] 58)).alloc (.cells #[.bool true, .bool (p.cmpl p.cor p.n), .bool q3] 60))
            have HB8 := hide ((Blk.new w7 rfl #[.string { data := #[] }, .int .i64 0, .pointer q1, .pointer q2, .slice (some ⟨gb, 0, none⟩) (p.outs p.n).length cp] 58).alloc (.cells #[.bool true, .bool (p.cmpl p.cor p.n), .bool q3] 60))
            have HS8 := hide (show (p.outs p.n).length ≤ p.n from p.outs_le p.n)
            generalize (w7.alloc (.cells #[.string { data := #[] }, .int .i64 0, .pointer q1, .pointer q2, .slice (some ⟨gb, 0, none⟩) (p.outs p.n).length cp] 58)).alloc (.cells #[.bool true, .bool (p.cmpl p.cor p.n), .bool q3] 60) = w8 at HX8 HB8 ⊢
            go_loopg [15, 16] p.n (fun g kk ii wr => ∃ i : Nat, i + g = p.n ∧ ii = .int .i64 (i : Int) ∧ kk = .int .i64 ((p.outs i).length : Int) ∧ Ext w8 wr)
            case atStart => exact ⟨0, by omega, rfl, rfl, Ext.refl _⟩
            case round =>
              obtain ⟨i, hi, rfl, rfl, hxr⟩ := hrel
              have HXR := hide hxr
              have cLO : wr.cell? ⟨w7.heap.size, 4, none⟩ = some (.slice (some ⟨gb, 0, none⟩) (p.outs p.n).length cp) := hxr.cell (HB8.out.cell (i := 4) rfl)
              clear hxr
              have hoi := p.outs_le i
              by_cases hlt : i < p.n
              · have HDr := hide (HD.out.ext ((HC.out.1.trans HX8.out).trans HXR.out))
                have hcr := HDr.out.crash i hlt
                cases hc : (p.g i == p.e) with
                | false =>
                  have hc' : (p.g i != p.e) = true := by simpa using hc
                  go_wp2
                  go_roundg (gk - 1)
                  case measure => omega
                  case rel => exact ⟨i + 1, by omega, by go_num, by rw [p.outs_succ, if_neg (by simp [Prm.c, hc])], HXR.out⟩
                | true =>
                  have hc' : (p.g i != p.e) = false := by simpa using hc
                  have hcc : p.c i = true := hc
                  have hat := p.outs_at hlt hcc
                  have hol : (p.outs i).length < (p.outs p.n).length := (List.getElem?_eq_some_iff.1 hat).1
                  obtain ⟨d0, d1, d2⟩ := out_cells (CS.own_ext HC.out.2.1 (HX8.out.trans HXR.out)) hat
                  have hidc := HDr.out.ids i hlt
                  have hla := HDr.out.last i hlt
                  have hld := HDr.out.lead i hlt
                  cases hnil : p.nil i with
                  | true =>
                    rw [hnil] at d1 d2 hla
                    have d1' : wr.cell? ⟨gb, (p.outs i).length * 3 + 1, none⟩ = some (.slice none 0 0) := d1
                    have d2' : wr.cell? ⟨gb, (p.outs i).length * 3 + 2, none⟩ = some (.pointer none) := d2
                    clear d1 d2 hla
                    go_wp2
                    have HX9 := hide ((Ext.refl wr).alloc (.cells #[.int .i64 (p.f i), .slice none 0 0, .pointer none] 64))
                    have HB9 := hide (Blk.new wr rfl #[.int .i64 (p.f i), .slice none 0 0, .pointer none] 64)
                    generalize wr.alloc (.cells #[.int .i64 (p.f i), .slice none 0 0, .pointer none] 64) = w9 at HX9 HB9 ⊢
                    have HD9 := hide (HDr.out.ext HX9.out)
                    clear d0 d1' d2' cLO hcr hidc hld hol
                    have o0 : w9.cell? ⟨wr.heap.size, 0, none⟩ = some (.int .i64 (p.f i)) := HB9.out.cell (i := 0) rfl
                    have o1 : w9.cell? ⟨wr.heap.size, 1, none⟩ = some (.slice none 0 0) := HB9.out.cell (i := 1) rfl
                    have o2 : w9.cell? ⟨wr.heap.size, 2, none⟩ = some (.pointer none) := HB9.out.cell (i := 2) rfl
                    have hidc := HD9.out.ids i hlt
                    have hla : w9.cell? ⟨lb, i, none⟩ = some (.slice none 0 0) := by have := HD9.out.last i hlt; rw [hnil] at this; exact this
                    have hld := HD9.out.lead i hlt
                    have hlt2 : (i : Int) < (p.n : Int) := by omega
                    clear hat
                    go_quiet (fail)
                    go_wp2
                    have HXa := hide (show Ext wr (w9.drewN nq) from below_drewN HX9.out nq)
                    have o1' := below_drewN (Ext.refl w9) nq
                    have HDb := hide (HD9.out.ext o1')
                    have q0 : (w9.drewN nq).cell? ⟨wr.heap.size, 0, none⟩ = some (.int .i64 (p.f i)) := o0
                    have q1' : (w9.drewN nq).cell? ⟨wr.heap.size, 1, none⟩ = some (.slice none 0 0) := o1
                    have q2' : (w9.drewN nq).cell? ⟨wr.heap.size, 2, none⟩ = some (.pointer none) := o2
                    clear o0 o1 o2 o1' hidc hla hld HD9
                    generalize w9.drewN nq = w10 at HXa HDb q0 q1' q2' ⊢
                    have HD9 := hide HDb.out
                    have o0 := q0
                    have o1 := q1'
                    have o2 := q2'
                    clear HDb q0 q1' q2'
                    have hidc := HD9.out.ids i hlt
                    have hla : w10.cell? ⟨lb, i, none⟩ = some (.slice none 0 0) := by have := HD9.out.last i hlt; rw [hnil] at this; exact this
                    have hld := HD9.out.lead i hlt
                    go_quiet (fail)
                    go_wp2
                    have HXb := hide (show Ext wr (w10.drewN nq) from below_drewN HXa.out nq)
                    have o1' := below_drewN (Ext.refl w10) nq
                    have HDb := hide (HD9.out.ext o1')
                    have q0 : (w10.drewN nq).cell? ⟨wr.heap.size, 0, none⟩ = some (.int .i64 (p.f i)) := o0
                    have q1' : (w10.drewN nq).cell? ⟨wr.heap.size, 1, none⟩ = some (.slice none 0 0) := o1
                    have q2' : (w10.drewN nq).cell? ⟨wr.heap.size, 2, none⟩ = some (.pointer none) := o2
                    clear o0 o1 o2 o1' hidc hla hld HD9
                    generalize w10.drewN nq = w11 at HXb HDb q0 q1' q2' ⊢
                    have HD9 := hide HDb.out
                    have o0 := q0
                    have o1 := q1'
                    have o2 := q2'
                    clear HDb q0 q1' q2'
                    have hidc := HD9.out.ids i hlt
                    have hla : w11.cell? ⟨lb, i, none⟩ = some (.slice none 0 0) := by have := HD9.out.last i hlt; rw [hnil] at this; exact this
                    have hld := HD9.out.lead i hlt
                    go_quiet (fail)
                    go_wp2
                    have HXc := hide (show Ext wr (w11.drewN nq) from below_drewN HXb.out nq)
                    have o1' := below_drewN (Ext.refl w11) nq
                    have HDb := hide (HD9.out.ext o1')
                    have q0 : (w11.drewN nq).cell? ⟨wr.heap.size, 0, none⟩ = some (.int .i64 (p.f i)) := o0
                    have q1' : (w11.drewN nq).cell? ⟨wr.heap.size, 1, none⟩ = some (.slice none 0 0) := o1
                    have q2' : (w11.drewN nq).cell? ⟨wr.heap.size, 2, none⟩ = some (.pointer none) := o2
                    clear o0 o1 o2 o1' hidc hla hld HD9
                    generalize w11.drewN nq = w12 at HXc HDb q0 q1' q2' ⊢
                    have HD9 := hide HDb.out
                    have o0 := q0
                    have o1 := q1'
                    have o2 := q2'
                    clear HDb q0 q1' q2'
                    have hidc := HD9.out.ids i hlt
                    have hla : w12.cell? ⟨lb, i, none⟩ = some (.slice none 0 0) := by have := HD9.out.last i hlt; rw [hnil] at this; exact this
                    have hld := HD9.out.lead i hlt
                    go_quiet ((go_at_call 34; exact Calls.quiet_of (same34_zero none none 0 0 _)))
                    go_wp2
                    go_roundg (gk - 1)
                    case measure => omega
                    case rel =>
                      refine ⟨i + 1, by omega, by go_num, by rw [p.outs_succ, if_pos hcc]; simp, ?_⟩
                      exact below_drewN (HXR.out.trans HXc.out) _
                  | false =>
                    rw [hnil] at d1 d2 hla
                    have d1' : wr.cell? ⟨gb, (p.outs i).length * 3 + 1, none⟩ = some (.slice (some ⟨RB i, 0, none⟩) (p.L i) (p.L i)) := d1
                    have d2' : wr.cell? ⟨gb, (p.outs i).length * 3 + 2, none⟩ = some (.pointer (some ⟨P i, 0, none⟩)) := d2
                    clear d1 d2 hla
                    go_wp2
                    have HX9 := hide ((Ext.refl wr).alloc (.cells #[.int .i64 (p.f i), .slice (some ⟨RB i, 0, none⟩) (p.L i) (p.L i), .pointer (some ⟨P i, 0, none⟩)] 64))
                    have HB9 := hide (Blk.new wr rfl #[.int .i64 (p.f i), .slice (some ⟨RB i, 0, none⟩) (p.L i) (p.L i), .pointer (some ⟨P i, 0, none⟩)] 64)
                    generalize wr.alloc (.cells #[.int .i64 (p.f i), .slice (some ⟨RB i, 0, none⟩) (p.L i) (p.L i), .pointer (some ⟨P i, 0, none⟩)] 64) = w9 at HX9 HB9 ⊢
                    have HD9 := hide (HDr.out.ext HX9.out)
                    clear d0 d1' d2' cLO hcr hidc hld hol
                    have o0 : w9.cell? ⟨wr.heap.size, 0, none⟩ = some (.int .i64 (p.f i)) := HB9.out.cell (i := 0) rfl
                    have o1 : w9.cell? ⟨wr.heap.size, 1, none⟩ = some (.slice (some ⟨RB i, 0, none⟩) (p.L i) (p.L i)) := HB9.out.cell (i := 1) rfl
                    have o2 : w9.cell? ⟨wr.heap.size, 2, none⟩ = some (.pointer (some ⟨P i, 0, none⟩)) := HB9.out.cell (i := 2) rfl
                    have hidc := HD9.out.ids i hlt
                    have hla : w9.cell? ⟨lb, i, none⟩ = some (.slice (some ⟨RB i, 0, none⟩) (p.L i) (p.L i)) := by have := HD9.out.last i hlt; rw [hnil] at this; exact this
                    have hld := HD9.out.lead i hlt
                    have hlt2 : (i : Int) < (p.n : Int) := by omega
                    have hpd : w9.cell? ⟨P i, 0, none⟩ = some (.int .i64 (p.dl i)) := (HX8.out.trans (HXR.out.trans HX9.out)).cell (HC.out.2.2.2.1 i (List.mem_of_getElem? hat) hnil)
                    have HLi := (HD9.out.row i hlt hnil).1
                    clear hat
                    go_quiet (fail)
                    go_wp2
                    have HXa := hide (show Ext wr (w9.drewN nq) from below_drewN HX9.out nq)
                    have o1' := below_drewN (Ext.refl w9) nq
                    have HDb := hide (HD9.out.ext o1')
                    have q0 : (w9.drewN nq).cell? ⟨wr.heap.size, 0, none⟩ = some (.int .i64 (p.f i)) := o0
                    have q1' : (w9.drewN nq).cell? ⟨wr.heap.size, 1, none⟩ = some (.slice (some ⟨RB i, 0, none⟩) (p.L i) (p.L i)) := o1
                    have q2' : (w9.drewN nq).cell? ⟨wr.heap.size, 2, none⟩ = some (.pointer (some ⟨P i, 0, none⟩)) := o2
                    have q3' : (w9.drewN nq).cell? ⟨P i, 0, none⟩ = some (.int .i64 (p.dl i)) := hpd
                    clear hpd
                    clear o0 o1 o2 o1' hidc hla hld HD9
                    generalize w9.drewN nq = w10 at HXa HDb q0 q1' q2' q3' ⊢
                    have HD9 := hide HDb.out
                    have o0 := q0
                    have o1 := q1'
                    have o2 := q2'
                    clear HDb q0 q1' q2'
                    have hpd := q3'
                    clear q3'
                    have hidc := HD9.out.ids i hlt
                    have hla : w10.cell? ⟨lb, i, none⟩ = some (.slice (some ⟨RB i, 0, none⟩) (p.L i) (p.L i)) := by have := HD9.out.last i hlt; rw [hnil] at this; exact this
                    have hld := HD9.out.lead i hlt
                    go_quiet (fail)
                    go_wp2
                    have HXb := hide (show Ext wr (w10.drewN nq) from below_drewN HXa.out nq)
                    have o1' := below_drewN (Ext.refl w10) nq
                    have HDb := hide (HD9.out.ext o1')
                    have q0 : (w10.drewN nq).cell? ⟨wr.heap.size, 0, none⟩ = some (.int .i64 (p.f i)) := o0
                    have q1' : (w10.drewN nq).cell? ⟨wr.heap.size, 1, none⟩ = some (.slice (some ⟨RB i, 0, none⟩) (p.L i) (p.L i)) := o1
                    have q2' : (w10.drewN nq).cell? ⟨wr.heap.size, 2, none⟩ = some (.pointer (some ⟨P i, 0, none⟩)) := o2
                    have q3' : (w10.drewN nq).cell? ⟨P i, 0, none⟩ = some (.int .i64 (p.dl i)) := hpd
                    clear hpd
                    clear o0 o1 o2 o1' hidc hla hld HD9
                    generalize w10.drewN nq = w11 at HXb HDb q0 q1' q2' q3' ⊢
                    have HD9 := hide HDb.out
                    have o0 := q0
                    have o1 := q1'
                    have o2 := q2'
                    clear HDb q0 q1' q2'
                    have hpd := q3'
                    clear q3'
                    have hidc := HD9.out.ids i hlt
                    have hla : w11.cell? ⟨lb, i, none⟩ = some (.slice (some ⟨RB i, 0, none⟩) (p.L i) (p.L i)) := by have := HD9.out.last i hlt; rw [hnil] at this; exact this
                    have hld := HD9.out.lead i hlt
                    go_quiet (fail)
                    go_wp2
                    have HXc := hide (show Ext wr (w11.drewN nq) from below_drewN HXb.out nq)
                    have o1' := below_drewN (Ext.refl w11) nq
                    have HDb := hide (HD9.out.ext o1')
                    have q0 : (w11.drewN nq).cell? ⟨wr.heap.size, 0, none⟩ = some (.int .i64 (p.f i)) := o0
                    have q1' : (w11.drewN nq).cell? ⟨wr.heap.size, 1, none⟩ = some (.slice (some ⟨RB i, 0, none⟩) (p.L i) (p.L i)) := o1
                    have q2' : (w11.drewN nq).cell? ⟨wr.heap.size, 2, none⟩ = some (.pointer (some ⟨P i, 0, none⟩)) := o2
                    have q3' : (w11.drewN nq).cell? ⟨P i, 0, none⟩ = some (.int .i64 (p.dl i)) := hpd
                    clear hpd
                    clear o0 o1 o2 o1' hidc hla hld HD9
                    generalize w11.drewN nq = w12 at HXc HDb q0 q1' q2' q3' ⊢
                    have HD9 := hide HDb.out
                    have o0 := q0
                    have o1 := q1'
                    have o2 := q2'
                    clear HDb q0 q1' q2'
                    have hpd := q3'
                    clear q3'
                    have hidc := HD9.out.ids i hlt
                    have hla : w12.cell? ⟨lb, i, none⟩ = some (.slice (some ⟨RB i, 0, none⟩) (p.L i) (p.L i)) := by have := HD9.out.last i hlt; rw [hnil] at this; exact this
                    have hld := HD9.out.lead i hlt
                    have HRi := hide (HD9.out.row i hlt hnil).2
                    go_quiet ((go_at_call 34; exact Calls.quiet_of (same34_pos (RB i) 0 (RB i) 0 (p.L i) (p.L i) (p.L i) (p.R i) _ HLi (fun j hj => by simpa using HRi.out j hj) (fun j hj => by simpa using HRi.out j hj))))
                    go_wp2
                    go_roundg (gk - 1)
                    case measure => omega
                    case rel =>
                      refine ⟨i + 1, by omega, by go_num, by rw [p.outs_succ, if_pos hcc]; simp, ?_⟩
                      exact below_drewN (HXR.out.trans HXc.out) _
              · have e0 : i = p.n := by omega
                subst e0
                clear hi
                go_wp2
                go_ret
                refine ⟨?_, XX.out.trans ((HC.out.1.trans HX8.out).trans HXR.out)⟩
                simp
      · have HH := hide hlen
        clear hlen
        go_wp2_with fail
        refine (shaped_no n0 n1 n3 n4 n5 c0 c1 c3 c4 c5 a0 a1 a3 a4 a5 w HH.out).mono ?_
        rintro e3 w3 ⟨rfl, hw3⟩
        rw [hw3]
        clear hw3
        go_wp2
        go_ret
        exact ⟨rfl, Ext.refl w⟩
end Go.Proofs.Qxb6001094a
