import Derived.Test.Qxb6001094aCalls
/-! Seat b6001094a: conclude and its callers where there is no process at all. -/
namespace Go.Proofs.Qxb6001094a
set_option linter.unusedVariables false
open Go.RowKit Go.Maps

/-- What comes back where there is no process. -/
def Conc0P (w : World) (e : Ending) (w' : World) : Prop :=
  ∃ gb cp, e = .returned (.tuple #[.agg #[.string ⟨#[]⟩, .int .i64 0, .pointer none, .pointer none, .slice (some ⟨gb, 0, none⟩) 0 cp], .agg #[.bool true, .bool true, .bool false]]) ∧ Ext w w'

theorem ext_wrote {w W1 w5 : World} {b1 b2 : Nat} {a0 a1 a2 a3 a4 c0 c1 c2 : Value} (hx : Ext w W1) (hb1 : w.heap.size ≤ b1) (hb2 : w.heap.size ≤ b2) (h : Ext W1 w5) : Ext w (wrote3 (wrote5 w5 b1 a0 a1 a2 a3 a4) b2 c0 c1 c2) := by
  have hx5 := hx.trans h
  refine ⟨?_, ?_, ?_, ?_, ?_⟩
  · rw [wrote3_os, wrote5_os]; exact hx5.os
  · rw [wrote3_tape, wrote5_tape]; exact hx5.tape
  · rw [wrote3_output, wrote5_output]; exact hx5.output
  · rw [wrote3_size, wrote5_size]; exact hx5.size
  · intro k hk
    rw [wrote3_other (by omega), wrote5_other (by omega)]
    exact hx5.block k hk

set_option maxRecDepth 100000 in
set_option maxHeartbeats 400000 in
theorem conc48_zero (jb mb ib : Nat) (si sc sl sd ss : Option Addr) (ci cc cl cd cs : Nat) (e : Int) (w : World) (hJ : Judge w jb (.slice si 0 ci) mb e (.slice sc 0 cc) ib (.slice sl 0 cl) (.slice sd 0 cd) (.slice ss 0 cs))
    (hi : w.cell? ⟨ib, 0, none⟩ = some (.bool true)) : Calls Try.prog 48 #[.pointer (some ⟨jb, 0, none⟩)] w (Conc0P w) := by
  obtain ⟨j0, j1, j2, j3, j4, j5, j6, j7, j8, j9⟩ := hJ.cells
  have hjl : jb < w.heap.size := World.block_lt_of_cell? w _ j0
  have hil : ib < w.heap.size := World.block_lt_of_cell? w _ hi
  have hjl1 : jb < w.heap.size + 1 := by omega
  have hjl2 : jb < w.heap.size + 1 + 1 := by omega
  have hjl3 : jb < w.heap.size + 1 + 1 + 1 := by omega
  have hjl4 : jb < w.heap.size + 1 + 1 + 1 + 1 := by omega
  have hjl5 : jb < w.heap.size + 1 + 1 + 1 + 1 + 1 := by omega
  have hjl6 : jb < w.heap.size + 1 + 1 + 1 + 1 + 1 + 1 := by omega
  have hjl7 : jb < w.heap.size + 1 + 1 + 1 + 1 + 1 + 1 + 1 := by omega
  have hil1 : ib < w.heap.size + 1 := by omega
  have hil2 : ib < w.heap.size + 1 + 1 := by omega
  have hil3 : ib < w.heap.size + 1 + 1 + 1 := by omega
  have hil4 : ib < w.heap.size + 1 + 1 + 1 + 1 := by omega
  have hil5 : ib < w.heap.size + 1 + 1 + 1 + 1 + 1 := by omega
  have hil6 : ib < w.heap.size + 1 + 1 + 1 + 1 + 1 + 1 := by omega
  have hil7 : ib < w.heap.size + 1 + 1 + 1 + 1 + 1 + 1 + 1 := by omega
  go_enter Try.func48, Try.ntmps48
  go_wp2
  refine wp_loop_rounds 1 ?_
  rw [rounds_succ]
  clear j0 j1 j2 j3 j4 j5 j6 j7 j8 j9 hi hjl hil hjl1 hil1 hjl2 hil2 hjl3 hil3 hjl4 hil4 hjl5 hil5 hjl6 hil6 hjl7 hil7
  have hcs := hide (cs_start ⟨0, fun _ => 0, fun _ => 0, fun _ => 0, fun _ => 0, 0, fun _ => false, fun _ => 0, fun _ _ => 0⟩ (fun _ => 0) w)
  generalize (((((((w.alloc (.cells #[.string { data := #[] }, .int .i64 0, .pointer none, .pointer none, .slice none 0 0] 58)).alloc (.cells #[.bool false, .bool false, .bool false] 60)).alloc (.cells #[] 64)).alloc
      (.cells #[.string { data := #[] }, .int .i64 0, .pointer none, .pointer none, .slice (some ⟨w.heap.size + 1 + 1, 0, none⟩) 0 0] 58)).alloc (.cells #[.bool true, .bool true, .bool false] 60)).alloc (.cells #[.int .i64 0] 3)).alloc (.cells #[.int .i64 0] 3)) = wr at hcs ⊢
  have r10 : wr.cell? ⟨w.heap.size, 0, none⟩ = some (.string ⟨#[]⟩) := hcs.out.res1.cell (i := 0) rfl
  have g10 : wr.frozen? ⟨w.heap.size, 0, none⟩ = false := hcs.out.res1.frozen 0
  have r11 : wr.cell? ⟨w.heap.size, 1, none⟩ = some (.int .i64 0) := hcs.out.res1.cell (i := 1) rfl
  have g11 : wr.frozen? ⟨w.heap.size, 1, none⟩ = false := hcs.out.res1.frozen 1
  have r12 : wr.cell? ⟨w.heap.size, 2, none⟩ = some (.pointer none) := hcs.out.res1.cell (i := 2) rfl
  have g12 : wr.frozen? ⟨w.heap.size, 2, none⟩ = false := hcs.out.res1.frozen 2
  have r13 : wr.cell? ⟨w.heap.size, 3, none⟩ = some (.pointer none) := hcs.out.res1.cell (i := 3) rfl
  have g13 : wr.frozen? ⟨w.heap.size, 3, none⟩ = false := hcs.out.res1.frozen 3
  have r14 : wr.cell? ⟨w.heap.size, 4, none⟩ = some (.slice none 0 0) := hcs.out.res1.cell (i := 4) rfl
  have g14 : wr.frozen? ⟨w.heap.size, 4, none⟩ = false := hcs.out.res1.frozen 4
  have r20 : wr.cell? ⟨w.heap.size + 1, 0, none⟩ = some (.bool false) := hcs.out.res2.cell (i := 0) rfl
  have g20 : wr.frozen? ⟨w.heap.size + 1, 0, none⟩ = false := hcs.out.res2.frozen 0
  have r21 : wr.cell? ⟨w.heap.size + 1, 1, none⟩ = some (.bool false) := hcs.out.res2.cell (i := 1) rfl
  have g21 : wr.frozen? ⟨w.heap.size + 1, 1, none⟩ = false := hcs.out.res2.frozen 1
  have r22 : wr.cell? ⟨w.heap.size + 1, 2, none⟩ = some (.bool false) := hcs.out.res2.cell (i := 2) rfl
  have g22 : wr.frozen? ⟨w.heap.size + 1, 2, none⟩ = false := hcs.out.res2.frozen 2
  have o0 : wr.cell? ⟨w.heap.size + 1 + 1 + 1, 0, none⟩ = some (.string ⟨#[]⟩) := hcs.out.out.cell (i := 0) rfl
  have o1 : wr.cell? ⟨w.heap.size + 1 + 1 + 1, 1, none⟩ = some (.int .i64 0) := hcs.out.out.cell (i := 1) rfl
  have o2 : wr.cell? ⟨w.heap.size + 1 + 1 + 1, 2, none⟩ = some (.pointer none) := hcs.out.out.cell (i := 2) rfl
  have o3 : wr.cell? ⟨w.heap.size + 1 + 1 + 1, 3, none⟩ = some (.pointer none) := hcs.out.out.cell (i := 3) rfl
  have o4 : wr.cell? ⟨w.heap.size + 1 + 1 + 1, 4, none⟩ = some (.slice (some ⟨w.heap.size + 1 + 1, 0, none⟩) 0 0) := hcs.out.out.cell (i := 4) rfl
  have v0 : wr.cell? ⟨w.heap.size + 1 + 1 + 1 + 1, 0, none⟩ = some (.bool true) := hcs.out.ver.cell (i := 0) rfl
  have v1 : wr.cell? ⟨w.heap.size + 1 + 1 + 1 + 1, 1, none⟩ = some (.bool true) := hcs.out.ver.cell (i := 1) rfl
  have v2 : wr.cell? ⟨w.heap.size + 1 + 1 + 1 + 1, 2, none⟩ = some (.bool false) := hcs.out.ver.cell (i := 2) rfl
  go_wp2
  go_region
  go_wp2
  change bodyPost _ _ _ _ _ (wroteAll wr w.heap.size (w.heap.size + 1) (.string ⟨#[]⟩) (.int .i64 0) (.pointer none) (.pointer none) (.slice (some ⟨w.heap.size + 1 + 1, 0, none⟩) 0 0) (.bool true) (.bool true) (.bool false))
  have n1 : w.heap.size ≠ w.heap.size + 1 := by omega
  refine bodyPost_ret (v := .tuple #[.agg #[.string ⟨#[]⟩, .int .i64 0, .pointer none, .pointer none, .slice (some ⟨w.heap.size + 1 + 1, 0, none⟩) 0 0], .agg #[.bool true, .bool true, .bool false]]) ?_ rfl ?_
  · exact res5860 Try.results48 rfl rfl (wroteAll_1 n1 hcs.out.res1) (wroteAll_2 n1 hcs.out.res2)
  · exact ⟨_, _, rfl, (conc_end (w' := (wroteAll wr w.heap.size (w.heap.size + 1) (.string ⟨#[]⟩) (.int .i64 0) (.pointer none) (.pointer none) (.slice (some ⟨w.heap.size + 1 + 1, 0, none⟩) 0 0) (.bool true) (.bool true) (.bool false))) hcs.out wroteAll_os wroteAll_tape wroteAll_output wroteAll_size (fun k _ h1 h2 _ _ => wroteAll_other h1 h2)).1⟩

set_option maxRecDepth 100000 in
set_option maxHeartbeats 400000 in
theorem zz43_zero (mb : Nat) (si sc sl sd ss : Option Addr) (ci cc cl cd cs : Nat) (e : Int) (w : World) :
    Calls Try.prog 43 #[.slice si 0 ci, .map (some mb), .int .i64 e, .slice sc 0 cc, .int .i64 0, .bool true, .slice sl 0 cl, .slice sd 0 cd, .slice ss 0 cs] w (Conc0P w) := by
  go_enter Try.func43, Try.ntmps43
  go_wp2_with fail
  have HX := hide (((((Ext.refl w).alloc (.cells #[.string { data := #[] }, .int .i64 0, .pointer none, .pointer none, .slice none 0 0] 58)).alloc (.cells #[.bool false, .bool false, .bool false] 60)).alloc (.cells #[.bool true, .map none, .int .i64 0, .slice none 0 0, .slice none 0 0, .slice none 0 0, .map none, .int .i64 0] 90)).alloc (.cells #[.slice si 0 ci, .map (some mb), .int .i64 e, .slice none 0 0, .slice sc 0 cc, .int .i64 0, .pointer (some ⟨w.heap.size + 1 + 1, 0, none⟩), .slice sl 0 cl, .slice sd 0 cd, .slice ss 0 cs] 92))
  have HK1 := hide ((((Blk.new w rfl #[.string { data := #[] }, .int .i64 0, .pointer none, .pointer none, .slice none 0 0] 58).alloc (.cells #[.bool false, .bool false, .bool false] 60)).alloc (.cells #[.bool true, .map none, .int .i64 0, .slice none 0 0, .slice none 0 0, .slice none 0 0, .map none, .int .i64 0] 90)).alloc (.cells #[.slice si 0 ci, .map (some mb), .int .i64 e, .slice none 0 0, .slice sc 0 cc, .int .i64 0, .pointer (some ⟨w.heap.size + 1 + 1, 0, none⟩), .slice sl 0 cl, .slice sd 0 cd, .slice ss 0 cs] 92))
  have HK2 := hide (((Blk.new (w.alloc (.cells #[.string { data := #[] }, .int .i64 0, .pointer none, .pointer none, .slice none 0 0] 58)) (b := w.heap.size + 1) (by simp) #[.bool false, .bool false, .bool false] 60).alloc (.cells #[.bool true, .map none, .int .i64 0, .slice none 0 0, .slice none 0 0, .slice none 0 0, .map none, .int .i64 0] 90)).alloc (.cells #[.slice si 0 ci, .map (some mb), .int .i64 e, .slice none 0 0, .slice sc 0 cc, .int .i64 0, .pointer (some ⟨w.heap.size + 1 + 1, 0, none⟩), .slice sl 0 cl, .slice sd 0 cd, .slice ss 0 cs] 92))
  have HK3 := hide ((Blk.new ((w.alloc (.cells #[.string { data := #[] }, .int .i64 0, .pointer none, .pointer none, .slice none 0 0] 58)).alloc (.cells #[.bool false, .bool false, .bool false] 60)) (b := w.heap.size + 1 + 1) (by simp) #[.bool true, .map none, .int .i64 0, .slice none 0 0, .slice none 0 0, .slice none 0 0, .map none, .int .i64 0] 90).alloc (.cells #[.slice si 0 ci, .map (some mb), .int .i64 e, .slice none 0 0, .slice sc 0 cc, .int .i64 0, .pointer (some ⟨w.heap.size + 1 + 1, 0, none⟩), .slice sl 0 cl, .slice sd 0 cd, .slice ss 0 cs] 92))
  have HK4 := hide (Blk.new (((w.alloc (.cells #[.string { data := #[] }, .int .i64 0, .pointer none, .pointer none, .slice none 0 0] 58)).alloc (.cells #[.bool false, .bool false, .bool false] 60)).alloc (.cells #[.bool true, .map none, .int .i64 0, .slice none 0 0, .slice none 0 0, .slice none 0 0, .map none, .int .i64 0] 90)) (b := w.heap.size + 1 + 1 + 1) (by simp) #[.slice si 0 ci, .map (some mb), .int .i64 e, .slice none 0 0, .slice sc 0 cc, .int .i64 0, .pointer (some ⟨w.heap.size + 1 + 1, 0, none⟩), .slice sl 0 cl, .slice sd 0 cd, .slice ss 0 cs] 92)
  generalize ((((w.alloc (.cells #[.string { data := #[] }, .int .i64 0, .pointer none, .pointer none, .slice none 0 0] 58)).alloc (.cells #[.bool false, .bool false, .bool false] 60)).alloc (.cells #[.bool true, .map none, .int .i64 0, .slice none 0 0, .slice none 0 0, .slice none 0 0, .map none, .int .i64 0] 90)).alloc (.cells #[.slice si 0 ci, .map (some mb), .int .i64 e, .slice none 0 0, .slice sc 0 cc, .int .i64 0, .pointer (some ⟨w.heap.size + 1 + 1, 0, none⟩), .slice sl 0 cl, .slice sd 0 cd, .slice ss 0 cs] 92)) = W1 at HX HK1 HK2 HK3 HK4 ⊢
  refine (conc48_zero (w.heap.size + 1 + 1 + 1) mb (w.heap.size + 1 + 1) si sc sl sd ss ci cc cl cd cs e W1 ⟨_, HK4.out⟩ (HK3.out.cell (i := 0) rfl)).mono ?_
  rintro e1 w5 ⟨gb, cp, rfl, hx5⟩
  have HX5 := hide hx5
  have k1 := HK1.out.ext hx5
  have k2 := HK2.out.ext hx5
  have r10 : w5.cell? ⟨w.heap.size, 0, none⟩ = some (.string ⟨#[]⟩) := k1.cell (i := 0) rfl
  have g10 : w5.frozen? ⟨w.heap.size, 0, none⟩ = false := k1.frozen 0
  have r11 : w5.cell? ⟨w.heap.size, 1, none⟩ = some (.int .i64 0) := k1.cell (i := 1) rfl
  have g11 : w5.frozen? ⟨w.heap.size, 1, none⟩ = false := k1.frozen 1
  have r12 : w5.cell? ⟨w.heap.size, 2, none⟩ = some (.pointer none) := k1.cell (i := 2) rfl
  have g12 : w5.frozen? ⟨w.heap.size, 2, none⟩ = false := k1.frozen 2
  have r13 : w5.cell? ⟨w.heap.size, 3, none⟩ = some (.pointer none) := k1.cell (i := 3) rfl
  have g13 : w5.frozen? ⟨w.heap.size, 3, none⟩ = false := k1.frozen 3
  have r14 : w5.cell? ⟨w.heap.size, 4, none⟩ = some (.slice none 0 0) := k1.cell (i := 4) rfl
  have g14 : w5.frozen? ⟨w.heap.size, 4, none⟩ = false := k1.frozen 4
  have r20 : w5.cell? ⟨w.heap.size + 1, 0, none⟩ = some (.bool false) := k2.cell (i := 0) rfl
  have g20 : w5.frozen? ⟨w.heap.size + 1, 0, none⟩ = false := k2.frozen 0
  have r21 : w5.cell? ⟨w.heap.size + 1, 1, none⟩ = some (.bool false) := k2.cell (i := 1) rfl
  have g21 : w5.frozen? ⟨w.heap.size + 1, 1, none⟩ = false := k2.frozen 1
  have r22 : w5.cell? ⟨w.heap.size + 1, 2, none⟩ = some (.bool false) := k2.cell (i := 2) rfl
  have g22 : w5.frozen? ⟨w.heap.size + 1, 2, none⟩ = false := k2.frozen 2
  have HL1 := hide k1
  have HL2 := hide k2
  clear hx5 k1 k2
  go_wp2
  change bodyPost _ _ _ _ _ (wrote3 (wrote5 w5 w.heap.size (.string ⟨#[]⟩) (.int .i64 0) (.pointer none) (.pointer none) (.slice (some ⟨gb, 0, none⟩) 0 cp)) (w.heap.size + 1) (.bool true) (.bool true) (.bool false))
  have n1 : w.heap.size ≠ w.heap.size + 1 := by omega
  refine bodyPost_ret (v := .tuple #[.agg #[.string ⟨#[]⟩, .int .i64 0, .pointer none, .pointer none, .slice (some ⟨gb, 0, none⟩) 0 cp], .agg #[.bool true, .bool true, .bool false]]) ?_ rfl ?_
  · exact res5860 Try.results43 rfl rfl ((wrote5_blk HL1.out).of_block (wrote3_other n1)) (wrote3_blk (HL2.out.of_block (wrote5_other n1.symm)))
  · exact ⟨gb, cp, rfl, ext_wrote HX.out (Nat.le_refl _) (by omega) HX5.out⟩

set_option maxRecDepth 100000 in
set_option maxHeartbeats 400000 in
theorem conc33_zero (si sc sl sd ss : Option Addr) (ci cc cl cd cs : Nat) (e : Int) (w : World) :
    Calls Try.prog 33 #[.slice si 0 ci, .slice sc 0 cc, .int .i64 e, .slice sl 0 cl, .slice sd 0 cd, .slice ss 0 cs] w (Conc0P w) := by
  go_enter Try.func33, Try.ntmps33
  go_wp2_with fail
  have HX := hide (((Ext.refl w).alloc (.cells #[.string { data := #[] }, .int .i64 0, .pointer none, .pointer none, .slice none 0 0] 58)).alloc (.cells #[.bool false, .bool false, .bool false] 60))
  have HK1 := hide ((Blk.new w rfl #[.string { data := #[] }, .int .i64 0, .pointer none, .pointer none, .slice none 0 0] 58).alloc (.cells #[.bool false, .bool false, .bool false] 60))
  have HK2 := hide (Blk.new (w.alloc (.cells #[.string { data := #[] }, .int .i64 0, .pointer none, .pointer none, .slice none 0 0] 58)) (b := w.heap.size + 1) (by simp) #[.bool false, .bool false, .bool false] 60)
  generalize (w.alloc (.cells #[.string { data := #[] }, .int .i64 0, .pointer none, .pointer none, .slice none 0 0] 58)).alloc (.cells #[.bool false, .bool false, .bool false] 60) = W1 at HX HK1 HK2 ⊢
  refine (numbers44_zero si ci (fun _ => 0) W1).mono ?_
  rintro e1 w2 ⟨rfl, hx2, hnm⟩
  have HX2 := hide (HX.out.trans hx2)
  have HL1 := hide (HK1.out.ext hx2)
  have HL2 := hide (HK2.out.ext hx2)
  clear hnm hx2 HK1 HK2 HX
  go_wp2_with fail
  refine (zz43_zero W1.heap.size si sc sl sd ss ci cc cl cd cs e w2).mono ?_
  rintro e2 w5 ⟨gb, cp, rfl, hx5⟩
  have HX5 := hide hx5
  have k1 := HL1.out.ext hx5
  have k2 := HL2.out.ext hx5
  have r10 : w5.cell? ⟨w.heap.size, 0, none⟩ = some (.string ⟨#[]⟩) := k1.cell (i := 0) rfl
  have g10 : w5.frozen? ⟨w.heap.size, 0, none⟩ = false := k1.frozen 0
  have r11 : w5.cell? ⟨w.heap.size, 1, none⟩ = some (.int .i64 0) := k1.cell (i := 1) rfl
  have g11 : w5.frozen? ⟨w.heap.size, 1, none⟩ = false := k1.frozen 1
  have r12 : w5.cell? ⟨w.heap.size, 2, none⟩ = some (.pointer none) := k1.cell (i := 2) rfl
  have g12 : w5.frozen? ⟨w.heap.size, 2, none⟩ = false := k1.frozen 2
  have r13 : w5.cell? ⟨w.heap.size, 3, none⟩ = some (.pointer none) := k1.cell (i := 3) rfl
  have g13 : w5.frozen? ⟨w.heap.size, 3, none⟩ = false := k1.frozen 3
  have r14 : w5.cell? ⟨w.heap.size, 4, none⟩ = some (.slice none 0 0) := k1.cell (i := 4) rfl
  have g14 : w5.frozen? ⟨w.heap.size, 4, none⟩ = false := k1.frozen 4
  have r20 : w5.cell? ⟨w.heap.size + 1, 0, none⟩ = some (.bool false) := k2.cell (i := 0) rfl
  have g20 : w5.frozen? ⟨w.heap.size + 1, 0, none⟩ = false := k2.frozen 0
  have r21 : w5.cell? ⟨w.heap.size + 1, 1, none⟩ = some (.bool false) := k2.cell (i := 1) rfl
  have g21 : w5.frozen? ⟨w.heap.size + 1, 1, none⟩ = false := k2.frozen 1
  have r22 : w5.cell? ⟨w.heap.size + 1, 2, none⟩ = some (.bool false) := k2.cell (i := 2) rfl
  have g22 : w5.frozen? ⟨w.heap.size + 1, 2, none⟩ = false := k2.frozen 2
  have HM1 := hide k1
  have HM2 := hide k2
  clear hx5 k1 k2
  go_wp2
  change bodyPost _ _ _ _ _ (wrote3 (wrote5 w5 w.heap.size (.string ⟨#[]⟩) (.int .i64 0) (.pointer none) (.pointer none) (.slice (some ⟨gb, 0, none⟩) 0 cp)) (w.heap.size + 1) (.bool true) (.bool true) (.bool false))
  have n1 : w.heap.size ≠ w.heap.size + 1 := by omega
  refine bodyPost_ret (v := .tuple #[.agg #[.string ⟨#[]⟩, .int .i64 0, .pointer none, .pointer none, .slice (some ⟨gb, 0, none⟩) 0 cp], .agg #[.bool true, .bool true, .bool false]]) ?_ rfl ?_
  · exact res5860 Try.results33 rfl rfl ((wrote5_blk HM1.out).of_block (wrote3_other n1)) (wrote3_blk (HM2.out.of_block (wrote5_other n1.symm)))
  · exact ⟨gb, cp, rfl, ext_wrote HX2.out (Nat.le_refl _) (by omega) HX5.out⟩
end Go.Proofs.Qxb6001094a
