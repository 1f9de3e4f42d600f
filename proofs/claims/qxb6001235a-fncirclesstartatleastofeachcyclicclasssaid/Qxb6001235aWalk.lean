import Derived.Test.Qxb6001235aCm
/-! Seat b6001235a: the closure 'walk' of circleThrough, and circleThrough. -/
namespace Go.Proofs.Qxb6001235a
set_option linter.unusedVariables false
open Go.RowKit Go.Maps

/-- What the walk comes to. -/
def WkP (J : Nat → Nat) (n : Nat) (ea ca : Option Addr) (start : Nat) (W : World) (r : Bool × CS) (e : Ending) (w' : World) : Prop :=
  e = .returned (.bool r.1) ∧ ∃ k PV, CM J n ea ca start W w' k r.2 PV ∧ k + cntF r.2.vis n ≤ n

/-- The components in memory. -/
def Cmp (W : World) (ca : Option Addr) (aC n : Nat) (comp : Nat → Int) : Prop := (0 < n → ca = some ⟨aC, 0, none⟩) ∧ ∀ i, i < n → W.cell? ⟨aC, i, none⟩ = some (.int .i64 (comp i))

theorem loopC_cons {comp : Nat → Int} {start : Nat} {rec : Nat → CS → Bool × CS} {x : Nat} {r : List Nat} {s : CS} : loopC comp start rec (x :: r) s =
    if x = start then (true, { s with path := s.path ++ [start] })
    else if comp x = comp start ∧ s.vis x = false then
      (if (rec x ⟨s.path ++ [x], upd s.vis x true⟩).1 = true then (true, (rec x ⟨s.path ++ [x], upd s.vis x true⟩).2)
       else loopC comp start rec r { (rec x ⟨s.path ++ [x], upd s.vis x true⟩).2 with path := (rec x ⟨s.path ++ [x], upd s.vis x true⟩).2.path.dropLast })
    else loopC comp start rec r s := rfl

set_option maxRecDepth 100000 in
set_option maxHeartbeats 1000000 in
theorem walk31 {G : Gr} {W : World} {ea ca : Option Addr} {eb aC : Nat} {RA : Nat → Option Addr} {RB : Nat → Nat} {comp : Nat → Int} {start : Nat} (hE : EdG W ea eb G RA RB) (hC : Cmp W ca aC G.n comp) (hs : start < G.n) (J : Nat → Nat) :
    ∀ (fuel v : Nat) (s : CS) (k : Nat) (w : World) (PV : Value), v < G.n → cntF s.vis G.n < fuel → s.path.length + cntF s.vis G.n ≤ G.n + 1 → k + cntF s.vis G.n ≤ G.n → CM J G.n ea ca start W w k s PV →
    Calls Try.prog 31 #[.int .i64 (v : Int), .pointer (some ⟨J 0, 0, none⟩), .pointer (some ⟨J 1, 0, none⟩), .pointer (some ⟨J 2, 0, none⟩), .pointer (some ⟨J 3, 0, none⟩), .pointer (some ⟨J 4, 0, none⟩), .pointer (some ⟨J 5, 0, none⟩)] w (WkP J G.n ea ca start W (walkC G comp start fuel v s)) := by
  intro fuel
  induction fuel with
  | zero => intro v s k w PV _ h; omega
  | succ fuel ih =>
    intro v s k w PV hv hf hp hk hM
    obtain rfl := hE.ea (by omega)
    obtain rfl := hC.1 (by omega)
    have IH := hide ih
    have HE := hide hE
    have HC := hide hC.2
    have HM := hide hM
    have HF := hide (And.intro hf (And.intro hp hk))
    have hsm := hE.small
    clear ih hE hC hM hf hp hk
    have c0 : w.cell? ⟨J 0, 0, none⟩ = some (.slice (some ⟨eb, 0, none⟩) G.n G.n) := Blk.cell (HM.out.pq 0 (by decide)) rfl
    have geb := (HE.out.ext HM.out.ext).outer v hv
    have HRA := hide (HE.out.ra v hv)
    generalize RA v = ra at geb HRA
    have hlen := HE.out.len v hv
    go_enter Try.func31, Try.ntmps31
    go_wp2
    have HV := hide (show loopC comp start (walkC G comp start fuel) ((G.adj v).drop 0) s = walkC G comp start (fuel + 1) v s from rfl)
    go_loopg [16] (G.adj v).length (fun g i wr => ∃ (q : Nat) (sk : CS) (kk : Nat) (PV : Value), q + g = (G.adj v).length ∧ i = .int .i64 (q : Int) ∧ Hid (loopC comp start (walkC G comp start fuel) ((G.adj v).drop q) sk = walkC G comp start (fuel + 1) v s) ∧ Hid (cntF sk.vis G.n < fuel + 1 ∧ sk.path.length + cntF sk.vis G.n ≤ G.n + 1 ∧ kk + cntF sk.vis G.n ≤ G.n) ∧ Hid (CM J G.n (some ⟨eb, 0, none⟩) (some ⟨aC, 0, none⟩) start W wr kk sk PV))
    case atStart => exact ⟨0, s, k, PV, by omega, rfl, HV.out, HF.out, HM.out⟩
    case round =>
      obtain ⟨q, sk, kk, PV2, hq, rfl, HL, HN, HK⟩ := hrel
      clear HV HF HM c0 geb
      by_cases hlt : q < (G.adj v).length
      · obtain rfl := HRA.out (by omega)
        obtain ⟨x, hx⟩ : ∃ x, (G.adj v)[q]? = some x := ⟨_, List.getElem?_eq_getElem hlt⟩
        have hxa : x ∈ G.adj v := List.mem_of_getElem? hx
        have hxn : x < G.n := HE.out.ok v hv x hxa
        have hcx := (HE.out.ext HK.out.ext).inner v hv q x hx
        have hL := HL.out
        rw [drop_step hx, loopC_cons] at hL
        have HL2 := hide hL
        have HX := hide hx
        clear hL HL hx
        have c1 : wr.cell? ⟨J 1, 0, none⟩ = some (.int .i64 (start : Int)) := Blk.cell (HK.out.pq 1 (by decide)) rfl
        have c2 : wr.cell? ⟨J 2, 0, none⟩ = some PV2 := Blk.cell (HK.out.pq 2 (by decide)) rfl
        by_cases exs : x = start
        · have hb : ((x : Int) == (start : Int)) = true := by simp [exs]
          have hL := HL2.out
          rw [if_pos exs] at hL
          have HL3 := hide hL
          clear hL exs HL2
          go_wp2_with (at_builtin; refine stop ?_)
          apply Stop.go
          have HK2 := hide (HK.out.later ((Ext.refl _).alloc (.cells #[.int .i64 (start : Int)] 3)))
          obtain ⟨i0, hi, hz0, hz1, hz2⟩ := info_parts info3
          have hpl : sk.path.length ≤ 65537 := by have := HN.out.2.1; omega
          refine wpList_append_own_at _ rfl (.tmp 24) (.tmp 26) 25 rfl W.heap.size 3 i0 (.int .i64 0) 1 8 Try.underlying25 hi hz0 hz1 hz2 rfl (by decide) PV2 sk.path.length (ints sk.path) rfl HK2.out.own ⟨wr.heap.size, 0, none⟩ 1 1 [.int .i64 (start : Int)] rfl rfl ?c1 ?c2 ?c3 ?c4 ?c5 ?_
          case c1 => exact one_new _ _ _ rfl
          case c2 => intro u hu; simp at hu; rcases hu with rfl; rfl
          case c3 => unfold maxLen; omega
          case c4 => omega
          case c5 => exact HK2.out.ext.size
          intro PV3 w3 hown3 hgrow3 hnil3 hat3
          obtain ⟨gp, cp, hv3⟩ := own_shape hown3
          subst hv3
          have HK3 := hide (HK2.out.push (x := start) hgrow3 hown3 hat3)
          have hb2 := (HK2.out.pq 2 (by decide)).of_block (hgrow3.block _ (PQ.lt (by decide) (HK2.out.pq 2 (by decide))) (fun e => HK2.out.pne 2 (by decide) e.symm))
          have g2 : w3.cell? ⟨J 2, 0, none⟩ = some PV2 := Blk.cell hb2 rfl
          have h2 : w3.frozen? ⟨J 2, 0, none⟩ = false := Blk.frozen hb2 0
          clear hown3 hgrow3 hnil3 hat3 hb2 hi hz0 hz1 hz2 c1 c2 hb
          go_wp2
          go_ret
          refine ⟨?_, kk, .slice (some ⟨gp, 0, none⟩) (sk.path.length + 1) cp, ?_⟩
          · rw [← HL3.out]; rfl
          · rw [← HL3.out]; exact ⟨HK3.out, HN.out.2.2⟩
        · have hb : ((x : Int) == (start : Int)) = false := by simp; omega
          have hL := HL2.out
          rw [if_neg exs] at hL
          have HL3 := hide hL
          clear hL exs HL2
          have c3 : wr.cell? ⟨J 3, 0, none⟩ = some (.slice (some ⟨aC, 0, none⟩) G.n G.n) := Blk.cell (HK.out.pq 3 (by decide)) rfl
          have c4 : wr.cell? ⟨J 4, 0, none⟩ = some (.map (some (J 6))) := Blk.cell (HK.out.pq 4 (by decide)) rfl
          have ccx := HK.out.ext.cell (HC.out x hxn)
          have ccs := HK.out.ext.cell (HC.out start hs)
          have hlook := VM.look (HK.out.pq 6 (by decide)) (c := x) (by omega)
          by_cases hcc : comp x = comp start
          · have hbc : (comp x == comp start) = true := by simp [hcc]
            cases hvx : sk.vis x with
            | true =>
              rw [hvx] at hlook
              have hL := HL3.out
              rw [if_neg (by rw [hvx]; simp)] at hL
              have HL4 := hide hL
              clear hL HL3 hvx hcc
              go_wp2
              go_quiet (fail)
              go_wp2
              go_roundg ((G.adj v).length - (q + 1))
              case measure => omega
              case rel => exact ⟨q + 1, sk, kk, PV2, by omega, by go_num, HL4, HN, HK.out.later (below_drewN (Ext.refl wr) nq)⟩
            | false =>
              rw [hvx] at hlook
              have hL := HL3.out
              rw [if_pos ⟨hcc, hvx⟩] at hL
              have HL4 := hide hL
              have HVX := hide hvx
              clear hL HL3 hvx hcc
              go_wp2
              go_quiet (fail)
              have HK5 := hide (HK.out.later (below_drewN (Ext.refl wr) nq))
              clear c1 c2 c3 c4 ccx ccs hlook hcx HK hb hbc
              generalize wr.drewN nq = w5 at HK5 ⊢
              obtain ⟨w6, hrun, hVM, hgr⟩ := VM.put (HK5.out.pq 6 (by decide)) (c := x) (by omega) (by have := HN.out.2.2; omega)
              have HK6 := hide (HK5.out.mark hVM hgr)
              clear hVM hgr
              have c4 : w5.cell? ⟨J 4, 0, none⟩ = some (.map (some (J 6))) := Blk.cell (HK5.out.pq 4 (by decide)) rfl
              have c2 : w6.cell? ⟨J 2, 0, none⟩ = some PV2 := Blk.cell (HK6.out.pq 2 (by decide)) rfl
              clear HK5
              go_wp2_with (at_builtin; refine stop ?_)
              apply Stop.go
              have HK2 := hide (HK6.out.later ((Ext.refl _).alloc (.cells #[.int .i64 (x : Int)] 3)))
              obtain ⟨i0, hi, hz0, hz1, hz2⟩ := info_parts info3
              have hpl : sk.path.length ≤ 65537 := by have := HN.out.2.1; omega
              refine wpList_append_own_at _ rfl (.tmp 46) (.tmp 48) 25 rfl W.heap.size 3 i0 (.int .i64 0) 1 8 Try.underlying25 hi hz0 hz1 hz2 rfl (by decide) PV2 sk.path.length (ints sk.path) rfl HK2.out.own ⟨w6.heap.size, 0, none⟩ 1 1 [.int .i64 (x : Int)] rfl rfl ?c1 ?c2 ?c3 ?c4 ?c5 ?_
              case c1 => exact one_new _ _ _ rfl
              case c2 => intro u hu; simp at hu; rcases hu with rfl; rfl
              case c3 => unfold maxLen; omega
              case c4 => omega
              case c5 => exact HK2.out.ext.size
              intro PV3 w3 hown3 hgrow3 hnil3 hat3
              obtain ⟨gp, cp, hv3⟩ := own_shape hown3
              subst hv3
              have HK3 := hide (HK2.out.push (x := x) hgrow3 hown3 hat3)
              have hb2 := fun j hj => (HK2.out.pq j hj).of_block (hgrow3.block _ (PQ.lt hj (HK2.out.pq j hj)) (fun e => HK2.out.pne j hj e.symm))
              have g2 : w3.cell? ⟨J 2, 0, none⟩ = some PV2 := Blk.cell (hb2 2 (by decide)) rfl
              have h2 : w3.frozen? ⟨J 2, 0, none⟩ = false := Blk.frozen (hb2 2 (by decide)) 0
              have g5 : w3.cell? ⟨J 5, 0, none⟩ = some (clos2 J) := Blk.cell (hb2 5 (by decide)) rfl
              unfold clos2 ptr at g5
              have n1 : J 5 ≠ J 2 := HK6.out.ne (by decide)
              clear hown3 hgrow3 hnil3 hat3 hb2 hi hz0 hz1 hz2 c2 c4 hrun HK2 HK6
              have hcu := cntF_upd hxn HVX.out
              have HN2 := hide (And.intro hcu HN.out)
              clear hcu HN
              go_wp2_with fail
              generalize (w3.setCell ⟨J 2, 0, none⟩ (.slice (some ⟨gp, 0, none⟩) (sk.path.length + 1) cp)) = w7 at HK3 ⊢
              refine (IH.out x ⟨sk.path ++ [x], upd sk.vis x true⟩ (kk + 1) w7 _ hxn (by have := HN2.out; show cntF (upd sk.vis x true) G.n < fuel; omega) (by have := HN2.out; show (sk.path ++ [x]).length + cntF (upd sk.vis x true) G.n ≤ G.n + 1; rw [List.length_append]; simp only [List.length_cons, List.length_nil]; omega) (by have := HN2.out; show kk + 1 + cntF (upd sk.vis x true) G.n ≤ G.n; omega) HK3.out).mono ?_
              rintro e w8 ⟨rfl, k8, PV8, hM8, hk8⟩
              have HM8 := hide hM8
              have HP := hide (walkC_LP (comp := comp) (start := start) HE.out.ok fuel x ⟨sk.path ++ [x], upd sk.vis x true⟩ hxn (by have := HN2.out; show cntF (upd sk.vis x true) G.n < fuel; omega))
              have HK8 := hide hk8
              clear hM8 hk8 g2 h2 g5 n1 HK3
              generalize walkC G comp start fuel x ⟨sk.path ++ [x], upd sk.vis x true⟩ = r at HL4 HM8 HP HK8 ⊢
              obtain ⟨b, s8⟩ := r
              cases b with
              | true =>
                have hL := HL4.out
                rw [if_pos rfl] at hL
                have HL5 := hide hL
                clear hL HL4
                go_wp2
                go_ret
                refine ⟨?_, k8, PV8, ?_⟩
                · rw [← HL5.out]; rfl
                · rw [← HL5.out]; exact ⟨HM8.out, HK8.out⟩
              | false =>
                have hpath : s8.path = sk.path ++ [x] := (HP.out.no rfl).1
                have hL := HL4.out
                rw [if_neg (by simp), show s8.path.dropLast = sk.path from by rw [hpath]; simp] at hL
                have HL5 := hide hL
                have hM := HM8.out
                obtain ⟨gs, cs, hPV⟩ := own_shape (n := sk.path.length) (by have := hM.own; rw [hpath, List.length_append] at this; exact this)
                subst hPV
                obtain ⟨hcap1, hcap2⟩ := own_cap hM.own
                have HPT := hide hpath
                clear hL HL4 hpath
                have c2 : w8.cell? ⟨J 2, 0, none⟩ = some (.slice (some ⟨gs, 0, none⟩) (sk.path.length + 1) cs) := Blk.cell (hM.pq 2 (by decide)) rfl
                have f2 : w8.frozen? ⟨J 2, 0, none⟩ = false := Blk.frozen (hM.pq 2 (by decide)) 0
                have HM9 := hide (hM.pop (r := sk.path) (x := x) HPT.out)
                clear hM
                go_wp2
                go_roundg ((G.adj v).length - (q + 1))
                case measure => omega
                case rel =>
                  refine ⟨q + 1, _, k8, _, by omega, by go_num, HL5, ?_, HM9⟩
                  have h1 := HP.out.cnt2
                  have h2 := HN2.out
                  have h3 := HK8.out
                  simp only at h1 h3
                  refine ⟨?_, ?_, h3⟩
                  · show cntF s8.vis G.n < fuel + 1
                    omega
                  · show sk.path.length + cntF s8.vis G.n ≤ G.n + 1
                    omega
          · have hbc : (comp x == comp start) = false := by simp [hcc]
            have hL := HL3.out
            rw [if_neg (fun h => hcc h.1)] at hL
            have HL4 := hide hL
            clear hL HL3 hcc
            go_wp2
            go_quiet (fail)
            go_wp2
            go_roundg ((G.adj v).length - (q + 1))
            case measure => omega
            case rel => exact ⟨q + 1, sk, kk, PV2, by omega, by go_num, HL4, HN, HK.out.later (below_drewN (Ext.refl wr) nq)⟩
      · have hL := HL.out
        rw [List.drop_of_length_le (by omega)] at hL
        have HL2 := hide hL
        clear hL HL
        go_wp2
        go_ret
        refine ⟨?_, kk, PV2, ?_⟩
        · rw [← HL2.out]; rfl
        · rw [← HL2.out]; exact ⟨HK.out, HN.out.2.2⟩

theorem makeMap35 (w : World) : (Instr.makeMap 35 none).run Try.prog w = .ok (.map (some w.heap.size)) (w.alloc (.map #[] 0)) := by
  simp [Instr.makeMap, Result.andThen]

def idsJ (b0 b1 b2 b3 b4 b5 b6 : Nat) : Nat → Nat
  | 0 => b0 | 1 => b1 | 2 => b2 | 3 => b3 | 4 => b4 | 5 => b5 | 6 => b6 | _ => 0

theorem VM.ext {w w' : World} {b k : Nat} {f : Nat → Bool} (h : VM w b k f) (hx : Ext w w') : VM w' b k f := h.of_block (hx.block b h.lt)
theorem cm_start (W : World) (ea ca : Option Addr) (n start : Nat) :
    CM (idsJ (W.heap.size) (W.heap.size + 1 + 1) (W.heap.size + 1 + 1 + 1 + 1) (W.heap.size + 1) (W.heap.size + 1 + 1 + 1 + 1 + 1 + 1) (W.heap.size + 1 + 1 + 1 + 1 + 1 + 1 + 1) (W.heap.size + 1 + 1 + 1 + 1 + 1)) n ea ca start W
      ((((((((W.alloc (.cells #[.slice ea n n] 22)).alloc (.cells #[.slice ca n n] 25)).alloc (.cells #[.int .i64 (start : Int)] 3)).alloc (.cells #[.int .i64 (start : Int)] 3)).alloc (.cells #[.slice (some ⟨W.heap.size + 1 + 1 + 1, 0, none⟩) 1 1] 25)).alloc (.map #[] 0)).alloc (.cells #[.map (some (W.heap.size + 1 + 1 + 1 + 1 + 1))] 35)).alloc
      (.cells #[.func (.func 31) #[] #[.pointer (some ⟨W.heap.size, 0, none⟩), .pointer (some ⟨W.heap.size + 1 + 1, 0, none⟩), .pointer (some ⟨W.heap.size + 1 + 1 + 1 + 1, 0, none⟩), .pointer (some ⟨W.heap.size + 1, 0, none⟩), .pointer (some ⟨W.heap.size + 1 + 1 + 1 + 1 + 1 + 1, 0, none⟩), .pointer (some ⟨W.heap.size + 1 + 1 + 1 + 1 + 1 + 1 + 1, 0, none⟩)]] 38))
      0 ⟨[start], fun _ => false⟩ (.slice (some ⟨W.heap.size + 1 + 1 + 1, 0, none⟩) 1 1) := by
  refine ⟨(((((((((Ext.refl W).alloc _).alloc _).alloc _).alloc _).alloc _).alloc _).alloc _).alloc _), ?_, ?_, ?_, ⟨rfl, .inr ⟨W.heap.size + 1 + 1 + 1, 1, #[.int .i64 (start : Int)], rfl, by omega, ?_, Nat.le_refl _, by decide, rfl, rfl⟩⟩, ?_⟩
  · intro i j hi hj e
    have hij : ∀ i, i < 7 → ∃ m, m = i ∧ (m = 0 ∨ m = 1 ∨ m = 2 ∨ m = 3 ∨ m = 4 ∨ m = 5 ∨ m = 6) := fun i h => ⟨i, rfl, by omega⟩
    obtain ⟨_, rfl, hi'⟩ := hij i hi
    obtain ⟨_, rfl, hj'⟩ := hij j hj
    clear hij
    rcases hi' with rfl | rfl | rfl | rfl | rfl | rfl | rfl <;> rcases hj' with rfl | rfl | rfl | rfl | rfl | rfl | rfl <;> first | rfl | (exfalso; simp only [idsJ] at e; omega)
  · intro i hi
    match i, hi with
    | 0, _ => simp only [idsJ]; omega
    | 1, _ => simp only [idsJ]; omega
    | 2, _ => simp only [idsJ]; omega
    | 3, _ => simp only [idsJ]; omega
    | 4, _ => simp only [idsJ]; omega
    | 5, _ => simp only [idsJ]; omega
    | 6, _ => simp only [idsJ]; omega
  · intro k hk
    match k, hk with
    | 0, _ => exact (((((((Blk.new W (by simp [idsJ]) #[.slice ea n n] 22).alloc _).alloc _).alloc _).alloc _).alloc _).alloc _).alloc _
    | 1, _ => exact (((((Blk.new _ (by simp [idsJ]) #[.int .i64 (start : Int)] 3).alloc _).alloc _).alloc _).alloc _).alloc _
    | 2, _ => exact (((Blk.new _ (by simp [idsJ]) #[.slice (some ⟨W.heap.size + 1 + 1 + 1, 0, none⟩) 1 1] 25).alloc _).alloc _).alloc _
    | 3, _ => exact ((((((Blk.new _ (by simp [idsJ]) #[.slice ca n n] 25).alloc _).alloc _).alloc _).alloc _).alloc _).alloc _
    | 4, _ => exact (Blk.new _ (by simp [idsJ]) #[.map (some (W.heap.size + 1 + 1 + 1 + 1 + 1))] 35).alloc _
    | 5, _ => exact Blk.new _ (by simp [idsJ]) _ 38
    | 6, _ => exact VM.ext (VM.new _ (by simp [idsJ])) (((Ext.refl _).alloc _).alloc _)
  · exact ((((Blk.new _ (by simp) #[.int .i64 (start : Int)] 3).alloc _).alloc _).alloc _).alloc _
  · intro j hj e
    match j, hj with
    | 0, _ => simp [Value.ownBlock, idsJ] at e; omega
    | 1, _ => simp [Value.ownBlock, idsJ] at e
    | 2, _ => simp [Value.ownBlock, idsJ] at e
    | 3, _ => simp [Value.ownBlock, idsJ] at e; omega
    | 4, _ => simp [Value.ownBlock, idsJ] at e
    | 5, _ => simp [Value.ownBlock, idsJ] at e
    | 6, _ => simp [Value.ownBlock, idsJ] at e

/-- A slice of ints that was made since W. -/
structure Row (W w : World) (v : Value) (l : List Nat) (pa : Option Addr) (pg pc : Nat) : Prop where
  ext : Ext W w
  sh : v = .slice pa l.length pc
  at_ : 0 < l.length → pa = some ⟨pg, 0, none⟩
  ge : W.heap.size ≤ pg
  cell : ∀ (j x : Nat), l[j]? = some x → w.cell? ⟨pg, j, none⟩ = some (.int .i64 (x : Int))

theorem Row.of_own {W w : World} {v : Value} {l : List Nat} (hx : Ext W w) (h : w.ownsRow W.heap.size 3 1 v l.length (ints l)) : ∃ pa pg pc, Row W w v l pa pg pc := by
  rcases h.2 with ⟨e1, e2⟩ | ⟨g, cap, cur, e1, e2, _⟩
  · refine ⟨none, W.heap.size, 0, hx, by rw [e1, e2], fun h0 => absurd h0 (by omega), Nat.le_refl _, fun c x hc => ?_⟩
    have := (List.getElem?_eq_some_iff.1 hc).1
    omega
  · refine ⟨_, g, cap, hx, e1, fun _ => rfl, e2, fun c x hc => ?_⟩
    have := h.cells (g := g) (by rw [e1]; rfl) c (.int .i64 (x : Int)) (by simp [ints, List.getElem?_map, hc])
    rw [Addr.add_lit, Nat.zero_add] at this
    exact this

def CircP (W : World) (l : List Nat) (e : Ending) (w' : World) : Prop := ∃ v, e = .returned v ∧ Ext W w' ∧ w'.ownsRow W.heap.size 3 1 v l.length (ints l)

set_option maxRecDepth 100000 in
set_option maxHeartbeats 1000000 in
theorem circ28 {G : Gr} {W : World} {ea ca : Option Addr} {eb aC : Nat} {RA : Nat → Option Addr} {RB : Nat → Nat} {comp : Nat → Int} {start : Nat} (hE : EdG W ea eb G RA RB) (hC : Cmp W ca aC G.n comp) (hs : start < G.n) :
    Calls Try.prog 28 #[.slice ea G.n G.n, .slice ca G.n G.n, .int .i64 (start : Int)] W (CircP W (circ G comp start)) := by
  have HE := hide hE
  have HC := hide hC
  have hsm := hE.small
  clear hE hC
  have hmm := makeMap35
  go_enter Try.func28, Try.ntmps28
  go_wp2_with fail
  have HM := hide (cm_start W ea ca G.n start)
  generalize ((((((((W.alloc (.cells #[.slice ea G.n G.n] 22)).alloc (.cells #[.slice ca G.n G.n] 25)).alloc (.cells #[.int .i64 (start : Int)] 3)).alloc (.cells #[.int .i64 (start : Int)] 3)).alloc (.cells #[.slice (some ⟨W.heap.size + 1 + 1 + 1, 0, none⟩) 1 1] 25)).alloc (.map #[] 0)).alloc (.cells #[.map (some (W.heap.size + 1 + 1 + 1 + 1 + 1))] 35)).alloc
      (.cells #[.func (.func 31) #[] #[.pointer (some ⟨W.heap.size, 0, none⟩), .pointer (some ⟨W.heap.size + 1 + 1, 0, none⟩), .pointer (some ⟨W.heap.size + 1 + 1 + 1 + 1, 0, none⟩), .pointer (some ⟨W.heap.size + 1, 0, none⟩), .pointer (some ⟨W.heap.size + 1 + 1 + 1 + 1 + 1 + 1, 0, none⟩), .pointer (some ⟨W.heap.size + 1 + 1 + 1 + 1 + 1 + 1 + 1, 0, none⟩)]] 38)) = w1 at HM ⊢
  have hc0 := cntF_all G.n
  refine (walk31 HE.out HC.out hs _ (G.n + 1) start ⟨[start], fun _ => false⟩ 0 w1 _ hs (by show cntF (fun _ => false) G.n < G.n + 1; omega) (by show 1 + cntF (fun _ => false) G.n ≤ G.n + 1; omega) (by show 0 + cntF (fun _ => false) G.n ≤ G.n; omega) HM.out).mono ?_
  rintro e w2 ⟨rfl, k2, PV2, hM2, hk2⟩
  have HM2 := hide hM2
  have HC := hide (show (walkC G comp start (G.n + 1) start ⟨[start], fun _ => false⟩).2.path = circ G comp start from rfl)
  clear hM2 hk2 HM hc0
  generalize walkC G comp start (G.n + 1) start ⟨[start], fun _ => false⟩ = r at HM2 HC ⊢
  have c2 : w2.cell? ⟨W.heap.size + 1 + 1 + 1 + 1, 0, none⟩ = some PV2 := Blk.cell (HM2.out.pq 2 (by decide)) rfl
  go_wp2
  go_ret
  have ho := HM2.out.own
  rw [HC.out] at ho
  exact ⟨_, rfl, HM2.out.ext, ho⟩
end Go.Proofs.Qxb6001235a
