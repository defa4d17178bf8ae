/-
  THE WALK OF (*search).next.
-/
import Derived.Test.Qxb6600935aModsNext
import Derived.Deep.CutBlock
namespace Go.Proofs.Qxb6600935aMods.B
open Go.ChangeShapes Go.WideShapes Go.ChangeAt Go.RowKit

theorem below_four (w : World) (A B C D : Obj) (g : Nat) (h : g < w.heap.size) (q : Nat) (v : Value) : Below g w ((((((w.alloc A).alloc B).alloc C).alloc D).drewN q).setCell ⟨g, 5, none⟩ v) := by
  have b1 : Below g w (w.alloc A) := (Below.refl _ _).alloc (by omega) _
  have b2 : Below g w ((w.alloc A).alloc B) := b1.alloc (by simp; omega) _
  have b3 : Below g w (((w.alloc A).alloc B).alloc C) := b2.alloc (by simp; omega) _
  have b4 : Below g w ((((w.alloc A).alloc B).alloc C).alloc D) := b3.alloc (by simp; omega) _
  exact (below_drewN b4 q).setCell (p := ⟨g, 5, none⟩) (Nat.le_refl g) v

set_option maxRecDepth 100000 in
set_option maxHeartbeats 1000000 in
theorem next_no (g : Nat) (an : Option Addr) (n cn : Nat) (ns : List Int) (band limit work : Int) (o0 o1 o2 o3 o4 a0 a1 a2 a3 a4 i c prev : Int) (w : World) (h : Srch w g an n cn ns band limit work) (wk : Int) (hwk : wrap64 (work - (2 * band + 1)) = wk) (hneg : wk < 0) :
    Calls Trym.prog 27 #[.pointer (some ⟨g, 0, none⟩), .agg #[.int .i64 o0, .int .i64 o1, .int .i64 o2, .int .i64 o3, .int .i64 o4], .agg #[.int .i64 a0, .int .i64 a1, .int .i64 a2, .int .i64 a3, .int .i64 a4], .int .i64 i, .int .u8 c, .int .u8 prev] w
      (NextPost w g wk [0, 0, 0, 0, 0] false) := by
  have N0 := nx_start w g an n cn ns band limit work o0 o1 o2 o3 o4 a0 a1 a2 a3 a4 h
  have hband := N0.srch.cband
  have hb0 := h.band0
  have hb2 := h.band2
  have hg := h.there
  have HN := tuck N0
  have HW := tuck hwk
  have hdec : decide (0 ≤ wk) = false := decide_eq_false (by omega)
  clear h N0 hwk
  go_enter Trym.func27, Trym.ntmps27
  go_wp2
  go_quiet (fail)
  go_wp2_with fail
  refine (afford_any g _ work _ (by exact HN.out.srch.cwork) (by exact HN.out.srch.free)).mono ?_
  rintro e w1 ⟨rfl, hw1⟩
  rw [HW.out] at hw1 ⊢
  have N1 := (HN.out.drewN nq).afford wk
  rw [← hw1] at N1
  have HB : Hid (Below g w w1) := by
    rw [hw1]
    exact below_four w _ _ _ _ g hg nq _
  have c0 := N1.crow 0 (by omega)
  have c1 := N1.crow 1 (by omega)
  have c2 := N1.crow 2 (by omega)
  have c3 := N1.crow 3 (by omega)
  have c4 := N1.crow 4 (by omega)
  have r0 := N1.cres 0 (by omega)
  have r1 := N1.cres 1 (by omega)
  have r2 := N1.cres 2 (by omega)
  have r3 := N1.cres 3 (by omega)
  have r4 := N1.cres 4 (by omega)
  have f0 := N1.fres 0 (by omega)
  have f1 := N1.fres 1 (by omega)
  have f2 := N1.fres 2 (by omega)
  have f3 := N1.fres 3 (by omega)
  have f4 := N1.fres 4 (by omega)
  simp only [List.getD_cons_zero, List.getD_cons_succ] at c0 c1 c2 c3 c4
  have HN1 := tuck N1
  clear N1 hw1 hband HN
  go_wp2
  refine bodyPost_ret (v := .tuple #[.agg #[.int .i64 0, .int .i64 0, .int .i64 0, .int .i64 0, .int .i64 0], .bool false]) (by simp [results, Trym.results27, go_sem, r0, r1, r2, r3, r4]) rfl ⟨rfl, ?_, ?_⟩
  · exact ((((HB.out.setCell (p := ⟨w.heap.size + 1 + 1, 0, none⟩) (by simp; omega) _).setCell (p := ⟨w.heap.size + 1 + 1, 1, none⟩) (by simp; omega) _).setCell (p := ⟨w.heap.size + 1 + 1, 2, none⟩) (by simp; omega) _).setCell (p := ⟨w.heap.size + 1 + 1, 3, none⟩) (by simp; omega) _).setCell (p := ⟨w.heap.size + 1 + 1, 4, none⟩) (by simp; omega) _
  · rw [World.cell?_setCell_other _ _ _ _ (by simp <;> omega), World.cell?_setCell_other _ _ _ _ (by simp <;> omega), World.cell?_setCell_other _ _ _ _ (by simp <;> omega), World.cell?_setCell_other _ _ _ _ (by simp <;> omega), World.cell?_setCell_other _ _ _ _ (by simp <;> omega)]
    exact HN1.out.srch.cwork

theorem inner_at (ns : List Int) (band i c prev : Int) (older above : Nat → Int) (left : Int) (k jn : Nat) (x0 r1 cs d1 d2 : Int) (hx0 : above k = x0) (hr1 : ns.getD jn 0 = r1) (hcs : (if r1 = c then (0 : Int) else 1) = cs)
    (hd1 : (if (k : Int) + 1 < 2 * band + 1 then min (wrap64 (x0 + cs)) (wrap64 (above (k + 1) + 1)) else wrap64 (x0 + cs)) = d1) (hd2 : (if 0 < k then min d1 (wrap64 (left + 1)) else d1) = d2) :
    inner ns band i c prev ((jn : Int) + 1) older above left k = if 1 < i ∧ 1 < (jn : Int) + 1 ∧ ns.getD (jn - 1) 0 = c ∧ r1 = prev then min d2 (wrap64 (older k + 1)) else d2 := by
  have e1 : ((jn : Int) + 1).toNat - 1 = jn := by omega
  have e2 : ((jn : Int) + 1).toNat - 2 = jn - 1 := by omega
  simp only [inner, costOf, e1, e2, hx0, hr1, hcs, hd1, hd2]

set_option maxRecDepth 100000 in
set_option maxHeartbeats 1000000 in
theorem next_yes (g : Nat) (an : Option Addr) (n cn : Nat) (ns : List Int) (band limit work : Int) (o0 o1 o2 o3 o4 a0 a1 a2 a3 a4 i c prev : Int) (w : World) (h : Srch w g an n cn ns band limit work) (wk : Int) (hwk : wrap64 (work - (2 * band + 1)) = wk) (hneg : 0 ≤ wk) (hc0 : 0 ≤ c) (hc255 : c ≤ 255) (hp0 : 0 ≤ prev) (hp255 : prev ≤ 255) :
    Calls Trym.prog 27 #[.pointer (some ⟨g, 0, none⟩), .agg #[.int .i64 o0, .int .i64 o1, .int .i64 o2, .int .i64 o3, .int .i64 o4], .agg #[.int .i64 a0, .int .i64 a1, .int .i64 a2, .int .i64 a3, .int .i64 a4], .int .i64 i, .int .u8 c, .int .u8 prev] w
      (NextPost w g wk (rowOf (cells ns band i c prev (of5 o0 o1 o2 o3 o4) (of5 a0 a1 a2 a3 a4) (2 * band + 1).toNat)) (near (cells ns band i c prev (of5 o0 o1 o2 o3 o4) (of5 a0 a1 a2 a3 a4) (2 * band + 1).toNat) limit)) := by
  have N0 := nx_start w g an n cn ns band limit work o0 o1 o2 o3 o4 a0 a1 a2 a3 a4 h
  have hband := N0.srch.cband
  have hb0 := h.band0
  have hb2 := h.band2
  have hg := h.there
  have HN := tuck N0
  have HW := tuck hwk
  have Hlen := tuck h.len
  have hsm := h.small
  clear h N0 hwk
  go_enter Trym.func27, Trym.ntmps27
  go_wp2
  go_quiet (fail)
  go_wp2_with fail
  refine (afford_any g _ work _ (by exact HN.out.srch.cwork) (by exact HN.out.srch.free)).mono ?_
  rintro e w1 ⟨rfl, hw1⟩
  rw [HW.out] at hw1 ⊢
  have N1 := (HN.out.drewN nq).afford wk
  rw [← hw1] at N1
  have HB : Hid (Below g w w1) := by
    rw [hw1]
    exact below_four w _ _ _ _ g hg nq _
  have HN1 := tuck N1
  clear N1 hw1 hband HN
  go_wp2
  go_loopw [17, 18] (fun rch k wr => ∃ kk : Nat, (kk : Int) ≤ 2 * band + 1 ∧ k = .int .i64 kk ∧ rch = .bool (near (cells ns band i c prev (of5 o0 o1 o2 o3 o4) (of5 a0 a1 a2 a3 a4) kk) limit) ∧
      Hid (Nx wr w.heap.size g an n cn ns band limit wk (of5 o0 o1 o2 o3 o4) (of5 a0 a1 a2 a3 a4) (rowOf (cells ns band i c prev (of5 o0 o1 o2 o3 o4) (of5 a0 a1 a2 a3 a4) kk))) ∧ Hid (Below g w wr)) (fun _ k _ => (2 * band + 1 - intOf k).toNat)
  case atStart => exact ⟨0, by omega, rfl, rfl, HN1, HB⟩
  case round =>
    obtain ⟨k, hk, rfl, rfl, hN, hB⟩ := hrel
    have hband := hN.out.srch.cband
    have hname := hN.out.srch.cname
    have hlimit := hN.out.srch.climit
    obtain ⟨L, hL⟩ : ∃ L, L = cells ns band i c prev (of5 o0 o1 o2 o3 o4) (of5 a0 a1 a2 a3 a4) k := ⟨_, rfl⟩
    have HL := tuck hL
    clear hL
    by_cases hlt : (k : Int) < 2 * band + 1
    · go_upto_block 2 with fail
      obtain ⟨j, hj⟩ : ∃ j, wrap64 (wrap64 (i + (k : Int)) - band) = j := ⟨_, rfl⟩
      rw [hj]
      have HJ : Hid (jOf i band k = j) := hj
      clear hj
      go_cut [20] (fun d wx => d = .int .i64 (cellOf ns band i c prev (of5 o0 o1 o2 o3 o4) (of5 a0 a1 a2 a3 a4) (L.getD (k - 1) 0) k) ∧ wr = wx)
      case first =>
        by_cases h1 : j < 0
        · go_wp2
          go_meet
          exact ⟨by rw [cellOf, HJ.out, if_pos (.inl h1)], rfl⟩
        · have h1' : decide (j < 0) = false := decide_eq_false h1
          by_cases h2 : (n : Int) < j
          · go_wp2
            go_meet
            exact ⟨by rw [cellOf, HJ.out, if_pos (.inr (by rw [Hlen.out]; exact h2))], rfl⟩
          · by_cases h3 : j = 0
            · have h3' : (j == 0) = true := by simpa using h3
              have H3 := tuck h3
              clear h3
              go_wp2
              go_meet
              exact ⟨by rw [cellOf, HJ.out, if_neg (by rw [Hlen.out]; omega), if_pos H3.out], rfl⟩
            · obtain ⟨jn, hjn⟩ := Int.eq_ofNat_of_zero_le (show 0 ≤ j - 1 by omega)
              obtain rfl : j = (jn : Int) + 1 := by omega
              clear hjn
              obtain ⟨b, off, rfl, hbg, hcell⟩ := hN.out.srch.runes (by omega)
              have hc1 := hcell jn (by omega)
              obtain ⟨r1, hr1⟩ : ∃ r1, ns.getD jn 0 = r1 := ⟨_, rfl⟩
              rw [hr1] at hc1
              have hab := hN.out.cabv k (by omega)
              obtain ⟨x0, hx0⟩ : ∃ x0, of5 a0 a1 a2 a3 a4 k = x0 := ⟨_, rfl⟩
              rw [hx0] at hab
              have h3' : ((jn : Int) + 1 == 0) = false := by simp; omega
              have h2' : decide ((n : Int) < (jn : Int) + 1) = false := decide_eq_false h2
              have H3 := tuck h3
              have Hcell := tuck hcell
              have HR1 := tuck hr1
              have HX0 := tuck hx0
              clear h3 hcell hr1 hx0
              go_upto_if 62 with fail
              go_cut [21] (fun x wx => x = .int .i64 (if r1 = c then 0 else 1) ∧ wr = wx)
              case first =>
                by_cases hc : r1 = c
                · have hcb : (r1 == c) = true := by simpa using hc
                  have HC := tuck hc
                  clear hc
                  go_wp2
                  go_meet
                  exact ⟨by rw [if_pos HC.out], rfl⟩
                · have hcb : (r1 == c) = false := by simpa using hc
                  have HC := tuck hc
                  clear hc
                  go_wp2
                  go_meet
                  exact ⟨by rw [if_neg HC.out], rfl⟩
              case rest =>
                obtain ⟨rfl, rfl⟩ := hcut
                obtain ⟨cs, hcs⟩ : ∃ cs : Int, (if r1 = c then (0 : Int) else 1) = cs := ⟨_, rfl⟩
                rw [hcs]
                have HCS := tuck hcs
                clear hcs
                go_upto_if 71 with fail
                obtain ⟨d0, hd0⟩ : ∃ d0, wrap64 (x0 + cs) = d0 := ⟨_, rfl⟩
                rw [hd0]
                have HD0 := tuck hd0
                clear hd0
                go_cut [20] (fun d wx => d = .int .i64 (if (k : Int) + 1 < 2 * band + 1 then min d0 (wrap64 (of5 a0 a1 a2 a3 a4 (k + 1) + 1)) else d0) ∧ wr = wx)
                case first =>
                  by_cases hk1 : (k : Int) + 1 < 2 * band + 1
                  · have hab1 := hN.out.cabv (k + 1) (by omega)
                    obtain ⟨x1, hx1⟩ : ∃ x1, of5 a0 a1 a2 a3 a4 (k + 1) = x1 := ⟨_, rfl⟩
                    rw [hx1] at hab1
                    have HX1 := tuck hx1
                    have HK1 := tuck hk1
                    clear hx1
                    go_wp2
                    all_goals
                      go_meet
                      exact ⟨by rw [if_pos HK1.out, HX1.out]; go_num, rfl⟩
                  · have HK1 := tuck hk1
                    go_wp2
                    go_meet
                    exact ⟨by rw [if_neg (by have := HK1.out; omega)], rfl⟩
                case rest =>
                  obtain ⟨rfl, rfl⟩ := hcut
                  obtain ⟨d1, hd1⟩ : ∃ d1, (if (k : Int) + 1 < 2 * band + 1 then min d0 (wrap64 (of5 a0 a1 a2 a3 a4 (k + 1) + 1)) else d0) = d1 := ⟨_, rfl⟩
                  rw [hd1]
                  have HD1 := tuck hd1
                  clear hd1
                  go_upto_if 80 with fail
                  go_cut [20] (fun d wx => d = .int .i64 (if 0 < k then min d1 (wrap64 (L.getD (k - 1) 0 + 1)) else d1) ∧ wr = wx)
                  case first =>
                    by_cases hk0 : 0 < k
                    · have hrow := hN.out.crow (k - 1) (by omega)
                      rw [rowOf_at _ _ (by rw [length_cells]; omega), ← HL.out] at hrow
                      obtain ⟨lf, hlf⟩ : ∃ lf, L.getD (k - 1) 0 = lf := ⟨_, rfl⟩
                      rw [hlf] at hrow
                      have HLF := tuck hlf
                      have HK0 := tuck hk0
                      clear hlf
                      go_wp2
                      all_goals
                        go_meet
                        exact ⟨by rw [if_pos HK0.out, HLF.out]; go_num, rfl⟩
                    · have HK0 := tuck hk0
                      go_wp2
                      go_meet
                      exact ⟨by rw [if_neg (by have := HK0.out; omega)], rfl⟩
                  case rest =>
                    obtain ⟨rfl, rfl⟩ := hcut
                    obtain ⟨d2, hd2⟩ : ∃ d2, (if 0 < k then min d1 (wrap64 (L.getD (k - 1) 0 + 1)) else d1) = d2 := ⟨_, rfl⟩
                    rw [hd2]
                    have HD2 := tuck hd2
                    clear hd2
                    have hin := inner_at ns band i c prev (of5 o0 o1 o2 o3 o4) (of5 a0 a1 a2 a3 a4) (L.getD (k - 1) 0) k jn x0 r1 cs d1 d2 HX0.out HR1.out HCS.out (by rw [HD0.out]; exact HD1.out) HD2.out
                    have hce : cellOf ns band i c prev (of5 o0 o1 o2 o3 o4) (of5 a0 a1 a2 a3 a4) (L.getD (k - 1) 0) k = inner ns band i c prev ((jn : Int) + 1) (of5 o0 o1 o2 o3 o4) (of5 a0 a1 a2 a3 a4) (L.getD (k - 1) 0) k := by
                      rw [cellOf, HJ.out, if_neg (by rw [Hlen.out]; omega), if_neg (by omega)]
                    rw [hin] at hce
                    obtain ⟨D, hD⟩ : ∃ D, cellOf ns band i c prev (of5 o0 o1 o2 o3 o4) (of5 a0 a1 a2 a3 a4) (L.getD (k - 1) 0) k = D := ⟨_, rfl⟩
                    rw [hD] at hce
                    have HCE := tuck hce
                    have HDD := tuck hD
                    clear hin hce hD
                    by_cases q1 : 1 < i
                    · by_cases q2 : 1 ≤ jn
                      · have hc2 := Hcell.out (jn - 1) (by omega)
                        obtain ⟨r2, hr2⟩ : ∃ r2, ns.getD (jn - 1) 0 = r2 := ⟨_, rfl⟩
                        rw [hr2] at hc2 HCE
                        clear hr2
                        have q2' : decide ((1 : Int) < (jn : Int) + 1) = true := decide_eq_true (by omega)
                        by_cases q3 : r2 = c
                        · have q3' : (r2 == c) = true := by simpa using q3
                          by_cases q4 : r1 = prev
                          · have q4' : (r1 == prev) = true := by simpa using q4
                            have hol := hN.out.cold k (by omega)
                            obtain ⟨y0, hy0⟩ : ∃ y0, of5 o0 o1 o2 o3 o4 k = y0 := ⟨_, rfl⟩
                            rw [hy0] at hol HCE
                            have QQ := tuck (And.intro q1 (And.intro (show (1 : Int) < (jn : Int) + 1 by omega) (And.intro q3 q4)))
                            clear hy0 q3 q4
                            go_wp2
                            all_goals
                              go_meet
                              exact ⟨by rw [HDD.out, HCE.out, if_pos QQ.out]; go_num, rfl⟩
                          · have q4' : (r1 == prev) = false := by simpa using q4
                            have Q4 := tuck q4
                            clear q3 q4
                            go_wp2
                            go_meet
                            exact ⟨by rw [HDD.out, HCE.out, if_neg (fun h => Q4.out h.2.2.2)], rfl⟩
                        · have q3' : (r2 == c) = false := by simpa using q3
                          have Q3 := tuck q3
                          clear q3
                          go_wp2
                          go_meet
                          exact ⟨by rw [HDD.out, HCE.out, if_neg (fun h => Q3.out h.2.2.1)], rfl⟩
                      · have q2' : decide ((1 : Int) < (jn : Int) + 1) = false := decide_eq_false (by omega)
                        go_wp2
                        go_meet
                        exact ⟨by rw [HDD.out, HCE.out, if_neg (fun h => by have := h.2.1; omega)], rfl⟩
                    · have q1' : decide (1 < i) = false := decide_eq_false q1
                      have Q1 := tuck q1
                      clear q1
                      go_wp2
                      go_meet
                      exact ⟨by rw [HDD.out, HCE.out, if_neg (fun h => by have := h.1; have := Q1.out; omega)], rfl⟩
      case rest =>
        obtain ⟨rfl, rfl⟩ := hcut
        obtain ⟨u, hu⟩ : ∃ u, World.cell? _ ⟨w.heap.size + 1 + 1 + 1, k, none⟩ = some u := ⟨_, hN.out.crow k (by omega)⟩
        have fR := hN.out.frow k (by omega)
        obtain ⟨d, hd⟩ : ∃ d, cellOf ns band i c prev (of5 o0 o1 o2 o3 o4) (of5 a0 a1 a2 a3 a4) (L.getD (k - 1) 0) k = d := ⟨_, rfl⟩
        rw [hd]
        have HD : Hid (cells ns band i c prev (of5 o0 o1 o2 o3 o4) (of5 a0 a1 a2 a3 a4) (k + 1) = cells ns band i c prev (of5 o0 o1 o2 o3 o4) (of5 a0 a1 a2 a3 a4) k ++ [d]) := by
          rw [Hid, ← hd, HL.out]; rfl
        have hlk : Hid ((cells ns band i c prev (of5 o0 o1 o2 o3 o4) (of5 a0 a1 a2 a3 a4) k).length = k) := length_cells _ _ _ _ _ _ _ _
        have N2 := hN.out.row k d (by omega) (length_rowOf _ (by rw [hlk.out]; omega))
        have e2 := rowOf_snoc (cells ns band i c prev (of5 o0 o1 o2 o3 o4) (of5 a0 a1 a2 a3 a4) k) d (by rw [hlk.out]; omega)
        rw [hlk.out] at e2
        rw [e2, ← HD.out] at N2
        have HN2 := tuck N2
        have hs := near_snoc (cells ns band i c prev (of5 o0 o1 o2 o3 o4) (of5 a0 a1 a2 a3 a4) k) d limit
        rw [← HD.out] at hs
        obtain ⟨nr, hnr⟩ : ∃ nr, near (cells ns band i c prev (of5 o0 o1 o2 o3 o4) (of5 a0 a1 a2 a3 a4) k) limit = nr := ⟨_, rfl⟩
        rw [hnr] at hs ⊢
        have HS := tuck hs
        clear hd N2 e2 hs hnr hN
        cases nr
        · go_wp2
          go_roundw
          case rel => exact ⟨k + 1, by omega, by go_num, by rw [HS.out]; simp, HN2, hB.out.setCell (p := ⟨w.heap.size + 1 + 1 + 1, k, none⟩) (by simp; omega) _⟩
          case measure => simp [intOf]; omega
        · go_wp2
          go_roundw
          case rel => exact ⟨k + 1, by omega, by go_num, by rw [HS.out]; simp, HN2, hB.out.setCell (p := ⟨w.heap.size + 1 + 1 + 1, k, none⟩) (by simp; omega) _⟩
          case measure => simp [intOf]; omega
    · have ek : (2 * band + 1).toNat = k := by omega
      have EK := tuck ek
      clear ek
      obtain ⟨R, hR⟩ : ∃ R, R = rowOf (cells ns band i c prev (of5 o0 o1 o2 o3 o4) (of5 a0 a1 a2 a3 a4) k) := ⟨_, rfl⟩
      have HR := tuck hR
      rw [← hR] at hN
      obtain ⟨nr, hnr⟩ : ∃ nr, near (cells ns band i c prev (of5 o0 o1 o2 o3 o4) (of5 a0 a1 a2 a3 a4) k) limit = nr := ⟨_, rfl⟩
      rw [hnr]
      have HNR := tuck hnr
      clear hR hnr
      have c0 := hN.out.crow 0 (by omega)
      have c1 := hN.out.crow 1 (by omega)
      have c2 := hN.out.crow 2 (by omega)
      have c3 := hN.out.crow 3 (by omega)
      have c4 := hN.out.crow 4 (by omega)
      have r0 := hN.out.cres 0 (by omega)
      have r1 := hN.out.cres 1 (by omega)
      have r2 := hN.out.cres 2 (by omega)
      have r3 := hN.out.cres 3 (by omega)
      have r4 := hN.out.cres 4 (by omega)
      have f0 := hN.out.fres 0 (by omega)
      have f1 := hN.out.fres 1 (by omega)
      have f2 := hN.out.fres 2 (by omega)
      have f3 := hN.out.fres 3 (by omega)
      have f4 := hN.out.fres 4 (by omega)
      obtain ⟨v0, e0⟩ : ∃ v, R.getD 0 0 = v := ⟨_, rfl⟩
      obtain ⟨v1, e1⟩ : ∃ v, R.getD 1 0 = v := ⟨_, rfl⟩
      obtain ⟨v2, e2⟩ : ∃ v, R.getD 2 0 = v := ⟨_, rfl⟩
      obtain ⟨v3, e3⟩ : ∃ v, R.getD 3 0 = v := ⟨_, rfl⟩
      obtain ⟨v4, e4⟩ : ∃ v, R.getD 4 0 = v := ⟨_, rfl⟩
      rw [e0] at c0
      rw [e1] at c1
      rw [e2] at c2
      rw [e3] at c3
      rw [e4] at c4
      have EE := tuck (And.intro e0 (And.intro e1 (And.intro e2 (And.intro e3 e4))))
      clear e0 e1 e2 e3 e4
      go_wp2
      refine bodyPost_ret (v := .tuple #[.agg #[.int .i64 v0, .int .i64 v1, .int .i64 v2, .int .i64 v3, .int .i64 v4], .bool nr]) (by simp [results, Trym.results27, go_sem, r0, r1, r2, r3, r4]) rfl ⟨?_, ?_, ?_⟩
      · obtain ⟨e0, e1, e2, e3, e4⟩ := EE.out
        rw [EK.out, ← HR.out, HNR.out, e0, e1, e2, e3, e4]
      · exact ((((hB.out.setCell (p := ⟨w.heap.size + 1 + 1, 0, none⟩) (by simp; omega) _).setCell (p := ⟨w.heap.size + 1 + 1, 1, none⟩) (by simp; omega) _).setCell (p := ⟨w.heap.size + 1 + 1, 2, none⟩) (by simp; omega) _).setCell (p := ⟨w.heap.size + 1 + 1, 3, none⟩) (by simp; omega) _).setCell (p := ⟨w.heap.size + 1 + 1, 4, none⟩) (by simp; omega) _
      · rw [World.cell?_setCell_other _ _ _ _ (by simp <;> omega), World.cell?_setCell_other _ _ _ _ (by simp <;> omega), World.cell?_setCell_other _ _ _ _ (by simp <;> omega), World.cell?_setCell_other _ _ _ _ (by simp <;> omega), World.cell?_setCell_other _ _ _ _ (by simp <;> omega)]
        exact hN.out.srch.cwork

end Go.Proofs.Qxb6600935aMods.B
