/-
  THE WALK OF FnNextBudgetRefusesOrAgrees.
-/
import Derived.Test.Qxb6600935aModsZZ
import Derived.Test.Qxb6600935aModsEq5
namespace Go.Proofs.Qxb6600935aMods.B
open Go.ChangeShapes Go.WideShapes Go.ChangeAt Go.RowKit

theorem bytes14 (a : Option Addr) (n cp : Nat) (band limit work : Int) (o0 o1 o2 o3 o4 a0 a1 a2 a3 a4 i c prev : Int) (w : World) :
    Calls Trym.prog 14 #[.slice a n cp, .int .i64 band, .int .i64 limit, .int .i64 work, .agg #[.int .i64 o0, .int .i64 o1, .int .i64 o2, .int .i64 o3, .int .i64 o4], .agg #[.int .i64 a0, .int .i64 a1, .int .i64 a2, .int .i64 a3, .int .i64 a4], .int .i64 i, .int .u8 c, .int .u8 prev] w
      fun e w' => e = .returned (.bool (decide (n ≤ 1048576))) ∧ Below w.heap.size w w' := by
  by_cases h : n ≤ 1048576
  · have hd : decide (n ≤ 1048576) = true := decide_eq_true h
    rw [hd]
    clear hd
    go_enter Trym.func14, Trym.ntmps14
    go_wp2
    go_ret
    exact ⟨rfl, ((Below.refl _ _).alloc (Nat.le_refl _) _).alloc (by simp) _⟩
  · have hd : decide (n ≤ 1048576) = false := decide_eq_false h
    rw [hd]
    clear hd
    go_enter Trym.func14, Trym.ntmps14
    go_wp2
    go_ret
    exact ⟨rfl, ((Below.refl _ _).alloc (Nat.le_refl _) _).alloc (by simp) _⟩

/-- The two boxes at the law's own start. -/
theorem boxes (w : World) (A B : Array Value) (ty : TypeId) (w1 : World) (hb : Below (w.heap.size + 1 + 1) ((w.alloc (.cells A ty)).alloc (.cells B ty)) w1) (t : Nat) :
    w1.cell? ⟨w.heap.size, t, none⟩ = A[t]? ∧ w1.cell? ⟨w.heap.size + 1, t, none⟩ = B[t]? := by
  constructor
  · rw [hb.cell (p := ⟨w.heap.size, t, none⟩) (by simp; omega), World.cell?_alloc_past _ _ _ (by simp), World.cell?_alloc_at _ _ _ _ rfl]
  · rw [hb.cell (p := ⟨w.heap.size + 1, t, none⟩) (by simp), World.cell?_alloc_at _ _ _ _ (by simp)]

theorem below_two (w : World) (A B : Obj) : Below w.heap.size w ((w.alloc A).alloc B) := ((Below.refl _ _).alloc (Nat.le_refl _) _).alloc (by simp) _

set_option maxRecDepth 100000 in
set_option maxHeartbeats 1000000 in
theorem lawBudget_early (a : Option Addr) (n cp : Nat) (band limit work : Int) (o0 o1 o2 o3 o4 a0 a1 a2 a3 a4 i c prev : Int) (w : World) (h : 262144 < n ∨ band < 0 ∨ 2 < band ∨ work < -9223372036854775808 + (2 * band + 1)) (hm : n ≤ maxLen) :
    Calls Trym.prog 4 #[.slice a n cp, .int .i64 band, .int .i64 limit, .int .i64 work, .agg #[.int .i64 o0, .int .i64 o1, .int .i64 o2, .int .i64 o3, .int .i64 o4], .agg #[.int .i64 a0, .int .i64 a1, .int .i64 a2, .int .i64 a3, .int .i64 a4], .int .i64 i, .int .u8 c, .int .u8 prev] w
      fun e w' => e = .returned (.bool true) ∧ Below w.heap.size w w' := by
  unfold maxLen at hm
  by_cases hn : n ≤ 1048576
  · have hd : decide (n ≤ 1048576) = true := decide_eq_true hn
    by_cases hn2 : n ≤ 262144
    · have h' : band < 0 ∨ 2 < band ∨ work < -9223372036854775808 + (2 * band + 1) := by omega
      clear h
      by_cases hb0 : band < 0
      · clear h'
        go_enter Trym.func4, Trym.ntmps4
        go_wp2_with fail
        refine (bytes14 a n cp band limit work o0 o1 o2 o3 o4 a0 a1 a2 a3 a4 i c prev _).mono ?_
        rintro e w1 ⟨rfl, hB1⟩
        rw [hd]
        have HB := tuck ((below_two w _ _).trans (hB1.mono (by simp; omega)))
        clear hB1
        go_wp2
        go_ret
        exact ⟨rfl, HB.out⟩
      · have hb0' : decide (band < 0) = false := decide_eq_false hb0
        by_cases hb2 : 2 < band
        · clear h'
          go_enter Trym.func4, Trym.ntmps4
          go_wp2_with fail
          refine (bytes14 a n cp band limit work o0 o1 o2 o3 o4 a0 a1 a2 a3 a4 i c prev _).mono ?_
          rintro e w1 ⟨rfl, hB1⟩
          rw [hd]
          have HB := tuck ((below_two w _ _).trans (hB1.mono (by simp; omega)))
          clear hB1
          go_wp2
          go_ret
          exact ⟨rfl, HB.out⟩
        · have hb2' : decide (2 < band) = false := decide_eq_false hb2
          have hw : work < -9223372036854775808 + (2 * band + 1) := by omega
          clear h'
          go_enter Trym.func4, Trym.ntmps4
          go_wp2_with fail
          refine (bytes14 a n cp band limit work o0 o1 o2 o3 o4 a0 a1 a2 a3 a4 i c prev _).mono ?_
          rintro e w1 ⟨rfl, hB1⟩
          rw [hd]
          have HB := tuck ((below_two w _ _).trans (hB1.mono (by simp; omega)))
          clear hB1
          go_wp2
          go_ret
          exact ⟨rfl, HB.out⟩
    · clear h
      go_enter Trym.func4, Trym.ntmps4
      go_wp2_with fail
      refine (bytes14 a n cp band limit work o0 o1 o2 o3 o4 a0 a1 a2 a3 a4 i c prev _).mono ?_
      rintro e w1 ⟨rfl, hB1⟩
      rw [hd]
      have HB := tuck ((below_two w _ _).trans (hB1.mono (by simp; omega)))
      clear hB1
      go_wp2
      go_ret
      exact ⟨rfl, HB.out⟩
  · have hd : decide (n ≤ 1048576) = false := decide_eq_false hn
    clear h
    go_enter Trym.func4, Trym.ntmps4
    go_wp2_with fail
    refine (bytes14 a n cp band limit work o0 o1 o2 o3 o4 a0 a1 a2 a3 a4 i c prev _).mono ?_
    rintro e w1 ⟨rfl, hB1⟩
    rw [hd]
    have HB := tuck ((below_two w _ _).trans (hB1.mono (by simp; omega)))
    clear hB1
    go_wp2
    go_ret
    exact ⟨rfl, HB.out⟩

set_option maxRecDepth 100000 in
set_option maxHeartbeats 1000000 in
theorem lawBudget_main (a : Option Addr) (n cp : Nat) (band limit work : Int) (o0 o1 o2 o3 o4 a0 a1 a2 a3 a4 i c prev : Int) (ns : List Int) (w : World) (hS : Sl w a n ns) (hnil : a = none → n = 0 ∧ cp = 0) (hc0 : 0 ≤ c) (hc255 : c ≤ 255) (hp0 : 0 ≤ prev) (hp255 : prev ≤ 255)
    (hn : n ≤ 262144) (hb0 : 0 ≤ band) (hb2 : band ≤ 2) (hwlo : -9223372036854775808 + (2 * band + 1) ≤ work) (hwhi : work ≤ 9223372036854775807) :
    Calls Trym.prog 4 #[.slice a n cp, .int .i64 band, .int .i64 limit, .int .i64 work, .agg #[.int .i64 o0, .int .i64 o1, .int .i64 o2, .int .i64 o3, .int .i64 o4], .agg #[.int .i64 a0, .int .i64 a1, .int .i64 a2, .int .i64 a3, .int .i64 a4], .int .i64 i, .int .u8 c, .int .u8 prev] w
      fun e w' => e = .returned (.bool true) ∧ Below w.heap.size w w' := by
  have hd : decide (n ≤ 1048576) = true := decide_eq_true (by omega)
  have hb0' : decide (band < 0) = false := decide_eq_false (by omega)
  have hb2' : decide (2 < band) = false := decide_eq_false (by omega)
  have hwk : wrap64 (work - (2 * band + 1)) = work - (2 * band + 1) := IntWalk.wrap64_in _ ⟨by omega, by omega⟩
  have hwk2 : wrap64 (2 * band + 1 - (2 * band + 1)) = 0 := by rw [Int.sub_self]; exact IntWalk.wrap64_in _ ⟨by omega, by omega⟩
  have HWK := tuck hwk
  have HWK2 := tuck hwk2
  have HS := tuck hS
  have HNil := tuck hnil
  clear hS hnil hwk hwk2
  go_enter Trym.func4, Trym.ntmps4
  go_wp2_with fail
  refine (bytes14 a n cp band limit work o0 o1 o2 o3 o4 a0 a1 a2 a3 a4 i c prev _).mono ?_
  rintro e w1 ⟨rfl, hB1⟩
  rw [hd]
  have hB1' := hB1
  simp only [World.size_alloc] at hB1'
  have HB1 := tuck hB1'
  have HBw := tuck ((below_two w _ _).trans (hB1.mono (by simp; omega)))
  have HS1 := tuck (HS.out.below HBw.out)
  have C3 := tuck (clone_any a n cp ns w1 HS1.out (by omega) HNil.out)
  clear hB1 HS hB1'
  go_wp2_with fail
  refine C3.out.mono ?_
  rintro e w2 ⟨p, rfl, hO2, hB2, _⟩
  have hB2' := HB1.out.trans (hB2.mono (by have := HB1.out.size; simp at this; omega))
  have HB2 := tuck hB2'
  have hz2 : w.heap.size + 1 + 1 ≤ w2.heap.size := by have := hB2'.size; simp at this; omega
  have HBw2 := tuck (HBw.out.trans (hB2.mono HBw.out.size))
  have HS2 := tuck hO2.at.1
  have bx := boxes w _ _ 26 w2 hB2'
  have x0 := (bx 0).1
  have x1 := (bx 1).1
  have x2 := (bx 2).1
  have x3 := (bx 3).1
  have x4 := (bx 4).1
  have y0 := (bx 0).2
  have y1 := (bx 1).2
  have y2 := (bx 2).2
  have y3 := (bx 3).2
  have y4 := (bx 4).2
  simp at x0 x1 x2 x3 x4 y0 y1 y2 y3 y4
  clear C3 hO2 hB2 hB2' bx
  have C4 := tuck (zzNext_any p n n ns band limit work o0 o1 o2 o3 o4 a0 a1 a2 a3 a4 i c prev w2 HS2.out (by omega) hb0 hb2 hc0 hc255 hp0 hp255)
  go_wp2_with fail
  refine C4.out.mono ?_
  clear C4
  rw [HWK.out]
  obtain ⟨R, hR⟩ : ∃ R, rowR ns band i c prev (of5 o0 o1 o2 o3 o4) (of5 a0 a1 a2 a3 a4) (work - (2 * band + 1)) = R := ⟨_, rfl⟩
  obtain ⟨rc, hrc⟩ : ∃ rc, reachR ns band limit i c prev (of5 o0 o1 o2 o3 o4) (of5 a0 a1 a2 a3 a4) (work - (2 * band + 1)) = rc := ⟨_, rfl⟩
  rw [hR, hrc]
  have HR := tuck hR
  have HRC := tuck hrc
  clear hR hrc
  rintro e w3 ⟨rfl, hB3⟩
  obtain ⟨v0, e0⟩ : ∃ v, R.getD 0 0 = v := ⟨_, rfl⟩
  obtain ⟨v1, e1⟩ : ∃ v, R.getD 1 0 = v := ⟨_, rfl⟩
  obtain ⟨v2, e2⟩ : ∃ v, R.getD 2 0 = v := ⟨_, rfl⟩
  obtain ⟨v3, e3⟩ : ∃ v, R.getD 3 0 = v := ⟨_, rfl⟩
  obtain ⟨v4, e4⟩ : ∃ v, R.getD 4 0 = v := ⟨_, rfl⟩
  rw [e0, e1, e2, e3, e4]
  have EE := tuck (And.intro e0 (And.intro e1 (And.intro e2 (And.intro e3 e4))))
  clear e0 e1 e2 e3 e4
  have hB3' := HB2.out.trans (hB3.mono hz2)
  have HB3 := tuck hB3'
  have hz3 : w.heap.size + 1 + 1 ≤ w3.heap.size := by have := hB3'.size; simp at this; omega
  have HBw3 := tuck (HBw2.out.trans (hB3.mono HBw2.out.size))
  have HS3 := tuck (HS2.out.below hB3)
  clear hB3 hB3' x0 x1 x2 x3 x4 y0 y1 y2 y3 y4
  by_cases hlt : work < 2 * band + 1
  · have hz : R = [0, 0, 0, 0, 0] := by rw [← HR.out, rowR, if_neg (by omega)]
    have hrc : rc = false := by rw [← HRC.out, reachR, if_neg (by omega)]
    obtain ⟨e0, e1, e2, e3, e4⟩ := EE.out
    rw [hz] at e0 e1 e2 e3 e4
    simp at e0 e1 e2 e3 e4
    subst e0 e1 e2 e3 e4 hrc
    have q5 := eq5 0 0 0 0 0
    clear hz EE
    go_wp2
    go_ret
    exact ⟨rfl, HBw3.out.alloc HBw3.out.size _⟩
  · have bx := boxes w _ _ 26 w3 HB3.out
    have x0 := (bx 0).1
    have x1 := (bx 1).1
    have x2 := (bx 2).1
    have x3 := (bx 3).1
    have x4 := (bx 4).1
    have y0 := (bx 0).2
    have y1 := (bx 1).2
    have y2 := (bx 2).2
    have y3 := (bx 3).2
    have y4 := (bx 4).2
    simp at x0 x1 x2 x3 x4 y0 y1 y2 y3 y4
    clear bx
    have hz3a : w.heap.size < w3.heap.size := by omega
    have hz3b : w.heap.size + 1 < w3.heap.size := by omega
    go_wp2_with fail
    refine (zzNext_any p n n ns band limit (2 * band + 1) o0 o1 o2 o3 o4 a0 a1 a2 a3 a4 i c prev _ (by exact HS3.out.below ((Below.refl _ _).alloc (Nat.le_refl _) _)) (by omega) hb0 hb2 hc0 hc255 hp0 hp255).mono ?_
    rw [HWK2.out]
    have hR2 : rowR ns band i c prev (of5 o0 o1 o2 o3 o4) (of5 a0 a1 a2 a3 a4) 0 = R := by rw [← HR.out, rowR, rowR, if_pos (by omega), if_pos (by omega)]
    have hrc2 : reachR ns band limit i c prev (of5 o0 o1 o2 o3 o4) (of5 a0 a1 a2 a3 a4) 0 = rc := by rw [← HRC.out, reachR, reachR, if_pos (by omega), if_pos (by omega)]
    rw [hR2, hrc2]
    clear hR2 hrc2
    rintro e w4 ⟨rfl, hB4⟩
    obtain ⟨e0, e1, e2, e3, e4⟩ := EE.out
    rw [e0, e1, e2, e3, e4]
    clear e0 e1 e2 e3 e4
    simp only [World.size_alloc] at hB4
    have g0 := fun t => (hB4.cell (p := ⟨w3.heap.size, t, none⟩) (by simp)).trans (World.cell?_alloc_at _ _ _ _ rfl)
    have z0 := g0 0
    have z1 := g0 1
    have z2 := g0 2
    have z3 := g0 3
    have z4 := g0 4
    simp at z0 z1 z2 z3 z4
    have hz4 : w3.heap.size < w4.heap.size := by have := hB4.size; simp at this; omega
    have HBw4 : Hid (Below w.heap.size w w4) := (HBw3.out.alloc HBw3.out.size _).trans (hB4.mono (by omega))
    have q5 := eq5 v0 v1 v2 v3 v4
    clear g0 hB4 x0 x1 x2 x3 x4 y0 y1 y2 y3 y4
    go_wp2
    go_ret
    refine ⟨?_, HBw4.out.alloc HBw4.out.size _⟩
    simp

theorem lawBudget (a : Option Addr) (n cp : Nat) (band limit work : Int) (o0 o1 o2 o3 o4 a0 a1 a2 a3 a4 i c prev : Int) (ns : List Int) (w : World) (hS : Sl w a n ns) (hnil : a = none → n = 0 ∧ cp = 0) (hm : n ≤ maxLen) (hc0 : 0 ≤ c) (hc255 : c ≤ 255) (hp0 : 0 ≤ prev) (hp255 : prev ≤ 255) (hwhi : work ≤ 9223372036854775807) :
    Calls Trym.prog 4 #[.slice a n cp, .int .i64 band, .int .i64 limit, .int .i64 work, .agg #[.int .i64 o0, .int .i64 o1, .int .i64 o2, .int .i64 o3, .int .i64 o4], .agg #[.int .i64 a0, .int .i64 a1, .int .i64 a2, .int .i64 a3, .int .i64 a4], .int .i64 i, .int .u8 c, .int .u8 prev] w
      fun e w' => e = .returned (.bool true) ∧ Below w.heap.size w w' := by
  by_cases h : 262144 < n ∨ band < 0 ∨ 2 < band ∨ work < -9223372036854775808 + (2 * band + 1)
  · exact lawBudget_early a n cp band limit work o0 o1 o2 o3 o4 a0 a1 a2 a3 a4 i c prev w h hm
  · exact lawBudget_main a n cp band limit work o0 o1 o2 o3 o4 a0 a1 a2 a3 a4 i c prev ns w hS hnil hc0 hc255 hp0 hp255 (by omega) (by omega) (by omega) (by omega) hwhi

end Go.Proofs.Qxb6600935aMods.B
