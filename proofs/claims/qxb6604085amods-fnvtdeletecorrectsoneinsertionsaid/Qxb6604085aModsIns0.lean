/-
  THE CONTRACT OF vtInsert AT THE NIL SLICE; both as one; ZZVtInsert.
-/
import Derived.Test.Qxb6604085aModsIns
namespace Go.Proofs.Qxb6604085aMods.B
open Go.ChangeShapes Go.WideShapes Go.ChangeAt Go.RowKit
open Go.Proofs.Qxb6604085aMods.Pl

set_option maxHeartbeats 1000000 in
theorem vtInsert_none (x : Int) (w : World) (hx0 : 0 ≤ x) (hx1 : x ≤ 18446744073709551615) :
    Calls Trym.prog 25 #[.slice none 0 0, .int .u64 x] w (InsPost w 0 x []) := by
  obtain ⟨i0, hi, hz0, hz1, hz2⟩ := info_parts info5
  have C : Calls Trym.prog 27 #[.slice none 0 0, .int .u64 2] w fun e w' => e = .returned (.tuple #[.int .u64 0, .int .u64 0]) ∧ w' = w :=
    vtSum_any none 0 0 2 [] w ⟨rfl, fun h => by omega⟩ (by omega) (fun z hz => by simp at hz) (by omega) (by omega)
  have HC := tuck C
  clear C
  by_cases hp : x % 2 = 0
  · have hp' : x % 2 ≤ 0 := by omega
    have HP := tuck hp
    clear hp
    go_enter Trym.func25, Trym.ntmps25
    go_wp2_with (go_at_call 27; refine HC.out.mono ?_; rintro e w1 ⟨rfl, hw1⟩; obtain rfl := hw1.symm)
    clear HC
    go_loop [9, 11] (fun i t => i = .int .i64 0 ∧ t = .int .u64 0) (fun _ _ => 0)
    case atStart => exact ⟨rfl, rfl⟩
    case round =>
      obtain ⟨rfl, rfl⟩ := hrel
      go_wp2_with (at_make; refine wpList_make_own _ rfl _ _ 22 rfl w.heap.size 5 i0 _ 1 Trym.underlying22 hi hz0 hz1 .i64 .i64 _ 1 rfl rfl rfl (by rw [hz2]; omega) (by unfold maxLen; omega) (Nat.le_refl _) ?_; intro w1 hown hgrow)
      have hb1 : Below w.heap.size w w1 := (Below.refl _ _).grown hgrow (Nat.le_refl _) (by simp)
      have hst : Hid (St w w.heap.size w.heap.size 1 0 0 [] w1 0 []) := ⟨hown, Nat.le_refl _, fun h => by simp at h, fun h => by simp at h, fun i hi => by simp at hi, hb1.size, hb1⟩
      have hlt1 : w.heap.size < w1.heap.size := (hown.lt _ rfl).2
      clear hown hgrow hb1
      go_region_held3 (fun _ => True) (trivial) ((first
        | (refine app_range w w.heap.size w.heap.size 1 0 0 [] ?_ (.tmp 70) (.tmp 73) ?_ 0 0 0 0 0 [] [] none ?_ ?_ ?_ (fun h => by cases h) (fun _ => rfl) (by simp) (by omega) (by omega) (by rfl) ?_; exact rfl; exact rfl; exact rfl; exact rfl; (first | exact hst.out.drew | exact (hst.out.alloc _).drew); intro w2 hst2 hgr2)
        | (refine app_one w w.heap.size w.heap.size 1 0 0 [] ?_ (.tmp 74) (.tmp 76) ?_ 0 1 w2.heap.size [] [0] 0 ?_ ?_ ?_ ?_ rfl (by omega) rfl ?_; exact rfl; exact rfl; exact rfl; exact rfl; exact hst2.alloc _; simp; intro w3 hst3 hgr3)
        | (refine app_one w w.heap.size w.heap.size 1 0 0 [] ?_ (.tmp 74) (.tmp 76) ?_ 0 1 w1.heap.size [] [0] 0 ?_ ?_ ?_ ?_ rfl (by omega) rfl ?_; exact rfl; exact rfl; exact rfl; exact rfl; exact hst2; (rw [hgr2.cell_far _ (by simp) (by simp; omega)]; simp); intro w3 hst3 hgr3)
        | (refine app_range w w.heap.size w.heap.size 1 0 0 [] ?_ (.tmp 77) (.tmp 80) ?_ 1 0 1 0 0 [0] [0] none ?_ ?_ ?_ (fun h => by cases h) (fun _ => rfl) (by simp) (by omega) (by omega) (by rfl) ?_; exact rfl; exact rfl; exact rfl; exact rfl; exact hst3; intro w4 hst4 hgr4)))
      all_goals go_wp2
      all_goals go_ret
      all_goals
        have hO : Own w4 w.heap.size (.slice (some ⟨w.heap.size, 0, none⟩) 1 1) (ins [] 0 0) := hst4.own
        refine ⟨_, 0, 0, rfl, by omega, by simp, hO, ?_, hst4.below⟩
        simp [ins, ws]
        omega

  · have hp' : x % 2 = 1 := by omega
    have hp1 : 1 ≤ x % 2 := by omega
    have HP := tuck hp'
    clear hp hp'
    go_enter Trym.func25, Trym.ntmps25
    go_wp2_with (go_at_call 27; refine HC.out.mono ?_; rintro e w1 ⟨rfl, hw1⟩; obtain rfl := hw1.symm)
    clear HC
    go_loop [9, 12] (fun i t => i = .int .i64 0 ∧ t = .int .u64 0) (fun _ _ => 0)
    case atStart => exact ⟨rfl, rfl⟩
    case round =>
      obtain ⟨rfl, rfl⟩ := hrel
      go_wp2_with (at_make; refine wpList_make_own _ rfl _ _ 22 rfl w.heap.size 5 i0 _ 1 Trym.underlying22 hi hz0 hz1 .i64 .i64 _ 1 rfl rfl rfl (by rw [hz2]; omega) (by unfold maxLen; omega) (Nat.le_refl _) ?_; intro w1 hown hgrow)
      have hb1 : Below w.heap.size w w1 := (Below.refl _ _).grown hgrow (Nat.le_refl _) (by simp)
      have hst : Hid (St w w.heap.size w.heap.size 1 0 0 [] w1 0 []) := ⟨hown, Nat.le_refl _, fun h => by simp at h, fun h => by simp at h, fun i hi => by simp at hi, hb1.size, hb1⟩
      have hlt1 : w.heap.size < w1.heap.size := (hown.lt _ rfl).2
      clear hown hgrow hb1
      go_region_held3 (fun _ => True) (trivial) ((first
        | (refine app_range w w.heap.size w.heap.size 1 0 0 [] ?_ (.tmp 70) (.tmp 73) ?_ 0 0 0 0 0 [] [] none ?_ ?_ ?_ (fun h => by cases h) (fun _ => rfl) (by simp) (by omega) (by omega) (by rfl) ?_; exact rfl; exact rfl; exact rfl; exact rfl; (first | exact hst.out.drew | exact (hst.out.alloc _).drew); intro w2 hst2 hgr2)
        | (refine app_one w w.heap.size w.heap.size 1 0 0 [] ?_ (.tmp 74) (.tmp 76) ?_ 0 1 w2.heap.size [] [1] 1 ?_ ?_ ?_ ?_ rfl (by omega) rfl ?_; exact rfl; exact rfl; exact rfl; exact rfl; exact hst2.alloc _; simp; intro w3 hst3 hgr3)
        | (refine app_one w w.heap.size w.heap.size 1 0 0 [] ?_ (.tmp 74) (.tmp 76) ?_ 0 1 w1.heap.size [] [1] 1 ?_ ?_ ?_ ?_ rfl (by omega) rfl ?_; exact rfl; exact rfl; exact rfl; exact rfl; exact hst2; (rw [hgr2.cell_far _ (by simp) (by simp; omega)]; simp); intro w3 hst3 hgr3)
        | (refine app_range w w.heap.size w.heap.size 1 0 0 [] ?_ (.tmp 77) (.tmp 80) ?_ 1 0 1 0 0 [1] [1] none ?_ ?_ ?_ (fun h => by cases h) (fun _ => rfl) (by simp) (by omega) (by omega) (by rfl) ?_; exact rfl; exact rfl; exact rfl; exact rfl; exact hst3; intro w4 hst4 hgr4)))
      all_goals go_wp2
      all_goals go_ret
      all_goals
        have hO : Own w4 w.heap.size (.slice (some ⟨w.heap.size, 0, none⟩) 1 1) (ins [] 0 1) := hst4.own
        refine ⟨_, 0, 1, rfl, by omega, by simp, hO, ?_, hst4.below⟩
        simp [ins, ws]
        omega


end Go.Proofs.Qxb6604085aMods.B
