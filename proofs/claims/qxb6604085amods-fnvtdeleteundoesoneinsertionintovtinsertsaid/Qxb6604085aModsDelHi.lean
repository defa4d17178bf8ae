/-
  THE CONTRACT OF vtDelete, the excess above the weight.
-/
import Derived.Test.Qxb6604085aModsDel
namespace Go.Proofs.Qxb6604085aMods.B
open Go.ChangeShapes Go.WideShapes Go.ChangeAt Go.RowKit
open Go.Proofs.Qxb6604085aMods.Pl

set_option maxHeartbeats 1000000 in
theorem vtDelete_hi (b off l c : Nat) (x : Int) (zs : List Int) (w : World) (s z d W W0 : Int) (h : DelIn b off l c x zs w s z d W W0) (hc : W < d) :
    Calls Trym.prog 26 #[.slice (some ⟨b, off, none⟩) (l + 1) c, .int .u64 x] w (DelPost w (l + 1) x zs) := by
  obtain ⟨i0, hi, hz0, hz1, hz2⟩ := info_parts info5
  have HH := tuck h
  have Hlen := tuck h.len
  have HB := tuck h.bits
  have Hcell := tuck h.cells
  have hbw := h.there
  have hnc := h.cap
  have hn := h.small
  have hx0 := h.x0
  have hx1 := h.x1
  have hs0 := h.s0
  have hs1 := h.s1
  have hla := h.last
  have hzz0 := h.z0
  have hzz1 := h.z1
  have hW00 := h.W00
  have hW01 := h.W01
  have hwt := h.weight
  have hd0 := h.d0
  have hd1 := h.d1
  have hd := h.def_d
  have hr0 : 0 ≤ x % ((l : Int) + 1) := Int.emod_nonneg _ (by omega)
  have hr1 : x % ((l : Int) + 1) < (l : Int) + 1 := Int.emod_lt_of_pos _ (by omega)
  have j1 : (l : Int) ≤ (c : Int) := by omega
  clear h
  have k1 : ((l : Int) + 1) ≤ (c : Int) := by omega
  have hc0 : 0 < d := by omega
  go_enter Trym.func26, Trym.ntmps26
  go_wp2_with (go_at_call 27; refine HH.out.call.mono ?_; rintro e w1 ⟨rfl, hw1⟩; obtain rfl := hw1.symm)
  rw [hd]
  have HD := tuck hd
  have Hwt := tuck hwt
  have hW0 : 0 ≤ W := by omega
  clear hd hwt
  go_loop [9, 12, 52] (fun at_ t i => ∃ j : Nat, j ≤ l + 1 ∧ i = .int .i64 j ∧ t = .int .u64 ((j : Int) - sm (zs.take j)) ∧ at_ = .int .i64 (-1) ∧ Hid (∀ i, i < j → ¬ (zs.getD i 0 = 1 ∧ (i : Int) - sm (zs.take i) = d - W))) (fun _ _ i => l + 1 - (intOf i).toNat)
  case atStart => exact ⟨0, Nat.zero_le _, rfl, rfl, rfl, fun i h1 => by omega⟩
  case round =>
    obtain ⟨j, hj, rfl, rfl, rfl, hno⟩ := hrel
    have hb1 := sm_bd (HB.out.take j)
    have hlj : (zs.take j).length ≤ j := List.length_take_le _ _
    obtain ⟨t, ht⟩ : ∃ t, t = (j : Int) - sm (zs.take j) := ⟨_, rfl⟩
    rw [← ht]
    have ht0 : 0 ≤ t := by omega
    have ht1 : t ≤ 1048580 := by omega
    have HT := tuck ht
    clear hb1 ht hlj
    by_cases hjl : j = l + 1
    · subst hjl
      go_wp2
      go_ret
      have hm : ((zs.length : Nat) : Int) = (l : Int) + 1 := by rw [Hlen.out]; omega
      refine ⟨Below.refl _ _, .inl ⟨rfl, ?_⟩⟩
      have hnn := del_hi_none zs HB.out x d (by rw [hm]; exact HH.out.ok) (by rw [hm]; exact hd1) (by rw [← HH.out.sum]; exact hc) (fun i hi => by rw [← HH.out.sum]; exact hno.out i (by rw [← Hlen.out]; exact hi))
      rw [Hlen.out] at hnn
      exact hnn
    · have hjl' : j < l + 1 := by omega
      clear hjl
      have hck := Hcell.out j hjl'
      obtain ⟨y, hy⟩ : ∃ y, y = zs.getD j 0 := ⟨_, rfl⟩
      have hy01 := HB.out.at j
      rw [← hy] at hck hy01
      have HY := tuck hy
      clear hy
      by_cases hhit : y = 1 ∧ t = d - W
      · obtain ⟨rfl, hte⟩ := hhit
        have HTE := tuck hte
        have htd : (t == d - W) = true := by simpa using hte
        clear hy01 hno hte
        go_wp2_with (at_make; refine wpList_make_own _ rfl _ _ 22 rfl w.heap.size 5 i0 _ 1 Trym.underlying22 hi hz0 hz1 .i64 .i64 _ l rfl rfl (by omega) (by rw [hz2]; omega) (by unfold maxLen; omega) (Nat.le_refl _) ?_; intro w2 hown hgrow)
        have hb1 : Below w.heap.size w w2 := (Below.refl _ _).grown hgrow (Nat.le_refl _) (by simp)
        have hst : Hid (St w w.heap.size w.heap.size l b off zs w2 0 []) := ⟨hown, Nat.le_refl _, fun _ => by omega, fun _ => by have := hb1.size; omega, fun i hi => (hb1.cell (p := ⟨b, off + i, none⟩) hbw).trans (Hcell.out i (by rw [← Hlen.out]; exact hi)), hb1.size, hb1⟩
        clear hown hgrow hb1
        have e1 : Hid ([] ++ (zs.drop 0).take j = zs.take j) := by simp [Hid]
        have e3 : Hid (zs.take j ++ (zs.drop (j + 1)).take (l - j) = del zs j) := by
          have := del_parts zs l j Hlen.out
          simpa [Hid] using this
        have wr1 : IntKind.i64.wrap (((j : Nat) : Int) + 1) = ((j : Nat) : Int) + 1 := i64_wrap_id _ (by omega) (by omega)
        have wr2 : (0 : Int) ≤ ((j : Nat) : Int) + 1 := by omega
        have wr3 : ((j : Nat) : Int) + 1 ≤ (l : Int) + 1 := by omega
        have wr4 : ((j : Nat) : Int) ≤ (c : Int) := by omega
        have wr5 : (0 : Int) ≤ ((j : Nat) : Int) := by omega
        go_region_held3 (fun _ => True) (trivial) ((first
          | (refine app_range w w.heap.size w.heap.size l b off zs ?_ (.tmp 118) (.tmp 121) ?_ 0 j j c 0 [] (zs.take j) (some ⟨b, off, none⟩) ?_ ?_ ?_ (fun _ => rfl) (fun h => by cases h) (by rw [Hlen.out]; omega) (by omega) (by omega) e1.out ?_; exact rfl; exact rfl; exact rfl; exact rfl; exact hst.out.drew; intro w3 hst3 hgr3)
          | (refine app_range w w.heap.size w.heap.size l b off zs ?_ (.tmp 122) (.tmp 126) ?_ j (l - j) l (c - (j + 1)) (j + 1) (zs.take j) (del zs j) (if c = (j + 1) then some ⟨b, off, none⟩ else some ⟨b, off + (j + 1), none⟩) ?_ ?_ ?_ ?_ ?_ ?_ (by omega) (by omega) e3.out ?_; exact rfl; exact rfl; exact rfl; exact rfl; exact hst3; (intro h0; rw [if_neg (by omega)]); (intro h0; split at h0 <;> cases h0); (rw [Hlen.out]; omega); intro w4 hst4 hgr4)))
        all_goals go_wp2
        all_goals go_ret
        all_goals
          have hO : Own w4 w.heap.size (.slice (some ⟨w.heap.size, 0, none⟩) l l) (del zs j) := by
            have := length_del zs j (by rw [Hlen.out]; omega)
            unfold Own; rw [show (del zs j).length = l from by rw [Hlen.out] at this; omega]; exact hst4.own
          exact ⟨hst4.below, .inr ⟨w.heap.size, l, l, j, rfl, by omega, hO, by rw [show ((l + 1 : Nat) : Int) = (l : Int) + 1 from by omega]; exact del_hi_hit zs j (by rw [Hlen.out]; omega) _ x _ HH.out.ok HY.out.symm (by rw [← HT.out, ← HH.out.sum]; exact HTE.out)⟩⟩
      · have HN : Hid (∀ i, i < j + 1 → ¬ (zs.getD i 0 = 1 ∧ (i : Int) - sm (zs.take i) = d - W)) := by
          intro i h1
          by_cases hik : i = j
          · subst hik
            rw [← HY.out, ← HT.out]
            exact hhit
          · exact hno.out i (by omega)
        have es := sm_take zs j (by rw [Hlen.out]; omega)
        have et := HT.out
        rw [← HY.out] at es
        have ES : Hid (((j + 1 : Nat) : Int) - sm (zs.take (j + 1)) = t + (1 - y)) := by rw [Hid]; omega
        clear es et hno
        rcases hy01 with rfl | rfl
        · clear hhit
          go_wp2
          go_round
          case rel => exact ⟨j + 1, by omega, by go_num, by rw [ES.out]; go_num, rfl, HN⟩
          case measure => simp [intOf]; try omega
        · have htd : (t == d - W) = false := by simpa using hhit
          clear hhit
          go_wp2
          go_round
          case rel => exact ⟨j + 1, by omega, by go_num, by rw [ES.out]; go_num, rfl, HN⟩
          case measure => simp [intOf]; try omega

end Go.Proofs.Qxb6604085aMods.B
