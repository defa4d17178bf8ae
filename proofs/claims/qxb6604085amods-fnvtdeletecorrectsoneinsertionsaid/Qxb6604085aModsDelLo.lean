/-
  THE CONTRACT OF vtDelete, the excess below the weight.
-/
import Derived.Test.Qxb6604085aModsDel
namespace Go.Proofs.Qxb6604085aMods.B
open Go.ChangeShapes Go.WideShapes Go.ChangeAt Go.RowKit
open Go.Proofs.Qxb6604085aMods.Pl

set_option maxHeartbeats 1000000 in
theorem vtDelete_lo (b off l c : Nat) (x : Int) (zs : List Int) (w : World) (s z d W W0 : Int) (h : DelIn b off l c x zs w s z d W W0) (hc0 : 0 < d) (hc : d < W) :
    Calls Trym.prog 26 #[.slice (some ⟨b, off, none⟩) (l + 1) c, .int .u64 x] w (DelPost w (l + 1) x zs) := by
  obtain ⟨i0, hi, hz0, hz1, hz2⟩ := info_parts info5
  have HH := tuck h
  have Hlen := tuck h.len
  have HB := tuck h.bits
  have Hcell := tuck h.cells
  have hbw := h.there
  have hnc := h.cap
  have hn := h.small
  have hx0 := h.x0
  have hx1 := h.x1
  have hs0 := h.s0
  have hs1 := h.s1
  have hla := h.last
  have hzz0 := h.z0
  have hzz1 := h.z1
  have hW00 := h.W00
  have hW01 := h.W01
  have hwt := h.weight
  have hd0 := h.d0
  have hd1 := h.d1
  have hd := h.def_d
  have hr0 : 0 ≤ x % ((l : Int) + 1) := Int.emod_nonneg _ (by omega)
  have hr1 : x % ((l : Int) + 1) < (l : Int) + 1 := Int.emod_lt_of_pos _ (by omega)
  have j1 : (l : Int) ≤ (c : Int) := by omega
  clear h
  have k1 : ((l : Int) + 1) ≤ (c : Int) := by omega
  go_enter Trym.func26, Trym.ntmps26
  go_wp2_with (go_at_call 27; refine HH.out.call.mono ?_; rintro e w1 ⟨rfl, hw1⟩; obtain rfl := hw1.symm)
  rw [hd]
  have HD := tuck hd
  have Hwt := tuck hwt
  clear hd hwt
  go_loop [9, 10, 11] (fun at_ t i => ∃ j : Nat, j ≤ l + 1 ∧ i = .int .i64 ((j : Int) - 1) ∧ t = .int .u64 (sm (zs.drop j)) ∧ at_ = .int .i64 (-1) ∧ Hid (∀ i, j ≤ i → i < l + 1 → ¬ (zs.getD i 0 = 0 ∧ sm (zs.drop (i + 1)) = d))) (fun _ _ i => (intOf i + 1).toNat)
  case atStart => exact ⟨l + 1, Nat.le_refl _, by go_num, by rw [List.drop_eq_nil_of_le (by rw [Hlen.out]; omega)]; rfl, rfl, fun i h1 h2 => by omega⟩
  case round =>
    obtain ⟨j, hj, rfl, rfl, rfl, hno⟩ := hrel
    have hb1 := sm_bd (HB.out.drop j)
    have hlj : (zs.drop j).length ≤ l + 1 := by rw [List.length_drop, Hlen.out]; omega
    obtain ⟨t, ht⟩ : ∃ t, t = sm (zs.drop j) := ⟨_, rfl⟩
    rw [← ht] at hb1 ⊢
    have HT := tuck ht
    have ht0 : 0 ≤ t := hb1.1
    have ht1 : t ≤ 1048580 := by have := hb1.2; omega
    clear hb1 ht hlj
    by_cases hj0 : j = 0
    · subst hj0
      rw [show (((0 : Nat) : Int) - 1) = -1 from by omega]
      go_wp2
      go_ret
      have hm : ((zs.length : Nat) : Int) = (l : Int) + 1 := by rw [Hlen.out]; omega
      refine ⟨Below.refl _ _, .inl ⟨rfl, ?_⟩⟩
      have hnn := del_lo_none zs HB.out x d (by rw [hm]; exact HH.out.ok) hc0 (by rw [← HH.out.sum]; exact hc) (fun i hi => hno.out i (Nat.zero_le _) (by rw [← Hlen.out]; exact hi))
      rw [Hlen.out] at hnn
      exact hnn
    · obtain ⟨k, rfl⟩ : ∃ k, j = k + 1 := ⟨j - 1, by omega⟩
      have hck := Hcell.out k (by omega)
      obtain ⟨y, hy⟩ : ∃ y, y = zs.getD k 0 := ⟨_, rfl⟩
      have hy01 := HB.out.at k
      rw [← hy] at hck hy01
      have HY := tuck hy
      clear hy
      have ek : ((k + 1 : Nat) : Int) - 1 = (k : Int) := by omega
      rw [ek]
      by_cases hhit : y = 0 ∧ t = d
      · obtain ⟨rfl, rfl⟩ := hhit
        clear hy01 hno
        go_wp2_with (at_make; refine wpList_make_own _ rfl _ _ 22 rfl w.heap.size 5 i0 _ 1 Trym.underlying22 hi hz0 hz1 .i64 .i64 _ l rfl rfl (by omega) (by rw [hz2]; omega) (by unfold maxLen; omega) (Nat.le_refl _) ?_; intro w2 hown hgrow)
        have hb1 : Below w.heap.size w w2 := (Below.refl _ _).grown hgrow (Nat.le_refl _) (by simp)
        have hst : Hid (St w w.heap.size w.heap.size l b off zs w2 0 []) := ⟨hown, Nat.le_refl _, fun _ => by omega, fun _ => by have := hb1.size; omega, fun i hi => (hb1.cell (p := ⟨b, off + i, none⟩) hbw).trans (Hcell.out i (by rw [← Hlen.out]; exact hi)), hb1.size, hb1⟩
        clear hown hgrow hb1
        have e1 : Hid ([] ++ (zs.drop 0).take k = zs.take k) := by simp [Hid]
        have e3 : Hid (zs.take k ++ (zs.drop (k + 1)).take (l - k) = del zs k) := by
          have := del_parts zs l k Hlen.out
          simpa [Hid] using this
        have wr1 : IntKind.i64.wrap (((k : Nat) : Int) + 1) = ((k : Nat) : Int) + 1 := i64_wrap_id _ (by omega) (by omega)
        have wr2 : (0 : Int) ≤ ((k : Nat) : Int) + 1 := by omega
        have wr3 : ((k : Nat) : Int) + 1 ≤ (l : Int) + 1 := by omega
        have wr4 : ((k : Nat) : Int) ≤ (c : Int) := by omega
        have wr5 : (0 : Int) ≤ ((k : Nat) : Int) := by omega
        go_region_held3 (fun _ => True) (trivial) ((first
          | (refine app_range w w.heap.size w.heap.size l b off zs ?_ (.tmp 118) (.tmp 121) ?_ 0 k k c 0 [] (zs.take k) (some ⟨b, off, none⟩) ?_ ?_ ?_ (fun _ => rfl) (fun h => by cases h) (by rw [Hlen.out]; omega) (by omega) (by omega) e1.out ?_; exact rfl; exact rfl; exact rfl; exact rfl; exact hst.out.drew; intro w3 hst3 hgr3)
          | (refine app_range w w.heap.size w.heap.size l b off zs ?_ (.tmp 122) (.tmp 126) ?_ k (l - k) l (c - (k + 1)) (k + 1) (zs.take k) (del zs k) (if c = (k + 1) then some ⟨b, off, none⟩ else some ⟨b, off + (k + 1), none⟩) ?_ ?_ ?_ ?_ ?_ ?_ (by omega) (by omega) e3.out ?_; exact rfl; exact rfl; exact rfl; exact rfl; exact hst3; (intro h0; rw [if_neg (by omega)]); (intro h0; split at h0 <;> cases h0); (rw [Hlen.out]; omega); intro w4 hst4 hgr4)))
        all_goals go_wp2
        all_goals go_ret
        all_goals
          have hO : Own w4 w.heap.size (.slice (some ⟨w.heap.size, 0, none⟩) l l) (del zs k) := by
            have := length_del zs k (by rw [Hlen.out]; omega)
            unfold Own; rw [show (del zs k).length = l from by rw [Hlen.out] at this; omega]; exact hst4.own
          exact ⟨hst4.below, .inr ⟨w.heap.size, l, l, k, rfl, by omega, hO, by rw [show ((l + 1 : Nat) : Int) = (l : Int) + 1 from by omega]; exact del_lo_hit zs k (by rw [Hlen.out]; omega) _ x _ HH.out.ok HY.out.symm HT.out.symm⟩⟩
      · have HN : Hid (∀ i, k ≤ i → i < l + 1 → ¬ (zs.getD i 0 = 0 ∧ sm (zs.drop (i + 1)) = d)) := by
          intro i h1 h2
          by_cases hik : i = k
          · subst hik
            rw [← HY.out, ← HT.out]
            exact hhit
          · exact hno.out i (by omega) h2
        have es := sm_drop zs k (by rw [Hlen.out]; omega)
        rw [← HY.out, ← HT.out] at es
        have ES := tuck es
        clear es hno
        rcases hy01 with rfl | rfl
        · have htd : (t == d) = false := by simpa using hhit
          clear hhit
          go_wp2
          go_round
          case rel => exact ⟨k, by omega, by go_num, by rw [ES.out]; go_num, rfl, HN⟩
          case measure => simp [intOf]; try omega
        · clear hhit
          go_wp2
          go_round
          case rel => exact ⟨k, by omega, by go_num, by rw [ES.out]; go_num, rfl, HN⟩
          case measure => simp [intOf]; try omega

end Go.Proofs.Qxb6604085aMods.B
