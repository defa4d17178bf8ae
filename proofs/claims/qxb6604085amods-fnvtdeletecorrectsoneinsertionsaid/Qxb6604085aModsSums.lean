/-
  THE CONTRACTS OF zzDeleted, zzSyndrome, vtSum.
-/
import Derived.Test.Qxb6604085aModsCopy
namespace Go.Proofs.Qxb6604085aMods.B
open Go.ChangeShapes Go.WideShapes Go.ChangeAt Go.RowKit
open Go.Proofs.Qxb6604085aMods.Pl

theorem del_lo (y : List Int) (q k : Nat) (h : k < q) (hq : q < y.length) : (del y q).getD k 0 = y.getD k 0 := by
  unfold del
  simp only [List.getD]
  rw [List.getElem?_append_left (by simp; omega), List.getElem?_take_of_lt h]
theorem del_hi (y : List Int) (q k : Nat) (h : q ≤ k) (hq : q < y.length) : (del y q).getD k 0 = y.getD (k + 1) 0 := by
  unfold del
  simp only [List.getD]
  have e : (y.take q).length = q := by simp; omega
  rw [List.getElem?_append_right (by rw [e]; omega), e, List.getElem?_drop, show q + 1 + (k - q) = k + 1 from by omega]

set_option maxHeartbeats 800000 in
theorem deleted_any (a : Option Addr) (n c q : Nat) (zs : List Int) (w : World) (hS : Sl w a n zs) (hn : n ≤ 1048580) (hq : q < n) :
    Calls Trym.prog 18 #[.slice a n c, .int .i64 q] w fun e w' => ∃ v, e = .returned v ∧ Own w' w.heap.size v (del zs q) ∧ Below w.heap.size w w' := by
  obtain ⟨i0, hi, hz0, hz1, hz2⟩ := info_parts info5
  obtain ⟨hlen0, hc⟩ := hS
  obtain ⟨m, rfl⟩ : ∃ m, n = m + 1 := ⟨n - 1, by omega⟩
  have hT0 : (del zs q).length = m := by have := length_del zs q (by omega); omega
  obtain ⟨T, hT⟩ : ∃ T, T = del zs q := ⟨_, rfl⟩
  rw [← hT] at hT0 ⊢
  have hTl : Hid (T.length = m) := hT0
  have t1 : Hid (∀ k, k < q → T.getD k 0 = zs.getD k 0) := fun k hk => by rw [hT]; exact del_lo zs q k hk (by omega)
  have t3 : Hid (∀ k, q ≤ k → T.getD k 0 = zs.getD (k + 1) 0) := fun k hk => by rw [hT]; exact del_hi zs q k hk (by omega)
  clear hlen0 hT0 hT
  go_enter Trym.func18, Trym.ntmps18
  go_wp2_with (at_make; refine wpList_make_full _ rfl _ _ 22 rfl w.heap.size 5 i0 _ 1 Trym.underlying22 hi hz0 hz1 .i64 .i64 _ _ m rfl rfl (by omega) (by omega) (by rw [hz2]; omega) (by unfold maxLen; omega) (Nat.le_refl _) ?_; intro w1 hown hgrow)
  have R : Hid (Own w1 w.heap.size (.slice (some ⟨w.heap.size, 0, none⟩) m m) (List.replicate m 0)) := own_made hown
  have hb1 : Below w.heap.size w w1 := (Below.refl _ _).grown hgrow (Nat.le_refl _) (by simp)
  clear hown hgrow hi hz0 hz1 hz2
  go_loopw [6] (fun i wr => ∃ (k : Nat) (L : List Int), k ≤ q ∧ i = .int .i64 k ∧ Hid (L.length = m) ∧ Hid (Own wr w.heap.size (.slice (some ⟨w.heap.size, 0, none⟩) m m) L) ∧ Hid (L.take k = T.take k) ∧ Below w.heap.size w wr) (fun i _ => q - (intOf i).toNat)
  case atStart => exact ⟨0, _, Nat.zero_le _, rfl, by simp [Hid], R, rfl, hb1⟩
  case round =>
    clear R hb1
    obtain ⟨k, L, hk, rfl, HL, hO, hT, hB⟩ := hrel
    by_cases hlt : k < q
    · obtain ⟨b, off, rfl, hbw, hcell⟩ := hc (by omega)
      have hck := (hB.cell (p := ⟨b, off + k, none⟩) hbw).trans (hcell k (by omega))
      clear hcell hc
      obtain ⟨z, hz⟩ : ∃ z, z = zs.getD k 0 := ⟨_, rfl⟩
      rw [← hz] at hck
      have HZ : Hid (z = zs.getD k 0) := hz
      clear hz
      obtain ⟨u, hu⟩ : ∃ u, wr.cell? ⟨w.heap.size, k, none⟩ = some u := ⟨_, hO.out.cell HL.out k (by omega)⟩
      have hf := hO.out.frozen HL.out k
      go_wp2
      go_roundw
      case rel =>
        refine ⟨k + 1, L.set k z, by omega, by go_num, by rw [Hid, List.length_set]; exact HL.out, hO.out.set HL.out k z, ?_, hB.setCell (Nat.le_refl _) _⟩
        rw [HZ.out, ← t1.out k hlt]
        exact take_set L T k (by rw [HL.out]; omega) (by rw [HL.out, hTl.out]) hT.out
      case measure => simp [intOf]; omega
    · obtain rfl : k = q := by omega
      clear hlt hk
      go_wp2
      go_loopw [7] (fun i wr => ∃ (j : Nat) (L : List Int), k ≤ j ∧ j ≤ m ∧ i = .int .i64 (j + 1 : Nat) ∧ Hid (L.length = m) ∧ Hid (Own wr w.heap.size (.slice (some ⟨w.heap.size, 0, none⟩) m m) L) ∧ Hid (L.take j = T.take j) ∧ Below w.heap.size w wr) (fun i _ => m + 1 - (intOf i).toNat)
      case atStart => exact ⟨k, _, Nat.le_refl _, by omega, by go_num, HL, hO, hT, hB⟩
      case round =>
        clear HL hO hT hB
        obtain ⟨j, L, hkj, hj, rfl, HL, hO, hT, hB⟩ := hrel
        by_cases hlt : j < m
        · obtain ⟨b, off, rfl, hbw, hcell⟩ := hc (by omega)
          have hck := (hB.cell (p := ⟨b, off + (j + 1), none⟩) hbw).trans (hcell (j + 1) (by omega))
          clear hcell hc
          obtain ⟨z, hz⟩ : ∃ z, z = zs.getD (j + 1) 0 := ⟨_, rfl⟩
          rw [← hz] at hck
          have HZ : Hid (z = zs.getD (j + 1) 0) := hz
          clear hz
          obtain ⟨u, hu⟩ : ∃ u, World.cell? _ ⟨w.heap.size, j, none⟩ = some u := ⟨_, hO.out.cell HL.out j (by omega)⟩
          have hf := hO.out.frozen HL.out j
          go_wp2
          go_roundw
          case rel =>
            refine ⟨j + 1, L.set j z, by omega, by omega, by go_num, by rw [Hid, List.length_set]; exact HL.out, hO.out.set HL.out j z, ?_, hB.setCell (Nat.le_refl _) _⟩
            rw [HZ.out, ← t3.out j hkj]
            exact take_set L T j (by rw [HL.out]; omega) (by rw [HL.out, hTl.out]) hT.out
          case measure => simp [intOf]; omega
        · go_wp2
          go_ret
          refine ⟨_, rfl, ?_, hB⟩
          have h1 := hT.out
          rw [List.take_of_length_le (by rw [HL.out]; omega), List.take_of_length_le (by rw [hTl.out]; omega)] at h1
          rw [← h1]
          exact hO

theorem syn_hit (zs : List Int) (k : Nat) (c : Int) (hk : k < zs.length) (hz : zs.getD k 0 = 1) : ws c (zs.take (k + 1)) = ws c (zs.take k) + (c + k) := by rw [ws_take c zs k hk, hz]; omega
theorem syn_miss (zs : List Int) (k : Nat) (c : Int) (hk : k < zs.length) (hz : zs.getD k 0 = 0) : ws c (zs.take (k + 1)) = ws c (zs.take k) := by rw [ws_take c zs k hk, hz]; omega

set_option maxHeartbeats 400000 in
theorem syndrome_any (a : Option Addr) (n c : Nat) (zs : List Int) (w : World) (hS : Sl w a n zs) (hn : n ≤ 1048580) (hbits : Bits zs) :
    Calls Trym.prog 19 #[.slice a n c] w fun e w' => e = .returned (.int .u64 (ws 1 zs % ((n : Int) + 1))) ∧ w' = w := by
  obtain ⟨hlen0, hc⟩ := hS
  have hlen : Hid (zs.length = n) := hlen0
  have HB : Hid (Bits zs) := hbits
  clear hlen0 hbits
  go_enter Trym.func19, Trym.ntmps19
  go_wp2
  go_loop [4, 5] (fun s i => ∃ k : Nat, k ≤ n ∧ i = .int .i64 k ∧ s = .int .u64 (ws 1 (zs.take k))) (fun _ i => n - (intOf i).toNat)
  case atStart => exact ⟨0, Nat.zero_le _, rfl, rfl⟩
  case round =>
    obtain ⟨k, hk, rfl, rfl⟩ := hrel
    have hbd := ws_bd (HB.out.take k) 1 (by omega) (by simp; omega)
    have hlk : (zs.take k).length ≤ k := List.length_take_le _ _
    obtain ⟨s, hs⟩ : ∃ s, s = ws 1 (zs.take k) := ⟨_, rfl⟩
    rw [← hs] at hbd ⊢
    have HS : Hid (s = ws 1 (zs.take k)) := hs
    clear hs
    have hs0 : 0 ≤ s := hbd.1
    have hs1 : s ≤ 2199040000000 := by have := hbd.2; omega
    clear hbd hlk
    by_cases hlt : k < n
    · obtain ⟨b, off, rfl, hbw, hcell⟩ := hc (by omega)
      have hck := hcell k hlt
      clear hcell hc
      have hkl : Hid (k < zs.length) := by rw [Hid, hlen.out]; exact hlt
      obtain ⟨z, hz⟩ : ∃ z, z = zs.getD k 0 := ⟨_, rfl⟩
      rw [← hz] at hck
      have HZ : Hid (zs.getD k 0 = z) := hz.symm
      have hz01 := HB.out.at k
      rw [← hz] at hz01
      clear hz
      rcases hz01 with rfl | rfl
      · go_wp2
        go_round
        case rel => exact ⟨k + 1, by omega, by go_num, by rw [syn_miss zs k 1 hkl.out HZ.out, HS.out]⟩
        case measure => simp [intOf]; omega
      · go_wp2
        go_round
        case rel => exact ⟨k + 1, by omega, by go_num, by rw [syn_hit zs k 1 hkl.out HZ.out, HS.out]; go_num⟩
        case measure => simp [intOf]; omega
    · go_wp2
      go_ret
      refine ⟨ret_int ?_, rfl⟩
      rw [HS.out, List.take_of_length_le (by rw [hlen.out]; omega)]

/-- One step of a sum that is kept below m. -/
theorem mod_step_lo {T c m : Int} (h0 : 0 ≤ c) (hm : 0 < m) (h : T % m + c < m) : (T + c) % m = T % m + c := by
  rw [← Int.emod_add_emod, Int.emod_eq_of_lt (by have := Int.emod_nonneg T (show m ≠ 0 by omega); omega) h]
theorem mod_step_hi {T c m : Int} (hc : c ≤ m) (hm : 0 < m) (h : m ≤ T % m + c) : (T + c) % m = T % m + c - m := by
  have h1 := Int.emod_lt_of_pos T hm
  rw [← Int.emod_add_emod, ← Int.sub_emod_right, Int.emod_eq_of_lt (by omega) (by omega)]

set_option maxHeartbeats 400000 in
theorem vtSum_any (a : Option Addr) (n c : Nat) (m : Int) (zs : List Int) (w : World) (hS : Sl w a n zs) (hn : n ≤ 1048580) (hbits : Bits zs) (hm : (n : Int) < m) (hm2 : m ≤ 2097152) :
    Calls Trym.prog 27 #[.slice a n c, .int .u64 m] w fun e w' => e = .returned (.tuple #[.int .u64 (ws 1 zs % m), .int .u64 (sm zs)]) ∧ w' = w := by
  obtain ⟨hlen0, hc⟩ := hS
  have hlen : Hid (zs.length = n) := hlen0
  have HB : Hid (Bits zs) := hbits
  clear hlen0 hbits
  go_enter Trym.func27, Trym.ntmps27
  go_wp2
  go_loop [4, 5, 10] (fun s t i => ∃ k : Nat, k ≤ n ∧ i = .int .i64 k ∧ s = .int .u64 (ws 1 (zs.take k) % m) ∧ t = .int .u64 (sm (zs.take k))) (fun _ _ i => n - (intOf i).toNat)
  case atStart => exact ⟨0, Nat.zero_le _, rfl, by simp [ws], rfl⟩
  case round =>
    obtain ⟨k, hk, rfl, rfl, rfl⟩ := hrel
    have hbd := sm_bd (HB.out.take k)
    have hlk : (zs.take k).length ≤ k := List.length_take_le _ _
    obtain ⟨t, ht⟩ : ∃ t, t = sm (zs.take k) := ⟨_, rfl⟩
    rw [← ht] at hbd ⊢
    have HT : Hid (t = sm (zs.take k)) := ht
    clear ht
    have ht0 : 0 ≤ t := hbd.1
    have ht1 : t ≤ 1048580 := by have := hbd.2; omega
    clear hbd hlk
    obtain ⟨s, hs⟩ : ∃ s, s = ws 1 (zs.take k) % m := ⟨_, rfl⟩
    have hs0 : 0 ≤ s := by rw [hs]; exact Int.emod_nonneg _ (by omega)
    have hs1 : s < m := by rw [hs]; exact Int.emod_lt_of_pos _ (by omega)
    rw [← hs]
    have HS : Hid (ws 1 (zs.take k) % m = s) := hs.symm
    clear hs
    by_cases hlt : k < n
    · obtain ⟨b, off, rfl, hbw, hcell⟩ := hc (by omega)
      have hck := hcell k hlt
      clear hcell hc
      have hkl : Hid (k < zs.length) := by rw [Hid, hlen.out]; exact hlt
      obtain ⟨z, hz⟩ : ∃ z, z = zs.getD k 0 := ⟨_, rfl⟩
      rw [← hz] at hck
      have HZ : Hid (zs.getD k 0 = z) := hz.symm
      have hz01 := HB.out.at k
      rw [← hz] at hz01
      clear hz
      rcases hz01 with rfl | rfl
      · go_wp2
        go_round
        case rel => exact ⟨k + 1, by omega, by go_num, by rw [syn_miss zs k 1 hkl.out HZ.out, HS.out], by rw [sm_take zs k hkl.out, HZ.out, HT.out]; go_num⟩
        case measure => simp [intOf]; omega
      · by_cases hge : m ≤ s + (k + 1)
        · go_wp2
          go_round
          case rel =>
            refine ⟨k + 1, by omega, by go_num, ?_, by rw [sm_take zs k hkl.out, HZ.out, HT.out]⟩
            rw [syn_hit zs k 1 hkl.out HZ.out, mod_step_hi (by omega) (by omega) (by rw [HS.out]; omega), HS.out]
            go_num
          case measure => simp [intOf]; omega
        · go_wp2
          go_round
          case rel =>
            refine ⟨k + 1, by omega, by go_num, ?_, by rw [sm_take zs k hkl.out, HZ.out, HT.out]⟩
            rw [syn_hit zs k 1 hkl.out HZ.out, mod_step_lo (by omega) (by omega) (by rw [HS.out]; omega), HS.out]
            go_num
          case measure => simp [intOf]; omega
    · go_wp2
      go_ret2
      have e : zs.take k = zs := List.take_of_length_le (by rw [hlen.out]; omega)
      have h1 := HS.out
      have h2 := HT.out
      rw [e] at h1 h2
      rw [h1, ← h2]
      exact ⟨rfl, rfl⟩

end Go.Proofs.Qxb6604085aMods.B
