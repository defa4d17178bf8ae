/-
  THE WALK OF FnVtInsertMatchesSearch.
-/
import Derived.Test.Qxb6604085aModsInsZ
namespace Go.Proofs.Qxb6604085aMods.B
open Go.ChangeShapes Go.WideShapes Go.ChangeAt Go.RowKit
open Go.Proofs.Qxb6604085aMods.Pl

theorem bytes13_yes (a : Option Addr) (n c : Nat) (x : Int) (w : World) (h : n ≤ 1048576) :
    Calls Trym.prog 13 #[.slice a n c, .int .u64 x] w fun e w' => e = .returned (.bool true) ∧ w = w' := by
  go_enter Trym.func13, Trym.ntmps13
  go_wp2
  go_ret
  exact ⟨rfl, rfl⟩
theorem bytes13_no (a : Option Addr) (n c : Nat) (x : Int) (w : World) (h : 1048576 < n) :
    Calls Trym.prog 13 #[.slice a n c, .int .u64 x] w fun e w' => e = .returned (.bool false) ∧ w = w' := by
  go_enter Trym.func13, Trym.ntmps13
  go_wp2
  go_ret
  exact ⟨rfl, rfl⟩

theorem bits_of' {zs : List Int} (h : bitsB zs = true) (h0 : ∀ z ∈ zs, 0 ≤ z) : Bits zs := fun x hx => by
  unfold bitsB at h
  rw [List.all_eq_true] at h
  have h1 := h x hx
  have h2 := h0 x hx
  simp at h1
  omega

/-- None of the insertions ahead of index i has the syndrome. -/
def NoneYet (zs : List Int) (m x : Int) (i : Nat) : Prop := ∀ j, j < i → ∀ b : Int, (b = 0 ∨ b = 1) → ws 1 (ins zs j b) % m ≠ x % m

set_option maxHeartbeats 1000000 in
theorem lawInsSearch (a : Option Addr) (n c : Nat) (x : Int) (zs : List Int) (w : World) (h0 : Sl w a n zs) (e0 : a = none → n = 0 ∧ c = 0) (hz : ∀ z ∈ zs, 0 ≤ z) (hx0 : 0 ≤ x) (hx1 : x ≤ 18446744073709551615) :
    Calls Trym.prog 4 #[.slice a n c, .int .u64 x] w fun e w' => e = .returned (.bool true) ∧ Below w.heap.size w w' := by
  by_cases htot : n ≤ 1048576
  · have C1 := tuck (bytes13_yes a n c x w htot)
    have C2 := tuck (isBits_any a n c zs w h0 (by omega))
    by_cases hbb : bitsB zs = true
    · have HB := tuck (bits_of' hbb hz)
      have C3 := tuck (clone_any a n c zs w h0 (by omega) e0)
      clear h0 hz e0
      rw [hbb] at C2
      clear hbb
      have hr0 : 0 ≤ x % ((n : Int) + 2) := Int.emod_nonneg _ (by omega)
      have hr1 : x % ((n : Int) + 2) < (n : Int) + 2 := Int.emod_lt_of_pos _ (by omega)
      go_enter Trym.func4, Trym.ntmps4
      go_wp2_with (first
        | (go_at_call 13; refine C1.out.mono ?_; rintro e w1 ⟨rfl, hw1⟩; obtain rfl := hw1)
        | (go_at_call 10; refine C2.out.mono ?_; rintro e w1 ⟨rfl, hw1⟩; obtain rfl := hw1.symm))
      refine C3.out.mono ?_
      rintro e w1 ⟨p, rfl, hO, hB1, _⟩
      clear C1 C2 C3
      have HO := tuck hO
      have HB1 := tuck hB1
      have HS := tuck hO.at.1
      have Hlen := tuck hO.at.1.1
      have HE := tuck (ins_exists p n n x zs _ w1 hO htot HB.out hx0 hx1)
      have C4 := tuck (zzVtInsert_any p n n x zs _ w1 hO htot HB.out hx0 hx1)
      clear hO hB1
      go_wp2
      go_loop [8, 9] (fun s i => ∃ k : Nat, k ≤ n ∧ i = .int .i64 k ∧ s = .int .u64 (ws 2 (zs.take k))) (fun _ i => n - (intOf i).toNat)
      case atStart => exact ⟨0, Nat.zero_le _, rfl, rfl⟩
      case round =>
        obtain ⟨k, hk, rfl, rfl⟩ := hrel
        have hbd := ws_bd (HB.out.take k) 2 (by omega) (by simp; omega)
        have hlk : (zs.take k).length ≤ k := List.length_take_le _ _
        obtain ⟨s, hs⟩ : ∃ s, s = ws 2 (zs.take k) := ⟨_, rfl⟩
        rw [← hs] at hbd ⊢
        have HS2 := tuck hs
        clear hs
        have hs0 : 0 ≤ s := hbd.1
        have hs1 : s ≤ 2199040000000 := by have := hbd.2; omega
        clear hbd hlk
        by_cases hlt : k < n
        · obtain ⟨b, off, rfl, hbw, hcell⟩ := HS.out.2 (by omega)
          have hck := hcell k hlt
          clear hcell
          have hkl : Hid (k < zs.length) := by rw [Hid, Hlen.out]; exact hlt
          obtain ⟨z, hz⟩ : ∃ z, z = zs.getD k 0 := ⟨_, rfl⟩
          rw [← hz] at hck
          have HZ : Hid (zs.getD k 0 = z) := hz.symm
          have hz01 := HB.out.at k
          rw [← hz] at hz01
          clear hz
          rcases hz01 with rfl | rfl
          · go_wp2
            go_round
            case rel => exact ⟨k + 1, by omega, by go_num, by rw [syn_miss zs k 2 hkl.out HZ.out, HS2.out]⟩
            case measure => simp [intOf]; omega
          · go_wp2
            go_round
            case rel => exact ⟨k + 1, by omega, by go_num, by rw [syn_hit zs k 2 hkl.out HZ.out, HS2.out]; go_num⟩
            case measure => simp [intOf]; omega
        · have HS3 : Hid (s = ws 2 zs) := by
            rw [Hid, HS2.out, List.take_of_length_le (by rw [Hlen.out]; omega)]
          clear HS2
          go_wp2
          go_loop [10, 11, 12, 13, 14] (fun q1 q2 at_ bit i => ∃ k : Nat, k ≤ n + 1 ∧ i = .int .i64 k ∧ q1 = .int .u64 (ws 1 (zs.take k)) ∧ q2 = .int .u64 (ws 2 (zs.take k)) ∧ at_ = .int .i64 (-1) ∧ bit = .int .u8 0 ∧ Hid (NoneYet zs ((n : Int) + 2) x k))
            (fun _ _ _ _ i => n + 1 - (intOf i).toNat)
          case atStart => exact ⟨0, Nat.zero_le _, rfl, rfl, rfl, rfl, rfl, fun j hj => by omega⟩
          case round =>
            obtain ⟨k, hk, rfl, rfl, rfl, rfl, rfl, hnone⟩ := hrel
            have hb1 := ws_bd (HB.out.take k) 1 (by omega) (by simp; omega)
            have hb2 := ws_bd (HB.out.take k) 2 (by omega) (by simp; omega)
            have hlk : (zs.take k).length ≤ n := by simp; rw [Hlen.out]; omega
            by_cases hle : k ≤ n
            · have hb3 := ws_bd (HB.out.drop k) (2 + k) (by omega) (by simp; rw [Hlen.out]; omega)
              have hsp := ws_split 2 zs k (by rw [Hlen.out]; exact hle)
              have hi0 := ws_ins_search zs k (by rw [Hlen.out]; exact hle)
              have hi1 := ws_ins_one zs k (by rw [Hlen.out]; exact hle)
              rw [← HS3.out] at hi0 hsp
              obtain ⟨q1, hq1⟩ : ∃ q1, q1 = ws 1 (zs.take k) := ⟨_, rfl⟩
              obtain ⟨q2, hq2⟩ : ∃ q2, q2 = ws 2 (zs.take k) := ⟨_, rfl⟩
              rw [← hq1] at hb1 hi0 ⊢
              rw [← hq2] at hb2 hi0 hsp ⊢
              have b1 : 0 ≤ q1 := hb1.1
              have b2 : q1 ≤ 2199040000000 := by have := hb1.2; omega
              have b3 : 0 ≤ q2 := hb2.1
              have b4 : q2 ≤ s := by have := hb3.1; omega
              have HI0 := tuck hi0
              have HI1 := tuck hi1
              have HQ1 := tuck hq1
              have HQ2 := tuck hq2
              clear hb1 hb2 hb3 hsp hi0 hi1 hlk hq1 hq2
              by_cases f0 : ws 1 (ins zs k 0) % ((n : Int) + 2) = x % ((n : Int) + 2)
              · have t0 : ((q1 + (s - q2)) % ((n : Int) + 2) == x % ((n : Int) + 2)) = true := by rw [← HI0.out, f0]; simp
                have HF := tuck f0
                clear f0
                go_wp2_with (fail)
                refine C4.out.mono ?_
                rintro e w2 ⟨v, i, b, rfl, hi, hb, hO2, hsyn, hB2⟩
                have hu : ins zs i b = ins zs k 0 := ins_unique zs HB.out i k b 0 (by rw [Hlen.out]; exact hi) (by rw [Hlen.out]; exact hle) hb (by simp) (by rw [Hlen.out, hsyn]; exact HF.out.symm)
                rw [hu] at hO2
                obtain ⟨a2, c2, rfl, hS2, _⟩ := hO2.sl
                have C5 := tuck (inserted_any p n n k 0 zs w2 (HS.out.below hB2) (by omega) hle)
                have HS2 := tuck hS2
                have HB2 := tuck hB2
                clear hi hb hO2 hsyn hB2 hu hS2 C4
                go_wp2_with (fail)
                refine C5.out.mono ?_
                rintro e w3 ⟨v3, rfl, hO3, hB3⟩
                obtain ⟨a3, c3, rfl, hS3, _⟩ := hO3.sl
                have C6 := tuck (same_same a2 a3 _ c2 _ c3 (ins zs k 0) w3 (HS2.out.below hB3) hS3 (by rw [length_ins _ _ _ (by rw [Hlen.out]; exact hle), Hlen.out]; omega))
                have HB3 := tuck hB3
                clear hO3 hB3 hS3 C5
                go_wp2_with (fail)
                refine C6.out.mono ?_
                rintro e w4 ⟨rfl, hB4⟩
                have HB4 := tuck hB4
                clear hB4 C6
                go_wp2
                go_ret
                exact ⟨rfl, ((HB1.out.trans (HB2.out.mono HB1.out.size)).trans (HB3.out.mono (Nat.le_trans HB1.out.size HB2.out.size))).trans (HB4.out.mono (Nat.le_trans (Nat.le_trans HB1.out.size HB2.out.size) HB3.out.size))⟩
              · have t0 : ((q1 + (s - q2)) % ((n : Int) + 2) == x % ((n : Int) + 2)) = false := by rw [← HI0.out]; simpa using f0
                by_cases f1 : ws 1 (ins zs k 1) % ((n : Int) + 2) = x % ((n : Int) + 2)
                · have t1 : ((q1 + (s - q2) + (k : Int) + 1) % ((n : Int) + 2) == x % ((n : Int) + 2)) = true := by rw [← HI0.out, ← HI1.out, f1]; simp
                  have HF := tuck f1
                  clear f1 f0
                  go_wp2_with (fail)
                  refine C4.out.mono ?_
                  rintro e w2 ⟨v, i, b, rfl, hi, hb, hO2, hsyn, hB2⟩
                  have hu : ins zs i b = ins zs k 1 := ins_unique zs HB.out i k b 1 (by rw [Hlen.out]; exact hi) (by rw [Hlen.out]; exact hle) hb (by simp) (by rw [Hlen.out, hsyn]; exact HF.out.symm)
                  rw [hu] at hO2
                  obtain ⟨a2, c2, rfl, hS2, _⟩ := hO2.sl
                  have C5 := tuck (inserted_any p n n k 1 zs w2 (HS.out.below hB2) (by omega) hle)
                  have HS2 := tuck hS2
                  have HB2 := tuck hB2
                  clear hi hb hO2 hsyn hB2 hu hS2 C4
                  go_wp2_with (fail)
                  refine C5.out.mono ?_
                  rintro e w3 ⟨v3, rfl, hO3, hB3⟩
                  obtain ⟨a3, c3, rfl, hS3, _⟩ := hO3.sl
                  have C6 := tuck (same_same a2 a3 _ c2 _ c3 (ins zs k 1) w3 (HS2.out.below hB3) hS3 (by rw [length_ins _ _ _ (by rw [Hlen.out]; exact hle), Hlen.out]; omega))
                  have HB3 := tuck hB3
                  clear hO3 hB3 hS3 C5
                  go_wp2_with (fail)
                  refine C6.out.mono ?_
                  rintro e w4 ⟨rfl, hB4⟩
                  have HB4 := tuck hB4
                  clear hB4 C6
                  go_wp2
                  go_ret
                  exact ⟨rfl, ((HB1.out.trans (HB2.out.mono HB1.out.size)).trans (HB3.out.mono (Nat.le_trans HB1.out.size HB2.out.size))).trans (HB4.out.mono (Nat.le_trans (Nat.le_trans HB1.out.size HB2.out.size) HB3.out.size))⟩
                · have t1 : ((q1 + (s - q2) + (k : Int) + 1) % ((n : Int) + 2) == x % ((n : Int) + 2)) = false := by rw [← HI0.out, ← HI1.out]; simpa using f1
                  have HN : Hid (NoneYet zs ((n : Int) + 2) x (k + 1)) := by
                    intro j hj b hb
                    by_cases hjk : j < k
                    · exact hnone.out j hjk b hb
                    · obtain rfl : j = k := by omega
                      rcases hb with rfl | rfl
                      · exact f0
                      · exact f1
                  clear f0 f1 hnone
                  by_cases hkn : k < n
                  · obtain ⟨b, off, rfl, hbw, hcell⟩ := HS.out.2 (by omega)
                    have hck := hcell k hkn
                    clear hcell
                    have hkl : Hid (k < zs.length) := by rw [Hid, Hlen.out]; exact hkn
                    obtain ⟨z, hz⟩ : ∃ z, z = zs.getD k 0 := ⟨_, rfl⟩
                    rw [← hz] at hck
                    have HZ : Hid (zs.getD k 0 = z) := hz.symm
                    have hz01 := HB.out.at k
                    rw [← hz] at hz01
                    clear hz
                    rcases hz01 with rfl | rfl
                    · go_wp2
                      go_round
                      case rel => exact ⟨k + 1, by omega, by go_num, by rw [syn_miss zs k 1 hkl.out HZ.out, HQ1.out], by rw [syn_miss zs k 2 hkl.out HZ.out, HQ2.out], rfl, rfl, HN⟩
                      case measure => simp [intOf]; omega
                    · go_wp2
                      go_round
                      case rel => exact ⟨k + 1, by omega, by go_num, by rw [syn_hit zs k 1 hkl.out HZ.out, HQ1.out]; go_num, by rw [syn_hit zs k 2 hkl.out HZ.out, HQ2.out]; go_num, rfl, rfl, HN⟩
                      case measure => simp [intOf]; omega
                  · have e1 : zs.take (k + 1) = zs.take k := by rw [List.take_of_length_le (by rw [Hlen.out]; omega), List.take_of_length_le (by rw [Hlen.out]; omega)]
                    have E1 := tuck e1
                    clear e1
                    have hkd : decide ((k : Int) < (n : Int)) = false := decide_eq_false (by omega)
                    go_wp2
                    go_round
                    case rel => exact ⟨k + 1, by omega, by go_num, by rw [E1.out, HQ1.out], by rw [E1.out, HQ2.out], rfl, rfl, HN⟩
                    case measure => simp [intOf]; omega
            · exfalso
              obtain ⟨i, b, h1, h2, h3⟩ := HE.out
              exact hnone.out i (by omega) b h2 h3
    · have hbb' : bitsB zs = false := by simpa using hbb
      rw [hbb'] at C2
      clear hbb hbb' h0 hz
      go_enter Trym.func4, Trym.ntmps4
      go_wp2_with (first
        | (go_at_call 13; refine C1.out.mono ?_; rintro e w1 ⟨rfl, hw1⟩; obtain rfl := hw1)
        | (go_at_call 10; refine C2.out.mono ?_; rintro e w1 ⟨rfl, hw1⟩; obtain rfl := hw1.symm))
      go_ret
      exact ⟨rfl, Below.refl _ _⟩
  · have C1 := tuck (bytes13_no a n c x w (by omega))
    clear h0 hz htot
    go_enter Trym.func4, Trym.ntmps4
    go_wp2_with (go_at_call 13; refine C1.out.mono ?_; rintro e w1 ⟨rfl, hw1⟩; obtain rfl := hw1)
    go_ret
    exact ⟨rfl, Below.refl _ _⟩

end Go.Proofs.Qxb6604085aMods.B
