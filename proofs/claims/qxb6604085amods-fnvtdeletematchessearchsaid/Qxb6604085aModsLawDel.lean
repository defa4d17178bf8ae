/-
  THE WALK OF FnVtDeleteMatchesSearch.
-/
import Derived.Test.Qxb6604085aModsDelZ
namespace Go.Proofs.Qxb6604085aMods.B
open Go.ChangeShapes Go.WideShapes Go.ChangeAt Go.RowKit
open Go.Proofs.Qxb6604085aMods.Pl

theorem bytes20_yes (a : Option Addr) (n c : Nat) (x : Int) (w : World) (h : n ≤ 1048576) :
    Calls Trym.prog 20 #[.slice a n c, .int .u64 x] w fun e w' => e = .returned (.bool true) ∧ w = w' := by
  go_enter Trym.func20, Trym.ntmps20
  go_wp2
  go_ret
  exact ⟨rfl, rfl⟩
theorem bytes20_no (a : Option Addr) (n c : Nat) (x : Int) (w : World) (h : 1048576 < n) :
    Calls Trym.prog 20 #[.slice a n c, .int .u64 x] w fun e w' => e = .returned (.bool false) ∧ w = w' := by
  go_enter Trym.func20, Trym.ntmps20
  go_wp2
  go_ret
  exact ⟨rfl, rfl⟩

theorem bits_ofD {zs : List Int} (h : bitsB zs = true) (h0 : ∀ z ∈ zs, 0 ≤ z) : Bits zs := fun x hx => by
  unfold bitsB at h
  rw [List.all_eq_true] at h
  have h1 := h x hx
  have h2 := h0 x hx
  simp at h1
  omega

/-- What came back, as the search must find it. -/
def Got (w0 w2 : World) (pg : Option Addr) (m cp n : Nat) (x : Int) (zs : List Int) : Prop :=
  (pg = none ∧ m = 0 ∧ cp = 0 ∧ ∀ i, i < n → ws 1 (del zs i) % (n : Int) ≠ x % (n : Int)) ∨
  (pg.isNone = false ∧ ∃ i, i < n ∧ Own w2 w0.heap.size (.slice pg m cp) (del zs i) ∧ ws 1 (del zs i) % (n : Int) = x % (n : Int))

theorem got_of {w0 w2 : World} {n : Nat} {x : Int} {zs : List Int} {e : Ending} (h : DelPost w0 n x zs e w2) : Below w0.heap.size w0 w2 ∧ ∃ pg m cp, e = .returned (.slice pg m cp) ∧ Got w0 w2 pg m cp n x zs := by
  obtain ⟨hb, ⟨rfl, h⟩ | ⟨g, m, cp, i, rfl, h1, h2, h3⟩⟩ := h
  · exact ⟨hb, none, 0, 0, rfl, .inl ⟨rfl, rfl, rfl, h⟩⟩
  · exact ⟨hb, _, m, cp, rfl, .inr ⟨rfl, i, h1, h2, h3⟩⟩

def NoneYetD (zs : List Int) (n : Nat) (x : Int) (i : Nat) : Prop := ∀ j, j < i → ws 1 (del zs j) % (n : Int) ≠ x % (n : Int)

set_option maxHeartbeats 1000000 in
theorem lawDelSearch (a : Option Addr) (n c : Nat) (x : Int) (zs : List Int) (w : World) (h0 : Sl w a n zs) (e0 : a = none → n = 0 ∧ c = 0) (hz : ∀ z ∈ zs, 0 ≤ z) (hx0 : 0 ≤ x) (hx1 : x ≤ 18446744073709551615) :
    Calls Trym.prog 6 #[.slice a n c, .int .u64 x] w fun e w' => e = .returned (.bool true) ∧ Below w.heap.size w w' := by
  by_cases htot : n ≤ 1048576
  · have C1 := tuck (bytes20_yes a n c x w htot)
    have C2 := tuck (isBits_any a n c zs w h0 (by omega))
    by_cases hbb : bitsB zs = true
    · have HB := tuck (bits_ofD hbb hz)
      have C3 := tuck (clone_any a n c zs w h0 (by omega) e0)
      clear h0 hz e0
      rw [hbb] at C2
      clear hbb
      have q := q22
      go_enter Trym.func6, Trym.ntmps6
      go_wp2_with (first
        | (go_at_call 20; refine C1.out.mono ?_; rintro e w1 ⟨rfl, hw1⟩; obtain rfl := hw1)
        | (go_at_call 10; refine C2.out.mono ?_; rintro e w1 ⟨rfl, hw1⟩; obtain rfl := hw1.symm))
      refine C3.out.mono ?_
      rintro e w1 ⟨p, rfl, hO, hB1, _⟩
      clear C1 C2 C3
      have HB1 := tuck hB1
      have HS1 := tuck hO.at.1
      have Hlen := tuck hO.at.1.1
      have C4 := tuck (zzVtDelete_any p n n x zs _ w1 hO (by omega) HB.out hx0 hx1)
      clear hO hB1
      go_wp2_with (fail)
      refine C4.out.mono ?_
      intro e w2 hpost
      obtain ⟨hB2, pg, m, cp, rfl, hgot⟩ := got_of hpost
      clear C4 hpost
      have HB2 := tuck hB2
      have HG := tuck hgot
      have HS := tuck (HS1.out.below hB2)
      have HBw : Hid (Below w.heap.size w w2) := HB1.out.trans (HB2.out.mono HB1.out.size)
      clear hB2 hgot HS1
      by_cases hn0 : n = 0
      · subst hn0
        go_wp2
        go_ret
        refine ⟨ret_bool ?_, HBw.out⟩
        rcases HG.out with ⟨rfl, _⟩ | ⟨_, i, hi, _⟩
        · rfl
        · omega
      · have hn1 : (0 : Int) < (n : Int) := by omega
        have hr0 : 0 ≤ x % (n : Int) := Int.emod_nonneg _ (by omega)
        have hr1 : x % (n : Int) < (n : Int) := Int.emod_lt_of_pos _ (by omega)
        clear hn0
        go_wp2
        go_loop [9, 10] (fun s i => ∃ k : Nat, k ≤ n ∧ i = .int .i64 k ∧ s = .int .u64 (ws 0 (zs.take k))) (fun _ i => n - (intOf i).toNat)
        case atStart => exact ⟨0, Nat.zero_le _, rfl, rfl⟩
        case round =>
          obtain ⟨k, hk, rfl, rfl⟩ := hrel
          have hbd := ws_bd (HB.out.take k) 0 (by omega) (by simp; omega)
          have hlk : (zs.take k).length ≤ k := List.length_take_le _ _
          obtain ⟨s, hs⟩ : ∃ s, s = ws 0 (zs.take k) := ⟨_, rfl⟩
          rw [← hs] at hbd ⊢
          have HS2 := tuck hs
          clear hs
          have hs0 : 0 ≤ s := hbd.1
          have hs1 : s ≤ 2199040000000 := by have := hbd.2; omega
          clear hbd hlk
          by_cases hlt : k < n
          · obtain ⟨b, off, rfl, hbw, hcell⟩ := HS.out.2 (by omega)
            have hck := hcell k hlt
            clear hcell
            have hkl : Hid (k < zs.length) := by rw [Hid, Hlen.out]; exact hlt
            obtain ⟨z, hz⟩ : ∃ z, z = zs.getD k 0 := ⟨_, rfl⟩
            rw [← hz] at hck
            have HZ : Hid (zs.getD k 0 = z) := hz.symm
            have hz01 := HB.out.at k
            rw [← hz] at hz01
            clear hz
            rcases hz01 with rfl | rfl
            · go_wp2
              go_round
              case rel => exact ⟨k + 1, by omega, by go_num, by rw [syn_miss zs k 0 hkl.out HZ.out, HS2.out]⟩
              case measure => simp [intOf]; omega
            · go_wp2
              go_round
              case rel => exact ⟨k + 1, by omega, by go_num, by rw [syn_hit zs k 0 hkl.out HZ.out, HS2.out]; go_num⟩
              case measure => simp [intOf]; omega
          · have HS3 : Hid (s = ws 0 zs) := by
              rw [Hid, HS2.out, List.take_of_length_le (by rw [Hlen.out]; omega)]
            clear HS2
            go_wp2
            go_loop [11, 12, 13, 14] (fun q1 q0 at_ i => ∃ k : Nat, k ≤ n ∧ i = .int .i64 k ∧ q1 = .int .u64 (ws 1 (zs.take k)) ∧ q0 = .int .u64 (ws 0 (zs.take k)) ∧ at_ = .int .i64 (-1) ∧ Hid (NoneYetD zs n x k))
              (fun _ _ _ i => n - (intOf i).toNat)
            case atStart => exact ⟨0, Nat.zero_le _, rfl, rfl, rfl, rfl, fun j hj => by omega⟩
            case round =>
              obtain ⟨k, hk, rfl, rfl, rfl, rfl, hnone⟩ := hrel
              have hb1 := ws_bd (HB.out.take k) 1 (by omega) (by simp; omega)
              have hb2 := ws_bd (HB.out.take k) 0 (by omega) (by simp; omega)
              have hlk : (zs.take k).length ≤ n := by simp; rw [Hlen.out]; omega
              by_cases hle : k < n
              · obtain ⟨b, off, rfl, hbw, hcell⟩ := HS.out.2 (by omega)
                have hck := hcell k hle
                clear hcell
                have hkl : Hid (k < zs.length) := by rw [Hid, Hlen.out]; exact hle
                have hb3 := ws_bd (HB.out.drop (k + 1)) ((k : Int) + 1) (by omega) (by simp; rw [Hlen.out]; omega)
                have hsp := ws_split 0 zs k (by rw [Hlen.out]; omega)
                rw [drop_cons zs k hkl.out] at hsp
                simp only [ws, Int.zero_add] at hsp
                have hdel := ws_del_search zs k hkl.out
                obtain ⟨z, hz⟩ : ∃ z, z = zs.getD k 0 := ⟨_, rfl⟩
                rw [← hz] at hck hsp hdel
                rw [← HS3.out] at hsp hdel
                have HZ : Hid (zs.getD k 0 = z) := hz.symm
                have hz01 := HB.out.at k
                rw [← hz] at hz01
                clear hz
                obtain ⟨q1, hq1⟩ : ∃ q1, q1 = ws 1 (zs.take k) := ⟨_, rfl⟩
                obtain ⟨q0, hq0⟩ : ∃ q0, q0 = ws 0 (zs.take k) := ⟨_, rfl⟩
                rw [← hq1] at hb1 hdel ⊢
                rw [← hq0] at hb2 hdel hsp ⊢
                have b1 : 0 ≤ q1 := hb1.1
                have b2 : q1 ≤ 2199040000000 := by have := hb1.2; omega
                have b3 : 0 ≤ q0 := hb2.1
                have HQ1 := tuck hq1
                have HQ0 := tuck hq0
                clear hb1 hb2 hlk hq1 hq0
                by_cases f0 : ws 1 (del zs k) % (n : Int) = x % (n : Int)
                · have hgg : pg.isNone = false ∧ Own w2 w1.heap.size (.slice pg m cp) (del zs k) := by
                    rcases HG.out with ⟨_, _, _, hno⟩ | ⟨hpn, i, hi, hOi, hsi⟩
                    · exact absurd f0 (hno k hle)
                    · have hu : del zs i = del zs k := del_unique zs HB.out i k (by rw [Hlen.out]; exact hi) hkl.out (by rw [Hlen.out, hsi]; exact f0.symm)
                      rw [hu] at hOi
                      exact ⟨hpn, hOi⟩
                  have hpn := hgg.1
                  have HOG := tuck hgg.2
                  have C5 := tuck (deleted_any (some ⟨b, off, none⟩) n n k zs w2 HS.out (by omega) hle)
                  clear hgg
                  rcases hz01 with rfl | rfl
                  · have b4 : q0 ≤ s := by have := hb3.1; omega
                    have t0 : ((q1 + (s - q0)) % (n : Int) == x % (n : Int)) = true := by
                      rw [show q1 + (s - q0) = ws 1 (del zs k) from by rw [hdel]; omega, f0]; simp
                    clear f0 hdel hsp hb3 hnone
                    go_wp2_with (fail)
                    refine C5.out.mono ?_
                    rintro e w3 ⟨v3, rfl, hO3, hB3⟩
                    obtain ⟨a3, c3, rfl, hS3, _⟩ := hO3.sl
                    have hlm : m ≤ 1048580 := by
                      have e1 := HOG.out.at.1.1
                      have e2 := length_del zs k hkl.out
                      rw [Hlen.out] at e2
                      omega
                    have C6 := tuck (same_same pg a3 m cp _ c3 (del zs k) w3 (HOG.out.at.1.below hB3) hS3 hlm)
                    have HB3 := tuck hB3
                    clear hO3 hB3 hS3 C5 hlm
                    go_wp2_with (fail)
                    refine C6.out.mono ?_
                    rintro e w4 ⟨rfl, hB4⟩
                    have HB4 := tuck hB4
                    clear hB4 C6
                    go_wp2
                    go_ret
                    exact ⟨rfl, (HBw.out.trans (HB3.out.mono HBw.out.size)).trans (HB4.out.mono (Nat.le_trans HBw.out.size HB3.out.size))⟩
                  · have b4 : q0 + k ≤ s := by have := hb3.1; omega
                    have t0 : ((q1 + (s - q0 - (k : Int))) % (n : Int) == x % (n : Int)) = true := by
                      rw [show q1 + (s - q0 - (k : Int)) = ws 1 (del zs k) from by rw [hdel]; omega, f0]; simp
                    clear f0 hdel hsp hb3 hnone
                    go_wp2_with (fail)
                    refine C5.out.mono ?_
                    rintro e w3 ⟨v3, rfl, hO3, hB3⟩
                    obtain ⟨a3, c3, rfl, hS3, _⟩ := hO3.sl
                    have hlm : m ≤ 1048580 := by
                      have e1 := HOG.out.at.1.1
                      have e2 := length_del zs k hkl.out
                      rw [Hlen.out] at e2
                      omega
                    have C6 := tuck (same_same pg a3 m cp _ c3 (del zs k) w3 (HOG.out.at.1.below hB3) hS3 hlm)
                    have HB3 := tuck hB3
                    clear hO3 hB3 hS3 C5 hlm
                    go_wp2_with (fail)
                    refine C6.out.mono ?_
                    rintro e w4 ⟨rfl, hB4⟩
                    have HB4 := tuck hB4
                    clear hB4 C6
                    go_wp2
                    go_ret
                    exact ⟨rfl, (HBw.out.trans (HB3.out.mono HBw.out.size)).trans (HB4.out.mono (Nat.le_trans HBw.out.size HB3.out.size))⟩
                · have HN : Hid (NoneYetD zs n x (k + 1)) := by
                    intro j hj
                    by_cases hjk : j < k
                    · exact hnone.out j hjk
                    · obtain rfl : j = k := by omega
                      exact f0
                  rcases hz01 with rfl | rfl
                  · have b4 : q0 ≤ s := by have := hb3.1; omega
                    have t0 : ((q1 + (s - q0)) % (n : Int) == x % (n : Int)) = false := by
                      rw [show q1 + (s - q0) = ws 1 (del zs k) from by rw [hdel]; omega]; simpa using f0
                    clear f0 hdel hsp hb3 hnone
                    go_wp2
                    go_round
                    case rel => exact ⟨k + 1, by omega, by go_num, by rw [syn_miss zs k 1 hkl.out HZ.out, HQ1.out], by rw [syn_miss zs k 0 hkl.out HZ.out, HQ0.out], rfl, HN⟩
                    case measure => simp [intOf]; omega
                  · have b4 : q0 + k ≤ s := by have := hb3.1; omega
                    have t0 : ((q1 + (s - q0 - (k : Int))) % (n : Int) == x % (n : Int)) = false := by
                      rw [show q1 + (s - q0 - (k : Int)) = ws 1 (del zs k) from by rw [hdel]; omega]; simpa using f0
                    clear f0 hdel hsp hb3 hnone
                    go_wp2
                    go_round
                    case rel => exact ⟨k + 1, by omega, by go_num, by rw [syn_hit zs k 1 hkl.out HZ.out, HQ1.out]; go_num, by rw [syn_hit zs k 0 hkl.out HZ.out, HQ0.out]; go_num, rfl, HN⟩
                    case measure => simp [intOf]; omega
              · obtain rfl : k = n := by omega
                have hpn : pg.isNone = true := by
                  rcases HG.out with ⟨rfl, _⟩ | ⟨_, i, hi, _, hs⟩
                  · rfl
                  · exact absurd hs (hnone.out i hi)
                clear hb1 hb2 hlk
                go_wp2
                go_ret
                exact ⟨rfl, HBw.out⟩
    · have hbb' : bitsB zs = false := by simpa using hbb
      rw [hbb'] at C2
      clear hbb hbb' h0 hz
      go_enter Trym.func6, Trym.ntmps6
      go_wp2_with (first
        | (go_at_call 20; refine C1.out.mono ?_; rintro e w1 ⟨rfl, hw1⟩; obtain rfl := hw1)
        | (go_at_call 10; refine C2.out.mono ?_; rintro e w1 ⟨rfl, hw1⟩; obtain rfl := hw1.symm))
      go_ret
      exact ⟨rfl, Below.refl _ _⟩
  · have C1 := tuck (bytes20_no a n c x w (by omega))
    clear h0 hz htot
    go_enter Trym.func6, Trym.ntmps6
    go_wp2_with (go_at_call 20; refine C1.out.mono ?_; rintro e w1 ⟨rfl, hw1⟩; obtain rfl := hw1)
    go_ret
    exact ⟨rfl, Below.refl _ _⟩

end Go.Proofs.Qxb6604085aMods.B
