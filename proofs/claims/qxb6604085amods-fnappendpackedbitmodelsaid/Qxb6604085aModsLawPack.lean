/-
  THE WALK OF FnAppendPackedBitModel.
-/
import Derived.Test.Qxb6604085aModsPackW
namespace Go.Proofs.Qxb6604085aMods.B
open Go.ChangeShapes Go.WideShapes Go.ChangeAt Go.RowKit
open Go.Proofs.Qxb6604085aMods.Pl

theorem bytes9_yes (a0 a1 : Option Addr) (n0 c0 n1 c1 : Nat) (w : World) (h : n0 + n1 ≤ 1048576) :
    Calls Trym.prog 9 #[.slice a0 n0 c0, .slice a1 n1 c1] w fun e w' => e = .returned (.bool true) ∧ w = w' := by
  go_enter Trym.func9, Trym.ntmps9
  go_wp2
  go_ret
  exact ⟨rfl, rfl⟩
theorem bytes9_no (a0 a1 : Option Addr) (n0 c0 n1 c1 : Nat) (w : World) (h : 1048576 < n0 + n1) (hm0 : n0 ≤ maxLen) (hm1 : n1 ≤ maxLen) :
    Calls Trym.prog 9 #[.slice a0 n0 c0, .slice a1 n1 c1] w fun e w' => e = .returned (.bool false) ∧ w = w' := by
  unfold maxLen at hm0 hm1
  go_enter Trym.func9, Trym.ntmps9
  go_wp2
  all_goals
    go_ret
    exact ⟨rfl, rfl⟩

/-- What is appended to reads as L. -/
theorem Bs.sl {w0 : World} {ao : Option Addr} {n0 : Nat} {bs : List Int} {w : World} {v : Value} {L : List Int} (hb : Sl w0 ao n0 bs) (h : Bs w0 ao n0 bs w v L) : ∃ a c, v = .slice a L.length c ∧ Sl w a L.length L := by
  rcases h.2 with ⟨rfl, rfl⟩ | ho
  · exact ⟨ao, n0, by rw [hb.1], by have := hb.below h.1; rw [hb.1]; exact this⟩
  · obtain ⟨a, c, e, h1, _⟩ := Own.sl (w := w) (base := w0.heap.size) ho
    exact ⟨a, c, e, h1⟩

theorem zzPacked_walk (ao : Option Addr) (n0 : Nat) (bs : List Int) (sa : Option Addr) (n c : Nat) (zs : List Int) (w : World) (hb : Sl w ao n0 bs) (hbn : ao = none → n0 = 0) (hS : Sl w sa n zs) (hnc : n ≤ c)
    (hn : n ≤ 1048576) (hn0 : n0 ≤ 1048576) (hbits : Bits zs) :
    Calls Trym.prog 12 #[.slice ao n0 n0, .slice sa n c] w fun e w' => ∃ v, e = .returned v ∧ Bs w ao n0 bs w' v (bs ++ packed zs ((n + 7) / 8)) := by
  have C := tuck (packed_walk ao n0 bs sa n c zs w hb hbn hS hnc hn hn0 hbits)
  clear hb hbn hS hbits
  go_enter Trym.func12, Trym.ntmps12
  go_wp2_with (go_at_call 24; refine C.out.mono ?_; rintro e w1 ⟨v, rfl, hv⟩)
  go_ret
  exact ⟨_, rfl, hv⟩

theorem bit_bd {zs : List Int} (hb : Bits zs) (i : Nat) : 0 ≤ zs.getD i 0 ∧ zs.getD i 0 ≤ 1 := by have := hb.at i; omega
theorem byte_bd (zs : List Int) (hb : Bits zs) (q : Nat) : 0 ≤ byteAt zs q ∧ byteAt zs q ≤ 255 := by
  have h0 := bit_bd hb (8 * q)
  have h1 := bit_bd hb (8 * q + 1)
  have h2 := bit_bd hb (8 * q + 2)
  have h3 := bit_bd hb (8 * q + 3)
  have h4 := bit_bd hb (8 * q + 4)
  have h5 := bit_bd hb (8 * q + 5)
  have h6 := bit_bd hb (8 * q + 6)
  have h7 := bit_bd hb (8 * q + 7)
  unfold byteAt
  omega
theorem bit_back (zs : List Int) (hb : Bits zs) (i : Nat) : bits .and .u8 (byteAt zs (i / 8) / 2 ^ (7 - i % 8)) 1 = zs.getD i 0 := by
  obtain ⟨q, r, hr, rfl⟩ : ∃ q r, r < 8 ∧ i = 8 * q + r := ⟨i / 8, i % 8, by omega, by omega⟩
  rw [show (8 * q + r) / 8 = q from by omega, show (8 * q + r) % 8 = r from by omega]
  have hB := byte_bd zs hb q
  have h0 := bit_bd hb (8 * q)
  have h1 := bit_bd hb (8 * q + 1)
  have h2 := bit_bd hb (8 * q + 2)
  have h3 := bit_bd hb (8 * q + 3)
  have h4 := bit_bd hb (8 * q + 4)
  have h5 := bit_bd hb (8 * q + 5)
  have h6 := bit_bd hb (8 * q + 6)
  have h7 := bit_bd hb (8 * q + 7)
  match r, hr with
  | 0, _ => rw [and_one _ (by omega) (by omega)]; show _ = zs.getD (8 * q) 0; unfold byteAt; omega
  | 1, _ => rw [and_one _ (by omega) (by omega)]; unfold byteAt; omega
  | 2, _ => rw [and_one _ (by omega) (by omega)]; unfold byteAt; omega
  | 3, _ => rw [and_one _ (by omega) (by omega)]; unfold byteAt; omega
  | 4, _ => rw [and_one _ (by omega) (by omega)]; unfold byteAt; omega
  | 5, _ => rw [and_one _ (by omega) (by omega)]; unfold byteAt; omega
  | 6, _ => rw [and_one _ (by omega) (by omega)]; unfold byteAt; omega
  | 7, _ => rw [and_one _ (by omega) (by omega)]; unfold byteAt; omega
theorem packed_at (bs zs : List Int) (K q : Nat) (h : q < K) : (bs ++ packed zs K).getD (bs.length + q) 0 = byteAt zs q := by
  simp only [List.getD]
  rw [List.getElem?_append_right (by omega), Nat.add_sub_cancel_left]
  simp [packed, h]

theorem bits_of {zs : List Int} (h : bitsB zs = true) (h0 : ∀ z ∈ zs, 0 ≤ z) : Bits zs := fun x hx => by
  unfold bitsB at h
  rw [List.all_eq_true] at h
  have h1 := h x hx
  have h2 := h0 x hx
  simp at h1
  omega

set_option maxHeartbeats 1000000 in
theorem lawPack (a0 : Option Addr) (n0 c0 : Nat) (bs : List Int) (a1 : Option Addr) (n1 c1 : Nat) (zs : List Int) (w : World) (h0 : Sl w a0 n0 bs) (h1 : Sl w a1 n1 zs)
    (e0 : a0 = none → n0 = 0 ∧ c0 = 0) (e1 : a1 = none → n1 = 0 ∧ c1 = 0) (m0 : n0 ≤ maxLen) (m1 : n1 ≤ maxLen) (hz : ∀ z ∈ zs, 0 ≤ z) :
    Calls Trym.prog 3 #[.slice a0 n0 c0, .slice a1 n1 c1] w fun e w' => e = .returned (.bool true) ∧ Below w.heap.size w w' := by
  by_cases htot : n0 + n1 ≤ 1048576
  · have C1 := tuck (bytes9_yes a0 a1 n0 c0 n1 c1 w htot)
    have C2 := tuck (isBits_any a1 n1 c1 zs w h1 (by omega))
    by_cases hbb : bitsB zs = true
    · have HBits := tuck (bits_of hbb hz)
      have C3 := tuck (clone_any a0 n0 c0 bs w h0 (by omega) e0)
      have H0 := tuck h0
      have H1 := tuck h1
      clear h0 h1 hz m0 m1
      rw [hbb] at C2
      clear hbb
      go_enter Trym.func3, Trym.ntmps3
      go_wp2_with (first
        | (go_at_call 9; refine C1.out.mono ?_; rintro e w1 ⟨rfl, hw1⟩; obtain rfl := hw1)
        | (go_at_call 10; refine C2.out.mono ?_; rintro e w1 ⟨rfl, hw1⟩; obtain rfl := hw1.symm))
      refine C3.out.mono ?_
      rintro e w1 ⟨p0, rfl, hO0, hB1, hn0⟩
      clear C1 C2 C3
      have C4 := tuck (clone_any a1 n1 c1 zs w1 (H1.out.below hB1) (by omega) e1)
      have HO0 := tuck hO0
      have HB1 := tuck hB1
      clear hO0 hB1 hn0 e0 e1
      go_wp2_with (fail)
      refine C4.out.mono ?_
      rintro e w2 ⟨p1, rfl, hO1, hB2, hn1⟩
      clear C4 hn1
      have hS0 : Sl w2 p0 n0 bs := HO0.out.at.1.below hB2
      have C5 := tuck (zzPacked_walk p0 n0 bs p1 n1 n1 zs w2 hS0 (fun h => (HO0.out.at.2.2 h).1) hO1.at.1 (Nat.le_refl _) (by omega) (by omega) HBits.out)
      have HS0 := tuck hS0
      have HS1 := tuck hO1.at.1
      have HB2 := tuck hB2
      have HO1 := tuck hO1
      clear hS0 hO1 hB2
      go_wp2_with (fail)
      refine C5.out.mono ?_
      rintro e w3 ⟨v, rfl, hv⟩
      clear C5
      obtain ⟨K, hK⟩ : ∃ K, K = (n1 + 7) / 8 := ⟨_, rfl⟩
      rw [← hK] at hv
      obtain ⟨pg, cg, rfl, hSg⟩ := hv.sl HS0.out
      have hlen : (bs ++ packed zs K).length = n0 + K := by rw [List.length_append, length_packed, HS0.out.1]
      rw [hlen] at hSg ⊢
      have HB3 := tuck hv.1
      have HSg := tuck hSg
      have HK := tuck hK
      have hK1 : 8 * K ≤ n1 + 7 := by omega
      have hK2 : n1 ≤ 8 * K := by omega
      have hK3 : ((n1 : Int) + 7) / 8 = (K : Int) := by omega
      clear hv hSg hlen hK
      have HT0 := tuck (HS0.out.below HB3.out)
      have HT1 := tuck (HS1.out.below HB3.out)
      have hBw : Below w.heap.size w w3 := (HB1.out.trans (HB2.out.mono HB1.out.size)).trans (HB3.out.mono (Nat.le_trans HB1.out.size HB2.out.size))
      have HBw := tuck hBw
      clear hBw HO0 HO1 H0 H1 HB1 HB2 HB3 HS0 HS1
      go_wp2
      rw [hK3]
      clear hK3
      go_loopw [7] (fun i wr => ∃ k : Nat, k ≤ n0 ∧ i = .int .i64 k ∧ Below w3.heap.size w3 wr) (fun i _ => n0 - (intOf i).toNat)
      case atStart => exact ⟨0, Nat.zero_le _, rfl, Below.refl _ _⟩
      case round =>
        obtain ⟨k, hk, rfl, hB⟩ := hrel
        by_cases hlt : k < n0
        · obtain ⟨b1, o1, rfl, hb1, hc1⟩ := HT0.out.2 (by omega)
          obtain ⟨b2, o2, rfl, hb2, hc2⟩ := HSg.out.2 (by omega)
          have g1 := (hB.cell (p := ⟨b1, o1 + k, none⟩) hb1).trans (hc1 k hlt)
          have g2 := (hB.cell (p := ⟨b2, o2 + k, none⟩) hb2).trans (hc2 k (by omega))
          have ez : (bs ++ packed zs K).getD k 0 = bs.getD k 0 := by simp only [List.getD]; rw [List.getElem?_append_left (by rw [HT0.out.1]; exact hlt)]
          rw [ez] at g2
          clear hc1 hc2 ez
          obtain ⟨z, hz⟩ : ∃ z, z = bs.getD k 0 := ⟨_, rfl⟩
          rw [← hz] at g1 g2
          clear hz
          have hi0 : (0 : Int) ≤ (k : Int) := by omega
          have hi1 : (k : Int) < (n0 : Int) := by omega
          have hi2 : (k : Int) < (n0 : Int) + (K : Int) := by omega
          go_wp2
          go_quiet (fail)
          go_wp2
          go_roundw
          case rel => exact ⟨k + 1, by omega, by go_num, below_drewN hB _⟩
          case measure => simp [intOf]; omega
        · go_wp2
          go_loop [8] (fun i => ∃ k : Nat, k ≤ 8 * K ∧ i = .int .i64 k) (fun i => 8 * K - (intOf i).toNat)
          case atStart => exact ⟨0, Nat.zero_le _, rfl⟩
          case round =>
            obtain ⟨i, hi, rfl⟩ := hrel
            by_cases hlt2 : i < 8 * K
            · obtain ⟨b2, o2, rfl, hb2, hc2⟩ := HSg.out.2 (by omega)
              have g2 := (hB.cell (p := ⟨b2, o2 + (n0 + i / 8), none⟩) hb2).trans (hc2 (n0 + i / 8) (by omega))
              by_cases hlt3 : i < n1
              · obtain ⟨b1, o1, rfl, hb1, hc1⟩ := HT1.out.2 (by omega)
                have g1 := (hB.cell (p := ⟨b1, o1 + i, none⟩) hb1).trans (hc1 i hlt3)
                clear hc1 hc2
                obtain ⟨y, hy⟩ : ∃ y, y = (bs ++ packed zs K).getD (n0 + i / 8) 0 := ⟨_, rfl⟩
                obtain ⟨z, hz⟩ : ∃ z, z = zs.getD i 0 := ⟨_, rfl⟩
                rw [← hz] at g1
                rw [← hy] at g2
                have ht : (bits BinOp.and IntKind.u8 (y / 2 ^ (7 - i % 8)) 1 != z) = false := by
                  have e1 := packed_at bs zs K (i / 8) (by omega)
                  rw [HT0.out.1] at e1
                  rw [hy, e1, bit_back zs HBits.out i, hz]
                  simp
                clear hy hz
                go_wp2
                go_round
                case rel => exact ⟨i + 1, by omega, by go_num⟩
                case measure => simp [intOf]; omega
              · clear hc2
                obtain ⟨y, hy⟩ : ∃ y, y = (bs ++ packed zs K).getD (n0 + i / 8) 0 := ⟨_, rfl⟩
                rw [← hy] at g2
                have ht : (bits BinOp.and IntKind.u8 (y / 2 ^ (7 - i % 8)) 1 != 0) = false := by
                  have e1 := packed_at bs zs K (i / 8) (by omega)
                  rw [HT0.out.1] at e1
                  rw [hy, e1, bit_back zs HBits.out i]
                  simp [List.getD, List.getElem?_eq_none (show zs.length ≤ i by rw [HT1.out.1]; omega)]
                clear hy
                go_wp2
                go_round
                case rel => exact ⟨i + 1, by omega, by go_num⟩
                case measure => simp [intOf]; omega
            · go_wp2
              go_ret
              exact ⟨rfl, HBw.out.trans (hB.mono HBw.out.size)⟩
    · have hbb' : bitsB zs = false := by simpa using hbb
      rw [hbb'] at C2
      clear hbb hbb' h0 h1 hz m0 m1
      go_enter Trym.func3, Trym.ntmps3
      go_wp2_with (first
        | (go_at_call 9; refine C1.out.mono ?_; rintro e w1 ⟨rfl, hw1⟩; obtain rfl := hw1)
        | (go_at_call 10; refine C2.out.mono ?_; rintro e w1 ⟨rfl, hw1⟩; obtain rfl := hw1.symm))
      go_ret
      exact ⟨rfl, Below.refl _ _⟩
  · have C1 := tuck (bytes9_no a0 a1 n0 c0 n1 c1 w (by omega) m0 m1)
    clear h0 h1 hz m0 m1 htot
    go_enter Trym.func3, Trym.ntmps3
    go_wp2_with (go_at_call 9; refine C1.out.mono ?_; rintro e w1 ⟨rfl, hw1⟩; obtain rfl := hw1)
    go_ret
    exact ⟨rfl, Below.refl _ _⟩

end Go.Proofs.Qxb6604085aMods.B
