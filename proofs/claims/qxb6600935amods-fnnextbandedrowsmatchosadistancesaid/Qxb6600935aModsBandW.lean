/-
  FnNextBandedRowsMatchOSADistance: the walk.
-/
import Derived.Test.Qxb6600935aModsBandE
namespace Go.Proofs.Qxb6600935aMods.B
open Go.ChangeShapes Go.WideShapes Go.ChangeAt Go.RowKit
open Go.Proofs.Qxb6600935aMods.Pl

theorem row0_at (n k : Nat) (h : k < n + 1) : (row0 n).getD k 0 = k := by simp [row0, List.getD, h]
theorem length_row0 (n : Nat) : (row0 n).length = n + 1 := by simp [row0]

theorem small_zero : Small (((0 : Nat) : Int) + 3) (fnOf [0, 0, 0, 0, 0]) := fun k => by
  have : fnOf [0, 0, 0, 0, 0] k = 0 := by
    unfold fnOf
    match k with
    | 0 => rfl
    | 1 => rfl
    | 2 => rfl
    | 3 => rfl
    | 4 => rfl
    | k + 5 => rfl
  omega

/-- The start of the law's loop. -/
theorem ms_start (W w0 : World) (n z1 z2 z3 : Nat) (T1 T2 T0 R : List Int) (hb : Below w0.heap.size w0 W) (h1 : Blk W z1 (n + 1) T2) (h2 : Blk W z2 (n + 1) T1) (h3 : Blk W z3 (n + 1) T0) (l1 : w0.heap.size ≤ z1) (l2 : z1 < z2) (l3 : z2 < z3) (l4 : z3 < W.heap.size) (W1 : World)
    (hB : Below (W.alloc (.cells #[.int .i64 0, .int .i64 0, .int .i64 0, .int .i64 0, .int .i64 0] 26)).heap.size (W.alloc (.cells #[.int .i64 0, .int .i64 0, .int .i64 0, .int .i64 0, .int .i64 0] 26)) W1) (hR : R.length = 5) :
    MS (W1.alloc (.cells #[.int .i64 (R.getD 0 0), .int .i64 (R.getD 1 0), .int .i64 (R.getD 2 0), .int .i64 (R.getD 3 0), .int .i64 (R.getD 4 0)] 26)) w0 n z1 z2 z3 W.heap.size W1.heap.size T2 T1 T0 [0, 0, 0, 0, 0] R := by
  have ho : Blk (W.alloc (.cells #[.int .i64 0, .int .i64 0, .int .i64 0, .int .i64 0, .int .i64 0] 26)) W.heap.size 5 [0, 0, 0, 0, 0] := blk_new W 26 [0, 0, 0, 0, 0] rfl
  have hba : Below W.heap.size W (W.alloc (.cells #[.int .i64 0, .int .i64 0, .int .i64 0, .int .i64 0, .int .i64 0] 26)) := (Below.refl _ _).alloc (Nat.le_refl _) _
  have hsz := hB.size
  rw [World.size_alloc] at hB hsz
  have b1 : Below W.heap.size W W1 := hba.trans (hB.mono (by omega))
  obtain ⟨Z, hZ⟩ : ∃ Z, W1.alloc (.cells #[.int .i64 (R.getD 0 0), .int .i64 (R.getD 1 0), .int .i64 (R.getD 2 0), .int .i64 (R.getD 3 0), .int .i64 (R.getD 4 0)] 26) = Z := ⟨_, rfl⟩
  have hbz : Below W1.heap.size W1 Z := by rw [← hZ]; exact (Below.refl _ _).alloc (Nat.le_refl _) _
  have hzs : Z.heap.size = W1.heap.size + 1 := by rw [← hZ, World.size_alloc]
  have ba : Blk Z W1.heap.size 5 R := by rw [← hZ]; exact blk_new W1 26 R hR
  have b2 : Below W.heap.size W Z := b1.trans (hbz.mono (by omega))
  rw [hZ]
  exact ⟨hb.trans (b2.mono (by omega)), h1.keep b2 (by omega), h2.keep b2 (by omega), h3.keep b2 l4, (ho.keep hB (by omega)).keep hbz (by omega), ba, by omega, by omega, by omega, by omega, by omega, by omega, by omega, by omega, by omega, by omega, by omega, by omega, by omega, by omega, by omega, by omega, by omega, by omega, by omega, by omega⟩

set_option maxRecDepth 100000 in
set_option maxHeartbeats 2000000 in
theorem lawBanded_main (s : ByteArray) (a : Option Addr) (n cp : Nat) (band limit : Int) (ns : List Int) (w : World) (hS : Sl w a n ns) (hnil : a = none → n = 0 ∧ cp = 0) (hs : s.size ≤ 4096) (hn : n ≤ 4096) (hb0 : 0 ≤ band) (hb2 : band ≤ 2) (hlim : limit ≤ band) :
    Calls Trym.prog 3 #[.string s, .slice a n cp, .int .i64 band, .int .i64 limit] w fun e w' => e = .returned (.bool true) ∧ Below w.heap.size w w' := by
  have B9 := bytes9 s a n cp band limit w (by unfold maxLen; omega) (by unfold maxLen; omega)
  have hd : decide (s.size + n ≤ 1048576) = true := decide_eq_true (by omega)
  rw [hd] at B9
  have h2' : decide (4096 < (s.size : Int)) = false := decide_eq_false (by omega)
  have h3' : decide (4096 < (n : Int)) = false := decide_eq_false (by omega)
  have h4' : decide (band < 0) = false := decide_eq_false (by omega)
  have h5' : decide (2 < band) = false := decide_eq_false (by omega)
  have h6' : decide (band < limit) = false := decide_eq_false (by omega)
  have B10 := clone_any a n cp ns w hS (by omega) hnil
  have hnl := hS.1
  have HNL := tuck hnl
  obtain ⟨st, hst⟩ : ∃ st, st = sbs s := ⟨_, rfl⟩
  have HST : Hid (∀ k, st.getD k 0 = sb s k) := fun k => by rw [hst]; exact sbs_at s k
  obtain ⟨i0, hi, hz0, hz1, hz2⟩ := info_parts info3
  clear hd hS hnil hst hnl
  go_enter Trym.func3, Trym.ntmps3
  go_wp2_with fail
  refine B9.mono ?_
  rintro e w1 ⟨rfl, rfl⟩
  clear B9
  go_wp2_with fail
  refine B10.mono ?_
  rintro e w0 ⟨p, rfl, hO, hB, hpn⟩
  have HS := tuck hO.at.1
  have HBw := tuck hB
  clear hO hB B10 hpn
  go_wp2_with (at_make; refine wpList_make_full _ rfl _ _ 25 rfl w0.heap.size 3 i0 _ 1 Trym.underlying25 hi hz0 hz1 .i64 .i64 _ _ (n + 1) rfl rfl rfl rfl (by rw [hz2]; omega) (by unfold maxLen; omega) ?_ ?_; (first | exact Nat.le_refl _ | omega); intro w2 ho2 hg2; have hl2 := (ho2.lt _ rfl).2; dsimp only at hl2)
  rename_i w1 ho1 hg1 hl1 wb hob hgb hlb _ _
  have A1 := tuck (Own3.blk ho1)
  have A2 := tuck (Own3.blk hob)
  have A3 := tuck (Own3.blk ho2)
  have hB1 : Below w0.heap.size w0 w1 := (Below.refl _ _).grown hg1 (Nat.le_refl _) (by simp)
  have hB2 : Below w1.heap.size w1 wb := (Below.refl _ _).grown hgb (Nat.le_refl _) (by simp)
  have hB3 : Below wb.heap.size wb w2 := (Below.refl _ _).grown hg2 (Nat.le_refl _) (by simp)
  have A1' := tuck ((A1.out.keep hB2 hl1).keep hB3 (by omega))
  have A2' := tuck (A2.out.keep hB3 hlb)
  have HB2 := tuck ((hB1.trans (hB2.mono (by omega))).trans (hB3.mono (by omega)))
  clear ho1 hg1 hob hgb ho2 hg2 hB1 hB2 hB3 A1 A2 hi hz0 hz1 hz2 i0
  go_loopw [14] (fun i wr => ∃ (k : Nat) (L : List Int), k ≤ n + 1 ∧ i = .int .i64 k ∧ Hid (Blk wr w1.heap.size (n + 1) L) ∧ Hid (L.take k = (row0 n).take k) ∧ Hid (Turned w1.heap.size w2 wr)) (fun i _ => n + 1 - (intOf i).toNat)
  case atStart => exact ⟨0, _, by omega, rfl, A2', rfl, Turned.refl _ _⟩
  case round =>
    obtain ⟨k, L, hk, rfl, hL, hT, hTu⟩ := hrel
    by_cases hlt : k < n + 1
    · obtain ⟨u, hu⟩ : ∃ u, wr.cell? ⟨w1.heap.size, k, none⟩ = some u := ⟨_, hL.out.cell k hlt⟩
      have hf := hL.out.free k hlt
      go_wp2
      go_roundw
      case rel =>
        refine ⟨k + 1, L.set k k, by omega, by go_num, hL.out.set k hlt _, ?_, hTu.out.set k _⟩
        have := take_set L (row0 n) k (by rw [hL.out.len]; exact hlt) (by rw [hL.out.len, length_row0]) hT.out
        rw [row0_at n k hlt] at this
        exact this
      case measure => simp [intOf]; omega
    · have hfull : L = row0 n := by
        have h1 := hT.out
        rw [List.take_of_length_le (by rw [hL.out.len]; omega), List.take_of_length_le (by rw [length_row0]; omega)] at h1
        exact h1
      subst hfull
      have C1 := tuck (A1'.out.turned hTu.out (by omega))
      have C3 := tuck (A3.out.turned hTu.out (by omega))
      have HB3 := tuck (HB2.out.trans (hTu.out.below.mono (by omega)))
      have hsz := hTu.out.size
      have hl4 : wb.heap.size < wr.heap.size := by rw [hsz]; exact hl2
      clear A1' A2' A3 HB2 hT hTu hsz
      obtain ⟨wq, rfl⟩ : ∃ wq : World, wq = wr := ⟨_, rfl⟩
      go_wp2_with fail
      refine (rowZero_any n band _ hn hb0 hb2).mono ?_
      obtain ⟨R, hR⟩ : ∃ R, R = rowOf (zeros n band (2 * band + 1).toNat) := ⟨_, rfl⟩
      rw [← hR]
      rintro e w5 ⟨rfl, hB5⟩
      have HZ := tuck (zero_ok st ns n band hb0 hb2 HNL.out R hR)
      have HM := tuck (ms_start wq w0 n w0.heap.size w1.heap.size wb.heap.size (row0 n) _ _ R HB3.out C1.out hL.out C3.out (Nat.le_refl _) hl1 hlb hl4 w5 hB5 HZ.out.2.2)
      clear hB5 hR C1 C3 HB3 hL
      go_wp2
      obtain ⟨po, hpo⟩ : ∃ po, wq.heap.size = po := ⟨_, rfl⟩
      obtain ⟨pa, hpa⟩ : ∃ pa, w5.heap.size = pa := ⟨_, rfl⟩
      rw [hpo, hpa] at HM
      rw [hpo, hpa]
      have hl4' : wb.heap.size < po := by omega
      clear hpo hpa hl4 hl2
      go_loopw [11, 12, 13, 17] (fun d2 d1 d0 i wr => ∃ (i' g2 g1 g0 : Nat) (T0 O A : List Int), i' ≤ s.size ∧ i = .int .i64 ((i' : Int) + 1) ∧ d2 = .slice (some ⟨g2, 0, none⟩) (n + 1) (n + 1) ∧ d1 = .slice (some ⟨g1, 0, none⟩) (n + 1) (n + 1) ∧ d0 = .slice (some ⟨g0, 0, none⟩) (n + 1) (n + 1) ∧
          Hid (MS wr w0 n g2 g1 g0 po pa (tab st ns i').1 (tab st ns i').2 T0 O A) ∧ Hid (Holds st ns band i' (fnOf A)) ∧ Hid (1 ≤ i' → Holds st ns band (i' - 1) (fnOf O)) ∧ Hid (Small ((i' : Int) + 3) (fnOf A)) ∧ Hid (Small ((i' : Int) + 3) (fnOf O))) (fun _ _ _ i _ => s.size + 1 - (intOf i).toNat)
      case atStart =>
        refine ⟨0, _, _, _, List.replicate (n + 1) 0, [0, 0, 0, 0, 0], R, by omega, rfl, rfl, rfl, rfl, ?_, HZ.out.1, fun h => by omega, HZ.out.2.1, small_zero⟩
        have := HM.out
        rw [Hid, tab, HNL.out]
        exact this
      case round =>
        obtain ⟨i', g2, g1, g0, T0, O, A, hi', rfl, rfl, rfl, rfl, hM, hHA, hHO, hSA, hSO⟩ := hrel
        clear HM HZ
        by_cases hlt : i' < s.size
        · have hsb := sb_at s
          obtain ⟨c, hc⟩ : ∃ c, sb s i' = c := ⟨_, rfl⟩
          have hc0 : 0 ≤ c := by rw [← hc]; exact sb_lo s i'
          have hc1 : c ≤ 255 := by rw [← hc]; exact sb_hi s i'
          obtain ⟨pv, hpv⟩ : ∃ pv : Int, pv = if 1 ≤ i' then sb s (i' - 1) else 0 := ⟨_, rfl⟩
          have hp0 : 0 ≤ pv := by
            rw [hpv]
            split
            · exact sb_lo s _
            · omega
          have hp1 : pv ≤ 255 := by
            rw [hpv]
            split
            · exact sb_hi s _
            · omega
          have HPV := tuck hpv
          have hpx : i' - 1 < s.size := by omega
          clear hpv
          go_upto_if 91 with fail
          go_cut [19] (fun v wx => v = .int .u8 pv ∧ wr = wx)
          case first =>
            by_cases q1 : 1 ≤ i'
            · have d1 : decide ((1 : Int) < (i' : Int) + 1) = true := decide_eq_true (by omega)
              have hpe : sb s (i' + 1 - 2) = pv := by rw [HPV.out, if_pos q1, show i' + 1 - 2 = i' - 1 from by omega]
              have HPE := tuck hpe
              clear hpe
              go_wp2
              go_meet
              exact ⟨by rw [HPE.out], rfl⟩
            · have d1 : decide ((1 : Int) < (i' : Int) + 1) = false := decide_eq_false (by omega)
              have hpe : pv = 0 := by rw [HPV.out, if_neg q1]
              have HPE := tuck hpe
              clear hpe
              go_wp2
              go_meet
              exact ⟨by rw [HPE.out], rfl⟩
          case rest =>
            obtain ⟨rfl, rfl⟩ := hcut
            have tb1 := fun t => tab_bd st ns i' (by omega) (by rw [HNL.out]; exact hn) t
            have tb2 := fun t => tab_bd1 st ns i' (by omega) (by rw [HNL.out]; exact hn) t
            have B12 := osaRow_any s p n n ns i' g2 g1 g0 (tab st ns i').1 (tab st ns i').2 T0 w0 wr HS.out hM.out.below hM.out.l0 hM.out.b2 hM.out.b1 hM.out.b0 hM.out.n20 hM.out.n10 hn hlt hs (fun t => (tb2 t).1) (fun t => (tb2 t).2) (fun t => (tb1 t).1) (fun t => (tb1 t).2)
            have hrow : osaTo (sb s i') (sb s (i' - 1)) ns (i' + 1) (tab st ns i').1 (tab st ns i').2 n = (tab st ns (i' + 1)).2 := by
              rw [tab, HST.out, HST.out, HNL.out]
            rw [hrow] at B12
            obtain ⟨T, hT⟩ : ∃ T, (tab st ns (i' + 1)).2 = T := ⟨_, rfl⟩
            rw [hT] at B12
            have HT := tuck hT
            clear tb1 tb2 hrow hT
            go_wp2_with fail
            refine B12.mono ?_
            clear B12
            rintro e w6 ⟨rfl, hTu, hBk⟩
            have M6 := tuck (hM.out.row hTu hBk)
            clear hTu hBk hM
            have cO := fun t h => M6.out.bo.cell t h
            have cA := fun t h => M6.out.ba.cell t h
            have lO := M6.out.bo.len
            have lA := M6.out.ba.len
            have eO := of5_getD O lO
            have eA := of5_getD A lA
            obtain ⟨o0, f0⟩ : ∃ v, O.getD 0 0 = v := ⟨_, rfl⟩
            obtain ⟨o1, f1⟩ : ∃ v, O.getD 1 0 = v := ⟨_, rfl⟩
            obtain ⟨o2, f2⟩ : ∃ v, O.getD 2 0 = v := ⟨_, rfl⟩
            obtain ⟨o3, f3⟩ : ∃ v, O.getD 3 0 = v := ⟨_, rfl⟩
            obtain ⟨o4, f4⟩ : ∃ v, O.getD 4 0 = v := ⟨_, rfl⟩
            obtain ⟨a0, e0⟩ : ∃ v, A.getD 0 0 = v := ⟨_, rfl⟩
            obtain ⟨a1, e1⟩ : ∃ v, A.getD 1 0 = v := ⟨_, rfl⟩
            obtain ⟨a2, e2⟩ : ∃ v, A.getD 2 0 = v := ⟨_, rfl⟩
            obtain ⟨a3, e3⟩ : ∃ v, A.getD 3 0 = v := ⟨_, rfl⟩
            obtain ⟨a4, e4⟩ : ∃ v, A.getD 4 0 = v := ⟨_, rfl⟩
            rw [f0, f1, f2, f3, f4] at eO
            rw [e0, e1, e2, e3, e4] at eA
            have x0 := cO 0 (by omega)
            have x1 := cO 1 (by omega)
            have x2 := cO 2 (by omega)
            have x3 := cO 3 (by omega)
            have x4 := cO 4 (by omega)
            have y0 := cA 0 (by omega)
            have y1 := cA 1 (by omega)
            have y2 := cA 2 (by omega)
            have y3 := cA 3 (by omega)
            have y4 := cA 4 (by omega)
            rw [f0] at x0
            rw [f1] at x1
            rw [f2] at x2
            rw [f3] at x3
            rw [f4] at x4
            rw [e0] at y0
            rw [e1] at y1
            rw [e2] at y2
            rw [e3] at y3
            rw [e4] at y4
            have EA := tuck (And.intro e0 (And.intro e1 (And.intro e2 (And.intro e3 e4))))
            have LA := tuck lA
            have B13 := zzNext_any p n n ns band limit 1048576 o0 o1 o2 o3 o4 a0 a1 a2 a3 a4 ((i' : Int) + 1) c pv w6 (HS.out.below M6.out.below) (by omega) hb0 hb2 hc0 hc1 hp0 hp1
            have hwk : wrap64 (1048576 - (2 * band + 1)) = 1048576 - (2 * band + 1) := IntWalk.wrap64_in _ ⟨by omega, by omega⟩
            rw [hwk, eO, eA, rowR, reachR, if_pos (by omega), if_pos (by omega)] at B13
            have hprev : 1 ≤ i' → pv = st.getD (i' - 1) 0 := fun h => by rw [HPV.out, if_pos h, HST.out]
            have hcst : st.getD i' 0 = c := by rw [HST.out, hc]
            obtain ⟨R, hR⟩ : ∃ R, R = rowOf (cells ns band ((i' : Int) + 1) c pv (fnOf O) (fnOf A) (2 * band + 1).toNat) := ⟨_, rfl⟩
            obtain ⟨rc, hrc⟩ : ∃ rc, near (cells ns band ((i' : Int) + 1) c pv (fnOf O) (fnOf A) (2 * band + 1).toNat) limit = rc := ⟨_, rfl⟩
            have RO := row_ok st ns band limit i' pv O A hb0 hb2 hlim (by rw [HNL.out]; exact hn) (by omega) hprev hHA.out hHO.out hSA.out hSO.out R (by rw [hcst]; exact hR)
            rw [hcst, hrc, HT.out] at RO
            rw [← hR, hrc] at B13
            have HRO := tuck RO
            clear RO hR hrc hcst hprev hwk eO eA cO cA lO lA f0 f1 f2 f3 f4 e0 e1 e2 e3 e4
            go_wp2_with fail
            refine B13.mono ?_
            clear B13
            rintro e w7 ⟨rfl, hB7⟩
            have M7 := tuck (M6.out.grow hB7)
            have hbl := blk_new w7 26 R HRO.out.2.2.1
            have hM8 := M7.out.grow ((Below.refl _ _).alloc (Nat.le_refl _) (.cells #[.int .i64 (R.getD 0 0), .int .i64 (R.getD 1 0), .int .i64 (R.getD 2 0), .int .i64 (R.getD 3 0), .int .i64 (R.getD 4 0)] 26))
            obtain ⟨r0, k0⟩ : ∃ v, R.getD 0 0 = v := ⟨_, rfl⟩
            obtain ⟨r1, k1⟩ : ∃ v, R.getD 1 0 = v := ⟨_, rfl⟩
            obtain ⟨r2, k2⟩ : ∃ v, R.getD 2 0 = v := ⟨_, rfl⟩
            obtain ⟨r3, k3⟩ : ∃ v, R.getD 3 0 = v := ⟨_, rfl⟩
            obtain ⟨r4, k4⟩ : ∃ v, R.getD 4 0 = v := ⟨_, rfl⟩
            rw [k0, k1, k2, k3, k4] at hbl hM8
            rw [k0, k1, k2, k3, k4]
            have ER := tuck (And.intro k0 (And.intro k1 (And.intro k2 (And.intro k3 k4))))
            have M8 := tuck hM8
            have HBL := tuck hbl
            have hpo := M7.out.ho
            have hpa := M7.out.ha
            have hg0 := M7.out.h0
            clear hB7 hbl hM8 M6 M7 k0 k1 k2 k3 k4 x0 x1 x2 x3 x4 y0 y1 y2 y3 y4
            go_wp2
            have hsz8 : w7.heap.size < (w7.alloc (.cells #[.int .i64 r0, .int .i64 r1, .int .i64 r2, .int .i64 r3, .int .i64 r4] 26)).heap.size := by simp
            obtain ⟨pr, hpr⟩ : ∃ pr, w7.heap.size = pr := ⟨_, rfl⟩
            rw [hpr] at HBL hpo hpa hg0 hsz8
            rw [hpr]
            have HSZ := tuck hsz8
            clear hpr hsz8
            go_loopw [23] (fun k wr => ∃ kk : Nat, (kk : Int) ≤ 2 * band + 1 ∧ k = .int .i64 kk ∧ Hid (MS wr w0 n g2 g1 g0 po pa (tab st ns i').1 (tab st ns i').2 T O A) ∧ Hid (Blk wr pr 5 R) ∧ Hid (pr < wr.heap.size)) (fun k _ => (2 * band + 1 - intOf k).toNat)
            case atStart => exact ⟨0, by omega, rfl, M8, HBL, HSZ⟩
            case round =>
              obtain ⟨k, hk, rfl, hM, hBR, hszr⟩ := hrel
              by_cases hkl : (k : Int) < 2 * band + 1
              · by_cases h1 : (i' : Int) + 1 + k - band < 0
                · go_wp2
                  go_roundw
                  case rel => exact ⟨k + 1, by omega, by go_num, hM, hBR, hszr⟩
                  case measure => simp [intOf]; omega
                · have h1' : decide ((i' : Int) + 1 + k - band < 0) = false := decide_eq_false h1
                  by_cases h2 : (n : Int) < (i' : Int) + 1 + k - band
                  · go_wp2
                    go_roundw
                    case rel => exact ⟨k + 1, by omega, by go_num, hM, hBR, hszr⟩
                    case measure => simp [intOf]; omega
                  · obtain ⟨jj, hjj⟩ := Int.eq_ofNat_of_zero_le (show 0 ≤ (i' : Int) + 1 + k - band by omega)
                    have hjn : jj < n + 1 := by omega
                    have hj0 : decide ((jj : Int) < 0) = false := decide_eq_false (by omega)
                    have hj1 : decide ((n : Int) < (jj : Int)) = false := decide_eq_false (by omega)
                    have hk5 : k < 5 := by omega
                    have hrl := HRO.out.1 k jj hkl (by omega) (by rw [HNL.out]; omega)
                    unfold D fnOf at hrl
                    rw [HT.out] at hrl
                    have ct := hM.out.b0.cell jj hjn
                    have cr := hBR.out.cell k hk5
                    obtain ⟨tv, htv⟩ : ∃ tv, T.getD jj 0 = tv := ⟨_, rfl⟩
                    obtain ⟨rv, hrv⟩ : ∃ rv, R.getD k 0 = rv := ⟨_, rfl⟩
                    rw [htv] at ct hrl
                    rw [hrv] at cr hrl
                    unfold Rel at hrl
                    clear htv hrv
                    by_cases h3 : tv ≤ band
                    · obtain rfl : rv = tv := by omega
                      clear hrl
                      go_wp2
                      go_quiet (fail)
                      go_wp2
                      go_roundw
                      case rel => exact ⟨k + 1, by omega, by go_num, hM.out.drewN _, hBR.out.drewN _, hszr⟩
                      case measure => simp [intOf]; omega
                    · have h3' : decide (tv ≤ band) = false := decide_eq_false h3
                      have h4 : band < rv := by omega
                      have h4' : decide (rv ≤ band) = false := decide_eq_false (by omega)
                      clear hrl
                      go_wp2
                      go_roundw
                      case rel => exact ⟨k + 1, by omega, by go_num, hM, hBR, hszr⟩
                      case measure => simp [intOf]; omega
              · obtain ⟨wo, rfl⟩ : ∃ wo : World, wo = wr := ⟨_, rfl⟩
                clear M8 HBL HSZ
                go_wp2
                go_loopw [25, 26] (fun want j wr => ∃ kk : Nat, kk ≤ n + 1 ∧ j = .int .i64 kk ∧ want = .bool (near (T.take kk) limit) ∧ wo = wr) (fun _ j _ => n + 1 - (intOf j).toNat)
                case atStart => exact ⟨0, by omega, rfl, rfl, rfl⟩
                case round =>
                  obtain ⟨k2, hk2, rfl, rfl, rfl⟩ := hrel
                  by_cases hk2l : k2 < n + 1
                  · have ct := hM.out.b0.cell k2 hk2l
                    have hsn : near (T.take (k2 + 1)) limit = (near (T.take k2) limit || decide (T.getD k2 0 ≤ limit)) := by rw [take_snoc T k2 (by rw [hM.out.b0.len]; exact hk2l), near_snoc]
                    obtain ⟨tv, htv⟩ : ∃ tv, T.getD k2 0 = tv := ⟨_, rfl⟩
                    rw [htv] at ct hsn
                    clear htv
                    by_cases h3 : tv ≤ limit
                    · rw [decide_eq_true h3, Bool.or_true] at hsn
                      have HSN := tuck hsn
                      clear hsn
                      go_wp2
                      go_roundw
                      case rel => exact ⟨k2 + 1, by omega, by go_num, by rw [HSN.out], trivial⟩
                      case measure => simp [intOf]; omega
                    · have h3' : decide (tv ≤ limit) = false := decide_eq_false h3
                      rw [h3', Bool.or_false] at hsn
                      have HSN := tuck hsn
                      clear hsn
                      go_wp2
                      go_roundw
                      case rel => exact ⟨k2 + 1, by omega, by go_num, by rw [HSN.out], trivial⟩
                      case measure => simp [intOf]; omega
                  · have hwant : near (T.take k2) limit = rc := by
                      rw [List.take_of_length_le (by rw [hM.out.b0.len]; omega)]
                      exact HRO.out.2.2.2.symm
                    rw [hwant]
                    clear hwant
                    obtain ⟨e0, e1, e2, e3, e4⟩ := EA.out
                    obtain ⟨k0', k1', k2', k3', k4'⟩ := ER.out
                    have y0 := hM.out.ba.cell 0 (by omega)
                    have y1 := hM.out.ba.cell 1 (by omega)
                    have y2 := hM.out.ba.cell 2 (by omega)
                    have y3 := hM.out.ba.cell 3 (by omega)
                    have y4 := hM.out.ba.cell 4 (by omega)
                    rw [e0] at y0
                    rw [e1] at y1
                    rw [e2] at y2
                    rw [e3] at y3
                    rw [e4] at y4
                    have z0 := hBR.out.cell 0 (by omega)
                    have z1 := hBR.out.cell 1 (by omega)
                    have z2 := hBR.out.cell 2 (by omega)
                    have z3 := hBR.out.cell 3 (by omega)
                    have z4 := hBR.out.cell 4 (by omega)
                    rw [k0'] at z0
                    rw [k1'] at z1
                    rw [k2'] at z2
                    rw [k3'] at z3
                    rw [k4'] at z4
                    have x0 := hM.out.bo.cell 0 (by omega)
                    have x1 := hM.out.bo.cell 1 (by omega)
                    have x2 := hM.out.bo.cell 2 (by omega)
                    have x3 := hM.out.bo.cell 3 (by omega)
                    have x4 := hM.out.bo.cell 4 (by omega)
                    have fo0 := hM.out.bo.free 0 (by omega)
                    have fo1 := hM.out.bo.free 1 (by omega)
                    have fo2 := hM.out.bo.free 2 (by omega)
                    have fo3 := hM.out.bo.free 3 (by omega)
                    have fo4 := hM.out.bo.free 4 (by omega)
                    have fa0 := hM.out.ba.free 0 (by omega)
                    have fa1 := hM.out.ba.free 1 (by omega)
                    have fa2 := hM.out.ba.free 2 (by omega)
                    have fa3 := hM.out.ba.free 3 (by omega)
                    have fa4 := hM.out.ba.free 4 (by omega)
                    have noa := hM.out.noa
                    have noa' : pa ≠ po := Ne.symm noa
                    have nor : pr ≠ po := by omega
                    have nar : pr ≠ pa := by omega
                    have hfin := ((hM.out.setO A LA.out).setA R HRO.out.2.2.1).turn
                    unfold five at hfin
                    rw [e0, e1, e2, e3, e4, k0', k1', k2', k3', k4'] at hfin
                    have HF := tuck hfin
                    clear hfin e0 e1 e2 e3 e4 k0' k1' k2' k3' k4'
                    go_wp2
                    go_roundw
                    case rel =>
                      refine ⟨i' + 1, g1, g0, g2, (tab st ns i').1, A, R, by omega, by go_num, rfl, rfl, rfl, ?_, HRO.out.1, fun _ => hHA.out, HRO.out.2.1, small_mono hSA.out (by omega)⟩
                      have := HF.out
                      rw [Hid, tab_fst, HT.out]
                      exact this
                    case measure => simp [intOf]; omega
        · go_wp2
          go_ret
          exact ⟨rfl, HBw.out.trans (hM.out.below.mono HBw.out.size)⟩

end Go.Proofs.Qxb6600935aMods.B
