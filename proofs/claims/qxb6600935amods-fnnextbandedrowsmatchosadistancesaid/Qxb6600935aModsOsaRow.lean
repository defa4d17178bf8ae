/-
  THE CONTRACT OF zzOSARow.
-/
import Derived.Test.Qxb6600935aModsBlk
namespace Go.Proofs.Qxb6600935aMods.B
open Go.ChangeShapes Go.WideShapes Go.ChangeAt Go.RowKit
open Go.Proofs.Qxb6600935aMods.Pl

theorem osa_at (a p : Int) (ns : List Int) (i' : Nat) (d2 d1 : List Int) (left : Int) (jn : Nat) (r1 x0 x1 v0 v1 v2 : Int) (hr1 : ns.getD jn 0 = r1) (hx0 : d1.getD jn 0 = x0) (hx1 : d1.getD (jn + 1) 0 = x1)
    (hv0 : (if r1 = a then x0 else x0 + 1) = v0) (hv1 : (if x1 + 1 < v0 then x1 + 1 else v0) = v1) (hv2 : (if left + 1 < v1 then left + 1 else v1) = v2) :
    osaStep a p ns (i' + 1) d2 d1 left (jn + 1) = if 1 < i' + 1 ∧ 1 < jn + 1 ∧ ns.getD (jn - 1) 0 = a ∧ r1 = p ∧ d2.getD (jn - 1) 0 + 1 < v2 then d2.getD (jn - 1) 0 + 1 else v2 := by
  have e2 : jn + 1 - 2 = jn - 1 := by omega
  simp only [osaStep, Nat.add_sub_cancel, e2, hr1, hx0, hx1, hv0, hv1, hv2]

set_option maxRecDepth 100000 in
set_option maxHeartbeats 1000000 in
theorem osaRow_any (s : ByteArray) (an : Option Addr) (n cn : Nat) (ns : List Int) (i' g2 g1 g0 : Nat) (L2 L1 L0 : List Int) (w0 w : World) (hS : Sl w0 an n ns) (hB : Below w0.heap.size w0 w) (hz : w0.heap.size ≤ g0)
    (h2 : Blk w g2 (n + 1) L2) (h1 : Blk w g1 (n + 1) L1) (h0 : Blk w g0 (n + 1) L0) (n20 : g2 ≠ g0) (n10 : g1 ≠ g0) (hn : n ≤ 4096) (hi : i' < s.size) (hs : s.size ≤ 4096)
    (v2lo : ∀ t, 0 ≤ L2.getD t 0) (v2hi : ∀ t, L2.getD t 0 ≤ 9000) (v1lo : ∀ t, 0 ≤ L1.getD t 0) (v1hi : ∀ t, L1.getD t 0 ≤ 9000) :
    Calls Trym.prog 12 #[.string s, .slice an n cn, .int .i64 ((i' : Int) + 1), .slice (some ⟨g2, 0, none⟩) (n + 1) (n + 1), .slice (some ⟨g1, 0, none⟩) (n + 1) (n + 1), .slice (some ⟨g0, 0, none⟩) (n + 1) (n + 1)] w
      (OsaPost w g0 (n + 1) (osaTo (sb s i') (sb s (i' - 1)) ns (i' + 1) L2 L1 n)) := by
  have hsb := sb_at s
  obtain ⟨a, ha⟩ : ∃ a, sb s i' = a := ⟨_, rfl⟩
  obtain ⟨p, hp⟩ : ∃ p, sb s (i' - 1) = p := ⟨_, rfl⟩
  rw [ha, hp]
  have ha0 : 0 ≤ a := by rw [← ha]; exact sb_lo s i'
  have ha1 : a ≤ 255 := by rw [← ha]; exact sb_hi s i'
  have hp0 : 0 ≤ p := by rw [← hp]; exact sb_lo s _
  have hp1 : p ≤ 255 := by rw [← hp]; exact sb_hi s _
  obtain ⟨u, hu⟩ : ∃ u, w.cell? ⟨g0, 0, none⟩ = some u := ⟨_, h0.cell 0 (by omega)⟩
  have hf := h0.free 0 (by omega)
  have hpos : 0 < n + 1 := by omega
  have HS := tuck hS
  have HB := tuck hB
  have H2 := tuck h2
  have H1 := tuck h1
  have H0 := tuck h0
  have V2 := tuck (And.intro v2lo v2hi)
  have V1 := tuck (And.intro v1lo v1hi)
  have HP := tuck hp
  have hpx : i' - 1 < s.size := by omega
  clear hS hB h2 h1 h0 v2lo v2hi v1lo v1hi
  go_enter Trym.func12, Trym.ntmps12
  go_wp2
  have HB0 : Hid (Blk (w.setCell ⟨g0, 0, none⟩ (.int .i64 ((i' : Int) + 1))) g0 (n + 1) (L0.set 0 ((i' : Int) + 1))) := H0.out.set 0 (by omega) _
  have HT0 : Hid (Turned g0 w (w.setCell ⟨g0, 0, none⟩ (.int .i64 ((i' : Int) + 1)))) := (Turned.refl g0 w).set 0 _
  have HK0 : Hid ((L0.set 0 ((i' : Int) + 1)).take (0 + 1) = osaTo a p ns (i' + 1) L2 L1 0) := by
    have hl := H0.out.len
    cases L0 with
    | nil => simp at hl
    | cons x xs => simp [Hid, osaTo]
  clear hu hf
  go_loopw [13] (fun j wr => ∃ (jn : Nat) (L : List Int), jn ≤ n ∧ j = .int .i64 ((jn : Int) + 1) ∧ Hid (Blk wr g0 (n + 1) L) ∧ Hid (L.take (jn + 1) = osaTo a p ns (i' + 1) L2 L1 jn) ∧ Hid (Turned g0 w wr)) (fun j _ => (n + 1 - (intOf j).toNat))
  case atStart => exact ⟨0, _, by omega, rfl, HB0, HK0, HT0⟩
  case round =>
    obtain ⟨jn, L, hj, rfl, hL, hT, hTu⟩ := hrel
    by_cases hlt : jn < n
    · obtain ⟨b, off, rfl, hbg, hcell⟩ : ∃ b off, an = some ⟨b, off, none⟩ ∧ b ≠ g0 ∧ ∀ t, t < n → wr.cell? ⟨b, off + t, none⟩ = some (.int .i32 (ns.getD t 0)) := by
        obtain ⟨b, off, e, hb, hc⟩ := HS.out.2 (by omega)
        have hbg : b ≠ g0 := by omega
        exact ⟨b, off, e, hbg, fun t ht => (hTu.out.cells b (off + t) hbg).trans ((HB.out.cell (p := ⟨b, off + t, none⟩) hb).trans (hc t ht))⟩
      have K1 := tuck (H1.out.turned hTu.out n10)
      have K2 := tuck (H2.out.turned hTu.out n20)
      have Hcell := tuck hcell
      have hc1 := hcell jn hlt
      clear hcell
      obtain ⟨r1, hr1⟩ : ∃ r1, ns.getD jn 0 = r1 := ⟨_, rfl⟩
      rw [hr1] at hc1
      have cx0 := K1.out.cell jn (by omega)
      obtain ⟨x0, hx0⟩ : ∃ x0, L1.getD jn 0 = x0 := ⟨_, rfl⟩
      rw [hx0] at cx0
      have bx0 : 0 ≤ x0 ∧ x0 ≤ 9000 := by rw [← hx0]; exact ⟨V1.out.1 jn, V1.out.2 jn⟩
      have cx1 := K1.out.cell (jn + 1) (by omega)
      obtain ⟨x1, hx1⟩ : ∃ x1, L1.getD (jn + 1) 0 = x1 := ⟨_, rfl⟩
      rw [hx1] at cx1
      have bx1 : 0 ≤ x1 ∧ x1 ≤ 9000 := by rw [← hx1]; exact ⟨V1.out.1 (jn + 1), V1.out.2 (jn + 1)⟩
      have clf := hL.out.cell jn (by omega)
      have elf : L.getD jn 0 = (osaTo a p ns (i' + 1) L2 L1 jn).getD jn 0 := by
        rw [← hT.out]
        simp only [List.getD]
        rw [List.getElem?_take_of_lt (by omega)]
      obtain ⟨lf, hlf⟩ : ∃ lf, L.getD jn 0 = lf := ⟨_, rfl⟩
      rw [hlf] at clf elf
      have blf : 0 ≤ lf ∧ lf ≤ 9000 := by
        have := osaTo_bd a p ns (i' + 1) L2 L1 V2.out.1 V1.out.1 jn
        rw [elf]
        omega
      obtain ⟨u, hu⟩ : ∃ u, wr.cell? ⟨g0, jn + 1, none⟩ = some u := ⟨_, hL.out.cell (jn + 1) (by omega)⟩
      have hf := hL.out.free (jn + 1) (by omega)
      have hj1 : jn < n + 1 := by omega
      have hj2 : jn + 1 < n + 1 := by omega
      have HR1 := tuck hr1
      have HX0 := tuck hx0
      have HX1 := tuck hx1
      have ELF := tuck elf
      obtain ⟨bx0l, bx0h⟩ := bx0
      obtain ⟨bx1l, bx1h⟩ := bx1
      obtain ⟨blfl, blfh⟩ := blf
      clear hr1 hx0 hx1 elf hlf
      go_upto_if 41 with fail
      go_cut [14] (fun v wx => v = .int .i64 (if r1 = a then x0 else x0 + 1) ∧ wr = wx)
      case first =>
        by_cases hc : r1 = a
        · have hcb : (r1 == a) = true := by simpa using hc
          have HC := tuck hc
          clear hc
          go_wp2
          go_meet
          exact ⟨by rw [if_pos HC.out], rfl⟩
        · have hcb : (r1 == a) = false := by simpa using hc
          have HC := tuck hc
          clear hc
          go_wp2
          go_meet
          exact ⟨by rw [if_neg HC.out], rfl⟩
      case rest =>
        obtain ⟨rfl, rfl⟩ := hcut
        obtain ⟨v0, hv0⟩ : ∃ v0 : Int, (if r1 = a then x0 else x0 + 1) = v0 := ⟨_, rfl⟩
        have bv0 : 0 ≤ v0 ∧ v0 ≤ 9001 := by rw [← hv0]; split <;> omega
        rw [hv0]
        have HV0 := tuck hv0
        clear hv0
        go_upto_if 53 with fail
        go_cut [14] (fun v wx => v = .int .i64 (if x1 + 1 < v0 then x1 + 1 else v0) ∧ wr = wx)
        case first =>
          by_cases hc : x1 + 1 < v0
          · have HC := tuck hc
            go_wp2
            go_meet
            exact ⟨by rw [if_pos HC.out], rfl⟩
          · have HC := tuck hc
            have hcb : decide (x1 + 1 < v0) = false := decide_eq_false hc
            go_wp2
            go_meet
            exact ⟨by rw [if_neg (by have := HC.out; omega)], rfl⟩
        case rest =>
          obtain ⟨rfl, rfl⟩ := hcut
          obtain ⟨v1, hv1⟩ : ∃ v1 : Int, (if x1 + 1 < v0 then x1 + 1 else v0) = v1 := ⟨_, rfl⟩
          have bv1 : 0 ≤ v1 ∧ v1 ≤ 9001 := by rw [← hv1]; split <;> omega
          rw [hv1]
          have HV1 := tuck hv1
          clear hv1
          go_upto_if 66 with fail
          go_cut [14] (fun v wx => v = .int .i64 (if lf + 1 < v1 then lf + 1 else v1) ∧ wr = wx)
          case first =>
            by_cases hc : lf + 1 < v1
            · have HC := tuck hc
              go_wp2
              go_meet
              exact ⟨by rw [if_pos HC.out], rfl⟩
            · have HC := tuck hc
              have hcb : decide (lf + 1 < v1) = false := decide_eq_false hc
              go_wp2
              go_meet
              exact ⟨by rw [if_neg (by have := HC.out; omega)], rfl⟩
          case rest =>
            obtain ⟨rfl, rfl⟩ := hcut
            obtain ⟨v2, hv2⟩ : ∃ v2 : Int, (if lf + 1 < v1 then lf + 1 else v1) = v2 := ⟨_, rfl⟩
            have bv2 : 0 ≤ v2 ∧ v2 ≤ 9001 := by rw [← hv2]; split <;> omega
            rw [hv2]
            have hst := osa_at a p ns i' L2 L1 lf jn r1 x0 x1 v0 v1 v2 HR1.out HX0.out HX1.out HV0.out HV1.out hv2
            obtain ⟨r2, hr2⟩ : ∃ r2, ns.getD (jn - 1) 0 = r2 := ⟨_, rfl⟩
            obtain ⟨y0, hy0⟩ : ∃ y0, L2.getD (jn - 1) 0 = y0 := ⟨_, rfl⟩
            rw [hr2, hy0] at hst
            obtain ⟨E, hE⟩ : ∃ E, osaStep a p ns (i' + 1) L2 L1 lf (jn + 1) = E := ⟨_, rfl⟩
            rw [hE] at hst
            have hfin : ∀ q, Blk ((wr.drewN q).setCell ⟨g0, jn + 1, none⟩ (.int .i64 E)) g0 (n + 1) (L.set (jn + 1) E) := fun q => (hL.out.drewN q).set (jn + 1) hj2 E
            have hfin2 : (L.set (jn + 1) E).take (jn + 1 + 1) = osaTo a p ns (i' + 1) L2 L1 (jn + 1) := by
              rw [take_set2 L _ jn (n + 1) E hL.out.len hj2 hT.out, osaTo, ← ELF.out, hE]
            have hfin3 : ∀ q, Turned g0 w ((wr.drewN q).setCell ⟨g0, jn + 1, none⟩ (.int .i64 E)) := fun q => (hTu.out.drewN q).set (jn + 1) _
            have F1 := tuck hfin
            have F2 := tuck hfin2
            have F3 := tuck hfin3
            have HST := tuck hst
            have by0 : 0 ≤ y0 ∧ y0 ≤ 9000 := by rw [← hy0]; exact ⟨V2.out.1 _, V2.out.2 _⟩
            have hc2 := fun h => Hcell.out (jn - 1) h
            rw [hr2] at hc2
            have HC2 := tuck hc2
            have cy := K2.out.cell (jn - 1) (by omega)
            rw [hy0] at cy
            have CY := tuck cy
            clear hv2 hst hE hfin hfin2 hfin3 hr2 hy0 hc2 cy
            by_cases q1 : 1 ≤ i'
            · have d1 : decide ((1 : Int) < (i' : Int) + 1) = true := decide_eq_true (by omega)
              by_cases q2 : 1 ≤ jn
              · have d2 : decide ((1 : Int) < (jn : Int) + 1) = true := decide_eq_true (by omega)
                have hc2 := HC2.out (by omega)
                have cy := CY.out
                have q2a : jn - 1 < n := by omega
                have q2b : jn - 1 < n + 1 := by omega
                by_cases q3 : r2 = a
                · have q3' : (r2 == a) = true := by simpa using q3
                  by_cases q4 : r1 = p
                  · have q4' : (r1 == p) = true := by simpa using q4
                    by_cases q5 : y0 + 1 < v2
                    · have hE : y0 + 1 = E := by rw [HST.out, if_pos ⟨by omega, by omega, q3, q4, q5⟩]
                      have q5' : decide (y0 + 1 < v2) = true := decide_eq_true q5
                      subst hE
                      clear q3 q4
                      go_wp2
                      go_quiet (fail)
                      go_wp2
                      go_roundw
                      case rel => exact ⟨jn + 1, _, by omega, by go_num, F1.out _, F2.out, F3.out _⟩
                      case measure => simp [intOf]; omega
                    · have hE : v2 = E := by rw [HST.out, if_neg (fun h => q5 h.2.2.2.2)]
                      have q5' : decide (y0 + 1 < v2) = false := decide_eq_false q5
                      subst hE
                      clear q3 q4
                      go_wp2
                      go_quiet (fail)
                      go_wp2
                      go_roundw
                      case rel => exact ⟨jn + 1, _, by omega, by go_num, F1.out _, F2.out, F3.out _⟩
                      case measure => simp [intOf]; omega
                  · have q4' : (r1 == p) = false := by simpa using q4
                    have hE : v2 = E := by rw [HST.out, if_neg (fun h => q4 h.2.2.2.1)]
                    subst hE
                    clear q3 q4
                    go_wp2
                    go_quiet (fail)
                    go_wp2
                    go_roundw
                    case rel => exact ⟨jn + 1, _, by omega, by go_num, F1.out _, F2.out, F3.out _⟩
                    case measure => simp [intOf]; omega
                · have q3' : (r2 == a) = false := by simpa using q3
                  have hE : v2 = E := by rw [HST.out, if_neg (fun h => q3 h.2.2.1)]
                  subst hE
                  clear q3
                  go_wp2
                  go_quiet (fail)
                  go_wp2
                  go_roundw
                  case rel => exact ⟨jn + 1, _, by omega, by go_num, F1.out _, F2.out, F3.out _⟩
                  case measure => simp [intOf]; omega
              · have d2 : decide ((1 : Int) < (jn : Int) + 1) = false := decide_eq_false (by omega)
                have hE : v2 = E := by rw [HST.out, if_neg (fun h => by omega)]
                subst hE
                go_wp2
                go_quiet (fail)
                go_wp2
                go_roundw
                case rel => exact ⟨jn + 1, _, by omega, by go_num, F1.out _, F2.out, F3.out _⟩
                case measure => simp [intOf]; omega
            · have d1 : decide ((1 : Int) < (i' : Int) + 1) = false := decide_eq_false (by omega)
              have hE : v2 = E := by rw [HST.out, if_neg (fun h => by omega)]
              subst hE
              go_wp2
              go_quiet (fail)
              go_wp2
              go_roundw
              case rel => exact ⟨jn + 1, _, by omega, by go_num, F1.out _, F2.out, F3.out _⟩
              case measure => simp [intOf]; omega
    · have ej : jn = n := by omega
      subst ej
      have hfull : L = osaTo a p ns (i' + 1) L2 L1 jn := by
        rw [← hT.out, List.take_of_length_le (by rw [hL.out.len]; omega)]
      have HF := tuck hfull
      clear hfull
      go_wp2
      go_end0
      refine ⟨rfl, hTu.out, ?_⟩
      rw [← HF.out]
      exact hL.out

end Go.Proofs.Qxb6600935aMods.B
