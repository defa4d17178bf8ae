/-
  THE CONTRACT OF zzRowZero.
-/
import Derived.Test.Qxb6600935aModsBand
import Derived.Test.Qxb6600935aModsZZ
namespace Go.Proofs.Qxb6600935aMods.B
open Go.ChangeShapes Go.WideShapes Go.ChangeAt Go.RowKit
open Go.Proofs.Qxb6600935aMods.Pl

/-- Cell k of row 0. -/
def zeroAt (n : Nat) (band : Int) (k : Nat) : Int := if 0 ≤ (k : Int) - band ∧ (k : Int) - band ≤ n then (k : Int) - band else band + 1
def zeros (n : Nat) (band : Int) : Nat → List Int
  | 0 => []
  | k + 1 => zeros n band k ++ [zeroAt n band k]
theorem length_zeros (n : Nat) (band : Int) (k : Nat) : (zeros n band k).length = k := by
  induction k with
  | zero => rfl
  | succ k ih => simp [zeros, ih]

/-- WHAT zzRowZero LEAVES. -/
def RZPost (w : World) (R : List Int) (e : Ending) (w' : World) : Prop :=
  e = .returned (.agg #[.int .i64 (R.getD 0 0), .int .i64 (R.getD 1 0), .int .i64 (R.getD 2 0), .int .i64 (R.getD 3 0), .int .i64 (R.getD 4 0)]) ∧ Below w.heap.size w w'

/-- A block of five ints. -/
structure Five (W : World) (Q : Nat) (L : List Int) : Prop where
  cell : ∀ t, t < 5 → W.cell? ⟨Q, t, none⟩ = some (.int .i64 (L.getD t 0))
  free : ∀ t, t < 5 → W.frozen? ⟨Q, t, none⟩ = false
theorem Five.set {W : World} {Q : Nat} {L : List Int} (h : Five W Q L) (hL : L.length = 5) (k : Nat) (hk : k < 5) (v : Int) : Five (W.setCell ⟨Q, k, none⟩ (.int .i64 v)) Q (L.set k v) := by
  refine ⟨fun t ht => ?_, fun t ht => by simpa using h.free t ht⟩
  by_cases htk : t = k
  · subst htk
    rw [World.cell?_setCell_same W _ _ (h.cell t ht)]
    simp [List.getD, hL, ht]
  · rw [World.cell?_setCell_other W _ _ _ (by simp <;> omega), h.cell t ht]
    simp only [List.getD]
    rw [List.getElem?_set_ne (by omega)]
theorem Five.keep {W W' : World} {Q B : Nat} {L : List Int} (h : Five W Q L) (hb : Below B W W') (hQ : Q < B) : Five W' Q L :=
  ⟨fun t ht => (hb.cell (p := ⟨Q, t, none⟩) hQ).trans (h.cell t ht), fun t ht => (hb.frozen (p := ⟨Q, t, none⟩) hQ).trans (h.free t ht)⟩

theorem below_start2 (w : World) (A B : Obj) : Below w.heap.size w ((w.alloc A).alloc B) := ((Below.refl _ _).alloc (Nat.le_refl _) _).alloc (by simp) _
theorem five_start (w : World) (ty : TypeId) (Z : Array Value) (hZ : Z = #[.int .i64 0, .int .i64 0, .int .i64 0, .int .i64 0, .int .i64 0]) :
    Five ((w.alloc (.cells Z ty)).alloc (.cells Z ty)) w.heap.size [0, 0, 0, 0, 0] ∧ Five ((w.alloc (.cells Z ty)).alloc (.cells Z ty)) (w.heap.size + 1) [0, 0, 0, 0, 0] := by
  have five : ∀ t, t < 5 → t = 0 ∨ t = 1 ∨ t = 2 ∨ t = 3 ∨ t = 4 := fun t ht => by omega
  subst hZ
  refine ⟨⟨fun t ht => ?_, fun t ht => ?_⟩, ⟨fun t ht => ?_, fun t ht => ?_⟩⟩
  · rw [World.cell?_alloc_past _ _ _ (by simp), World.cell?_alloc_at _ _ _ _ rfl]; rcases five t ht with rfl | rfl | rfl | rfl | rfl <;> rfl
  · rw [World.frozen?_alloc_past _ _ _ (by simp), World.frozen?_alloc_at _ _ _ _ rfl]
  · rw [World.cell?_alloc_at _ _ _ _ (by simp)]; rcases five t ht with rfl | rfl | rfl | rfl | rfl <;> rfl
  · rw [World.frozen?_alloc_at _ _ _ _ (by simp)]

set_option maxRecDepth 100000 in
set_option maxHeartbeats 1000000 in
theorem rowZero_any (n : Nat) (band : Int) (w : World) (hn : n ≤ 4096) (hb0 : 0 ≤ band) (hb2 : band ≤ 2) :
    Calls Trym.prog 11 #[.int .i64 n, .int .i64 band] w (RZPost w (rowOf (zeros n band (2 * band + 1).toNat))) := by
  have S := five_start w 26 _ rfl
  have HS := tuck S
  clear S
  go_enter Trym.func11, Trym.ntmps11
  go_wp2
  go_loopw [6] (fun i wr => ∃ k : Nat, (k : Int) ≤ 2 * band + 1 ∧ i = .int .i64 k ∧ Hid (Five wr w.heap.size [0, 0, 0, 0, 0]) ∧ Hid (Five wr (w.heap.size + 1) (rowOf (zeros n band k))) ∧ Hid (Below w.heap.size w wr)) (fun i _ => (2 * band + 1 - intOf i).toNat)
  case atStart => exact ⟨0, by omega, rfl, HS.out.1, HS.out.2, below_start2 w _ _⟩
  case round =>
    obtain ⟨k, hk, rfl, hF, hR, hB⟩ := hrel
    by_cases hlt : (k : Int) < 2 * band + 1
    · have hlz := length_zeros n band k
      have hR2 := fun v => hR.out.set (length_rowOf _ (by rw [hlz]; omega)) k (by omega) v
      have hsn := fun v => rowOf_snoc (zeros n band k) v (by rw [hlz]; omega)
      rw [hlz] at hsn
      have hF2 : ∀ v, Five (wr.setCell ⟨w.heap.size + 1, k, none⟩ (.int .i64 v)) w.heap.size [0, 0, 0, 0, 0] := fun v =>
        ⟨fun t ht => by rw [World.cell?_setCell_other _ _ _ _ (by simp <;> omega)]; exact hF.out.cell t ht, fun t ht => by simpa using hF.out.free t ht⟩
      have hu := hR.out.cell k (by omega)
      obtain ⟨u, hu'⟩ : ∃ u, wr.cell? ⟨w.heap.size + 1, k, none⟩ = some u := ⟨_, hu⟩
      have hf := hR.out.free k (by omega)
      have H2 := tuck hR2
      have HSN := tuck hsn
      have HF2 := tuck hF2
      clear hu hR2 hsn hF2 hlz
      by_cases h0 : 0 ≤ (k : Int) - band
      · by_cases h1 : (k : Int) - band ≤ n
        · have hz : zeroAt n band k = (k : Int) - band := if_pos ⟨h0, h1⟩
          have HZ := tuck hz
          clear hz
          go_wp2
          go_roundw
          case rel => exact ⟨k + 1, by omega, by go_num, HF2.out _, by rw [Hid, zeros, ← HSN.out, HZ.out]; exact H2.out _, hB.out.setCell (p := ⟨w.heap.size + 1, k, none⟩) (by simp) _⟩
          case measure => simp [intOf]; omega
        · have hz : zeroAt n band k = band + 1 := if_neg (fun h => h1 h.2)
          have h1' : decide ((k : Int) - band ≤ n) = false := decide_eq_false h1
          have HZ := tuck hz
          clear hz
          go_wp2
          go_roundw
          case rel => exact ⟨k + 1, by omega, by go_num, HF2.out _, by rw [Hid, zeros, ← HSN.out, HZ.out]; exact H2.out _, hB.out.setCell (p := ⟨w.heap.size + 1, k, none⟩) (by simp) _⟩
          case measure => simp [intOf]; omega
      · have hz : zeroAt n band k = band + 1 := if_neg (fun h => h0 h.1)
        have h0' : decide (0 ≤ (k : Int) - band) = false := decide_eq_false h0
        have HZ := tuck hz
        clear hz
        go_wp2
        go_roundw
        case rel => exact ⟨k + 1, by omega, by go_num, HF2.out _, by rw [Hid, zeros, ← HSN.out, HZ.out]; exact H2.out _, hB.out.setCell (p := ⟨w.heap.size + 1, k, none⟩) (by simp) _⟩
        case measure => simp [intOf]; omega
    · have ek : (2 * band + 1).toNat = k := by omega
      have EK := tuck ek
      clear ek
      obtain ⟨R, hRR⟩ : ∃ R, R = rowOf (zeros n band k) := ⟨_, rfl⟩
      rw [← hRR] at hR
      have HRR := tuck hRR
      clear hRR
      have c0 := hR.out.cell 0 (by omega)
      have c1 := hR.out.cell 1 (by omega)
      have c2 := hR.out.cell 2 (by omega)
      have c3 := hR.out.cell 3 (by omega)
      have c4 := hR.out.cell 4 (by omega)
      have r0 := hF.out.cell 0 (by omega)
      have r1 := hF.out.cell 1 (by omega)
      have r2 := hF.out.cell 2 (by omega)
      have r3 := hF.out.cell 3 (by omega)
      have r4 := hF.out.cell 4 (by omega)
      have f0 := hF.out.free 0 (by omega)
      have f1 := hF.out.free 1 (by omega)
      have f2 := hF.out.free 2 (by omega)
      have f3 := hF.out.free 3 (by omega)
      have f4 := hF.out.free 4 (by omega)
      obtain ⟨v0, e0⟩ : ∃ v, R.getD 0 0 = v := ⟨_, rfl⟩
      obtain ⟨v1, e1⟩ : ∃ v, R.getD 1 0 = v := ⟨_, rfl⟩
      obtain ⟨v2, e2⟩ : ∃ v, R.getD 2 0 = v := ⟨_, rfl⟩
      obtain ⟨v3, e3⟩ : ∃ v, R.getD 3 0 = v := ⟨_, rfl⟩
      obtain ⟨v4, e4⟩ : ∃ v, R.getD 4 0 = v := ⟨_, rfl⟩
      rw [e0] at c0
      rw [e1] at c1
      rw [e2] at c2
      rw [e3] at c3
      rw [e4] at c4
      have EE := tuck (And.intro e0 (And.intro e1 (And.intro e2 (And.intro e3 e4))))
      clear e0 e1 e2 e3 e4
      go_wp2
      refine bodyPost_ret (v := .agg #[.int .i64 v0, .int .i64 v1, .int .i64 v2, .int .i64 v3, .int .i64 v4]) (by simp [results, Trym.results11, go_sem, r0, r1, r2, r3, r4]) rfl ⟨?_, ?_⟩
      · obtain ⟨e0, e1, e2, e3, e4⟩ := EE.out
        rw [EK.out, ← HRR.out, e0, e1, e2, e3, e4]
      · exact ((((hB.out.setCell (p := ⟨w.heap.size, 0, none⟩) (by simp) _).setCell (p := ⟨w.heap.size, 1, none⟩) (by simp) _).setCell (p := ⟨w.heap.size, 2, none⟩) (by simp) _).setCell (p := ⟨w.heap.size, 3, none⟩) (by simp) _).setCell (p := ⟨w.heap.size, 4, none⟩) (by simp) _

end Go.Proofs.Qxb6600935aMods.B
