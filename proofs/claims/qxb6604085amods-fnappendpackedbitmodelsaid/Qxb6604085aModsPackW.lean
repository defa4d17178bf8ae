/-
  THE WALK OF appendPacked.
-/
import Derived.Test.Qxb6604085aModsPack
import Derived.Test.Qxb6604085aModsBits
namespace Go.Proofs.Qxb6604085aMods.B
open Go.ChangeShapes Go.WideShapes Go.ChangeAt Go.RowKit
open Go.Proofs.Qxb6604085aMods.Pl

/-- The k-th packed byte. -/
def byteAt (zs : List Int) (k : Nat) : Int :=
  128 * zs.getD (8 * k) 0 + 64 * zs.getD (8 * k + 1) 0 + 32 * zs.getD (8 * k + 2) 0 + 16 * zs.getD (8 * k + 3) 0 + 8 * zs.getD (8 * k + 4) 0 + 4 * zs.getD (8 * k + 5) 0 + 2 * zs.getD (8 * k + 6) 0 + zs.getD (8 * k + 7) 0
def packed (zs : List Int) (k : Nat) : List Int := (List.range k).map (byteAt zs)

/-- The length in a slot: a loop's measure. -/
def lenOf : Value → Nat
  | .slice _ m _ => m
  | _ => 0

theorem length_packed (zs : List Int) (k : Nat) : (packed zs k).length = k := by simp [packed]
theorem packed_succ (zs : List Int) (k : Nat) : packed zs (k + 1) = packed zs k ++ [byteAt zs k] := by simp [packed, List.range_succ]

/-- The first j bits of f, as a number. -/
def pre (f : Nat → Int) : Nat → Int
  | 0 => 0
  | j + 1 => 2 * pre f j + f j
theorem pre_bd (f : Nat → Int) (hf : ∀ i, 0 ≤ f i ∧ f i ≤ 1) (j : Nat) : 0 ≤ pre f j ∧ pre f j + 1 ≤ 2 ^ j := by
  induction j with
  | zero => simp [pre]
  | succ j ih =>
    have := hf j
    simp only [pre, Int.pow_succ]
    omega
/-- What the last byte holds behind j bits. -/
def last (f : Nat → Int) (j : Nat) : Int := 2 ^ (8 - j) * pre f j
theorem last_bd (f : Nat → Int) (hf : ∀ i, 0 ≤ f i ∧ f i ≤ 1) (j : Nat) (hj : j ≤ 8) : 0 ≤ last f j ∧ last f j ≤ 255 := by
  have h := pre_bd f hf j
  unfold last
  match j, hj with
  | 0, _ => omega
  | 1, _ => omega
  | 2, _ => omega
  | 3, _ => omega
  | 4, _ => omega
  | 5, _ => omega
  | 6, _ => omega
  | 7, _ => omega
  | 8, _ => omega
theorem last_succ (f : Nat → Int) (hf : ∀ i, 0 ≤ f i ∧ f i ≤ 1) (j : Nat) (hj : j < 8) : bits .or .u8 (last f j) (f j * 2 ^ (7 - j)) = last f (j + 1) := by
  have h := pre_bd f hf j
  have hz := hf j
  have e := or_one (7 - j) (pre f j) (f j) (by omega) h.1 hz.1 hz.2 (by
    match j, hj with
    | 0, _ => omega
    | 1, _ => omega
    | 2, _ => omega
    | 3, _ => omega
    | 4, _ => omega
    | 5, _ => omega
    | 6, _ => omega
    | 7, _ => omega)
  unfold last
  rw [show 8 - j = 7 - j + 1 from by omega, e, show 8 - (j + 1) = 7 - j from by omega]
  rfl
theorem last_full (zs : List Int) (k m : Nat) (hm : m < 8) (h : zs.length = m + 8 * k) : last (fun i => zs.getD (8 * k + i) 0) m = byteAt zs k := by
  have out : ∀ i, m ≤ i → zs.getD (8 * k + i) 0 = 0 := fun i hi => by simp [List.getD, List.getElem?_eq_none (show zs.length ≤ 8 * k + i by omega)]
  unfold last byteAt
  match m, hm with
  | 0, _ => simp only [pre, out 1 (by omega), out 2 (by omega), out 3 (by omega), out 4 (by omega), out 5 (by omega), out 6 (by omega), out 7 (by omega)]; have := out 0 (by omega); simp only [Nat.add_zero] at this ⊢; omega
  | 1, _ => simp only [pre, out 1 (by omega), out 2 (by omega), out 3 (by omega), out 4 (by omega), out 5 (by omega), out 6 (by omega), out 7 (by omega), Nat.add_zero]; omega
  | 2, _ => simp only [pre, out 2 (by omega), out 3 (by omega), out 4 (by omega), out 5 (by omega), out 6 (by omega), out 7 (by omega), Nat.add_zero]; omega
  | 3, _ => simp only [pre, out 3 (by omega), out 4 (by omega), out 5 (by omega), out 6 (by omega), out 7 (by omega), Nat.add_zero]; omega
  | 4, _ => simp only [pre, out 4 (by omega), out 5 (by omega), out 6 (by omega), out 7 (by omega), Nat.add_zero]; omega
  | 5, _ => simp only [pre, out 5 (by omega), out 6 (by omega), out 7 (by omega), Nat.add_zero]; omega
  | 6, _ => simp only [pre, out 6 (by omega), out 7 (by omega), Nat.add_zero]; omega
  | 7, _ => simp only [pre, out 7 (by omega), Nat.add_zero]; omega

theorem shl_id (z : Int) (j : Nat) (hj : j < 8) (h0 : 0 ≤ z) (h1 : z ≤ 1) : z * 2 ^ (7 - j) % 256 = z * 2 ^ (7 - j) := by
  match j, hj with
  | 0, _ => omega
  | 1, _ => omega
  | 2, _ => omega
  | 3, _ => omega
  | 4, _ => omega
  | 5, _ => omega
  | 6, _ => omega
  | 7, _ => omega

/-- s, k bytes further on. -/
def Rest (ao : Option Addr) (b off k m : Nat) : Prop := 0 < m → ao = some ⟨b, off + 8 * k, none⟩

set_option maxRecDepth 100000 in
set_option maxHeartbeats 3200000 in
theorem packed_walk (ao : Option Addr) (n0 : Nat) (bs : List Int) (sa : Option Addr) (n c : Nat) (zs : List Int) (w : World) (hb : Sl w ao n0 bs) (hbn : ao = none → n0 = 0) (hS : Sl w sa n zs) (hnc : n ≤ c)
    (hn : n ≤ 1048576) (hn0 : n0 ≤ 1048576) (hbits : Bits zs) :
    Calls Trym.prog 24 #[.slice ao n0 n0, .slice sa n c] w fun e w' => ∃ v, e = .returned v ∧ Bs w ao n0 bs w' v (bs ++ packed zs ((n + 7) / 8)) := by
  obtain ⟨hlen0, hc⟩ := hS
  have Hb := tuck hb
  have HB := tuck hbits
  have Hlen := tuck hlen0
  have Hlb := tuck hb.1
  clear hb hbits hlen0
  go_enter Trym.func24, Trym.ntmps24
  go_wp2
  go_loopw [0, 1] (fun v s wr => ∃ (k m c' : Nat) (a' : Option Addr), s = .slice a' m c' ∧ m + 8 * k = n ∧ m ≤ c' ∧ (0 < m → ∃ b off, sa = some ⟨b, off, none⟩ ∧ a' = some ⟨b, off + 8 * k, none⟩) ∧ Hid (Bs w ao n0 bs wr v (bs ++ packed zs k)))
    (fun _ s _ => lenOf s)
  case atStart => exact ⟨0, n, c, sa, rfl, by omega, hnc, fun h => by obtain ⟨b, off, e, _⟩ := hc h; exact ⟨b, off, e, e⟩, (⟨Below.refl _ _, .inl ⟨rfl, by simp [packed]⟩⟩ : Bs w ao n0 bs w _ _)⟩
  case round =>
    obtain ⟨k, m, c', a', rfl, hm, hmc, ha, hBs⟩ := hrel
    by_cases h8 : 8 ≤ m
    · obtain ⟨b, off, rfl, rfl⟩ := ha (by omega)
      obtain ⟨b2, off2, e2, hbw, hcell⟩ := hc (by omega)
      obtain ⟨rfl, rfl⟩ : b = b2 ∧ off = off2 := by simpa using e2
      clear e2 hc
      have hBel := hBs.out.1
      have cc : ∀ i, i < 8 → ∃ z, World.cell? _ ⟨b, off + 8 * k + i, none⟩ = some (.int .u8 z) ∧ z = zs.getD (8 * k + i) 0 ∧ 0 ≤ z ∧ z ≤ 1 := fun i hi =>
        ⟨_, (hBel.cell (p := ⟨b, off + 8 * k + i, none⟩) hbw).trans (by rw [Nat.add_assoc]; exact hcell (8 * k + i) (by omega)), rfl, by have := HB.out.at (8 * k + i); omega, by have := HB.out.at (8 * k + i); omega⟩
      obtain ⟨o, ho⟩ : ∃ o, o = off + 8 * k := ⟨_, rfl⟩
      rw [← ho] at cc ⊢
      have HO := tuck ho
      clear ho hcell
      obtain ⟨z0, c0, e0, p0, r0⟩ := cc 0 (by omega)
      obtain ⟨z1, c1, e1, p1, r1⟩ := cc 1 (by omega)
      obtain ⟨z2, c2, e2, p2, r2⟩ := cc 2 (by omega)
      obtain ⟨z3, c3, e3, p3, r3⟩ := cc 3 (by omega)
      obtain ⟨z4, c4, e4, p4, r4⟩ := cc 4 (by omega)
      obtain ⟨z5, c5, e5, p5, r5⟩ := cc 5 (by omega)
      obtain ⟨z6, c6, e6, p6, r6⟩ := cc 6 (by omega)
      obtain ⟨z7, c7, e7, p7, r7⟩ := cc 7 (by omega)
      rw [Nat.add_zero] at c0
      have E := tuck (And.intro e0 (And.intro e1 (And.intro e2 (And.intro e3 (And.intro e4 (And.intro e5 (And.intro e6 e7)))))))
      clear e0 e1 e2 e3 e4 e5 e6 e7 cc hBel
      have i0 : (0 : Int) < (m : Int) := by omega
      have i1 : (1 : Int) < (m : Int) := by omega
      have i2 : (2 : Int) < (m : Int) := by omega
      have i3 : (3 : Int) < (m : Int) := by omega
      have i4 : (4 : Int) < (m : Int) := by omega
      have i5 : (5 : Int) < (m : Int) := by omega
      have i6 : (6 : Int) < (m : Int) := by omega
      have i7 : (7 : Int) < (m : Int) := by omega
      have hm0 : 0 < m := by omega
      have hm8 : (8 : Int) ≤ (m : Int) := by omega
      go_wp2
      have hsz : (bs ++ packed zs k).length ≤ 2097152 := by rw [List.length_append, Hlb.out, length_packed]; omega
      have HSZ := tuck hsz
      clear hsz
      go_region_held3 (fun w' => w'.cell? ⟨b, o, none⟩ = some (.int .u8 z0) ∧ w'.cell? ⟨b, o + 1, none⟩ = some (.int .u8 z1) ∧ w'.cell? ⟨b, o + 2, none⟩ = some (.int .u8 z2) ∧ w'.cell? ⟨b, o + 3, none⟩ = some (.int .u8 z3)
         ∧ w'.cell? ⟨b, o + 4, none⟩ = some (.int .u8 z4) ∧ w'.cell? ⟨b, o + 5, none⟩ = some (.int .u8 z5) ∧ w'.cell? ⟨b, o + 6, none⟩ = some (.int .u8 z6) ∧ w'.cell? ⟨b, o + 7, none⟩ = some (.int .u8 z7))
        (first
          | go_keep
          | (refine ⟨?_, ?_, ?_, ?_, ?_, ?_, ?_, ?_⟩ <;> ((first | rw [hB'.1.cell (p := ⟨b, o, none⟩) hbw, ← hBs.out.1.cell (p := ⟨b, o, none⟩) hbw] | rw [hB'.1.cell (p := ⟨b, o + 1, none⟩) hbw, ← hBs.out.1.cell (p := ⟨b, o + 1, none⟩) hbw] | rw [hB'.1.cell (p := ⟨b, o + 2, none⟩) hbw, ← hBs.out.1.cell (p := ⟨b, o + 2, none⟩) hbw] | rw [hB'.1.cell (p := ⟨b, o + 3, none⟩) hbw, ← hBs.out.1.cell (p := ⟨b, o + 3, none⟩) hbw] | rw [hB'.1.cell (p := ⟨b, o + 4, none⟩) hbw, ← hBs.out.1.cell (p := ⟨b, o + 4, none⟩) hbw] | rw [hB'.1.cell (p := ⟨b, o + 5, none⟩) hbw, ← hBs.out.1.cell (p := ⟨b, o + 5, none⟩) hbw] | rw [hB'.1.cell (p := ⟨b, o + 6, none⟩) hbw, ← hBs.out.1.cell (p := ⟨b, o + 6, none⟩) hbw] | rw [hB'.1.cell (p := ⟨b, o + 7, none⟩) hbw, ← hBs.out.1.cell (p := ⟨b, o + 7, none⟩) hbw]); assumption)))
        ((refine step_byte w ao n0 bs Hb.out hbn ?_ (.tmp 11) (.tmp 50) ?_ u0 (bs ++ packed zs k) wr.heap.size (bits .or .u8 (bits .or .u8 (bits .or .u8 (bits .or .u8 (bits .or .u8 (bits .or .u8 (bits .or .u8 (IntKind.u8.wrap (z0 * 128)) (IntKind.u8.wrap (z1 * 64))) (IntKind.u8.wrap (z2 * 32))) (IntKind.u8.wrap (z3 * 16))) (IntKind.u8.wrap (z4 * 8))) (IntKind.u8.wrap (z5 * 4))) (IntKind.u8.wrap (z6 * 2))) z7) ?_ ?_ ?_ ?_ HSZ.out ?_; exact rfl; exact rfl; exact rfl; exact rfl; exact (hBs.out.alloc _).drew; (simp); intro v' w' hB'))
      go_wp2
      go_roundw
      case rel =>
        refine ⟨k + 1, m - 8, c' - 8, _, rfl, by omega, by omega, ?_, ?_⟩
        · intro h
          refine ⟨b, off, rfl, ?_⟩
          rw [if_neg (by omega), HO.out, show off + 8 * k + 8 = off + 8 * (k + 1) from by omega]
        · have e := pack8 z0 z1 z2 z3 z4 z5 z6 z7 p0 r0 p1 r1 p2 r2 p3 r3 p4 r4 p5 r5 p6 r6 p7 r7
          obtain ⟨e0, e1, e2, e3, e4, e5, e6, e7⟩ := E.out
          have e9 : byteAt zs k = (bits .or .u8 (bits .or .u8 (bits .or .u8 (bits .or .u8 (bits .or .u8 (bits .or .u8 (bits .or .u8 (IntKind.u8.wrap (z0 * 128)) (IntKind.u8.wrap (z1 * 64))) (IntKind.u8.wrap (z2 * 32))) (IntKind.u8.wrap (z3 * 16))) (IntKind.u8.wrap (z4 * 8))) (IntKind.u8.wrap (z5 * 4))) (IntKind.u8.wrap (z6 * 2))) z7) := by
            rw [e, byteAt, e0, e1, e2, e3, e4, e5, e6, e7]; rfl
          rw [packed_succ, ← List.append_assoc, e9]
          exact hB'
      case measure => simp [lenOf]; omega
    · have hm8 : m < 8 := by omega
      clear h8
      by_cases h0 : m = 0
      · subst h0
        go_wp2
        go_ret
        refine ⟨_, rfl, ?_⟩
        rw [show (n + 7) / 8 = k from by omega]
        exact hBs
      · have hm0 : 0 < m := by omega
        clear h0
        obtain ⟨b, off, rfl, rfl⟩ := ha hm0
        obtain ⟨b2, off2, e2, hbw, hcell⟩ := hc (by omega)
        obtain ⟨rfl, rfl⟩ : b = b2 ∧ off = off2 := by simpa using e2
        clear e2 hc ha
        obtain ⟨f, hf⟩ : ∃ f : Nat → Int, f = fun i => zs.getD (8 * k + i) 0 := ⟨_, rfl⟩
        have hcf : ∀ i, i < m → World.cell? _ ⟨b, off + 8 * k + i, none⟩ = some (.int .u8 (f i)) := fun i hi =>
          (hBs.out.1.cell (p := ⟨b, off + 8 * k + i, none⟩) hbw).trans (by rw [Nat.add_assoc, hf]; exact hcell (8 * k + i) (by omega))
        have hf01 : ∀ i, 0 ≤ f i ∧ f i ≤ 1 := fun i => by have := HB.out.at (8 * k + i); rw [hf]; simp only; omega
        have HF := tuck hf
        have HC := tuck hcf
        have HF01 := tuck hf01
        obtain ⟨o, ho⟩ : ∃ o, o = off + 8 * k := ⟨_, rfl⟩
        rw [← ho] at HC ⊢
        clear hf hcf hf01 hcell ho
        go_wp2
        go_loop [5, 59] (fun l i => ∃ j : Nat, j ≤ m ∧ i = .int .i64 j ∧ l = .int .u8 (last f j)) (fun _ i => m - (intOf i).toNat)
        case atStart => exact ⟨0, Nat.zero_le _, rfl, rfl⟩
        case round =>
          obtain ⟨j, hj, rfl, rfl⟩ := hrel
          have hlb := last_bd f HF01.out j (by omega)
          obtain ⟨l, hl⟩ : ∃ l, l = last f j := ⟨_, rfl⟩
          rw [← hl] at hlb ⊢
          have HLL := tuck hl
          have hl0 : 0 ≤ l := hlb.1
          have hl1 : l ≤ 255 := hlb.2
          clear hl hlb
          by_cases hlt : j < m
          · have hck := HC.out j hlt
            have hz := HF01.out j
            obtain ⟨z, ez⟩ : ∃ z, z = f j := ⟨_, rfl⟩
            rw [← ez] at hck hz
            have HZ := tuck ez
            have hz0 : 0 ≤ z := hz.1
            have hz1 : z ≤ 1 := hz.2
            clear hz ez
            go_wp2
            go_round
            case rel => exact ⟨j + 1, by omega, by go_num, by rw [← last_succ f HF01.out j (by omega), ← HZ.out, ← HLL.out, shl_id z j (by omega) hz0 hz1]⟩
            case measure => simp [intOf]; omega
          · obtain rfl : j = m := by omega
            have hsz : (bs ++ packed zs k).length ≤ 2097152 := by rw [List.length_append, Hlb.out, length_packed]; omega
            have HSZ := tuck hsz
            clear hsz
            go_wp2_with (at_builtin; refine list_byte w ao n0 bs Hb.out hbn rfl (.tmp 71) (.tmp 73) rfl u0 (bs ++ packed zs k) wr.heap.size l rfl rfl (hBs.out.alloc _) (by simp) HSZ.out ?_; intro v' w' hB')
            go_ret
            refine ⟨_, rfl, ?_⟩
            rw [show (n + 7) / 8 = k + 1 from by omega, packed_succ, ← List.append_assoc, ← last_full zs k j (by omega) (by rw [Hlen.out]; omega), ← HF.out, ← HLL.out]
            exact hB'

end Go.Proofs.Qxb6604085aMods.B
