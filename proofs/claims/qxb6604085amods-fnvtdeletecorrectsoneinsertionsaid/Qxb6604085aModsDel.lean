/-
  THE CONTRACT OF vtDelete: it gives a deletion of one bit whose syndrome is a, or nil where there is none.
-/
import Derived.Test.Qxb6604085aModsIns
namespace Go.Proofs.Qxb6604085aMods.B
open Go.ChangeShapes Go.WideShapes Go.ChangeAt Go.RowKit
open Go.Proofs.Qxb6604085aMods.Pl

/-- The excess: taken from the sum it gives x. -/
theorem excess_ok (S T x m k : Int) (h : S = T + m * k) : (S - (T % m + m - x % m) % m) % m = x % m := by
  have h1 := Int.mul_ediv_add_emod T m
  have h2 := Int.mul_ediv_add_emod x m
  have h3 := Int.mul_ediv_add_emod (T % m + m - x % m) m
  have e : S - (T % m + m - x % m) % m = x % m + m * (k + T / m - 1 + (T % m + m - x % m) / m) := by
    rw [Int.mul_add, Int.mul_sub, Int.mul_add, Int.mul_one]
    omega
  rw [e, Int.add_mul_emod_self_left, Int.emod_emod]

theorem ws_del_low (y : List Int) (i : Nat) (h : i < y.length) : ws 1 (del y i) = ws 1 y - low y i := by
  have := ws_del y i h
  unfold low
  omega
theorem sub_close {S d e x m : Int} (h : (S - e) % m = x % m) (h2 : (S - d) % m = x % m) (h3 : d - e < m) (h4 : e - d < m) : d = e := by
  have := emod_close (h2.trans h.symm) (by omega) (by omega)
  omega

/-- The last bit, whichever it is. -/
theorem del_last (y : List Int) (hy : Bits y) (l : Nat) (hl : y.length = l + 1) (x : Int) (h : (ws 1 y - 0) % ((l : Int) + 1) = x % ((l : Int) + 1)) : ws 1 (del y l) % ((l : Int) + 1) = x % ((l : Int) + 1) := by
  rw [ws_del_low y l (by omega), ← h]
  have hd : y.drop (l + 1) = [] := List.drop_eq_nil_of_le (by omega)
  rcases hy.at l with hz | hz
  · rw [low_zero y l hz, hd]; rfl
  · rw [low_one y l (by omega) hz]
    have h1 := sm_split y l
    have h2 := sm_drop y l (by omega)
    rw [hd, hz] at h2
    simp only [sm] at h2
    rw [show ws 1 y - (sm y + ((l : Int) - sm (y.take l))) = ws 1 y - 0 + ((l : Int) + 1) * (-1) from by omega, Int.add_mul_emod_self_left]
/-- The first bit, whichever it is. -/
theorem del_first (y : List Int) (hy : Bits y) (hl : 0 < y.length) (m x : Int) (h : (ws 1 y - sm y) % m = x % m) : ws 1 (del y 0) % m = x % m := by
  rw [ws_del_low y 0 hl, ← h]
  have h1 := sm_drop y 0 hl
  rw [List.drop_zero] at h1
  congr 1
  rcases hy.at 0 with hz | hz
  · rw [low_zero y 0 hz]; rw [hz] at h1; omega
  · rw [low_one y 0 hl hz]; simp [sm]
/-- A zero with e ones behind it. -/
theorem del_lo_hit (y : List Int) (i : Nat) (hi : i < y.length) (m x e : Int) (h : (ws 1 y - e) % m = x % m) (hz : y.getD i 0 = 0) (hs : sm (y.drop (i + 1)) = e) : ws 1 (del y i) % m = x % m := by
  rw [ws_del_low y i hi, low_zero y i hz, hs, h]
/-- A one with e less the weight zeros ahead of it. -/
theorem del_hi_hit (y : List Int) (i : Nat) (hi : i < y.length) (m x e : Int) (h : (ws 1 y - e) % m = x % m) (hz : y.getD i 0 = 1) (hs : (i : Int) - sm (y.take i) = e - sm y) : ws 1 (del y i) % m = x % m := by
  rw [ws_del_low y i hi, low_one y i hi hz, hs, ← h]
  congr 1
  omega
theorem del_lo_none (y : List Int) (hy : Bits y) (x e : Int) (h : (ws 1 y - e) % (y.length : Int) = x % (y.length : Int)) (h0 : 0 < e) (hW : e < sm y)
    (hn : ∀ i, i < y.length → ¬ (y.getD i 0 = 0 ∧ sm (y.drop (i + 1)) = e)) : ∀ i, i < y.length → ws 1 (del y i) % (y.length : Int) ≠ x % (y.length : Int) := by
  intro i hi hc
  rw [ws_del_low y i hi] at hc
  have W := sm_bd hy
  rcases low_bd y hy i hi with ⟨hz, b1, b2, b3⟩ | ⟨hz, b1, b2, b3⟩
  · have e1 := sub_close h hc (by omega) (by omega)
    rw [low_zero y i hz] at e1
    exact hn i hi ⟨hz, e1⟩
  · have e1 := sub_close h hc (by omega) (by omega)
    omega
theorem del_hi_none (y : List Int) (hy : Bits y) (x e : Int) (h : (ws 1 y - e) % (y.length : Int) = x % (y.length : Int)) (h1 : e < y.length) (hW : sm y < e)
    (hn : ∀ i, i < y.length → ¬ (y.getD i 0 = 1 ∧ (i : Int) - sm (y.take i) = e - sm y)) : ∀ i, i < y.length → ws 1 (del y i) % (y.length : Int) ≠ x % (y.length : Int) := by
  intro i hi hc
  rw [ws_del_low y i hi] at hc
  have W := sm_bd hy
  rcases low_bd y hy i hi with ⟨hz, b1, b2, b3⟩ | ⟨hz, b1, b2, b3⟩
  · have e1 := sub_close h hc (by omega) (by omega)
    omega
  · have e1 := sub_close h hc (by omega) (by omega)
    rw [low_one y i hi hz] at e1
    exact hn i hi ⟨hz, by omega⟩

theorem i64_wrap_id (n : Int) (h0 : 0 ≤ n) (h1 : n ≤ 9223372036854775807) : IntKind.i64.wrap n = n := by
  simp [IntKind.wrap, IntKind.bits, IntKind.signed]
  omega

theorem del_parts (zs : List Int) (l i : Nat) (h : zs.length = l + 1) : zs.take i ++ (zs.drop (i + 1)).take (l - i) = del zs i := by
  have e : (zs.drop (i + 1)).take (l - i) = zs.drop (i + 1) := List.take_of_length_le (by rw [List.length_drop, h]; omega)
  rw [e, del]

/-- WHAT vtDelete LEAVES: a deletion of one bit whose syndrome is x (not nil), or nil where there is none. -/
def DelPost (w : World) (n : Nat) (x : Int) (zs : List Int) (e : Ending) (w' : World) : Prop :=
  Below w.heap.size w w' ∧ ((e = .returned (.slice none 0 0) ∧ ∀ i, i < n → ws 1 (del zs i) % (n : Int) ≠ x % (n : Int)) ∨
    ∃ (g m cp i : Nat), e = .returned (.slice (some ⟨g, 0, none⟩) m cp) ∧ i < n ∧ Own w' w.heap.size (.slice (some ⟨g, 0, none⟩) m cp) (del zs i) ∧ ws 1 (del zs i) % (n : Int) = x % (n : Int))

/-- What is known as the walk begins: the slice y of l + 1 bits; d the excess; W the weight. -/
structure DelIn (b off l c : Nat) (x : Int) (zs : List Int) (w : World) (s z d W W0 : Int) : Prop where
  len : zs.length = l + 1
  there : b < w.heap.size
  cells : ∀ i, i < l + 1 → w.cell? ⟨b, off + i, none⟩ = some (.int .u8 (zs.getD i 0))
  cap : l + 1 ≤ c
  small : l + 1 ≤ 1048580
  bits : Bits zs
  x0 : 0 ≤ x
  x1 : x ≤ 18446744073709551615
  call : Calls Trym.prog 27 #[.slice (some ⟨b, off, none⟩) l c, .int .u64 ((l : Int) + 1)] w fun e w' => e = .returned (.tuple #[.int .u64 s, .int .u64 W0]) ∧ w' = w
  s0 : 0 ≤ s
  s1 : s < (l : Int) + 1
  last : w.cell? ⟨b, off + l, none⟩ = some (.int .u8 z)
  z0 : 0 ≤ z
  z1 : z ≤ 1
  W00 : 0 ≤ W0
  W01 : W0 ≤ l
  weight : W0 + z = W
  sum : W = sm zs
  d0 : 0 ≤ d
  d1 : d < (l : Int) + 1
  def_d : (s + ((l : Int) + 1) - x % ((l : Int) + 1)) % ((l : Int) + 1) = d
  ok : (ws 1 zs - d) % ((l : Int) + 1) = x % ((l : Int) + 1)

theorem delIn (b off l c : Nat) (x : Int) (zs : List Int) (w : World) (hlen : zs.length = l + 1) (hbw : b < w.heap.size) (hcell : ∀ i, i < l + 1 → w.cell? ⟨b, off + i, none⟩ = some (.int .u8 (zs.getD i 0)))
    (hnc : l + 1 ≤ c) (hn : l + 1 ≤ 1048580) (hbits : Bits zs) (hx0 : 0 ≤ x) (hx1 : x ≤ 18446744073709551615) : ∃ s z d W W0, DelIn b off l c x zs w s z d W W0 := by
  have hlt : (zs.take l).length = l := by simp; omega
  have hS : Sl w (some ⟨b, off, none⟩) l (zs.take l) := ⟨hlt, fun _ => ⟨b, off, rfl, hbw, fun i hi => by
    rw [hcell i (by omega)]; simp only [List.getD]; rw [List.getElem?_take_of_lt hi]⟩⟩
  have C := vtSum_any (some ⟨b, off, none⟩) l c ((l : Int) + 1) (zs.take l) w hS (by omega) (hbits.take l) (by omega) (by omega)
  have hb := sm_bd (hbits.take l)
  have hz := hbits.at l
  have hsp := sm_split zs l
  have hdr := sm_drop zs l (by omega)
  have hd0 : zs.drop (l + 1) = [] := List.drop_eq_nil_of_le (by omega)
  rw [hd0] at hdr
  simp only [sm] at hdr
  have hw : ws 1 zs = ws 1 (zs.take l) + ((l : Int) + 1) * zs.getD l 0 := by
    have h1 := ws_split 1 zs l (by omega)
    rw [drop_cons zs l (by omega), hd0] at h1
    simp only [ws] at h1
    rw [show (1 : Int) + (l : Int) = (l : Int) + 1 from by omega] at h1
    omega
  exact ⟨ws 1 (zs.take l) % ((l : Int) + 1), zs.getD l 0, _, sm zs, sm (zs.take l), hlen, hbw, hcell, hnc, hn, hbits, hx0, hx1, C, Int.emod_nonneg _ (by omega), Int.emod_lt_of_pos _ (by omega), hcell l (by omega), by omega, by omega, hb.1, by rw [hlt] at hb; exact hb.2,
    by omega, rfl, Int.emod_nonneg _ (by omega), Int.emod_lt_of_pos _ (by omega), rfl, excess_ok _ _ _ _ _ hw⟩

set_option maxHeartbeats 1000000 in
theorem vtDelete_zero (b off l c : Nat) (x : Int) (zs : List Int) (w : World) (s z d W W0 : Int) (h : DelIn b off l c x zs w s z d W W0) (hc : d = 0) :
    Calls Trym.prog 26 #[.slice (some ⟨b, off, none⟩) (l + 1) c, .int .u64 x] w (DelPost w (l + 1) x zs) := by
  obtain ⟨i0, hi, hz0, hz1, hz2⟩ := info_parts info5
  have HH := tuck h
  have Hlen := tuck h.len
  have HB := tuck h.bits
  have Hcell := tuck h.cells
  have hbw := h.there
  have hnc := h.cap
  have hn := h.small
  have hx0 := h.x0
  have hx1 := h.x1
  have hs0 := h.s0
  have hs1 := h.s1
  have hla := h.last
  have hzz0 := h.z0
  have hzz1 := h.z1
  have hW00 := h.W00
  have hW01 := h.W01
  have hwt := h.weight
  have hd0 := h.d0
  have hd1 := h.d1
  have hd := h.def_d
  have hr0 : 0 ≤ x % ((l : Int) + 1) := Int.emod_nonneg _ (by omega)
  have hr1 : x % ((l : Int) + 1) < (l : Int) + 1 := Int.emod_lt_of_pos _ (by omega)
  have j1 : (l : Int) ≤ (c : Int) := by omega
  clear h
  subst hc
  have k1 : ((l : Int) + 1) ≤ (c : Int) := by omega
  go_enter Trym.func26, Trym.ntmps26
  go_wp2_with (first | (go_at_call 27; refine HH.out.call.mono ?_; rintro e w1 ⟨rfl, hw1⟩; obtain rfl := hw1.symm) | (at_make; refine wpList_make_own _ rfl _ _ 22 rfl w.heap.size 5 i0 _ 1 Trym.underlying22 hi hz0 hz1 .i64 .i64 _ l rfl rfl (by omega) (by rw [hz2]; omega) (by unfold maxLen; omega) (Nat.le_refl _) ?_; intro w2 hown hgrow))
  have hb1 : Below w.heap.size w w2 := (Below.refl _ _).grown hgrow (Nat.le_refl _) (by simp)
  have hst : Hid (St w w.heap.size w.heap.size l b off zs w2 0 []) := ⟨hown, Nat.le_refl _, fun _ => by omega, fun _ => by have := hb1.size; omega, fun i hi => (hb1.cell (p := ⟨b, off + i, none⟩) hbw).trans (Hcell.out i (by rw [← Hlen.out]; exact hi)), hb1.size, hb1⟩
  clear hown hgrow hb1
  have e1 : Hid ([] ++ (zs.drop 0).take l = zs.take l) := by simp [Hid]
  have e3 : Hid (zs.take l ++ (zs.drop (l + 1)).take 0 = del zs l) := by
    have := del_parts zs l l Hlen.out
    simpa [Hid] using this
  have wr1 : IntKind.i64.wrap (((l : Nat) : Int) + 1) = ((l : Nat) : Int) + 1 := i64_wrap_id _ (by omega) (by omega)
  have wr2 : (0 : Int) ≤ ((l : Nat) : Int) + 1 := by omega
  have wr3 : ((l : Nat) : Int) + 1 ≤ (l : Int) + 1 := by omega
  have wr4 : ((l : Nat) : Int) ≤ (c : Int) := by omega
  have wr5 : (0 : Int) ≤ ((l : Nat) : Int) := by omega
  go_region_held3 (fun _ => True) (trivial) ((first
    | (refine app_range w w.heap.size w.heap.size l b off zs ?_ (.tmp 118) (.tmp 121) ?_ 0 l l c 0 [] (zs.take l) (some ⟨b, off, none⟩) ?_ ?_ ?_ (fun _ => rfl) (fun h => by cases h) (by rw [Hlen.out]; omega) (by omega) (by omega) e1.out ?_; exact rfl; exact rfl; exact rfl; exact rfl; exact hst.out.drew; intro w3 hst3 hgr3)
    | (refine app_range w w.heap.size w.heap.size l b off zs ?_ (.tmp 122) (.tmp 126) ?_ l 0 l (c - (l + 1)) (l + 1) (zs.take l) (del zs l) (if c = (l + 1) then some ⟨b, off, none⟩ else some ⟨b, off + (l + 1), none⟩) ?_ ?_ ?_ ?_ ?_ ?_ (by omega) (by omega) e3.out ?_; exact rfl; exact rfl; exact rfl; exact rfl; exact hst3; (intro h0; rw [if_neg (by omega)]); (intro h0; split at h0 <;> cases h0); (rw [Hlen.out]; omega); intro w4 hst4 hgr4)))
  all_goals go_wp2
  all_goals go_ret
  all_goals
    have hO : Own w4 w.heap.size (.slice (some ⟨w.heap.size, 0, none⟩) l l) (del zs l) := by
      have := length_del zs l (by rw [Hlen.out]; omega)
      unfold Own; rw [show (del zs l).length = l from by rw [Hlen.out] at this; omega]; exact hst4.own
    exact ⟨hst4.below, .inr ⟨w.heap.size, l, l, l, rfl, by omega, hO, by rw [show ((l + 1 : Nat) : Int) = (l : Int) + 1 from by omega]; exact del_last zs HB.out l Hlen.out x HH.out.ok⟩⟩

set_option maxHeartbeats 1000000 in
theorem vtDelete_first (b off l c : Nat) (x : Int) (zs : List Int) (w : World) (s z d W W0 : Int) (h : DelIn b off l c x zs w s z d W W0) (hc0 : 0 < d) (hc : d = W) :
    Calls Trym.prog 26 #[.slice (some ⟨b, off, none⟩) (l + 1) c, .int .u64 x] w (DelPost w (l + 1) x zs) := by
  obtain ⟨i0, hi, hz0, hz1, hz2⟩ := info_parts info5
  have HH := tuck h
  have Hlen := tuck h.len
  have HB := tuck h.bits
  have Hcell := tuck h.cells
  have hbw := h.there
  have hnc := h.cap
  have hn := h.small
  have hx0 := h.x0
  have hx1 := h.x1
  have hs0 := h.s0
  have hs1 := h.s1
  have hla := h.last
  have hzz0 := h.z0
  have hzz1 := h.z1
  have hW00 := h.W00
  have hW01 := h.W01
  have hwt := h.weight
  have hd0 := h.d0
  have hd1 := h.d1
  have hd := h.def_d
  have hr0 : 0 ≤ x % ((l : Int) + 1) := Int.emod_nonneg _ (by omega)
  have hr1 : x % ((l : Int) + 1) < (l : Int) + 1 := Int.emod_lt_of_pos _ (by omega)
  have j1 : (l : Int) ≤ (c : Int) := by omega
  clear h
  subst hc
  have k1 : ((l : Int) + 1) ≤ (c : Int) := by omega
  have k2 : (1 : Int) ≤ (l : Int) + 1 := by omega
  have k3 : IntKind.i64.wrap 1 = 1 := i64_wrap_id 1 (by omega) (by omega)
  go_enter Trym.func26, Trym.ntmps26
  go_wp2_with (first | (go_at_call 27; refine HH.out.call.mono ?_; rintro e w1 ⟨rfl, hw1⟩; obtain rfl := hw1.symm) | (at_make; refine wpList_make_own _ rfl _ _ 22 rfl w.heap.size 5 i0 _ 1 Trym.underlying22 hi hz0 hz1 .i64 .i64 _ l rfl rfl (by omega) (by rw [hz2]; omega) (by unfold maxLen; omega) (Nat.le_refl _) ?_; intro w2 hown hgrow))
  have hb1 : Below w.heap.size w w2 := (Below.refl _ _).grown hgrow (Nat.le_refl _) (by simp)
  have hst : Hid (St w w.heap.size w.heap.size l b off zs w2 0 []) := ⟨hown, Nat.le_refl _, fun _ => by omega, fun _ => by have := hb1.size; omega, fun i hi => (hb1.cell (p := ⟨b, off + i, none⟩) hbw).trans (Hcell.out i (by rw [← Hlen.out]; exact hi)), hb1.size, hb1⟩
  clear hown hgrow hb1
  have e1 : Hid ([] ++ (zs.drop 0).take 0 = zs.take 0) := by simp [Hid]
  have e3 : Hid (zs.take 0 ++ (zs.drop 1).take l = del zs 0) := by
    have := del_parts zs l 0 Hlen.out
    simpa [Hid] using this
  have wr1 : IntKind.i64.wrap (((0 : Nat) : Int) + 1) = ((0 : Nat) : Int) + 1 := i64_wrap_id _ (by omega) (by omega)
  have wr2 : (0 : Int) ≤ ((0 : Nat) : Int) + 1 := by omega
  have wr3 : ((0 : Nat) : Int) + 1 ≤ (l : Int) + 1 := by omega
  have wr4 : ((0 : Nat) : Int) ≤ (c : Int) := by omega
  have wr5 : (0 : Int) ≤ ((0 : Nat) : Int) := by omega
  go_region_held3 (fun _ => True) (trivial) ((first
    | (refine app_range w w.heap.size w.heap.size l b off zs ?_ (.tmp 118) (.tmp 121) ?_ 0 0 0 c 0 [] (zs.take 0) (some ⟨b, off, none⟩) ?_ ?_ ?_ (fun _ => rfl) (fun h => by cases h) (by rw [Hlen.out]; omega) (by omega) (by omega) e1.out ?_; exact rfl; exact rfl; exact rfl; exact rfl; exact hst.out.drew; intro w3 hst3 hgr3)
    | (refine app_range w w.heap.size w.heap.size l b off zs ?_ (.tmp 122) (.tmp 126) ?_ 0 l l (c - 1) 1 (zs.take 0) (del zs 0) (if c = 1 then some ⟨b, off, none⟩ else some ⟨b, off + 1, none⟩) ?_ ?_ ?_ ?_ ?_ ?_ (by omega) (by omega) e3.out ?_; exact rfl; exact rfl; exact rfl; exact rfl; exact hst3; (intro h0; rw [if_neg (by omega)]); (intro h0; split at h0 <;> cases h0); (rw [Hlen.out]; omega); intro w4 hst4 hgr4)))
  all_goals go_wp2
  all_goals go_ret
  all_goals
    have hO : Own w4 w.heap.size (.slice (some ⟨w.heap.size, 0, none⟩) l l) (del zs 0) := by
      have := length_del zs 0 (by rw [Hlen.out]; omega)
      unfold Own; rw [show (del zs 0).length = l from by rw [Hlen.out] at this; omega]; exact hst4.own
    exact ⟨hst4.below, .inr ⟨w.heap.size, l, l, 0, rfl, by omega, hO, by rw [show ((l + 1 : Nat) : Int) = (l : Int) + 1 from by omega]; exact del_first zs HB.out (by rw [Hlen.out]; omega) _ x (by rw [← HH.out.sum]; exact HH.out.ok)⟩⟩

end Go.Proofs.Qxb6604085aMods.B
