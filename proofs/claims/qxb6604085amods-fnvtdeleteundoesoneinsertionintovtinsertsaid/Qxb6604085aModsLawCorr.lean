/-
  THE WALKS OF FnVtInsertCorrectsOneDeletion, FnVtDeleteCorrectsOneInsertion, FnVtDeleteUndoesOneInsertionIntoVtInsert.
-/
import Derived.Test.Qxb6604085aModsInsZ
import Derived.Test.Qxb6604085aModsDelZ
namespace Go.Proofs.Qxb6604085aMods.B
open Go.ChangeShapes Go.WideShapes Go.ChangeAt Go.RowKit
open Go.Proofs.Qxb6604085aMods.Pl

theorem bytes17_yes (a : Option Addr) (n c : Nat) (x : Int) (w : World) (h : n ≤ 1048576) :
    Calls Trym.prog 17 #[.slice a n c, .int .i64 x] w fun e w' => e = .returned (.bool true) ∧ w = w' := by
  go_enter Trym.func17, Trym.ntmps17
  go_wp2
  go_ret
  exact ⟨rfl, rfl⟩
theorem bytes17_no (a : Option Addr) (n c : Nat) (x : Int) (w : World) (h : 1048576 < n) :
    Calls Trym.prog 17 #[.slice a n c, .int .i64 x] w fun e w' => e = .returned (.bool false) ∧ w = w' := by
  go_enter Trym.func17, Trym.ntmps17
  go_wp2
  go_ret
  exact ⟨rfl, rfl⟩
theorem bytes22_yes (a : Option Addr) (n c : Nat) (x : Int) (o : Bool) (w : World) (h : n ≤ 1048576) :
    Calls Trym.prog 22 #[.slice a n c, .int .i64 x, .bool o] w fun e w' => e = .returned (.bool true) ∧ w = w' := by
  go_enter Trym.func22, Trym.ntmps22
  go_wp2
  go_ret
  exact ⟨rfl, rfl⟩
theorem bytes22_no (a : Option Addr) (n c : Nat) (x : Int) (o : Bool) (w : World) (h : 1048576 < n) :
    Calls Trym.prog 22 #[.slice a n c, .int .i64 x, .bool o] w fun e w' => e = .returned (.bool false) ∧ w = w' := by
  go_enter Trym.func22, Trym.ntmps22
  go_wp2
  go_ret
  exact ⟨rfl, rfl⟩
theorem bytes23_yes (a : Option Addr) (n c : Nat) (u x : Int) (o : Bool) (w : World) (h : n ≤ 1048576) :
    Calls Trym.prog 23 #[.slice a n c, .int .u64 u, .int .i64 x, .bool o] w fun e w' => e = .returned (.bool true) ∧ w = w' := by
  go_enter Trym.func23, Trym.ntmps23
  go_wp2
  go_ret
  exact ⟨rfl, rfl⟩
theorem bytes23_no (a : Option Addr) (n c : Nat) (u x : Int) (o : Bool) (w : World) (h : 1048576 < n) :
    Calls Trym.prog 23 #[.slice a n c, .int .u64 u, .int .i64 x, .bool o] w fun e w' => e = .returned (.bool false) ∧ w = w' := by
  go_enter Trym.func23, Trym.ntmps23
  go_wp2
  go_ret
  exact ⟨rfl, rfl⟩

theorem bits_ofC {zs : List Int} (h : bitsB zs = true) (h0 : ∀ z ∈ zs, 0 ≤ z) : Bits zs := fun x hx => by
  unfold bitsB at h
  rw [List.all_eq_true] at h
  have h1 := h x hx
  have h2 := h0 x hx
  simp at h1
  omega

theorem ins_del (y : List Int) (p : Nat) (h : p < y.length) : ins (del y p) p (y.getD p 0) = y := by
  have e : (y.take p).length = p := by simp; omega
  unfold ins del
  rw [List.take_append_of_le_length (by omega), List.take_of_length_le (by omega), List.drop_append_of_le_length (by omega), List.drop_eq_nil_of_le (by omega), List.nil_append, ← drop_cons y p h, List.take_append_drop]
theorem del_ins (y : List Int) (q : Nat) (b : Int) (h : q ≤ y.length) : del (ins y q b) q = y := by
  have e : (y.take q).length = q := by simp; omega
  unfold ins del
  rw [List.take_append_of_le_length (by omega), List.take_of_length_le (by omega), List.drop_append, List.drop_eq_nil_of_le (by omega), List.nil_append, e, show q + 1 - q = 1 from by omega]
  simp

theorem ins_back (zs : List Int) (hb : Bits zs) (p i l : Nat) (b s : Int) (hp : p < zs.length) (hl : (del zs p).length = l) (hi : i ≤ l) (hbb : b = 0 ∨ b = 1) (hs : s = ws 1 zs % ((zs.length : Int) + 1))
    (hsyn : ws 1 (ins (del zs p) i b) % ((l : Int) + 2) = s % ((l : Int) + 2)) : ins (del zs p) i b = zs := by
  have e1 := ins_del zs p hp
  have hl1 := length_del zs p hp
  have e2 : (zs.length : Int) + 1 = (l : Int) + 2 := by omega
  have hu := ins_unique (del zs p) (hb.del p) i p b (zs.getD p 0) (by omega) (by omega) hbb (hb.at p) (by rw [e1, hl, hsyn, hs, e2, Int.emod_emod])
  rw [hu]
  exact e1
theorem del_back (x : List Int) (hb : Bits x) (q i m : Nat) (bit a : Int) (hm : m = x.length + 1) (hq : q ≤ x.length) (hbit : bit = 0 ∨ bit = 1) (hi : i < m) (hx : ws 1 x % (m : Int) = a % (m : Int))
    (hsyn : ws 1 (del (ins x q bit) i) % (m : Int) = a % (m : Int)) : del (ins x q bit) i = x := by
  have hl := length_ins x q bit hq
  have hu := del_unique (ins x q bit) (hb.ins q hbit) i q (by omega) (by omega) (by rw [hl, ← hm, hsyn, del_ins x q bit hq, hx])
  rw [hu]
  exact del_ins x q bit hq
/-- What comes back from ZZVtDelete where one insertion was made. -/
theorem del_got (w0 w2 : World) (x : List Int) (hb : Bits x) (q m : Nat) (bit a : Int) (e : Ending) (hm : m = x.length + 1) (hq : q ≤ x.length) (hbit : bit = 0 ∨ bit = 1) (hx : ws 1 x % (m : Int) = a % (m : Int)) (h : DelPost w0 m a (ins x q bit) e w2) :
    Below w0.heap.size w0 w2 ∧ ∃ pg k cp, e = .returned (.slice pg k cp) ∧ pg.isNone = false ∧ Own w2 w0.heap.size (.slice pg k cp) x := by
  obtain ⟨h1, ⟨_, h2⟩ | ⟨g, k, cp, i, rfl, h2, h3, h4⟩⟩ := h
  · exact absurd (by rw [del_ins x q bit hq]; exact hx) (h2 q (by omega))
  · rw [del_back x hb q i m bit a hm hq hbit h2 hx h4] at h3
    exact ⟨h1, _, k, cp, rfl, rfl, h3⟩

theorem qn22 (w : World) (a : Option Addr) (n c n' c' : Nat) : (binOp .neq 22 (.slice a n c) (.slice none n' c')).run Trym.prog w = .ok (.bool (!a.isNone)) w := run_neq_slice_nil_any w _ _ a n c n' c' Trym.underlying22

set_option maxHeartbeats 1000000 in
theorem lawInsCorr (a : Option Addr) (n c : Nat) (pI : Int) (zs : List Int) (w : World) (h0 : Sl w a n zs) (e0 : a = none → n = 0 ∧ c = 0) (hz : ∀ z ∈ zs, 0 ≤ z) :
    Calls Trym.prog 5 #[.slice a n c, .int .i64 pI] w fun e w' => e = .returned (.bool true) ∧ Below w.heap.size w w' := by
  by_cases htot : n ≤ 1048576
  · have C1 := tuck (bytes17_yes a n c pI w htot)
    have C2 := tuck (isBits_any a n c zs w h0 (by omega))
    by_cases hbb : bitsB zs = true
    · have HB := tuck (bits_ofC hbb hz)
      rw [hbb] at C2
      by_cases hneg : pI < 0
      · clear h0 hz hbb
        go_enter Trym.func5, Trym.ntmps5
        go_wp2_with (first
          | (go_at_call 17; refine C1.out.mono ?_; rintro e w1 ⟨rfl, hw1⟩; obtain rfl := hw1)
          | (go_at_call 10; refine C2.out.mono ?_; rintro e w1 ⟨rfl, hw1⟩; obtain rfl := hw1.symm))
        go_ret
        exact ⟨rfl, Below.refl _ _⟩
      · obtain ⟨p, rfl⟩ := Int.eq_ofNat_of_zero_le (show 0 ≤ pI by omega)
        have hneg' : decide ((p : Int) < 0) = false := decide_eq_false hneg
        by_cases hp : p < n
        · have C3 := tuck (clone_any a n c zs w h0 (by omega) e0)
          clear h0 hz hbb e0 hneg
          go_enter Trym.func5, Trym.ntmps5
          go_wp2_with (first
            | (go_at_call 17; refine C1.out.mono ?_; rintro e w1 ⟨rfl, hw1⟩; obtain rfl := hw1)
            | (go_at_call 10; refine C2.out.mono ?_; rintro e w1 ⟨rfl, hw1⟩; obtain rfl := hw1.symm))
          refine C3.out.mono ?_
          rintro e w1 ⟨p0, rfl, hO1, hB1, _⟩
          clear C1 C2 C3
          have HS1 := tuck hO1.at.1
          have Hlen := tuck hO1.at.1.1
          have HB1 := tuck hB1
          have C4 := tuck (deleted_any p0 n n p zs w1 hO1.at.1 (by omega) hp)
          clear hO1 hB1
          go_wp2_with (fail)
          refine C4.out.mono ?_
          rintro e w2 ⟨v2, rfl, hO2, hB2⟩
          obtain ⟨a2, c2, rfl, hS2, _⟩ := hO2.sl
          obtain ⟨l, hl⟩ : ∃ l, (del zs p).length = l := ⟨_, rfl⟩
          have hl1 : l + 1 = n := by have := length_del zs p (by rw [Hlen.out]; exact hp); rw [hl, Hlen.out] at this; exact this
          rw [hl] at hO2 ⊢
          have HS2 := tuck (HS1.out.below hB2)
          have HB2 := tuck hB2
          have C5 := tuck (syndrome_any p0 n n zs w2 HS2.out (by omega) HB.out)
          obtain ⟨s, hs⟩ : ∃ s, s = ws 1 zs % ((n : Int) + 1) := ⟨_, rfl⟩
          have hs0 : 0 ≤ s := by rw [hs]; exact Int.emod_nonneg _ (by omega)
          have hs1 : s < (n : Int) + 1 := by rw [hs]; exact Int.emod_lt_of_pos _ (by omega)
          rw [← hs] at C5
          have HSS := tuck hs
          have C6 := tuck (zzVtInsert_any a2 l c2 s (del zs p) _ w2 hO2 (by omega) (HB.out.del p) hs0 (by omega))
          have HL := tuck hl
          have HL1 := tuck hl1
          clear C4 hO2 hS2 hB2 hs hl hl1 HS1
          go_wp2_with (go_at_call 19; refine C5.out.mono ?_; rintro e w3 ⟨rfl, hw3⟩; obtain rfl := hw3.symm)
          refine C6.out.mono ?_
          rintro e w3 ⟨v3, i, b, rfl, hi, hb, hO3, hsyn, hB3⟩
          have hu : ins (del zs p) i b = zs := ins_back zs HB.out p i l b s (by rw [Hlen.out]; exact hp) HL.out hi hb (by rw [Hlen.out]; exact HSS.out) hsyn
          rw [hu] at hO3
          obtain ⟨a3, c3, rfl, hS3, _⟩ := hO3.sl
          have C7 := tuck (same_same a3 p0 _ c3 n n zs w3 hS3 (HS2.out.below hB3) (by rw [Hlen.out]; omega))
          have HB3 := tuck hB3
          clear hO3 hS3 hB3 hu hsyn C6 C5
          go_wp2_with (fail)
          refine C7.out.mono ?_
          rintro e w4 ⟨rfl, hB4⟩
          have HB4 := tuck hB4
          clear hB4 C7
          go_wp2
          go_ret
          exact ⟨rfl, ((HB1.out.trans (HB2.out.mono HB1.out.size)).trans (HB3.out.mono (Nat.le_trans HB1.out.size HB2.out.size))).trans (HB4.out.mono (Nat.le_trans (Nat.le_trans HB1.out.size HB2.out.size) HB3.out.size))⟩
        · have hp' : decide ((n : Int) ≤ (p : Int)) = true := decide_eq_true (by omega)
          clear h0 hz hbb hneg
          go_enter Trym.func5, Trym.ntmps5
          go_wp2_with (first
            | (go_at_call 17; refine C1.out.mono ?_; rintro e w1 ⟨rfl, hw1⟩; obtain rfl := hw1)
            | (go_at_call 10; refine C2.out.mono ?_; rintro e w1 ⟨rfl, hw1⟩; obtain rfl := hw1.symm))
          go_ret
          exact ⟨rfl, Below.refl _ _⟩
    · have hbb' : bitsB zs = false := by simpa using hbb
      rw [hbb'] at C2
      clear hbb hbb' h0 hz
      go_enter Trym.func5, Trym.ntmps5
      go_wp2_with (first
        | (go_at_call 17; refine C1.out.mono ?_; rintro e w1 ⟨rfl, hw1⟩; obtain rfl := hw1)
        | (go_at_call 10; refine C2.out.mono ?_; rintro e w1 ⟨rfl, hw1⟩; obtain rfl := hw1.symm))
      go_ret
      exact ⟨rfl, Below.refl _ _⟩
  · have C1 := tuck (bytes17_no a n c pI w (by omega))
    clear h0 hz htot
    go_enter Trym.func5, Trym.ntmps5
    go_wp2_with (go_at_call 17; refine C1.out.mono ?_; rintro e w1 ⟨rfl, hw1⟩; obtain rfl := hw1)
    go_ret
    exact ⟨rfl, Below.refl _ _⟩

set_option maxHeartbeats 1000000 in
theorem lawDelCorr_go (a : Option Addr) (n c : Nat) (q : Nat) (one : Bool) (bit : Int) (hone : bit = if one then 1 else 0) (zs : List Int) (w : World) (h0 : Sl w a n zs) (e0 : a = none → n = 0 ∧ c = 0) (htot : n ≤ 1048576) (hbb : bitsB zs = true) (hz : ∀ z ∈ zs, 0 ≤ z) (hq : q ≤ n) :
    Calls Trym.prog 7 #[.slice a n c, .int .i64 q, .bool one] w fun e w' => e = .returned (.bool true) ∧ Below w.heap.size w w' := by
  have C1 := tuck (bytes22_yes a n c q one w htot)
  have C2 := tuck (isBits_any a n c zs w h0 (by omega))
  have HB := tuck (bits_ofC hbb hz)
  rw [hbb] at C2
  have hneg' : decide ((q : Int) < 0) = false := decide_eq_false (by omega)
  have hpos' : decide ((n : Int) < (q : Int)) = false := decide_eq_false (by omega)
  have C3 := tuck (clone_any a n c zs w h0 (by omega) e0)
  have hq2 := qn22
  clear h0 hz hbb e0
  cases one
  · obtain rfl : bit = 0 := by simpa using hone
    clear hone
    go_enter Trym.func7, Trym.ntmps7
    go_wp2_with (first
      | (go_at_call 22; refine C1.out.mono ?_; rintro e w1 ⟨rfl, hw1⟩; obtain rfl := hw1)
      | (go_at_call 10; refine C2.out.mono ?_; rintro e w1 ⟨rfl, hw1⟩; obtain rfl := hw1.symm))
    refine C3.out.mono ?_
    rintro e w1 ⟨p0, rfl, hO1, hB1, _⟩
    clear C1 C2 C3
    have HS1 := tuck hO1.at.1
    have Hlen := tuck hO1.at.1.1
    have HB1 := tuck hB1
    have C4 := tuck (inserted_any p0 n n q 0 zs w1 hO1.at.1 (by omega) hq)
    clear hO1 hB1
    go_wp2_with (fail)
    refine C4.out.mono ?_
    rintro e w2 ⟨v2, rfl, hO2, hB2⟩
    obtain ⟨a2, c2, rfl, hS2, _⟩ := hO2.sl
    obtain ⟨l, hl⟩ : ∃ l, l = n + 1 := ⟨_, rfl⟩
    have hl1 := length_ins zs q 0 (by rw [Hlen.out]; exact hq)
    rw [hl1, Hlen.out, ← hl] at hO2 ⊢
    have HS2 := tuck (HS1.out.below hB2)
    have HB2 := tuck hB2
    have C5 := tuck (syndrome_any p0 n n zs w2 HS2.out (by omega) HB.out)
    obtain ⟨s, hs⟩ : ∃ s, s = ws 1 zs % ((n : Int) + 1) := ⟨_, rfl⟩
    have hs0 : 0 ≤ s := by rw [hs]; exact Int.emod_nonneg _ (by omega)
    have hs1 : s < (n : Int) + 1 := by rw [hs]; exact Int.emod_lt_of_pos _ (by omega)
    rw [← hs] at C5
    have C6 := tuck (zzVtDelete_any a2 l c2 s (ins zs q 0) _ w2 hO2 (by omega) (HB.out.ins q (by simp)) hs0 (by omega))
    have HX : Hid (ws 1 zs % (l : Int) = s % (l : Int)) := by rw [Hid, hs, hl, show ((n + 1 : Nat) : Int) = (n : Int) + 1 from by omega, Int.emod_emod]
    have HL := tuck hl
    clear C4 hO2 hS2 hB2 hs hl hl1 HS1
    go_wp2_with (go_at_call 19; refine C5.out.mono ?_; rintro e w3 ⟨rfl, hw3⟩; obtain rfl := hw3.symm)
    refine C6.out.mono ?_
    intro e w3 hpost
    obtain ⟨hB3, pg, k, cp, rfl, hpn, hO3⟩ := del_got w2 w3 zs HB.out q l 0 s e (by rw [HL.out, Hlen.out]) (by rw [Hlen.out]; exact hq) (by simp) HX.out hpost
    have C7 := tuck (same_same pg p0 k cp n n zs w3 hO3.at.1 (HS2.out.below hB3) (by rw [← hO3.at.1.1, Hlen.out]; omega))
    have HB3 := tuck hB3
    clear hO3 hB3 hpost C6 C5
    go_wp2_with (fail)
    refine C7.out.mono ?_
    rintro e w4 ⟨rfl, hB4⟩
    have HB4 := tuck hB4
    clear hB4 C7
    go_wp2
    go_ret
    exact ⟨rfl, ((HB1.out.trans (HB2.out.mono HB1.out.size)).trans (HB3.out.mono (Nat.le_trans HB1.out.size HB2.out.size))).trans (HB4.out.mono (Nat.le_trans (Nat.le_trans HB1.out.size HB2.out.size) HB3.out.size))⟩
  · obtain rfl : bit = 1 := by simpa using hone
    clear hone
    go_enter Trym.func7, Trym.ntmps7
    go_wp2_with (first
      | (go_at_call 22; refine C1.out.mono ?_; rintro e w1 ⟨rfl, hw1⟩; obtain rfl := hw1)
      | (go_at_call 10; refine C2.out.mono ?_; rintro e w1 ⟨rfl, hw1⟩; obtain rfl := hw1.symm))
    refine C3.out.mono ?_
    rintro e w1 ⟨p0, rfl, hO1, hB1, _⟩
    clear C1 C2 C3
    have HS1 := tuck hO1.at.1
    have Hlen := tuck hO1.at.1.1
    have HB1 := tuck hB1
    have C4 := tuck (inserted_any p0 n n q 1 zs w1 hO1.at.1 (by omega) hq)
    clear hO1 hB1
    go_wp2_with (fail)
    refine C4.out.mono ?_
    rintro e w2 ⟨v2, rfl, hO2, hB2⟩
    obtain ⟨a2, c2, rfl, hS2, _⟩ := hO2.sl
    obtain ⟨l, hl⟩ : ∃ l, l = n + 1 := ⟨_, rfl⟩
    have hl1 := length_ins zs q 1 (by rw [Hlen.out]; exact hq)
    rw [hl1, Hlen.out, ← hl] at hO2 ⊢
    have HS2 := tuck (HS1.out.below hB2)
    have HB2 := tuck hB2
    have C5 := tuck (syndrome_any p0 n n zs w2 HS2.out (by omega) HB.out)
    obtain ⟨s, hs⟩ : ∃ s, s = ws 1 zs % ((n : Int) + 1) := ⟨_, rfl⟩
    have hs0 : 0 ≤ s := by rw [hs]; exact Int.emod_nonneg _ (by omega)
    have hs1 : s < (n : Int) + 1 := by rw [hs]; exact Int.emod_lt_of_pos _ (by omega)
    rw [← hs] at C5
    have C6 := tuck (zzVtDelete_any a2 l c2 s (ins zs q 1) _ w2 hO2 (by omega) (HB.out.ins q (by simp)) hs0 (by omega))
    have HX : Hid (ws 1 zs % (l : Int) = s % (l : Int)) := by rw [Hid, hs, hl, show ((n + 1 : Nat) : Int) = (n : Int) + 1 from by omega, Int.emod_emod]
    have HL := tuck hl
    clear C4 hO2 hS2 hB2 hs hl hl1 HS1
    go_wp2_with (go_at_call 19; refine C5.out.mono ?_; rintro e w3 ⟨rfl, hw3⟩; obtain rfl := hw3.symm)
    refine C6.out.mono ?_
    intro e w3 hpost
    obtain ⟨hB3, pg, k, cp, rfl, hpn, hO3⟩ := del_got w2 w3 zs HB.out q l 1 s e (by rw [HL.out, Hlen.out]) (by rw [Hlen.out]; exact hq) (by simp) HX.out hpost
    have C7 := tuck (same_same pg p0 k cp n n zs w3 hO3.at.1 (HS2.out.below hB3) (by rw [← hO3.at.1.1, Hlen.out]; omega))
    have HB3 := tuck hB3
    clear hO3 hB3 hpost C6 C5
    go_wp2_with (fail)
    refine C7.out.mono ?_
    rintro e w4 ⟨rfl, hB4⟩
    have HB4 := tuck hB4
    clear hB4 C7
    go_wp2
    go_ret
    exact ⟨rfl, ((HB1.out.trans (HB2.out.mono HB1.out.size)).trans (HB3.out.mono (Nat.le_trans HB1.out.size HB2.out.size))).trans (HB4.out.mono (Nat.le_trans (Nat.le_trans HB1.out.size HB2.out.size) HB3.out.size))⟩

set_option maxHeartbeats 1000000 in
theorem lawDelCorr (a : Option Addr) (n c : Nat) (qI : Int) (one : Bool) (zs : List Int) (w : World) (h0 : Sl w a n zs) (e0 : a = none → n = 0 ∧ c = 0) (hz : ∀ z ∈ zs, 0 ≤ z) :
    Calls Trym.prog 7 #[.slice a n c, .int .i64 qI, .bool one] w fun e w' => e = .returned (.bool true) ∧ Below w.heap.size w w' := by
  by_cases htot : n ≤ 1048576
  · have C1 := tuck (bytes22_yes a n c qI one w htot)
    have C2 := tuck (isBits_any a n c zs w h0 (by omega))
    by_cases hbb : bitsB zs = true
    · by_cases hneg : qI < 0
      · rw [hbb] at C2
        clear h0 hz hbb
        go_enter Trym.func7, Trym.ntmps7
        go_wp2_with (first
          | (go_at_call 22; refine C1.out.mono ?_; rintro e w1 ⟨rfl, hw1⟩; obtain rfl := hw1)
          | (go_at_call 10; refine C2.out.mono ?_; rintro e w1 ⟨rfl, hw1⟩; obtain rfl := hw1.symm))
        go_ret
        exact ⟨rfl, Below.refl _ _⟩
      · obtain ⟨q, rfl⟩ := Int.eq_ofNat_of_zero_le (show 0 ≤ qI by omega)
        by_cases hq : q ≤ n
        · exact lawDelCorr_go a n c q one _ rfl zs w h0 e0 htot hbb hz hq
        · have hneg' : decide ((q : Int) < 0) = false := decide_eq_false hneg
          have hp' : decide ((n : Int) < (q : Int)) = true := decide_eq_true (by omega)
          rw [hbb] at C2
          clear h0 hz hbb hneg
          go_enter Trym.func7, Trym.ntmps7
          go_wp2_with (first
            | (go_at_call 22; refine C1.out.mono ?_; rintro e w1 ⟨rfl, hw1⟩; obtain rfl := hw1)
            | (go_at_call 10; refine C2.out.mono ?_; rintro e w1 ⟨rfl, hw1⟩; obtain rfl := hw1.symm))
          go_ret
          exact ⟨rfl, Below.refl _ _⟩
    · have hbb' : bitsB zs = false := by simpa using hbb
      rw [hbb'] at C2
      clear hbb hbb' h0 hz
      go_enter Trym.func7, Trym.ntmps7
      go_wp2_with (first
        | (go_at_call 22; refine C1.out.mono ?_; rintro e w1 ⟨rfl, hw1⟩; obtain rfl := hw1)
        | (go_at_call 10; refine C2.out.mono ?_; rintro e w1 ⟨rfl, hw1⟩; obtain rfl := hw1.symm))
      go_ret
      exact ⟨rfl, Below.refl _ _⟩
  · have C1 := tuck (bytes22_no a n c qI one w (by omega))
    clear h0 hz htot
    go_enter Trym.func7, Trym.ntmps7
    go_wp2_with (go_at_call 22; refine C1.out.mono ?_; rintro e w1 ⟨rfl, hw1⟩; obtain rfl := hw1)
    go_ret
    exact ⟨rfl, Below.refl _ _⟩

set_option maxHeartbeats 1000000 in
theorem lawUndo_go (a : Option Addr) (n c : Nat) (x : Int) (q : Nat) (one : Bool) (bit : Int) (hone : bit = if one then 1 else 0) (zs : List Int) (w : World) (h0 : Sl w a n zs) (e0 : a = none → n = 0 ∧ c = 0) (hx0 : 0 ≤ x) (hx1 : x ≤ 18446744073709551615) (htot : n ≤ 1048576) (hbb : bitsB zs = true) (hz : ∀ z ∈ zs, 0 ≤ z) (hq : q ≤ n + 1) :
    Calls Trym.prog 8 #[.slice a n c, .int .u64 x, .int .i64 q, .bool one] w fun e w' => e = .returned (.bool true) ∧ Below w.heap.size w w' := by
  have C1 := tuck (bytes23_yes a n c x q one w htot)
  have C2 := tuck (isBits_any a n c zs w h0 (by omega))
  have HB := tuck (bits_ofC hbb hz)
  rw [hbb] at C2
  have hneg' : decide ((q : Int) < 0) = false := decide_eq_false (by omega)
  have hpos' : decide ((n : Int) + 1 < (q : Int)) = false := decide_eq_false (by omega)
  have C3 := tuck (clone_any a n c zs w h0 (by omega) e0)
  have hq2 := qn22
  clear h0 hz hbb e0
  cases one
  · obtain rfl : bit = 0 := by simpa using hone
    clear hone
    go_enter Trym.func8, Trym.ntmps8
    go_wp2_with (first
      | (go_at_call 23; refine C1.out.mono ?_; rintro e w1 ⟨rfl, hw1⟩; obtain rfl := hw1)
      | (go_at_call 10; refine C2.out.mono ?_; rintro e w1 ⟨rfl, hw1⟩; obtain rfl := hw1.symm))
    refine C3.out.mono ?_
    rintro e w1 ⟨p0, rfl, hO1, hB1, _⟩
    clear C1 C2 C3
    have Hlen := tuck hO1.at.1.1
    have HB1 := tuck hB1
    have C4 := tuck (zzVtInsert_any p0 n n x zs _ w1 hO1 htot HB.out hx0 hx1)
    clear hO1 hB1
    go_wp2_with (fail)
    refine C4.out.mono ?_
    rintro e w2 ⟨v2, i, b, rfl, hi, hb, hO2, hsyn, hB2⟩
    obtain ⟨X, hX⟩ : ∃ X, X = ins zs i b := ⟨_, rfl⟩
    have hXb : Bits X := by rw [hX]; exact HB.out.ins i hb
    have hXl : X.length = n + 1 := by rw [hX, length_ins _ _ _ (by rw [Hlen.out]; exact hi), Hlen.out]
    rw [← hX] at hO2 hsyn
    obtain ⟨a2, c2, rfl, hS2, _⟩ := hO2.sl
    rw [hXl] at hS2 ⊢
    have HXb := tuck hXb
    have HXl := tuck hXl
    have HS2 := tuck hS2
    have HB2 := tuck hB2
    have Hsyn := tuck hsyn
    have C5 := tuck (inserted_any a2 (n + 1) c2 q 0 X w2 hS2 (by omega) hq)
    clear hi hb hO2 hsyn hB2 hX hXb hXl hS2 C4
    go_wp2_with (fail)
    refine C5.out.mono ?_
    rintro e w3 ⟨v3, rfl, hO3, hB3⟩
    obtain ⟨a3, c3, rfl, hS3, _⟩ := hO3.sl
    obtain ⟨l, hl⟩ : ∃ l, l = n + 1 + 1 := ⟨_, rfl⟩
    have hl1 := length_ins X q 0 (by rw [HXl.out]; exact hq)
    rw [hl1, HXl.out, ← hl] at hO3 ⊢
    have HS3 := tuck (HS2.out.below hB3)
    have HB3 := tuck hB3
    have C6 := tuck (zzVtDelete_any a3 l c3 x (ins X q 0) _ w3 hO3 (by omega) (HXb.out.ins q (by simp)) hx0 hx1)
    have HX : Hid (ws 1 X % (l : Int) = x % (l : Int)) := by rw [Hid, hl, show ((n + 1 + 1 : Nat) : Int) = (n : Int) + 2 from by omega]; exact Hsyn.out
    have HL := tuck hl
    clear hO3 hS3 hB3 hl hl1 C5
    go_wp2_with (fail)
    refine C6.out.mono ?_
    intro e w4 hpost
    obtain ⟨hB4, pg, k, cp, rfl, hpn, hO4⟩ := del_got w3 w4 X HXb.out q l 0 x e (by rw [HL.out, HXl.out]) (by rw [HXl.out]; exact hq) (by simp) HX.out hpost
    have C7 := tuck (same_same pg a2 k cp (n + 1) c2 X w4 hO4.at.1 (HS3.out.below hB4) (by rw [← hO4.at.1.1, HXl.out]; omega))
    have HB4 := tuck hB4
    clear hO4 hB4 hpost C6
    go_wp2_with (fail)
    refine C7.out.mono ?_
    rintro e w5 ⟨rfl, hB5⟩
    have HB5 := tuck hB5
    clear hB5 C7
    go_wp2
    go_ret
    exact ⟨rfl, (((HB1.out.trans (HB2.out.mono HB1.out.size)).trans (HB3.out.mono (Nat.le_trans HB1.out.size HB2.out.size))).trans (HB4.out.mono (Nat.le_trans (Nat.le_trans HB1.out.size HB2.out.size) HB3.out.size))).trans (HB5.out.mono (Nat.le_trans (Nat.le_trans (Nat.le_trans HB1.out.size HB2.out.size) HB3.out.size) HB4.out.size))⟩
  · obtain rfl : bit = 1 := by simpa using hone
    clear hone
    go_enter Trym.func8, Trym.ntmps8
    go_wp2_with (first
      | (go_at_call 23; refine C1.out.mono ?_; rintro e w1 ⟨rfl, hw1⟩; obtain rfl := hw1)
      | (go_at_call 10; refine C2.out.mono ?_; rintro e w1 ⟨rfl, hw1⟩; obtain rfl := hw1.symm))
    refine C3.out.mono ?_
    rintro e w1 ⟨p0, rfl, hO1, hB1, _⟩
    clear C1 C2 C3
    have Hlen := tuck hO1.at.1.1
    have HB1 := tuck hB1
    have C4 := tuck (zzVtInsert_any p0 n n x zs _ w1 hO1 htot HB.out hx0 hx1)
    clear hO1 hB1
    go_wp2_with (fail)
    refine C4.out.mono ?_
    rintro e w2 ⟨v2, i, b, rfl, hi, hb, hO2, hsyn, hB2⟩
    obtain ⟨X, hX⟩ : ∃ X, X = ins zs i b := ⟨_, rfl⟩
    have hXb : Bits X := by rw [hX]; exact HB.out.ins i hb
    have hXl : X.length = n + 1 := by rw [hX, length_ins _ _ _ (by rw [Hlen.out]; exact hi), Hlen.out]
    rw [← hX] at hO2 hsyn
    obtain ⟨a2, c2, rfl, hS2, _⟩ := hO2.sl
    rw [hXl] at hS2 ⊢
    have HXb := tuck hXb
    have HXl := tuck hXl
    have HS2 := tuck hS2
    have HB2 := tuck hB2
    have Hsyn := tuck hsyn
    have C5 := tuck (inserted_any a2 (n + 1) c2 q 1 X w2 hS2 (by omega) hq)
    clear hi hb hO2 hsyn hB2 hX hXb hXl hS2 C4
    go_wp2_with (fail)
    refine C5.out.mono ?_
    rintro e w3 ⟨v3, rfl, hO3, hB3⟩
    obtain ⟨a3, c3, rfl, hS3, _⟩ := hO3.sl
    obtain ⟨l, hl⟩ : ∃ l, l = n + 1 + 1 := ⟨_, rfl⟩
    have hl1 := length_ins X q 1 (by rw [HXl.out]; exact hq)
    rw [hl1, HXl.out, ← hl] at hO3 ⊢
    have HS3 := tuck (HS2.out.below hB3)
    have HB3 := tuck hB3
    have C6 := tuck (zzVtDelete_any a3 l c3 x (ins X q 1) _ w3 hO3 (by omega) (HXb.out.ins q (by simp)) hx0 hx1)
    have HX : Hid (ws 1 X % (l : Int) = x % (l : Int)) := by rw [Hid, hl, show ((n + 1 + 1 : Nat) : Int) = (n : Int) + 2 from by omega]; exact Hsyn.out
    have HL := tuck hl
    clear hO3 hS3 hB3 hl hl1 C5
    go_wp2_with (fail)
    refine C6.out.mono ?_
    intro e w4 hpost
    obtain ⟨hB4, pg, k, cp, rfl, hpn, hO4⟩ := del_got w3 w4 X HXb.out q l 1 x e (by rw [HL.out, HXl.out]) (by rw [HXl.out]; exact hq) (by simp) HX.out hpost
    have C7 := tuck (same_same pg a2 k cp (n + 1) c2 X w4 hO4.at.1 (HS3.out.below hB4) (by rw [← hO4.at.1.1, HXl.out]; omega))
    have HB4 := tuck hB4
    clear hO4 hB4 hpost C6
    go_wp2_with (fail)
    refine C7.out.mono ?_
    rintro e w5 ⟨rfl, hB5⟩
    have HB5 := tuck hB5
    clear hB5 C7
    go_wp2
    go_ret
    exact ⟨rfl, (((HB1.out.trans (HB2.out.mono HB1.out.size)).trans (HB3.out.mono (Nat.le_trans HB1.out.size HB2.out.size))).trans (HB4.out.mono (Nat.le_trans (Nat.le_trans HB1.out.size HB2.out.size) HB3.out.size))).trans (HB5.out.mono (Nat.le_trans (Nat.le_trans (Nat.le_trans HB1.out.size HB2.out.size) HB3.out.size) HB4.out.size))⟩

set_option maxHeartbeats 1000000 in
theorem lawUndo (a : Option Addr) (n c : Nat) (x : Int) (qI : Int) (one : Bool) (zs : List Int) (w : World) (h0 : Sl w a n zs) (e0 : a = none → n = 0 ∧ c = 0) (hz : ∀ z ∈ zs, 0 ≤ z) (hx0 : 0 ≤ x) (hx1 : x ≤ 18446744073709551615) :
    Calls Trym.prog 8 #[.slice a n c, .int .u64 x, .int .i64 qI, .bool one] w fun e w' => e = .returned (.bool true) ∧ Below w.heap.size w w' := by
  by_cases htot : n ≤ 1048576
  · have C1 := tuck (bytes23_yes a n c x qI one w htot)
    have C2 := tuck (isBits_any a n c zs w h0 (by omega))
    by_cases hbb : bitsB zs = true
    · by_cases hneg : qI < 0
      · rw [hbb] at C2
        clear h0 hz hbb
        go_enter Trym.func8, Trym.ntmps8
        go_wp2_with (first
          | (go_at_call 23; refine C1.out.mono ?_; rintro e w1 ⟨rfl, hw1⟩; obtain rfl := hw1)
          | (go_at_call 10; refine C2.out.mono ?_; rintro e w1 ⟨rfl, hw1⟩; obtain rfl := hw1.symm))
        go_ret
        exact ⟨rfl, Below.refl _ _⟩
      · obtain ⟨q, rfl⟩ := Int.eq_ofNat_of_zero_le (show 0 ≤ qI by omega)
        by_cases hq : q ≤ n + 1
        · exact lawUndo_go a n c x q one _ rfl zs w h0 e0 hx0 hx1 htot hbb hz hq
        · have hneg' : decide ((q : Int) < 0) = false := decide_eq_false hneg
          have hp' : decide ((n : Int) + 1 < (q : Int)) = true := decide_eq_true (by omega)
          rw [hbb] at C2
          clear h0 hz hbb hneg
          go_enter Trym.func8, Trym.ntmps8
          go_wp2_with (first
            | (go_at_call 23; refine C1.out.mono ?_; rintro e w1 ⟨rfl, hw1⟩; obtain rfl := hw1)
            | (go_at_call 10; refine C2.out.mono ?_; rintro e w1 ⟨rfl, hw1⟩; obtain rfl := hw1.symm))
          go_ret
          exact ⟨rfl, Below.refl _ _⟩
    · have hbb' : bitsB zs = false := by simpa using hbb
      rw [hbb'] at C2
      clear hbb hbb' h0 hz
      go_enter Trym.func8, Trym.ntmps8
      go_wp2_with (first
        | (go_at_call 23; refine C1.out.mono ?_; rintro e w1 ⟨rfl, hw1⟩; obtain rfl := hw1)
        | (go_at_call 10; refine C2.out.mono ?_; rintro e w1 ⟨rfl, hw1⟩; obtain rfl := hw1.symm))
      go_ret
      exact ⟨rfl, Below.refl _ _⟩
  · have C1 := tuck (bytes23_no a n c x qI one w (by omega))
    clear h0 hz htot
    go_enter Trym.func8, Trym.ntmps8
    go_wp2_with (go_at_call 23; refine C1.out.mono ?_; rintro e w1 ⟨rfl, hw1⟩; obtain rfl := hw1)
    go_ret
    exact ⟨rfl, Below.refl _ _⟩

end Go.Proofs.Qxb6604085aMods.B
