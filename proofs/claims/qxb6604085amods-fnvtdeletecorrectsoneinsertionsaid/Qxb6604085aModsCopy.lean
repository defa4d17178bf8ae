/-
  THE CONTRACTS OF THE HELPERS THAT MAKE A NEW SLICE: zzClone, zzInserted, zzDeleted; and of zzSame.
-/
import Derived.Test.Qxb6604085aModsBase
import Derived.Lib.SliceRun
namespace Go.Proofs.Qxb6604085aMods.B
open Go.ChangeShapes Go.WideShapes Go.ChangeAt Go.RowKit
open Go.Proofs.Qxb6604085aMods.Pl

theorem info5 : (Trym.prog.info? 5).map (fun i => (i.zero, i.size, i.bytes)) = some (some (.int .u8 0), 1, 1) := by kernel_rfl

/-- THE VALUE v IS A SLICE OF THE CALL's OWN (blocks from 'base' on) THAT HOLDS zs. -/
def Own (w : World) (base : Nat) (v : Value) (zs : List Int) : Prop := w.ownsRow base 5 1 v zs.length (zs.map (Value.int .u8))

theorem Own.cell {w : World} {base g n cap : Nat} {L : List Int} (h : Own w base (.slice (some ⟨g, 0, none⟩) n cap) L) (hL : L.length = n) (j : Nat) (hj : j < n) : w.cell? ⟨g, j, none⟩ = some (.int .u8 (L.getD j 0)) := by
  unfold Own at h
  rw [hL] at h
  have := h.cellAt j (by omega)
  rw [this]
  simp [List.getD, List.getElem?_eq_getElem (show j < L.length by omega)]
theorem Own.frozen {w : World} {base g n cap : Nat} {L : List Int} (h : Own w base (.slice (some ⟨g, 0, none⟩) n cap) L) (hL : L.length = n) (j : Nat) : w.frozen? ⟨g, j, none⟩ = false := by
  unfold Own at h
  rw [hL] at h
  exact h.frozenAt j
theorem Own.set {w : World} {base g n cap : Nat} {L : List Int} (h : Own w base (.slice (some ⟨g, 0, none⟩) n cap) L) (hL : L.length = n) (j : Nat) (z : Int) : Own (w.setCell ⟨g, j, none⟩ (.int .u8 z)) base (.slice (some ⟨g, 0, none⟩) n cap) (L.set j z) := by
  unfold Own at *
  rw [hL] at h
  have := h.stored j (.int .u8 z)
  rw [List.length_set, hL, List.map_set]
  exact this.1
theorem own_made {w : World} {base g n : Nat} (h : w.ownsRow base 5 1 (.slice (some ⟨g, 0, none⟩) n n) n (madeCells (Value.int .u8 0).cells (n * 1)).toList) : Own w base (.slice (some ⟨g, 0, none⟩) n n) (List.replicate n 0) := by
  unfold Own
  have e : (madeCells (Value.int .u8 0).cells (n * 1)).toList = (List.replicate n (0 : Int)).map (Value.int .u8) := by
    rw [Nat.mul_one, show (Value.int .u8 0).cells = #[Value.int .u8 0] from rfl, toList_madeCells_one]
    simp
  rw [e] at h
  simpa using h
theorem Own.sl {w : World} {base : Nat} {v : Value} {zs : List Int} (h : Own w base v zs) : ∃ a cap, v = .slice a zs.length cap ∧ Sl w a zs.length zs ∧ zs.length ≤ cap ∧ (a = none → zs.length = 0 ∧ cap = 0) := by
  unfold Own at h
  have h0 := h
  rcases h.2 with ⟨rfl, hn⟩ | ⟨g, cap, cur, rfl, hb, hg, hcap, hm, hs, ht⟩
  · exact ⟨none, 0, by rw [hn], ⟨rfl, fun h1 => by omega⟩, by omega, fun _ => ⟨hn, rfl⟩⟩
  · refine ⟨_, cap, rfl, ⟨rfl, fun h1 => ⟨g, 0, rfl, ?_, fun i hi => ?_⟩⟩, hcap, fun h1 => by simp at h1⟩
    · exact (h0.lt g rfl).2
    · have := Own.cell (w := w) (base := base) (L := zs) h0 rfl i hi
      rw [Nat.zero_add]; exact this

theorem Own.at {w : World} {base : Nat} {a : Option Addr} {n c : Nat} {zs : List Int} (h : Own w base (.slice a n c) zs) : Sl w a n zs ∧ n ≤ c ∧ (a = none → n = 0 ∧ c = 0) := by
  obtain ⟨a', cap, e, h1, h2, h3⟩ := h.sl
  simp only [Value.slice.injEq] at e
  obtain ⟨rfl, rfl, rfl⟩ := e
  exact ⟨h1, h2, h3⟩
theorem Own.alloc {w : World} {base : Nat} {v : Value} {zs : List Int} (h : Own w base v zs) (o : Obj) : Own (w.alloc o) base v zs := World.ownsRow.alloc h o
theorem Own.drewN {w : World} {base : Nat} {v : Value} {zs : List Int} (h : Own w base v zs) (n : Nat) : Own (w.drewN n) base v zs := h

theorem take_set (L T : List Int) (k : Nat) (hk : k < L.length) (hl : L.length = T.length) (h : L.take k = T.take k) : (L.set k (T.getD k 0)).take (k + 1) = T.take (k + 1) := by
  rw [List.take_succ_eq_append_getElem (by simpa using hk), take_snoc T k (by omega)]
  simp only [List.getElem_set_self, List.take_set_of_le (Nat.le_refl k), h]

theorem q22 (w : World) (a : Option Addr) (n c n' c' : Nat) : (binOp .eql 22 (.slice a n c) (.slice none n' c')).run Trym.prog w = .ok (.bool a.isNone) w := Lib.run_eql_slice_nil w _ _ a n c n' c' Trym.underlying22

set_option maxHeartbeats 400000 in
theorem clone_any (a : Option Addr) (n c : Nat) (zs : List Int) (w : World) (hS : Sl w a n zs) (hn : n ≤ 1048576) (hnil : a = none → n = 0 ∧ c = 0) :
    Calls Trym.prog 11 #[.slice a n c] w fun e w' => ∃ a', e = .returned (.slice a' n n) ∧ Own w' w.heap.size (.slice a' n n) zs ∧ Below w.heap.size w w' ∧ (a' = none ↔ a = none) := by
  obtain ⟨i0, hi, hz0, hz1, hz2⟩ := info_parts info5
  have q := q22
  cases a with
  | none =>
    obtain ⟨rfl, rfl⟩ := hnil rfl
    obtain rfl : zs = [] := List.eq_nil_of_length_eq_zero hS.1
    go_enter Trym.func11, Trym.ntmps11
    go_wp2
    go_ret
    exact ⟨_, rfl, World.ownsRow_nil _ _ _ _, Below.refl _ _, by simp⟩
  | some ad =>
    obtain ⟨hlen0, hc⟩ := hS
    have hlen : Hid (zs.length = n) := hlen0
    clear hlen0 hnil
    go_enter Trym.func11, Trym.ntmps11
    go_wp2_with (at_make; refine wpList_make_full _ rfl _ _ 22 rfl w.heap.size 5 i0 _ 1 Trym.underlying22 hi hz0 hz1 .i64 .i64 _ _ n rfl rfl rfl rfl (by rw [hz2]; omega) (by unfold maxLen; omega) (Nat.le_refl _) ?_; intro w1 hown hgrow)
    have R : Hid (Own w1 w.heap.size (.slice (some ⟨w.heap.size, 0, none⟩) n n) (List.replicate n 0)) := own_made hown
    have hb1 : Below w.heap.size w w1 := (Below.refl _ _).grown hgrow (Nat.le_refl _) (by simp)
    have hlt1 : w.heap.size < w1.heap.size := (hown.lt _ rfl).2
    clear hown hgrow hi hz0 hz1 hz2
    go_loopw [4] (fun i wr => ∃ (k : Nat) (L : List Int), k ≤ n ∧ i = .int .i64 k ∧ L.length = n ∧ Hid (Own wr w.heap.size (.slice (some ⟨w.heap.size, 0, none⟩) n n) L) ∧ Hid (L.take k = zs.take k) ∧ Below w.heap.size w wr) (fun i _ => n - (intOf i).toNat)
    case atStart => exact ⟨0, _, Nat.zero_le _, rfl, by simp, R, rfl, hb1⟩
    case round =>
      obtain ⟨k, L, hk, rfl, hL, hO, hT, hB⟩ := hrel
      by_cases hlt : k < n
      · obtain ⟨b, off, rfl, hbw, hcell⟩ : ∃ b off, ad = ⟨b, off, none⟩ ∧ b < w.heap.size ∧ ∀ i, i < n → w.cell? ⟨b, off + i, none⟩ = some (.int .u8 (zs.getD i 0)) := by
          obtain ⟨b, off, e, h1, h2⟩ := hc (by omega)
          exact ⟨b, off, Option.some.inj e, h1, h2⟩
        have hck := (hB.cell (p := ⟨b, off + k, none⟩) hbw).trans (hcell k hlt)
        clear hcell hc
        obtain ⟨z, hz⟩ : ∃ z, z = zs.getD k 0 := ⟨_, rfl⟩
        rw [← hz] at hck
        have HZ : Hid (z = zs.getD k 0) := hz
        clear hz
        have ho := hO.out.cell hL k hlt
        obtain ⟨u, hu⟩ : ∃ u, wr.cell? ⟨w.heap.size, k, none⟩ = some u := ⟨_, ho⟩
        have hf := hO.out.frozen hL k
        clear ho
        have HL : Hid (L.length = n) := hL
        clear hL
        go_wp2
        go_roundw
        case rel =>
          refine ⟨k + 1, L.set k z, by omega, by go_num, by rw [List.length_set]; exact HL.out, hO.out.set HL.out k z, ?_, hB.setCell (Nat.le_refl _) _⟩
          rw [HZ.out]
          exact take_set L zs k (by rw [HL.out]; exact hlt) (by rw [HL.out, hlen.out]) hT.out
        case measure => simp [intOf]; omega
      · have HL : Hid (L.length = n) := hL
        clear hL
        go_wp2
        go_ret
        refine ⟨_, rfl, ?_, hB, by simp⟩
        have h1 := hT.out
        rw [List.take_of_length_le (by rw [HL.out]; omega), List.take_of_length_le (by rw [hlen.out]; omega)] at h1
        rw [← h1]
        exact hO

theorem same_same (a b : Option Addr) (n c m d : Nat) (zs : List Int) (w : World) (hA : Sl w a n zs) (hB : Sl w b m zs) (hn : n ≤ 1048580) :
    Calls Trym.prog 15 #[.slice a n c, .slice b m d] w fun e w' => e = .returned (.bool true) ∧ Below w.heap.size w w' := by
  obtain ⟨hlen0, hc⟩ := hA
  obtain ⟨hlen1, hd⟩ := hB
  obtain rfl : n = m := hlen0.symm.trans hlen1
  clear hlen1 hlen0
  go_enter Trym.func15, Trym.ntmps15
  go_wp2
  go_loopw [5] (fun i wr => ∃ k : Nat, k ≤ n ∧ i = .int .i64 k ∧ Below w.heap.size w wr) (fun i _ => n - (intOf i).toNat)
  case atStart => exact ⟨0, Nat.zero_le _, rfl, Below.refl _ _⟩
  case round =>
    obtain ⟨k, hk, rfl, hB⟩ := hrel
    by_cases hlt : k < n
    · obtain ⟨b1, o1, rfl, hb1, hc1⟩ := hc (by omega)
      obtain ⟨b2, o2, rfl, hb2, hc2⟩ := hd (by omega)
      have h1 := (hB.cell (p := ⟨b1, o1 + k, none⟩) hb1).trans (hc1 k hlt)
      have h2 := (hB.cell (p := ⟨b2, o2 + k, none⟩) hb2).trans (hc2 k hlt)
      clear hc hd hc1 hc2
      obtain ⟨z, hz⟩ : ∃ z, z = zs.getD k 0 := ⟨_, rfl⟩
      rw [← hz] at h1 h2
      clear hz
      have hi0 : (0 : Int) ≤ (k : Int) := by omega
      have hi1 : (k : Int) < (n : Int) := by omega
      go_wp2
      go_quiet (fail)
      go_wp2
      go_roundw
      case rel => exact ⟨k + 1, by omega, by go_num, below_drewN hB _⟩
      case measure => simp [intOf]; omega
    · go_wp2
      go_ret
      exact ⟨rfl, hB⟩

theorem ins_lo (y : List Int) (q k : Nat) (b : Int) (h : k < q) (hq : q ≤ y.length) : (ins y q b).getD k 0 = y.getD k 0 := by
  unfold ins
  simp only [List.getD]
  rw [List.getElem?_append_left (by simp; omega), List.getElem?_take_of_lt h]
theorem ins_mid (y : List Int) (q : Nat) (b : Int) (hq : q ≤ y.length) : (ins y q b).getD q 0 = b := by
  unfold ins
  simp only [List.getD]
  rw [List.getElem?_append_right (by simp; omega)]
  have : q - (y.take q).length = 0 := by simp; omega
  rw [this]
  simp
theorem ins_hi (y : List Int) (q k : Nat) (b : Int) (h : q ≤ k) (hq : q ≤ y.length) : (ins y q b).getD (k + 1) 0 = y.getD k 0 := by
  unfold ins
  simp only [List.getD]
  have e : (y.take q).length = q := by simp; omega
  rw [List.getElem?_append_right (by rw [e]; omega), e, show k + 1 - q = (k - q) + 1 from by omega, List.getElem?_cons_succ, List.getElem?_drop, show q + (k - q) = k from by omega]

set_option maxHeartbeats 800000 in
theorem inserted_any (a : Option Addr) (n c q : Nat) (bit : Int) (zs : List Int) (w : World) (hS : Sl w a n zs) (hn : n ≤ 1048580) (hq : q ≤ n) :
    Calls Trym.prog 16 #[.slice a n c, .int .i64 q, .int .u8 bit] w fun e w' => ∃ v, e = .returned v ∧ Own w' w.heap.size v (ins zs q bit) ∧ Below w.heap.size w w' := by
  obtain ⟨i0, hi, hz0, hz1, hz2⟩ := info_parts info5
  obtain ⟨hlen0, hc⟩ := hS
  have hT0 : (ins zs q bit).length = n + 1 := by rw [length_ins _ _ _ (by omega), hlen0]
  obtain ⟨T, hT⟩ : ∃ T, T = ins zs q bit := ⟨_, rfl⟩
  rw [← hT] at hT0 ⊢
  have hTl : Hid (T.length = n + 1) := hT0
  have t1 : Hid (∀ k, k < q → T.getD k 0 = zs.getD k 0) := fun k hk => by rw [hT]; exact ins_lo zs q k bit hk (by omega)
  have t2 : Hid (T.getD q 0 = bit) := by rw [hT]; exact ins_mid zs q bit (by omega)
  have t3 : Hid (∀ k, q ≤ k → T.getD (k + 1) 0 = zs.getD k 0) := fun k hk => by rw [hT]; exact ins_hi zs q k bit hk (by omega)
  clear hlen0 hT0 hT
  go_enter Trym.func16, Trym.ntmps16
  go_wp2_with (at_make; refine wpList_make_full _ rfl _ _ 22 rfl w.heap.size 5 i0 _ 1 Trym.underlying22 hi hz0 hz1 .i64 .i64 _ _ (n + 1) rfl rfl (by omega) (by omega) (by rw [hz2]; omega) (by unfold maxLen; omega) (Nat.le_refl _) ?_; intro w1 hown hgrow)
  have R : Hid (Own w1 w.heap.size (.slice (some ⟨w.heap.size, 0, none⟩) (n + 1) (n + 1)) (List.replicate (n + 1) 0)) := own_made hown
  have hb1 : Below w.heap.size w w1 := (Below.refl _ _).grown hgrow (Nat.le_refl _) (by simp)
  clear hown hgrow hi hz0 hz1 hz2
  go_loopw [8] (fun i wr => ∃ (k : Nat) (L : List Int), k ≤ q ∧ i = .int .i64 k ∧ Hid (L.length = n + 1) ∧ Hid (Own wr w.heap.size (.slice (some ⟨w.heap.size, 0, none⟩) (n + 1) (n + 1)) L) ∧ Hid (L.take k = T.take k) ∧ Below w.heap.size w wr) (fun i _ => q - (intOf i).toNat)
  case atStart => exact ⟨0, _, Nat.zero_le _, rfl, by simp [Hid], R, rfl, hb1⟩
  case round =>
    clear R hb1
    obtain ⟨k, L, hk, rfl, HL, hO, hT, hB⟩ := hrel
    by_cases hlt : k < q
    · obtain ⟨b, off, rfl, hbw, hcell⟩ := hc (by omega)
      have hck := (hB.cell (p := ⟨b, off + k, none⟩) hbw).trans (hcell k (by omega))
      clear hcell hc
      obtain ⟨z, hz⟩ : ∃ z, z = zs.getD k 0 := ⟨_, rfl⟩
      rw [← hz] at hck
      have HZ : Hid (z = zs.getD k 0) := hz
      clear hz
      obtain ⟨u, hu⟩ : ∃ u, wr.cell? ⟨w.heap.size, k, none⟩ = some u := ⟨_, hO.out.cell HL.out k (by omega)⟩
      have hf := hO.out.frozen HL.out k
      go_wp2
      go_roundw
      case rel =>
        refine ⟨k + 1, L.set k z, by omega, by go_num, by rw [Hid, List.length_set]; exact HL.out, hO.out.set HL.out k z, ?_, hB.setCell (Nat.le_refl _) _⟩
        rw [HZ.out, ← t1.out k hlt]
        exact take_set L T k (by rw [HL.out]; omega) (by rw [HL.out, hTl.out]) hT.out
      case measure => simp [intOf]; omega
    · obtain rfl : k = q := by omega
      clear hlt hk
      obtain ⟨u, hu⟩ : ∃ u, wr.cell? ⟨w.heap.size, k, none⟩ = some u := ⟨_, hO.out.cell HL.out k (by omega)⟩
      have hf := hO.out.frozen HL.out k
      go_wp2
      have R : Hid (Own (wr.setCell ⟨w.heap.size, k, none⟩ (.int .u8 bit)) w.heap.size (.slice (some ⟨w.heap.size, 0, none⟩) (n + 1) (n + 1)) (L.set k bit)) := hO.out.set HL.out k bit
      have R2 : Hid ((L.set k bit).take (k + 1) = T.take (k + 1)) := by
        rw [← t2.out]
        exact take_set L T k (by rw [HL.out]; omega) (by rw [HL.out, hTl.out]) hT.out
      have R3 : Hid ((L.set k bit).length = n + 1) := by rw [Hid, List.length_set]; exact HL.out
      have hb1 : Below w.heap.size w (wr.setCell ⟨w.heap.size, k, none⟩ (.int .u8 bit)) := hB.setCell (Nat.le_refl _) _
      clear hu hf HL hO hT hB
      go_loopw [9] (fun i wr => ∃ (j : Nat) (L : List Int), k ≤ j ∧ j ≤ n ∧ i = .int .i64 j ∧ Hid (L.length = n + 1) ∧ Hid (Own wr w.heap.size (.slice (some ⟨w.heap.size, 0, none⟩) (n + 1) (n + 1)) L) ∧ Hid (L.take (j + 1) = T.take (j + 1)) ∧ Below w.heap.size w wr) (fun i _ => n - (intOf i).toNat)
      case atStart => exact ⟨k, _, Nat.le_refl _, hq, rfl, R3, R, R2, hb1⟩
      case round =>
        clear R R2 R3 hb1
        obtain ⟨j, L, hkj, hj, rfl, HL, hO, hT, hB⟩ := hrel
        by_cases hlt : j < n
        · obtain ⟨b, off, rfl, hbw, hcell⟩ := hc (by omega)
          have hck := (hB.cell (p := ⟨b, off + j, none⟩) hbw).trans (hcell j (by omega))
          clear hcell hc
          obtain ⟨z, hz⟩ : ∃ z, z = zs.getD j 0 := ⟨_, rfl⟩
          rw [← hz] at hck
          have HZ : Hid (z = zs.getD j 0) := hz
          clear hz
          obtain ⟨u, hu⟩ : ∃ u, World.cell? _ ⟨w.heap.size, j + 1, none⟩ = some u := ⟨_, hO.out.cell HL.out (j + 1) (by omega)⟩
          have hf := hO.out.frozen HL.out (j + 1)
          go_wp2
          go_roundw
          case rel =>
            refine ⟨j + 1, L.set (j + 1) z, by omega, by omega, by go_num, by rw [Hid, List.length_set]; exact HL.out, hO.out.set HL.out (j + 1) z, ?_, hB.setCell (Nat.le_refl _) _⟩
            rw [HZ.out, ← t3.out j hkj]
            exact take_set L T (j + 1) (by rw [HL.out]; omega) (by rw [HL.out, hTl.out]) hT.out
          case measure => simp [intOf]; omega
        · go_wp2
          go_ret
          refine ⟨_, rfl, ?_, hB⟩
          have h1 := hT.out
          rw [List.take_of_length_le (by rw [HL.out]; omega), List.take_of_length_le (by rw [hTl.out]; omega)] at h1
          rw [← h1]
          exact hO

end Go.Proofs.Qxb6604085aMods.B
