/-
  WHAT THE WALKS SHARE: a slice of runes that is read ('Sl'), a slice of the call's own ('Own'), zzCloneRunes.
-/
import Derived.Test.Qxb6600935aModsRows
import Derived.WalkKit
import Derived.ProofKit
import Derived.Below
import Derived.OwnWalk
import Derived.WalkSpells
import Derived.WalkLawsBesides
import Derived.Deep.QuietTactic
import Derived.BigQuiet
import Derived.Lib.SliceRun
namespace Go.Proofs.Qxb6600935aMods.B
open Go.ChangeShapes Go.WideShapes Go.ChangeAt Go.RowKit

theorem getD_at {l : List Int} {i : Nat} (h : i < l.length) : l.getD i 0 = l[i] := by simp [List.getD, List.getElem?_eq_getElem h]
theorem take_snoc (l : List Int) (i : Nat) (h : i < l.length) : l.take (i + 1) = l.take i ++ [l.getD i 0] := by
  rw [List.take_succ_eq_append_getElem h, getD_at h]

/-- THE SLICE AT a, of n runes, HOLDS THE NUMBERS zs in the world w. -/
def Sl (w : World) (a : Option Addr) (n : Nat) (zs : List Int) : Prop :=
  zs.length = n ∧ (0 < n → ∃ b off, a = some ⟨b, off, none⟩ ∧ b < w.heap.size ∧ ∀ i, i < n → w.cell? ⟨b, off + i, none⟩ = some (.int .i32 (zs.getD i 0)))

theorem Sl.below {w w' : World} {a : Option Addr} {n : Nat} {zs : List Int} (h : Sl w a n zs) (hb : Below w.heap.size w w') : Sl w' a n zs := by
  refine ⟨h.1, fun h0 => ?_⟩
  obtain ⟨b, off, e, hl, hc⟩ := h.2 h0
  exact ⟨b, off, e, Nat.lt_of_lt_of_le hl hb.size, fun i hi => (hb.cell (p := ⟨b, off + i, none⟩) hl).trans (hc i hi)⟩

theorem tuck {p : Prop} (h : p) : Hid p := h

theorem ret_bool {a b : Bool} (h : a = b) : Ending.returned (.bool a) = .returned (.bool b) := by rw [h]

theorem info21 : (Trym.prog.info? 21).map (fun i => (i.zero, i.size, i.bytes)) = some (some (.int .i32 0), 1, 4) := by kernel_rfl

/-- THE VALUE v IS A SLICE OF THE CALL's OWN (blocks from 'base' on) THAT HOLDS zs. -/
def Own (w : World) (base : Nat) (v : Value) (zs : List Int) : Prop := w.ownsRow base 21 1 v zs.length (zs.map (Value.int .i32))

theorem Own.cell {w : World} {base g n cap : Nat} {L : List Int} (h : Own w base (.slice (some ⟨g, 0, none⟩) n cap) L) (hL : L.length = n) (j : Nat) (hj : j < n) : w.cell? ⟨g, j, none⟩ = some (.int .i32 (L.getD j 0)) := by
  unfold Own at h
  rw [hL] at h
  have := h.cellAt j (by omega)
  rw [this]
  simp [List.getD, List.getElem?_eq_getElem (show j < L.length by omega)]
theorem Own.frozen {w : World} {base g n cap : Nat} {L : List Int} (h : Own w base (.slice (some ⟨g, 0, none⟩) n cap) L) (hL : L.length = n) (j : Nat) : w.frozen? ⟨g, j, none⟩ = false := by
  unfold Own at h
  rw [hL] at h
  exact h.frozenAt j
theorem Own.set {w : World} {base g n cap : Nat} {L : List Int} (h : Own w base (.slice (some ⟨g, 0, none⟩) n cap) L) (hL : L.length = n) (j : Nat) (z : Int) : Own (w.setCell ⟨g, j, none⟩ (.int .i32 z)) base (.slice (some ⟨g, 0, none⟩) n cap) (L.set j z) := by
  unfold Own at *
  rw [hL] at h
  have := h.stored j (.int .i32 z)
  rw [List.length_set, hL, List.map_set]
  exact this.1
theorem own_made {w : World} {base g n : Nat} (h : w.ownsRow base 21 1 (.slice (some ⟨g, 0, none⟩) n n) n (madeCells (Value.int .i32 0).cells (n * 1)).toList) : Own w base (.slice (some ⟨g, 0, none⟩) n n) (List.replicate n 0) := by
  unfold Own
  have e : (madeCells (Value.int .i32 0).cells (n * 1)).toList = (List.replicate n (0 : Int)).map (Value.int .i32) := by
    rw [Nat.mul_one, show (Value.int .i32 0).cells = #[Value.int .i32 0] from rfl, toList_madeCells_one]
    simp
  rw [e] at h
  simpa using h
theorem Own.sl {w : World} {base : Nat} {v : Value} {zs : List Int} (h : Own w base v zs) : ∃ a cap, v = .slice a zs.length cap ∧ Sl w a zs.length zs ∧ zs.length ≤ cap ∧ (a = none → zs.length = 0 ∧ cap = 0) := by
  unfold Own at h
  have h0 := h
  rcases h.2 with ⟨rfl, hn⟩ | ⟨g, cap, cur, rfl, hb, hg, hcap, hm, hs, ht⟩
  · exact ⟨none, 0, by rw [hn], ⟨rfl, fun h1 => by omega⟩, by omega, fun _ => ⟨hn, rfl⟩⟩
  · refine ⟨_, cap, rfl, ⟨rfl, fun h1 => ⟨g, 0, rfl, ?_, fun i hi => ?_⟩⟩, hcap, fun h1 => by simp at h1⟩
    · exact (h0.lt g rfl).2
    · have := Own.cell (w := w) (base := base) (L := zs) h0 rfl i hi
      rw [Nat.zero_add]; exact this

theorem Own.at {w : World} {base : Nat} {a : Option Addr} {n c : Nat} {zs : List Int} (h : Own w base (.slice a n c) zs) : Sl w a n zs ∧ n ≤ c ∧ (a = none → n = 0 ∧ c = 0) := by
  obtain ⟨a', cap, e, h1, h2, h3⟩ := h.sl
  simp only [Value.slice.injEq] at e
  obtain ⟨rfl, rfl, rfl⟩ := e
  exact ⟨h1, h2, h3⟩
theorem Own.alloc {w : World} {base : Nat} {v : Value} {zs : List Int} (h : Own w base v zs) (o : Obj) : Own (w.alloc o) base v zs := World.ownsRow.alloc h o
theorem Own.drewN {w : World} {base : Nat} {v : Value} {zs : List Int} (h : Own w base v zs) (n : Nat) : Own (w.drewN n) base v zs := h

theorem take_set (L T : List Int) (k : Nat) (hk : k < L.length) (hl : L.length = T.length) (h : L.take k = T.take k) : (L.set k (T.getD k 0)).take (k + 1) = T.take (k + 1) := by
  rw [List.take_succ_eq_append_getElem (by simpa using hk), take_snoc T k (by omega)]
  simp only [List.getElem_set_self, List.take_set_of_le (Nat.le_refl k), h]

theorem q22 (w : World) (a : Option Addr) (n c n' c' : Nat) : (binOp .eql 22 (.slice a n c) (.slice none n' c')).run Trym.prog w = .ok (.bool a.isNone) w := Lib.run_eql_slice_nil w _ _ a n c n' c' Trym.underlying22

set_option maxHeartbeats 400000 in
theorem clone_any (a : Option Addr) (n c : Nat) (zs : List Int) (w : World) (hS : Sl w a n zs) (hn : n ≤ 1048576) (hnil : a = none → n = 0 ∧ c = 0) :
    Calls Trym.prog 10 #[.slice a n c] w fun e w' => ∃ a', e = .returned (.slice a' n n) ∧ Own w' w.heap.size (.slice a' n n) zs ∧ Below w.heap.size w w' ∧ (a' = none ↔ a = none) := by
  obtain ⟨i0, hi, hz0, hz1, hz2⟩ := info_parts info21
  have q := q22
  cases a with
  | none =>
    obtain ⟨rfl, rfl⟩ := hnil rfl
    obtain rfl : zs = [] := List.eq_nil_of_length_eq_zero hS.1
    go_enter Trym.func10, Trym.ntmps10
    go_wp2
    go_ret
    exact ⟨_, rfl, World.ownsRow_nil _ _ _ _, Below.refl _ _, by simp⟩
  | some ad =>
    obtain ⟨hlen0, hc⟩ := hS
    have hlen : Hid (zs.length = n) := hlen0
    clear hlen0 hnil
    go_enter Trym.func10, Trym.ntmps10
    go_wp2_with (at_make; refine wpList_make_full _ rfl _ _ 22 rfl w.heap.size 21 i0 _ 1 Trym.underlying22 hi hz0 hz1 .i64 .i64 _ _ n rfl rfl rfl rfl (by rw [hz2]; omega) (by unfold maxLen; omega) (Nat.le_refl _) ?_; intro w1 hown hgrow)
    have R : Hid (Own w1 w.heap.size (.slice (some ⟨w.heap.size, 0, none⟩) n n) (List.replicate n 0)) := own_made hown
    have hb1 : Below w.heap.size w w1 := (Below.refl _ _).grown hgrow (Nat.le_refl _) (by simp)
    have hlt1 : w.heap.size < w1.heap.size := (hown.lt _ rfl).2
    clear hown hgrow hi hz0 hz1 hz2
    go_loopw [4] (fun i wr => ∃ (k : Nat) (L : List Int), k ≤ n ∧ i = .int .i64 k ∧ L.length = n ∧ Hid (Own wr w.heap.size (.slice (some ⟨w.heap.size, 0, none⟩) n n) L) ∧ Hid (L.take k = zs.take k) ∧ Below w.heap.size w wr) (fun i _ => n - (intOf i).toNat)
    case atStart => exact ⟨0, _, Nat.zero_le _, rfl, by simp, R, rfl, hb1⟩
    case round =>
      obtain ⟨k, L, hk, rfl, hL, hO, hT, hB⟩ := hrel
      by_cases hlt : k < n
      · obtain ⟨b, off, rfl, hbw, hcell⟩ : ∃ b off, ad = ⟨b, off, none⟩ ∧ b < w.heap.size ∧ ∀ i, i < n → w.cell? ⟨b, off + i, none⟩ = some (.int .i32 (zs.getD i 0)) := by
          obtain ⟨b, off, e, h1, h2⟩ := hc (by omega)
          exact ⟨b, off, Option.some.inj e, h1, h2⟩
        have hck := (hB.cell (p := ⟨b, off + k, none⟩) hbw).trans (hcell k hlt)
        clear hcell hc
        obtain ⟨z, hz⟩ : ∃ z, z = zs.getD k 0 := ⟨_, rfl⟩
        rw [← hz] at hck
        have HZ : Hid (z = zs.getD k 0) := hz
        clear hz
        have ho := hO.out.cell hL k hlt
        obtain ⟨u, hu⟩ : ∃ u, wr.cell? ⟨w.heap.size, k, none⟩ = some u := ⟨_, ho⟩
        have hf := hO.out.frozen hL k
        clear ho
        have HL : Hid (L.length = n) := hL
        clear hL
        go_wp2
        go_roundw
        case rel =>
          refine ⟨k + 1, L.set k z, by omega, by go_num, by rw [List.length_set]; exact HL.out, hO.out.set HL.out k z, ?_, hB.setCell (Nat.le_refl _) _⟩
          rw [HZ.out]
          exact take_set L zs k (by rw [HL.out]; exact hlt) (by rw [HL.out, hlen.out]) hT.out
        case measure => simp [intOf]; omega
      · have HL : Hid (L.length = n) := hL
        clear hL
        go_wp2
        go_ret
        refine ⟨_, rfl, ?_, hB, by simp⟩
        have h1 := hT.out
        rw [List.take_of_length_le (by rw [HL.out]; omega), List.take_of_length_le (by rw [hlen.out]; omega)] at h1
        rw [← h1]
        exact hO

end Go.Proofs.Qxb6600935aMods.B
