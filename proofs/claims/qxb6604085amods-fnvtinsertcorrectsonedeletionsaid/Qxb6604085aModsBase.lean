/-
  WHAT THE WALKS SHARE: a slice of bytes that is read ('Sl'), and the contracts of the laws' own helpers.
-/
import Derived.Test.Qxb6604085aModsRows
import Derived.Test.Qxb6604085aModsPlain
import Derived.WalkKit
import Derived.ProofKit
import Derived.Below
import Derived.OwnWalk
import Derived.WalkSpells
import Derived.WalkLawsBesides
import Derived.Deep.QuietTactic
import Derived.BigQuiet
namespace Go.Proofs.Qxb6604085aMods.B
open Go.ChangeShapes Go.WideShapes Go.ChangeAt Go.RowKit
open Go.Proofs.Qxb6604085aMods.Pl

/-- THE SLICE AT a, of n bytes, HOLDS THE NUMBERS zs in the world w. -/
def Sl (w : World) (a : Option Addr) (n : Nat) (zs : List Int) : Prop :=
  zs.length = n ∧ (0 < n → ∃ b off, a = some ⟨b, off, none⟩ ∧ b < w.heap.size ∧ ∀ i, i < n → w.cell? ⟨b, off + i, none⟩ = some (.int .u8 (zs.getD i 0)))

theorem Sl.below {w w' : World} {a : Option Addr} {n : Nat} {zs : List Int} (h : Sl w a n zs) (hb : Below w.heap.size w w') : Sl w' a n zs := by
  refine ⟨h.1, fun h0 => ?_⟩
  obtain ⟨b, off, e, hl, hc⟩ := h.2 h0
  exact ⟨b, off, e, Nat.lt_of_lt_of_le hl hb.size, fun i hi => (hb.cell (p := ⟨b, off + i, none⟩) hl).trans (hc i hi)⟩

theorem tuck {p : Prop} (h : p) : Hid p := h

/-- Are all the numbers bits? -/
def bitsB (zs : List Int) : Bool := zs.all (fun z => decide (z ≤ 1))

theorem bitsB_snoc (l : List Int) (z : Int) : bitsB (l ++ [z]) = (bitsB l && decide (z ≤ 1)) := by simp [bitsB]
theorem bitsB_take (l : List Int) (k : Nat) (h : bitsB l = true) : bitsB (l.take k) = true := by
  unfold bitsB at *
  rw [List.all_eq_true] at *
  exact fun x hx => h x (List.mem_of_mem_take hx)
theorem ret_bool {a b : Bool} (h : a = b) : Ending.returned (.bool a) = .returned (.bool b) := by rw [h]
theorem ret_int {k : IntKind} {a b : Int} (h : a = b) : Ending.returned (.int k a) = .returned (.int k b) := by rw [h]

set_option maxHeartbeats 400000 in
theorem isBits_any (a : Option Addr) (n c : Nat) (zs : List Int) (w : World) (hS : Sl w a n zs) (hn : n ≤ 1048576) :
    Calls Trym.prog 10 #[.slice a n c] w fun e w' => e = .returned (.bool (bitsB zs)) ∧ w' = w := by
  obtain ⟨hlen0, hc⟩ := hS
  have hlen : Hid (zs.length = n) := hlen0
  clear hlen0
  go_enter Trym.func10, Trym.ntmps10
  go_wp2
  go_loop [3] (fun i => ∃ k : Nat, k ≤ n ∧ i = .int .i64 k ∧ Hid (bitsB (zs.take k) = true)) (fun i => n - (intOf i).toNat)
  case atStart => exact ⟨0, Nat.zero_le _, rfl, rfl⟩
  case round =>
    obtain ⟨k, hk, rfl, hb⟩ := hrel
    by_cases hlt : k < n
    · obtain ⟨b, off, rfl, hbw, hcell⟩ := hc (by omega)
      have hck := hcell k hlt
      clear hcell hc
      obtain ⟨z, hz⟩ : ∃ z, z = zs.getD k 0 := ⟨_, rfl⟩
      rw [← hz] at hck
      have HZ : Hid (z = zs.getD k 0) := hz
      clear hz
      by_cases hz1 : (1 : Int) < z
      · go_wp2
        go_ret
        refine ⟨ret_bool ?_, rfl⟩
        by_cases hh : bitsB zs = true
        · have h2 := bitsB_take zs (k + 1) hh
          rw [take_snoc zs k (by rw [hlen.out]; exact hlt), bitsB_snoc, hb.out, ← HZ.out] at h2
          simp at h2; omega
        · simpa using hh
      · go_wp2
        go_round
        case rel => exact ⟨k + 1, by omega, by go_num, by rw [Hid, take_snoc zs k (by rw [hlen.out]; exact hlt), bitsB_snoc, hb.out, ← HZ.out]; simp; omega⟩
        case measure => simp [intOf]; omega
    · go_wp2
      go_ret
      refine ⟨ret_bool ?_, rfl⟩
      have h2 := hb.out
      rw [List.take_of_length_le (by rw [hlen.out]; omega)] at h2
      rw [h2]

end Go.Proofs.Qxb6604085aMods.B
