/-
  ZZVtInsert, at a slice of the call's own; and that an insertion with the syndrome asked for is always there.
-/
import Derived.Test.Qxb6604085aModsIns0
namespace Go.Proofs.Qxb6604085aMods.B
open Go.ChangeShapes Go.WideShapes Go.ChangeAt Go.RowKit
open Go.Proofs.Qxb6604085aMods.Pl

theorem Own.parts {w : World} {base : Nat} {a : Option Addr} {n c : Nat} {zs : List Int} (h : Own w base (.slice a n c) zs) :
    (a = none ∧ n = 0 ∧ c = 0 ∧ zs = []) ∨ ∃ g, a = some ⟨g, 0, none⟩ ∧ g < w.heap.size ∧ n ≤ c ∧ zs.length = n ∧ ∀ i, i < n → w.cell? ⟨g, 0 + i, none⟩ = some (.int .u8 (zs.getD i 0)) := by
  have h0 := h
  unfold Own at h0
  rcases h0.2 with ⟨e, hn⟩ | ⟨g, cap, cur, e, hb, hg, hcap, hm, hs, ht⟩
  · simp only [Value.slice.injEq] at e
    exact .inl ⟨e.1, e.2.1, e.2.2, List.eq_nil_of_length_eq_zero hn⟩
  · simp only [Value.slice.injEq] at e
    obtain ⟨rfl, rfl, rfl⟩ := e
    refine .inr ⟨g, rfl, (h0.lt g rfl).2, hcap, rfl, fun i hi => ?_⟩
    rw [Nat.zero_add]
    exact h.cell rfl i hi

theorem vtInsert_any (a : Option Addr) (n c : Nat) (x : Int) (zs : List Int) (base : Nat) (w : World) (hO : Own w base (.slice a n c) zs) (hn : n ≤ 1048576) (hbits : Bits zs) (hx0 : 0 ≤ x) (hx1 : x ≤ 18446744073709551615) :
    Calls Trym.prog 25 #[.slice a n c, .int .u64 x] w (InsPost w n x zs) := by
  rcases hO.parts with ⟨rfl, rfl, rfl, rfl⟩ | ⟨g, rfl, hg, hnc, hl, hc⟩
  · exact vtInsert_none x w hx0 hx1
  · exact vtInsert_some g 0 n c x zs w hl hg hc hnc hn hbits hx0 hx1

theorem zzVtInsert_any (a : Option Addr) (n c : Nat) (x : Int) (zs : List Int) (base : Nat) (w : World) (hO : Own w base (.slice a n c) zs) (hn : n ≤ 1048576) (hbits : Bits zs) (hx0 : 0 ≤ x) (hx1 : x ≤ 18446744073709551615) :
    Calls Trym.prog 14 #[.slice a n c, .int .u64 x] w (InsPost w n x zs) := by
  have C := tuck (vtInsert_any a n c x zs base w hO hn hbits hx0 hx1)
  clear hO hbits
  go_enter Trym.func14, Trym.ntmps14
  go_wp2_with (go_at_call 25; refine C.out.mono ?_; rintro e w1 ⟨v, i, b, rfl, h⟩)
  go_ret
  exact ⟨_, i, b, rfl, h⟩

/-- Whatever the syndrome asked for, some insertion has it. -/
theorem ins_exists (a : Option Addr) (n c : Nat) (x : Int) (zs : List Int) (base : Nat) (w : World) (hO : Own w base (.slice a n c) zs) (hn : n ≤ 1048576) (hbits : Bits zs) (hx0 : 0 ≤ x) (hx1 : x ≤ 18446744073709551615) :
    ∃ (i : Nat) (b : Int), i ≤ n ∧ (b = 0 ∨ b = 1) ∧ ws 1 (ins zs i b) % ((n : Int) + 2) = x % ((n : Int) + 2) := by
  obtain ⟨e, w', fr, ⟨v, i, b, _, h1, h2, _, h3, _⟩, _⟩ := vtInsert_any a n c x zs base w hO hn hbits hx0 hx1 []
  exact ⟨i, b, h1, h2, h3⟩

end Go.Proofs.Qxb6604085aMods.B
