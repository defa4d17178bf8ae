/-
  vtDelete whole, and ZZVtDelete, at a slice of the call's own.
-/
import Derived.Test.Qxb6604085aModsDelLo
import Derived.Test.Qxb6604085aModsDelHi
namespace Go.Proofs.Qxb6604085aMods.B
open Go.ChangeShapes Go.WideShapes Go.ChangeAt Go.RowKit
open Go.Proofs.Qxb6604085aMods.Pl

theorem vtDelete_empty (a : Option Addr) (c : Nat) (x : Int) (zs : List Int) (w : World) : Calls Trym.prog 26 #[.slice a 0 c, .int .u64 x] w (DelPost w 0 x zs) := by
  go_enter Trym.func26, Trym.ntmps26
  go_wp2
  go_ret
  exact ⟨Below.refl _ _, .inl ⟨rfl, fun i h => by omega⟩⟩

theorem vtDelete_any (a : Option Addr) (n c : Nat) (x : Int) (zs : List Int) (base : Nat) (w : World) (hO : Own w base (.slice a n c) zs) (hn : n ≤ 1048580) (hbits : Bits zs) (hx0 : 0 ≤ x) (hx1 : x ≤ 18446744073709551615) :
    Calls Trym.prog 26 #[.slice a n c, .int .u64 x] w (DelPost w n x zs) := by
  have hA := hO.at
  by_cases h0 : n = 0
  · subst h0
    exact vtDelete_empty a c x zs w
  · obtain ⟨l, rfl⟩ : ∃ l, n = l + 1 := ⟨n - 1, by omega⟩
    obtain ⟨b, off, rfl, hbw, hcell⟩ := hA.1.2 (by omega)
    obtain ⟨s, z, d, W, W0, h⟩ := delIn b off l c x zs w hA.1.1 hbw hcell hA.2.1 hn hbits hx0 hx1
    have hd0 := h.d0
    by_cases h1 : d = 0
    · exact vtDelete_zero b off l c x zs w s z d W W0 h h1
    · by_cases h2 : d = W
      · exact vtDelete_first b off l c x zs w s z d W W0 h (by omega) h2
      · by_cases h3 : d < W
        · exact vtDelete_lo b off l c x zs w s z d W W0 h (by omega) h3
        · exact vtDelete_hi b off l c x zs w s z d W W0 h (by omega)

theorem zzVtDelete_any (a : Option Addr) (n c : Nat) (x : Int) (zs : List Int) (base : Nat) (w : World) (hO : Own w base (.slice a n c) zs) (hn : n ≤ 1048580) (hbits : Bits zs) (hx0 : 0 ≤ x) (hx1 : x ≤ 18446744073709551615) :
    Calls Trym.prog 21 #[.slice a n c, .int .u64 x] w (DelPost w n x zs) := by
  have C := tuck (vtDelete_any a n c x zs base w hO hn hbits hx0 hx1)
  clear hO hbits
  go_enter Trym.func21, Trym.ntmps21
  go_wp2_with (go_at_call 26; refine C.out.mono ?_; rintro e w1 ⟨hb, ⟨rfl, h⟩ | ⟨g, m, cp, i, rfl, h⟩⟩)
  · go_ret
    exact ⟨hb, .inl ⟨rfl, h⟩⟩
  · go_ret
    exact ⟨hb, .inr ⟨g, m, cp, i, rfl, h⟩⟩

end Go.Proofs.Qxb6604085aMods.B
