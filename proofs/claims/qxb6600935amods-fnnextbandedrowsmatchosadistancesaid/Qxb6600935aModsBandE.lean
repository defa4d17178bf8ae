/-
  FnNextBandedRowsMatchOSADistance: the size check and the early ways.
-/
import Derived.Test.Qxb6600935aModsMS
namespace Go.Proofs.Qxb6600935aMods.B
open Go.ChangeShapes Go.WideShapes Go.ChangeAt Go.RowKit

theorem bytes9 (s : ByteArray) (a : Option Addr) (n cp : Nat) (band limit : Int) (w : World) (hs : s.size ≤ maxLen) (hn : n ≤ maxLen) :
    Calls Trym.prog 9 #[.string s, .slice a n cp, .int .i64 band, .int .i64 limit] w
      fun e w' => e = .returned (.bool (decide (s.size + n ≤ 1048576))) ∧ w = w' := by
  unfold maxLen at hs hn
  by_cases h1 : s.size ≤ 1048576
  · by_cases h2 : n ≤ 1048576
    · by_cases h3 : s.size + n ≤ 1048576
      · have hd : decide (s.size + n ≤ 1048576) = true := decide_eq_true h3
        rw [hd]
        clear hd
        go_enter Trym.func9, Trym.ntmps9
        go_wp2
        go_ret
        exact ⟨rfl, rfl⟩
      · have hd : decide (s.size + n ≤ 1048576) = false := decide_eq_false h3
        rw [hd]
        clear hd
        go_enter Trym.func9, Trym.ntmps9
        go_wp2
        go_ret
        exact ⟨rfl, rfl⟩
    · have hd : decide (s.size + n ≤ 1048576) = false := decide_eq_false (by omega)
      rw [hd]
      clear hd
      go_enter Trym.func9, Trym.ntmps9
      go_wp2
      go_ret
      exact ⟨rfl, rfl⟩
  · have hd : decide (s.size + n ≤ 1048576) = false := decide_eq_false (by omega)
    rw [hd]
    clear hd
    go_enter Trym.func9, Trym.ntmps9
    go_wp2
    go_ret
    exact ⟨rfl, rfl⟩

set_option maxRecDepth 100000 in
set_option maxHeartbeats 1000000 in
theorem lawBanded_early (s : ByteArray) (a : Option Addr) (n cp : Nat) (band limit : Int) (w : World) (hs : s.size ≤ maxLen) (hn : n ≤ maxLen) (h : 4096 < s.size ∨ 4096 < n ∨ band < 0 ∨ 2 < band ∨ band < limit) :
    Calls Trym.prog 3 #[.string s, .slice a n cp, .int .i64 band, .int .i64 limit] w fun e w' => e = .returned (.bool true) ∧ Below w.heap.size w w' := by
  have B9 := bytes9 s a n cp band limit w hs hn
  unfold maxLen at hs hn
  by_cases h1 : s.size + n ≤ 1048576
  · have hd : decide (s.size + n ≤ 1048576) = true := decide_eq_true h1
    rw [hd] at B9
    clear hd
    by_cases h2 : 4096 < s.size
    · clear h
      go_enter Trym.func3, Trym.ntmps3
      go_wp2_with fail
      refine B9.mono ?_
      rintro e w1 ⟨rfl, rfl⟩
      go_wp2
      go_ret
      exact ⟨rfl, Below.refl _ _⟩
    · have h2' : decide (4096 < (s.size : Int)) = false := decide_eq_false (by omega)
      by_cases h3 : 4096 < n
      · clear h
        go_enter Trym.func3, Trym.ntmps3
        go_wp2_with fail
        refine B9.mono ?_
        rintro e w1 ⟨rfl, rfl⟩
        go_wp2
        go_ret
        exact ⟨rfl, Below.refl _ _⟩
      · have h3' : decide (4096 < (n : Int)) = false := decide_eq_false (by omega)
        by_cases h4 : band < 0
        · clear h
          go_enter Trym.func3, Trym.ntmps3
          go_wp2_with fail
          refine B9.mono ?_
          rintro e w1 ⟨rfl, rfl⟩
          go_wp2
          go_ret
          exact ⟨rfl, Below.refl _ _⟩
        · have h4' : decide (band < 0) = false := decide_eq_false h4
          by_cases h5 : 2 < band
          · clear h
            go_enter Trym.func3, Trym.ntmps3
            go_wp2_with fail
            refine B9.mono ?_
            rintro e w1 ⟨rfl, rfl⟩
            go_wp2
            go_ret
            exact ⟨rfl, Below.refl _ _⟩
          · have h5' : decide (2 < band) = false := decide_eq_false h5
            have h6 : band < limit := by omega
            clear h
            go_enter Trym.func3, Trym.ntmps3
            go_wp2_with fail
            refine B9.mono ?_
            rintro e w1 ⟨rfl, rfl⟩
            go_wp2
            go_ret
            exact ⟨rfl, Below.refl _ _⟩
  · have hd : decide (s.size + n ≤ 1048576) = false := decide_eq_false h1
    rw [hd] at B9
    clear h hd
    go_enter Trym.func3, Trym.ntmps3
    go_wp2_with fail
    refine B9.mono ?_
    rintro e w1 ⟨rfl, rfl⟩
    go_wp2
    go_ret
    exact ⟨rfl, Below.refl _ _⟩

end Go.Proofs.Qxb6600935aMods.B
