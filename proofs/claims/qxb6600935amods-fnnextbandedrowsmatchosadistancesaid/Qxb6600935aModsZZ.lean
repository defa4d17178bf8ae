/-
  THE CONTRACT OF ZZNext.
-/
import Derived.Test.Qxb6600935aModsNextW
import Derived.Deep.RegionHeld3
namespace Go.Proofs.Qxb6600935aMods.B
open Go.ChangeShapes Go.WideShapes Go.ChangeAt Go.RowKit

/-- What the row and the reach are, with wk the work that is left. -/
def rowR (ns : List Int) (band i c prev : Int) (older above : Nat → Int) (wk : Int) : List Int :=
  if 0 ≤ wk then rowOf (cells ns band i c prev older above (2 * band + 1).toNat) else [0, 0, 0, 0, 0]
def reachR (ns : List Int) (band limit i c prev : Int) (older above : Nat → Int) (wk : Int) : Bool :=
  if 0 ≤ wk then near (cells ns band i c prev older above (2 * band + 1).toNat) limit else false

theorem next_any (g : Nat) (an : Option Addr) (n cn : Nat) (ns : List Int) (band limit work : Int) (o0 o1 o2 o3 o4 a0 a1 a2 a3 a4 i c prev : Int) (w : World) (h : Srch w g an n cn ns band limit work) (hc0 : 0 ≤ c) (hc255 : c ≤ 255) (hp0 : 0 ≤ prev) (hp255 : prev ≤ 255) :
    Calls Trym.prog 27 #[.pointer (some ⟨g, 0, none⟩), .agg #[.int .i64 o0, .int .i64 o1, .int .i64 o2, .int .i64 o3, .int .i64 o4], .agg #[.int .i64 a0, .int .i64 a1, .int .i64 a2, .int .i64 a3, .int .i64 a4], .int .i64 i, .int .u8 c, .int .u8 prev] w
      (NextPost w g (wrap64 (work - (2 * band + 1))) (rowR ns band i c prev (of5 o0 o1 o2 o3 o4) (of5 a0 a1 a2 a3 a4) (wrap64 (work - (2 * band + 1)))) (reachR ns band limit i c prev (of5 o0 o1 o2 o3 o4) (of5 a0 a1 a2 a3 a4) (wrap64 (work - (2 * band + 1))))) := by
  unfold rowR reachR
  by_cases hw : 0 ≤ wrap64 (work - (2 * band + 1))
  · rw [if_pos hw, if_pos hw]
    exact next_yes g an n cn ns band limit work o0 o1 o2 o3 o4 a0 a1 a2 a3 a4 i c prev w h _ rfl hw hc0 hc255 hp0 hp255
  · rw [if_neg hw, if_neg hw]
    exact next_no g an n cn ns band limit work o0 o1 o2 o3 o4 a0 a1 a2 a3 a4 i c prev w h _ rfl (by omega)

/-- WHAT ZZNext LEAVES. -/
def ZZPost (w : World) (wk : Int) (R : List Int) (reach : Bool) (e : Ending) (w' : World) : Prop :=
  e = .returned (.tuple #[.agg #[.int .i64 (R.getD 0 0), .int .i64 (R.getD 1 0), .int .i64 (R.getD 2 0), .int .i64 (R.getD 3 0), .int .i64 (R.getD 4 0)], .bool reach, .int .i64 wk]) ∧ Below w.heap.size w w'

theorem srch_start (w : World) (A B C : Obj) (an : Option Addr) (n cn : Nat) (ns : List Int) (band limit work : Int) (hS : Sl w an n ns) (hn : n ≤ 1048576) (hb0 : 0 ≤ band) (hb2 : band ≤ 2) :
    Srch ((((w.alloc A).alloc B).alloc C).alloc (.cells #[.slice none 0 0, .slice an n cn, .int .i64 band, .int .i64 limit, .int .i64 (-1), .int .i64 work] 49)) (w.heap.size + 1 + 1 + 1) an n cn ns band limit work := by
  have at_ : ∀ i, ((((w.alloc A).alloc B).alloc C).alloc (.cells #[.slice none 0 0, .slice an n cn, .int .i64 band, .int .i64 limit, .int .i64 (-1), .int .i64 work] 49)).cell? ⟨w.heap.size + 1 + 1 + 1, i, none⟩ = (#[Value.slice none 0 0, .slice an n cn, .int .i64 band, .int .i64 limit, .int .i64 (-1), .int .i64 work])[i]? := fun i => World.cell?_alloc_at _ _ _ _ (by simp)
  refine ⟨at_ 1, at_ 2, at_ 3, at_ 5, World.frozen?_alloc_at _ _ _ _ (by simp), by simp, hS.1, hn, fun h0 => ?_, hb0, hb2⟩
  obtain ⟨b, off, e, h1, h2⟩ := hS.2 h0
  refine ⟨b, off, e, by omega, fun i hi => ?_⟩
  rw [World.cell?_alloc_past _ _ _ (by first | omega | (simp <;> omega)), World.cell?_alloc_past _ _ _ (by first | omega | (simp <;> omega)), World.cell?_alloc_past _ _ _ (by first | omega | (simp <;> omega)), World.cell?_alloc_past _ _ _ (by first | omega | (simp <;> omega))]
  exact h2 i hi
theorem res_start (w : World) (A B D : Obj) (C : Array Value) (ty : TypeId) (t : Nat) :
    ((((w.alloc A).alloc B).alloc (.cells C ty)).alloc D).cell? ⟨w.heap.size + 1 + 1, t, none⟩ = C[t]? ∧ ((((w.alloc A).alloc B).alloc (.cells C ty)).alloc D).frozen? ⟨w.heap.size + 1 + 1, t, none⟩ = false := by
  constructor
  · rw [World.cell?_alloc_past _ _ _ (by simp), World.cell?_alloc_at _ _ _ _ (by simp)]
  · rw [World.frozen?_alloc_past _ _ _ (by simp), World.frozen?_alloc_at _ _ _ _ (by simp)]
theorem below_start (w : World) (A B C D : Obj) : Below w.heap.size w ((((w.alloc A).alloc B).alloc C).alloc D) := by
  have b1 : Below w.heap.size w (w.alloc A) := (Below.refl _ _).alloc (by omega) _
  have b2 : Below w.heap.size w ((w.alloc A).alloc B) := b1.alloc (by simp) _
  have b3 : Below w.heap.size w (((w.alloc A).alloc B).alloc C) := b2.alloc (by simp; omega) _
  exact b3.alloc (by simp; omega) _

set_option maxRecDepth 100000 in
set_option maxHeartbeats 1000000 in
theorem zzNext_any (an : Option Addr) (n cn : Nat) (ns : List Int) (band limit work : Int) (o0 o1 o2 o3 o4 a0 a1 a2 a3 a4 i c prev : Int) (w : World) (hS : Sl w an n ns) (hn : n ≤ 1048576) (hb0 : 0 ≤ band) (hb2 : band ≤ 2) (hc0 : 0 ≤ c) (hc255 : c ≤ 255) (hp0 : 0 ≤ prev) (hp255 : prev ≤ 255) :
    Calls Trym.prog 13 #[.slice an n cn, .int .i64 band, .int .i64 limit, .int .i64 work, .agg #[.int .i64 o0, .int .i64 o1, .int .i64 o2, .int .i64 o3, .int .i64 o4], .agg #[.int .i64 a0, .int .i64 a1, .int .i64 a2, .int .i64 a3, .int .i64 a4], .int .i64 i, .int .u8 c, .int .u8 prev] w
      (ZZPost w (wrap64 (work - (2 * band + 1))) (rowR ns band i c prev (of5 o0 o1 o2 o3 o4) (of5 a0 a1 a2 a3 a4) (wrap64 (work - (2 * band + 1)))) (reachR ns band limit i c prev (of5 o0 o1 o2 o3 o4) (of5 a0 a1 a2 a3 a4) (wrap64 (work - (2 * band + 1))))) := by
  have HS := tuck hS
  clear hS
  go_enter Trym.func13, Trym.ntmps13
  go_wp2_with fail
  refine (next_any (w.heap.size + 1 + 1 + 1) an n cn ns band limit work o0 o1 o2 o3 o4 a0 a1 a2 a3 a4 i c prev _ (by exact srch_start w _ _ _ an n cn ns band limit work HS.out hn hb0 hb2) hc0 hc255 hp0 hp255).mono ?_
  obtain ⟨wk, hwk⟩ : ∃ wk, wrap64 (work - (2 * band + 1)) = wk := ⟨_, rfl⟩
  rw [hwk]
  obtain ⟨R, hR⟩ : ∃ R, rowR ns band i c prev (of5 o0 o1 o2 o3 o4) (of5 a0 a1 a2 a3 a4) wk = R := ⟨_, rfl⟩
  obtain ⟨rc, hrc⟩ : ∃ rc, reachR ns band limit i c prev (of5 o0 o1 o2 o3 o4) (of5 a0 a1 a2 a3 a4) wk = rc := ⟨_, rfl⟩
  rw [hR, hrc]
  have HWK := tuck hwk
  have HR := tuck hR
  have HRC := tuck hrc
  clear hwk hR hrc
  rintro e w1 ⟨rfl, hB, hcw⟩
  have g0 := fun t => (hB.cell (p := ⟨w.heap.size + 1 + 1, t, none⟩) (by simp)).trans (res_start w _ _ _ _ _ t).1
  have f0 := fun t => (hB.frozen (p := ⟨w.heap.size + 1 + 1, t, none⟩) (by simp)).trans (res_start w _ _ _ _ _ t).2
  have hsz : w.heap.size + 1 + 1 + 1 < w1.heap.size := by have := hB.size; simp at this; omega
  have hsz2 : w.heap.size + 1 + 1 < w1.heap.size := by omega
  have HBw : Hid (Below w.heap.size w w1) := (below_start w _ _ _ _).trans (hB.mono (by omega))
  have r0 := g0 0
  have r1 := g0 1
  have r2 := g0 2
  have r3 := g0 3
  have r4 := g0 4
  have q0 := f0 0
  have q1 := f0 1
  have q2 := f0 2
  have q3 := f0 3
  have q4 := f0 4
  simp at r0 r1 r2 r3 r4
  clear g0 f0 hB
  obtain ⟨v0, e0⟩ : ∃ v, R.getD 0 0 = v := ⟨_, rfl⟩
  obtain ⟨v1, e1⟩ : ∃ v, R.getD 1 0 = v := ⟨_, rfl⟩
  obtain ⟨v2, e2⟩ : ∃ v, R.getD 2 0 = v := ⟨_, rfl⟩
  obtain ⟨v3, e3⟩ : ∃ v, R.getD 3 0 = v := ⟨_, rfl⟩
  obtain ⟨v4, e4⟩ : ∃ v, R.getD 4 0 = v := ⟨_, rfl⟩
  rw [e0, e1, e2, e3, e4]
  have EE := tuck (And.intro e0 (And.intro e1 (And.intro e2 (And.intro e3 e4))))
  clear e0 e1 e2 e3 e4
  go_wp2
  go_region
  go_wp2
  have hle : w.heap.size ≤ w1.heap.size := by omega
  refine bodyPost_ret (v := .tuple #[.agg #[.int .i64 v0, .int .i64 v1, .int .i64 v2, .int .i64 v3, .int .i64 v4], .bool rc, .int .i64 wk]) (by simp [results, Trym.results13, go_sem, r0, r1, r2, r3, r4, hsz2]) rfl ⟨?_, ?_⟩
  · obtain ⟨e0, e1, e2, e3, e4⟩ := EE.out
    rw [HWK.out, HR.out, HRC.out, e0, e1, e2, e3, e4]
  · have b5 := ((((HBw.out.setCell (p := ⟨w.heap.size + 1 + 1, 0, none⟩) (by simp; omega) (.int .i64 v0)).setCell (p := ⟨w.heap.size + 1 + 1, 1, none⟩) (by simp; omega) (.int .i64 v1)).setCell (p := ⟨w.heap.size + 1 + 1, 2, none⟩) (by simp; omega) (.int .i64 v2)).setCell (p := ⟨w.heap.size + 1 + 1, 3, none⟩) (by simp; omega) (.int .i64 v3)).setCell (p := ⟨w.heap.size + 1 + 1, 4, none⟩) (by simp; omega) (.int .i64 v4)
    exact (b5.alloc b5.size _).drew

end Go.Proofs.Qxb6600935aMods.B
