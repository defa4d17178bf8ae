/-
  THE CONTRACTS OF (*search).afford AND (*search).next.
-/
import Derived.Test.Qxb6600935aModsBase
import Derived.Deep.DeepCutAuto
import Derived.Deep.LoopGhost
namespace Go.Proofs.Qxb6600935aMods.B
open Go.ChangeShapes Go.WideShapes Go.ChangeAt Go.RowKit

theorem afford_any (g : Nat) (n work : Int) (w : World) (hc : w.cell? ⟨g, 5, none⟩ = some (.int .i64 work)) (hf : w.frozen? ⟨g, 5, none⟩ = false) :
    Calls Trym.prog 30 #[.pointer (some ⟨g, 0, none⟩), .int .i64 n] w fun e w' => e = .returned (.bool (decide (0 ≤ wrap64 (work - n)))) ∧ w' = w.setCell ⟨g, 5, none⟩ (.int .i64 (wrap64 (work - n))) := by
  go_enter Trym.func30, Trym.ntmps30
  go_wp2
  go_ret
  exact ⟨rfl, rfl⟩

/-- What `next` is told of the search at block g. -/
structure Srch (w : World) (g : Nat) (an : Option Addr) (n cn : Nat) (ns : List Int) (band limit work : Int) : Prop where
  cname : w.cell? ⟨g, 1, none⟩ = some (.slice an n cn)
  cband : w.cell? ⟨g, 2, none⟩ = some (.int .i64 band)
  climit : w.cell? ⟨g, 3, none⟩ = some (.int .i64 limit)
  cwork : w.cell? ⟨g, 5, none⟩ = some (.int .i64 work)
  free : w.frozen? ⟨g, 5, none⟩ = false
  there : g < w.heap.size
  len : ns.length = n
  small : n ≤ 1048576
  runes : 0 < n → ∃ b off, an = some ⟨b, off, none⟩ ∧ b < g ∧ ∀ i, i < n → w.cell? ⟨b, off + i, none⟩ = some (.int .i32 (ns.getD i 0))
  band0 : 0 ≤ band
  band2 : band ≤ 2

/-- WHERE `next` STANDS: Q: the block of older; behind it above, the result's, r's. -/
structure Nx (W : World) (Q g : Nat) (an : Option Addr) (n cn : Nat) (ns : List Int) (band limit work : Int) (older above : Nat → Int) (L : List Int) : Prop where
  srch : Srch W g an n cn ns band limit work
  low : g < Q
  cold : ∀ t, t < 5 → W.cell? ⟨Q, t, none⟩ = some (.int .i64 (older t))
  cabv : ∀ t, t < 5 → W.cell? ⟨Q + 1, t, none⟩ = some (.int .i64 (above t))
  cres : ∀ t, t < 5 → W.cell? ⟨Q + 1 + 1, t, none⟩ = some (.int .i64 0)
  fres : ∀ t, t < 5 → W.frozen? ⟨Q + 1 + 1, t, none⟩ = false
  crow : ∀ t, t < 5 → W.cell? ⟨Q + 1 + 1 + 1, t, none⟩ = some (.int .i64 (L.getD t 0))
  frow : ∀ t, t < 5 → W.frozen? ⟨Q + 1 + 1 + 1, t, none⟩ = false

/-- Five numbers as a function. -/
def of5 (x0 x1 x2 x3 x4 : Int) : Nat → Int
  | 0 => x0
  | 1 => x1
  | 2 => x2
  | 3 => x3
  | 4 => x4
  | _ => 0

theorem Srch.keep {w w' : World} {g : Nat} {an : Option Addr} {n cn : Nat} {ns : List Int} {band limit work : Int} (h : Srch w g an n cn ns band limit work) (hb : Below (g + 1) w w') : Srch w' g an n cn ns band limit work := by
  refine ⟨(hb.cell (p := ⟨g, 1, none⟩) (by simp)).trans h.cname, (hb.cell (p := ⟨g, 2, none⟩) (by simp)).trans h.cband, (hb.cell (p := ⟨g, 3, none⟩) (by simp)).trans h.climit, (hb.cell (p := ⟨g, 5, none⟩) (by simp)).trans h.cwork,
    (hb.frozen (p := ⟨g, 5, none⟩) (by simp)).trans h.free, Nat.lt_of_lt_of_le h.there hb.size, h.len, h.small, fun h0 => ?_, h.band0, h.band2⟩
  obtain ⟨b, off, e, h1, h2⟩ := h.runes h0
  exact ⟨b, off, e, h1, fun i hi => (hb.cell (p := ⟨b, off + i, none⟩) (by simp; omega)).trans (h2 i hi)⟩

theorem four (w : World) (A B C D : Array Value) (ty : TypeId) (i : Nat) :
    ((((w.alloc (.cells A ty)).alloc (.cells B ty)).alloc (.cells C ty)).alloc (.cells D ty)).cell? ⟨w.heap.size, i, none⟩ = A[i]? ∧
    ((((w.alloc (.cells A ty)).alloc (.cells B ty)).alloc (.cells C ty)).alloc (.cells D ty)).cell? ⟨w.heap.size + 1, i, none⟩ = B[i]? ∧
    ((((w.alloc (.cells A ty)).alloc (.cells B ty)).alloc (.cells C ty)).alloc (.cells D ty)).cell? ⟨w.heap.size + 1 + 1, i, none⟩ = C[i]? ∧
    ((((w.alloc (.cells A ty)).alloc (.cells B ty)).alloc (.cells C ty)).alloc (.cells D ty)).cell? ⟨w.heap.size + 1 + 1 + 1, i, none⟩ = D[i]? ∧
    ((((w.alloc (.cells A ty)).alloc (.cells B ty)).alloc (.cells C ty)).alloc (.cells D ty)).frozen? ⟨w.heap.size + 1 + 1, i, none⟩ = false ∧
    ((((w.alloc (.cells A ty)).alloc (.cells B ty)).alloc (.cells C ty)).alloc (.cells D ty)).frozen? ⟨w.heap.size + 1 + 1 + 1, i, none⟩ = false := by
  refine ⟨?_, ?_, ?_, ?_, ?_, ?_⟩
  · rw [World.cell?_alloc_past _ _ _ (by simp <;> omega), World.cell?_alloc_past _ _ _ (by simp <;> omega), World.cell?_alloc_past _ _ _ (by simp), World.cell?_alloc_at _ _ _ _ (by simp)]
  · rw [World.cell?_alloc_past _ _ _ (by simp <;> omega), World.cell?_alloc_past _ _ _ (by simp), World.cell?_alloc_at _ _ _ _ (by simp)]
  · rw [World.cell?_alloc_past _ _ _ (by simp), World.cell?_alloc_at _ _ _ _ (by simp)]
  · rw [World.cell?_alloc_at _ _ _ _ (by simp)]
  · rw [World.frozen?_alloc_past _ _ _ (by simp), World.frozen?_alloc_at _ _ _ _ (by simp)]
  · rw [World.frozen?_alloc_at _ _ _ _ (by simp)]

theorem nx_start (w : World) (g : Nat) (an : Option Addr) (n cn : Nat) (ns : List Int) (band limit work : Int) (o0 o1 o2 o3 o4 a0 a1 a2 a3 a4 : Int) (h : Srch w g an n cn ns band limit work) :
    Nx ((((w.alloc (.cells #[.int .i64 o0, .int .i64 o1, .int .i64 o2, .int .i64 o3, .int .i64 o4] 50)).alloc (.cells #[.int .i64 a0, .int .i64 a1, .int .i64 a2, .int .i64 a3, .int .i64 a4] 50)).alloc (.cells #[.int .i64 0, .int .i64 0, .int .i64 0, .int .i64 0, .int .i64 0] 50)).alloc (.cells #[.int .i64 0, .int .i64 0, .int .i64 0, .int .i64 0, .int .i64 0] 50))
      w.heap.size g an n cn ns band limit work (of5 o0 o1 o2 o3 o4) (of5 a0 a1 a2 a3 a4) [0, 0, 0, 0, 0] := by
  have hg := h.there
  have five : ∀ t, t < 5 → t = 0 ∨ t = 1 ∨ t = 2 ∨ t = 3 ∨ t = 4 := fun t ht => by omega
  refine ⟨h.keep ?_, hg, fun t ht => ?_, fun t ht => ?_, fun t ht => ?_, fun t ht => ?_, fun t ht => ?_, fun t ht => ?_⟩
  · exact ((((Below.refl _ _).alloc (by omega) _).alloc (by simp; omega) _).alloc (by simp; omega) _).alloc (by simp; omega) _
  · rw [(four w _ _ _ _ 50 t).1]; rcases five t ht with rfl | rfl | rfl | rfl | rfl <;> rfl
  · rw [(four w _ _ _ _ 50 t).2.1]; rcases five t ht with rfl | rfl | rfl | rfl | rfl <;> rfl
  · rw [(four w _ _ _ _ 50 t).2.2.1]; rcases five t ht with rfl | rfl | rfl | rfl | rfl <;> rfl
  · exact (four w _ _ _ _ 50 t).2.2.2.2.1
  · rw [(four w _ _ _ _ 50 t).2.2.2.1]; rcases five t ht with rfl | rfl | rfl | rfl | rfl <;> rfl
  · exact (four w _ _ _ _ 50 t).2.2.2.2.2

theorem Nx.afford {W : World} {Q g : Nat} {an : Option Addr} {n cn : Nat} {ns : List Int} {band limit work : Int} {older above : Nat → Int} {L : List Int} (h : Nx W Q g an n cn ns band limit work older above L) (v : Int) :
    Nx (W.setCell ⟨g, 5, none⟩ (.int .i64 v)) Q g an n cn ns band limit v older above L := by
  have hs := h.srch
  have hl := h.low
  have ne : ∀ (q t : Nat), g < q → (W.setCell ⟨g, 5, none⟩ (.int .i64 v)).cell? ⟨q, t, none⟩ = W.cell? ⟨q, t, none⟩ := fun q t hq => World.cell?_setCell_other W _ _ _ (by simp <;> omega)
  have ne2 : ∀ (t : Nat), t ≠ 5 → (W.setCell ⟨g, 5, none⟩ (.int .i64 v)).cell? ⟨g, t, none⟩ = W.cell? ⟨g, t, none⟩ := fun t ht => World.cell?_setCell_other W _ _ _ (by simp <;> omega)
  refine ⟨⟨(ne2 1 (by omega)).trans hs.cname, (ne2 2 (by omega)).trans hs.cband, (ne2 3 (by omega)).trans hs.climit, World.cell?_setCell_same W _ _ hs.cwork, by simpa using hs.free, by simpa [World.setCell] using hs.there, hs.len, hs.small, fun h0 => ?_, hs.band0, hs.band2⟩,
    hl, fun t ht => (ne _ t (by omega)).trans (h.cold t ht), fun t ht => (ne _ t (by omega)).trans (h.cabv t ht), fun t ht => (ne _ t (by omega)).trans (h.cres t ht), fun t ht => by simpa using h.fres t ht, fun t ht => (ne _ t (by omega)).trans (h.crow t ht), fun t ht => by simpa using h.frow t ht⟩
  obtain ⟨b, off, e, h1, h2⟩ := hs.runes h0
  exact ⟨b, off, e, h1, fun i hi => (World.cell?_setCell_other W _ _ _ (by simp <;> omega)).trans (h2 i hi)⟩

theorem Nx.row {W : World} {Q g : Nat} {an : Option Addr} {n cn : Nat} {ns : List Int} {band limit work : Int} {older above : Nat → Int} {L : List Int} (h : Nx W Q g an n cn ns band limit work older above L) (k : Nat) (v : Int) (hk : k < 5) (hL : L.length = 5) :
    Nx (W.setCell ⟨Q + 1 + 1 + 1, k, none⟩ (.int .i64 v)) Q g an n cn ns band limit work older above (L.set k v) := by
  have hs := h.srch
  have hl := h.low
  have ne : ∀ (q t : Nat), q < Q + 1 + 1 + 1 → (W.setCell ⟨Q + 1 + 1 + 1, k, none⟩ (.int .i64 v)).cell? ⟨q, t, none⟩ = W.cell? ⟨q, t, none⟩ := fun q t hq => World.cell?_setCell_other W _ _ _ (by simp <;> omega)
  refine ⟨⟨(ne _ 1 (by omega)).trans hs.cname, (ne _ 2 (by omega)).trans hs.cband, (ne _ 3 (by omega)).trans hs.climit, (ne _ 5 (by omega)).trans hs.cwork, by simpa using hs.free, by simpa [World.setCell] using hs.there, hs.len, hs.small, fun h0 => ?_, hs.band0, hs.band2⟩,
    hl, fun t ht => (ne _ t (by omega)).trans (h.cold t ht), fun t ht => (ne _ t (by omega)).trans (h.cabv t ht), fun t ht => (ne _ t (by omega)).trans (h.cres t ht), fun t ht => by simpa using h.fres t ht, fun t ht => ?_, fun t ht => by simpa using h.frow t ht⟩
  · obtain ⟨b, off, e, h1, h2⟩ := hs.runes h0
    exact ⟨b, off, e, h1, fun i hi => (ne _ _ (by omega)).trans (h2 i hi)⟩
  · by_cases htk : t = k
    · subst htk
      rw [World.cell?_setCell_same W _ _ (h.crow t ht)]
      simp [List.getD, hL, ht]
    · rw [World.cell?_setCell_other W _ _ _ (by simp <;> omega), h.crow t ht]
      simp only [List.getD]
      rw [List.getElem?_set_ne (by omega)]

/-! ### The row, plainly -/
/-- The column of cell k of row i. -/
def jOf (i band : Int) (k : Nat) : Int := wrap64 (wrap64 (i + k) - band)
def costOf (ns : List Int) (c j : Int) : Int := if ns.getD (j.toNat - 1) 0 = c then 0 else 1
def swapOf (ns : List Int) (i c prev j : Int) : Prop := 1 < i ∧ 1 < j ∧ ns.getD (j.toNat - 2) 0 = c ∧ ns.getD (j.toNat - 1) 0 = prev
open Classical in
def inner (ns : List Int) (band i c prev j : Int) (older above : Nat → Int) (left : Int) (k : Nat) : Int :=
  let d0 := wrap64 (above k + costOf ns c j)
  let d1 := if (k : Int) + 1 < 2 * band + 1 then min d0 (wrap64 (above (k + 1) + 1)) else d0
  let d2 := if 0 < k then min d1 (wrap64 (left + 1)) else d1
  if 1 < i ∧ 1 < j ∧ ns.getD (j.toNat - 2) 0 = c ∧ ns.getD (j.toNat - 1) 0 = prev then min d2 (wrap64 (older k + 1)) else d2
/-- Cell k of row i. -/
def cellOf (ns : List Int) (band i c prev : Int) (older above : Nat → Int) (left : Int) (k : Nat) : Int :=
  if jOf i band k < 0 ∨ (ns.length : Int) < jOf i band k then band + 1
  else if jOf i band k = 0 then i
  else inner ns band i c prev (jOf i band k) older above left k
/-- The first k cells. -/
def cells (ns : List Int) (band i c prev : Int) (older above : Nat → Int) : Nat → List Int
  | 0 => []
  | k + 1 => cells ns band i c prev older above k ++ [cellOf ns band i c prev older above ((cells ns band i c prev older above k).getD (k - 1) 0) k]
/-- Is one of them within the limit? -/
def near (l : List Int) (limit : Int) : Bool := l.any (fun d => decide (d ≤ limit))
/-- The row, as it lies in memory. -/
def rowOf (l : List Int) : List Int := l ++ List.replicate (5 - l.length) 0

theorem length_cells (ns : List Int) (band i c prev : Int) (older above : Nat → Int) (k : Nat) : (cells ns band i c prev older above k).length = k := by
  induction k with
  | zero => rfl
  | succ k ih => simp [cells, ih]
theorem rowOf_snoc (l : List Int) (v : Int) (h : l.length < 5) : (rowOf l).set l.length v = rowOf (l ++ [v]) := by
  unfold rowOf
  rw [List.set_append_right _ _ (Nat.le_refl _), Nat.sub_self, show 5 - l.length = (5 - (l ++ [v]).length) + 1 from by simp; omega, List.replicate_succ]
  simp
theorem rowOf_at (l : List Int) (t : Nat) (h : t < l.length) : (rowOf l).getD t 0 = l.getD t 0 := by
  unfold rowOf
  simp only [List.getD]
  rw [List.getElem?_append_left h]
theorem length_rowOf (l : List Int) (h : l.length ≤ 5) : (rowOf l).length = 5 := by simp [rowOf]; omega
theorem near_snoc (l : List Int) (v limit : Int) : near (l ++ [v]) limit = (near l limit || decide (v ≤ limit)) := by simp [near]

theorem Srch.drewN {w : World} {g : Nat} {an : Option Addr} {n cn : Nat} {ns : List Int} {band limit work : Int} (h : Srch w g an n cn ns band limit work) (q : Nat) : Srch (w.drewN q) g an n cn ns band limit work :=
  ⟨h.cname, h.cband, h.climit, h.cwork, h.free, h.there, h.len, h.small, h.runes, h.band0, h.band2⟩
theorem Nx.drewN {W : World} {Q g : Nat} {an : Option Addr} {n cn : Nat} {ns : List Int} {band limit work : Int} {older above : Nat → Int} {L : List Int} (h : Nx W Q g an n cn ns band limit work older above L) (q : Nat) : Nx (W.drewN q) Q g an n cn ns band limit work older above L :=
  ⟨h.srch.drewN q, h.low, h.cold, h.cabv, h.cres, h.fres, h.crow, h.frow⟩

/-- WHAT `next` LEAVES. -/
def NextPost (w : World) (g : Nat) (wk : Int) (R : List Int) (reach : Bool) (e : Ending) (w' : World) : Prop :=
  e = .returned (.tuple #[.agg #[.int .i64 (R.getD 0 0), .int .i64 (R.getD 1 0), .int .i64 (R.getD 2 0), .int .i64 (R.getD 3 0), .int .i64 (R.getD 4 0)], .bool reach]) ∧ Below g w w' ∧ w'.cell? ⟨g, 5, none⟩ = some (.int .i64 wk)

end Go.Proofs.Qxb6600935aMods.B
