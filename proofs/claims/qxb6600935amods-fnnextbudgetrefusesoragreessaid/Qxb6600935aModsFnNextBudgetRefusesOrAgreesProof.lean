/-
  THE PROOF OF 'Rows.FnNextBudgetRefusesOrAgreesSaid': the frame after the one that the kit's tool writes (here with two arrays among the parameters); the walk lies in Qxb6600935aModsLawBudget.
-/
import Derived.Test.Qxb6600935aModsRows
import Derived.Test.Qxb6600935aModsLawBudget
import Derived.WalkKit
import Derived.ProofKit
import Derived.OpenShut
import Derived.ShutString
import Derived.ChangeOld
import Derived.Below
namespace Go.Proofs.Qxb6600935aMods.fnNextBudgetRefusesOrAgrees
open Go.ChangeShapes Go.WideShapes Go.ChangeAt Go.RowKit
set_option linter.unusedVariables false

theorem own : ownKnob Trym.prog.godebug = none := by kernel_rfl
theorem laidOut : laidOutB Trym.prog = true := by kernel_rfl
theorem cells26 : Trym.prog.cellsOf 26 = 5 := by kernel_rfl
theorem cells3 : Trym.prog.cellsOf 3 = 1 := by kernel_rfl

theorem list5 {α : Type} (l : List α) (h : (⟨l⟩ : Array α).size = 5) : ∃ a b c d e, l = [a, b, c, d, e] := by
  match l, h with
  | [a, b, c, d, e], _ => exact ⟨a, b, c, d, e, rfl⟩

/-- An array of five int, by value: its numbers. -/
theorem open_arr5 {H : Type} {enc : TypeId × Value → H} {W : World} {base : Nat} {v : Value} {d : DataW H} {p : List MemPlace} (hv : Value.okWide Trym.prog W .any base 26 v) (h : DataW.Trod enc Trym.prog W 0 (fun _ => true) true 26 v d p) :
    ∃ x0 x1 x2 x3 x4 : Int, v = .agg #[.int .i64 x0, .int .i64 x1, .int .i64 x2, .int .i64 x3, .int .i64 x4] := by
  obtain ⟨cs, rfl, hsz, _⟩ : ∃ cs, v = .agg cs ∧ cs.size = Trym.prog.cellsOf 26 ∧ Row.okWide Trym.prog W .any base 26 cs := by
    simpa [Value.okWide, Trym.underlying26] using hv
  rw [cells26] at hsz
  obtain ⟨l⟩ := cs
  obtain ⟨c0, c1, c2, c3, c4, rfl⟩ := list5 l hsz
  obtain ⟨fuel, hf⟩ := h
  obtain ⟨xs, m, _, _, _, hl, hel⟩ := DataW.trod_array Trym.underlying26 hf
  have g : ∀ i, i < 5 → ∃ y, DataW.trod enc Trym.prog W 0 (fun _ => true) true m 3 (((Value.agg #[c0, c1, c2, c3, c4]).cells.toList.drop (i * Trym.prog.cellsOf 3)).take (Trym.prog.cellsOf 3)) = some y := fun i hi => by
    rw [hel i hi]
    exact ⟨_, List.getElem?_eq_getElem (by omega)⟩
  rw [cells3] at g
  obtain ⟨y0, h0⟩ := g 0 (by omega)
  obtain ⟨y1, h1⟩ := g 1 (by omega)
  obtain ⟨y2, h2⟩ := g 2 (by omega)
  obtain ⟨y3, h3⟩ := g 3 (by omega)
  obtain ⟨y4, h4⟩ := g 4 (by omega)
  obtain ⟨x0, e0, _, _⟩ := DataW.trod_int Trym.underlying3 h0
  obtain ⟨x1, e1, _, _⟩ := DataW.trod_int Trym.underlying3 h1
  obtain ⟨x2, e2, _, _⟩ := DataW.trod_int Trym.underlying3 h2
  obtain ⟨x3, e3, _, _⟩ := DataW.trod_int Trym.underlying3 h3
  obtain ⟨x4, e4, _, _⟩ := DataW.trod_int Trym.underlying3 h4
  simp [Value.cells] at e0 e1 e2 e3 e4
  subst e0 e1 e2 e3 e4
  exact ⟨_, _, _, _, _, rfl⟩

/-- The slice of runes, as the walk wants it. -/
theorem open_runes {H : Type} {enc : TypeId × Value → H} {W : World} {a : Option Addr} {len cap : Nat} {d : DataW H} {p : List MemPlace} (h : DataW.Trod enc Trym.prog W 0 (fun _ => true) true 22 (.slice a len cap) d p) :
    ∃ zs, B.Sl W a len zs ∧ (a = none → len = 0 ∧ cap = 0) ∧ len ≤ maxLen := by
  obtain ⟨fuel, hf⟩ := h
  rcases open_ints Trym.underlying22 Trym.underlying21 (by kernel_rfl) hf with ⟨hcs, _⟩ | ⟨x, l, c, zs, hcs, _, hl, hm, hz, _, hcell, hwz⟩
  · simp [Value.cells] at hcs
    obtain ⟨rfl, rfl, rfl⟩ := hcs
    exact ⟨[], ⟨rfl, fun h => by omega⟩, fun _ => ⟨rfl, rfl⟩, by unfold maxLen; omega⟩
  · simp [Value.cells] at hcs
    obtain ⟨rfl, rfl, rfl⟩ := hcs
    have hz' : zs.length = cap := by simpa using hz
    refine ⟨zs.take len, ⟨by simp; omega, fun h0 => ?_⟩, fun h => (by cases h), by omega⟩
    obtain ⟨b, off, spot⟩ := x
    have hspot : spot = none := by simpa [Addr.add] using World.cell?_spot (hcell 0 (by omega))
    subst hspot
    have hc : ∀ i, i < len → W.cell? ⟨b, off + i, none⟩ = some (.int .i32 ((zs.take len).getD i 0)) := fun i hi => by
      have h1 := hcell i (by omega)
      rw [Addr.add_lit] at h1
      rw [h1]
      simp only [List.getD]
      rw [List.getElem?_take_of_lt hi]
    exact ⟨b, off, rfl, World.block_lt_of_cell? W _ (hc 0 h0), hc⟩

set_option maxHeartbeats 1000000 in
set_option maxRecDepth 100000 in
theorem lifted (os : Os) (started : os.Started) (H : Type) (enc : TypeId × Value → H) :
    ReturnsInHanded {} Trym.checked os 4 .any (Rows.fnNextBudgetRefusesOrAgreesSpec.pre6 enc Trym.prog Trym.f4 Rows.fnNextBudgetRefusesOrAgreesRow.domain false) (Rows.fnNextBudgetRefusesOrAgreesSpec.post enc Trym.prog Trym.f4 false true false false) := by
  refine returnsInHanded_of_change (C := Trym.checked) own started (by kernel_rfl) Trym.func4
    (ChangeSpec.witness6 (enc := enc) (C := Trym.checked) false ⟨#[], #[.slice none 0 0, .int .i64 0, .int .i64 0, .int .i64 0, .agg #[.int .i64 0, .int .i64 0, .int .i64 0, .int .i64 0, .int .i64 0], .agg #[.int .i64 0, .int .i64 0, .int .i64 0, .int .i64 0, .int .i64 0], .int .i64 0, .int .u8 0, .int .u8 0], []⟩ 8 (by kernel_rfl) (by kernel_rfl) (by kernel_rfl) (by kernel_rfl)) ?_
  intro W base args ds gs before hval0 hW hcnd _
  have hval : ∀ (j : Nat) t v, Trym.f4.params[j]? = some t → args[j]? = some v → Value.okWide Trym.prog W .any base t v := hval0
  have hW' := hW
  obtain ⟨p, q, hA0, hV, rfl, hfz, hnd⟩ := hW
  have hA : DataW.TrodAll enc Trym.prog W 0 (fun _ => true) true Trym.f4.params.toList args.toList ds p := hA0
  rw [Trym.params4] at hA hval
  obtain ⟨v0, vs0, d0, ds0, p0, q0, hargs, rfl, rfl, h0, r0⟩ := trodAll_cons hA
  obtain ⟨v1, vs1, d1, ds1, p1, q1, rfl, rfl, rfl, h1, r1⟩ := trodAll_cons r0
  obtain ⟨v2, vs2, d2, ds2, p2, q2, rfl, rfl, rfl, h2, r2⟩ := trodAll_cons r1
  obtain ⟨v3, vs3, d3, ds3, p3, q3, rfl, rfl, rfl, h3, r3⟩ := trodAll_cons r2
  obtain ⟨v4, vs4, d4, ds4, p4, q4, rfl, rfl, rfl, h4, r4⟩ := trodAll_cons r3
  obtain ⟨v5, vs5, d5, ds5, p5, q5, rfl, rfl, rfl, h5, r5⟩ := trodAll_cons r4
  obtain ⟨v6, vs6, d6, ds6, p6, q6, rfl, rfl, rfl, h6, r6⟩ := trodAll_cons r5
  obtain ⟨v7, vs7, d7, ds7, p7, q7, rfl, rfl, rfl, h7, r7⟩ := trodAll_cons r6
  obtain ⟨v8, vs8, d8, ds8, p8, q8, rfl, rfl, rfl, h8, r8⟩ := trodAll_cons r7
  obtain ⟨rfl, rfl, rfl⟩ := trodAll_nil r8
  obtain rfl : args = #[v0, v1, v2, v3, v4, v5, v6, v7, v8] := by cases args; simp_all
  obtain ⟨rfl, rfl⟩ := trodVars_none hV
  obtain ⟨a0, len0, cap0, rfl⟩ := okWide_slice Trym.underlying22 (hval 0 22 v0 rfl rfl)
  have k0 := h0
  have lt0 : ∀ x ∈ p0, x.block < W.heap.size := by obtain ⟨m, hm⟩ := k0; exact DataW.trod_lt m _ _ _ hm
  obtain ⟨ns, s0, e0, m0⟩ := open_runes h0
  obtain ⟨a1, rfl, rfl, rfl, w1⟩ := open_int Trym.underlying3 (hval 1 3 v1 rfl rfl) h1
  obtain ⟨a2, rfl, rfl, rfl, w2⟩ := open_int Trym.underlying3 (hval 2 3 v2 rfl rfl) h2
  obtain ⟨a3, rfl, rfl, rfl, w3⟩ := open_int Trym.underlying3 (hval 3 3 v3 rfl rfl) h3
  obtain ⟨a6, rfl, rfl, rfl, w6⟩ := open_int Trym.underlying3 (hval 6 3 v6 rfl rfl) h6
  obtain ⟨a7, rfl, rfl, rfl, w7⟩ := open_int Trym.underlying5 (hval 7 5 v7 rfl rfl) h7
  obtain ⟨a8, rfl, rfl, rfl, w8⟩ := open_int Trym.underlying5 (hval 8 5 v8 rfl rfl) h8
  have k4 := h4
  have lt4 : ∀ x ∈ p4, x.block < W.heap.size := by obtain ⟨m, hm⟩ := k4; exact DataW.trod_lt m _ _ _ hm
  obtain ⟨x40, x41, x42, x43, x44, rfl⟩ := open_arr5 (hval 4 26 v4 rfl rfl) h4
  have k5 := h5
  have lt5 : ∀ x ∈ p5, x.block < W.heap.size := by obtain ⟨m, hm⟩ := k5; exact DataW.trod_lt m _ _ _ hm
  obtain ⟨x50, x51, x52, x53, x54, rfl⟩ := open_arr5 (hval 5 26 v5 rfl rfl) h5
  clear hA0 hval0
  refine (B.lawBudget a0 len0 cap0 a1 a2 a3 x40 x41 x42 x43 x44 x50 x51 x52 x53 x54 a6 a7 a8 ns W s0 e0 m0 (bounds_u8 w7).1 (bounds_u8 w7).2 (bounds_u8 w8).1 (bounds_u8 w8).2 (bounds_i64 w3).2).mono fun e W' ⟨he, bel⟩ => ?_
  subst he
  exact ⟨_, rfl, _, _, _, [], _, [], hW', trodAll_mk1 (shut_bool Trym.underlying4 _), (trodAll_cons_mk (Below.trod laidOut (by kernel_rfl) (of_decide_eq_true (by kernel_rfl)) k0 bel lt0) (trodAll_cons_mk (shut_int Trym.underlying3 w1) (trodAll_cons_mk (shut_int Trym.underlying3 w2) (trodAll_cons_mk (shut_int Trym.underlying3 w3)
    (trodAll_cons_mk (Below.trod laidOut (by kernel_rfl) (of_decide_eq_true (by kernel_rfl)) k4 bel lt4) (trodAll_cons_mk (Below.trod laidOut (by kernel_rfl) (of_decide_eq_true (by kernel_rfl)) k5 bel lt5) (trodAll_cons_mk (shut_int Trym.underlying3 w6) (trodAll_cons_mk (shut_int Trym.underlying5 w7) (trodAll_cons_mk (shut_int Trym.underlying5 w8) trodAll_mk0))))))))), rfl, bel.frame _, fun h => by cases h⟩

theorem over : Rows.fnNextBudgetRefusesOrAgreesRow.holds Trym.pinned (OpenSpec.ofChange Rows.fnNextBudgetRefusesOrAgreesSpec) :=
  OpenClaim.holds_of_wide 4 Trym.f4 rfl rfl rfl rfl rfl rfl rfl ⟨rfl, rfl, rfl, rfl, rfl⟩ rfl rfl rfl rfl rfl (by kernel_rfl) Trym.func4 (by kernel_rfl)
    (of_decide_eq_true (by kernel_rfl)) (by unfold Func.isWrapper; first | (rw [if_pos (by decide +kernel)]; kernel_rfl) | (rw [if_neg (by decide +kernel)]; exact ⟨rfl, rfl⟩))
    (fun os started H enc _ => lifted os started H enc)

/-- THE STATEMENT. -/
theorem proved : Rows.FnNextBudgetRefusesOrAgreesSaid := over
#print axioms proved
end Go.Proofs.Qxb6600935aMods.fnNextBudgetRefusesOrAgrees
