/-
  THE PROOF OF 'Rows.FnNextBandedRowsMatchOSADistanceSaid': the frame that the kit's tool wrote; the walk lies in Qxb6600935aModsBandE and Qxb6600935aModsBandW.
-/
import Derived.Test.Qxb6600935aModsRows
import Derived.Test.Qxb6600935aModsBandW
import Derived.WalkKit
import Derived.ProofKit
import Derived.OpenShut
import Derived.ShutString
import Derived.ChangeOld
import Derived.Below
namespace Go.Proofs.Qxb6600935aMods.fnNextBandedRowsMatchOSADistance
open Go.ChangeShapes Go.WideShapes Go.ChangeAt Go.RowKit
open Go.ChangeMaps (open_string shut_string)
set_option linter.unusedVariables false

theorem own : ownKnob Trym.prog.godebug = none := by kernel_rfl
theorem laidOut : laidOutB Trym.prog = true := by kernel_rfl

/-- The slice of runes, as the walk wants it. -/
theorem open_runes {H : Type} {enc : TypeId × Value → H} {W : World} {a : Option Addr} {len cap : Nat} {d : DataW H} {p : List MemPlace} (h : DataW.Trod enc Trym.prog W 0 (fun _ => true) true 22 (.slice a len cap) d p) :
    ∃ zs, B.Sl W a len zs ∧ (a = none → len = 0 ∧ cap = 0) ∧ len ≤ maxLen := by
  obtain ⟨fuel, hf⟩ := h
  rcases open_ints Trym.underlying22 Trym.underlying21 (by kernel_rfl) hf with ⟨hcs, _⟩ | ⟨x, l, c, zs, hcs, _, hl, hm, hz, _, hcell, hwz⟩
  · simp [Value.cells] at hcs
    obtain ⟨rfl, rfl, rfl⟩ := hcs
    exact ⟨[], ⟨rfl, fun h => by omega⟩, fun _ => ⟨rfl, rfl⟩, by unfold maxLen; omega⟩
  · simp [Value.cells] at hcs
    obtain ⟨rfl, rfl, rfl⟩ := hcs
    have hz' : zs.length = cap := by simpa using hz
    refine ⟨zs.take len, ⟨by simp; omega, fun h0 => ?_⟩, fun h => (by cases h), by omega⟩
    obtain ⟨b, off, spot⟩ := x
    have hspot : spot = none := by simpa [Addr.add] using World.cell?_spot (hcell 0 (by omega))
    subst hspot
    have hc : ∀ i, i < len → W.cell? ⟨b, off + i, none⟩ = some (.int .i32 ((zs.take len).getD i 0)) := fun i hi => by
      have h1 := hcell i (by omega)
      rw [Addr.add_lit] at h1
      rw [h1]
      simp only [List.getD]
      rw [List.getElem?_take_of_lt hi]
    exact ⟨b, off, rfl, World.block_lt_of_cell? W _ (hc 0 h0), hc⟩

/-- The walk, every way. -/
theorem walk (s : ByteArray) (a : Option Addr) (n cp : Nat) (band limit : Int) (ns : List Int) (w : World) (hs : s.size ≤ maxLen) (hS : B.Sl w a n ns) (hnil : a = none → n = 0 ∧ cp = 0) (hm : n ≤ maxLen) :
    Calls Trym.prog 3 #[.string s, .slice a n cp, .int .i64 band, .int .i64 limit] w fun e w' => e = .returned (.bool true) ∧ Below w.heap.size w w' := by
  by_cases h : 4096 < s.size ∨ 4096 < n ∨ band < 0 ∨ 2 < band ∨ band < limit
  · exact B.lawBanded_early s a n cp band limit w hs hm h
  · exact B.lawBanded_main s a n cp band limit ns w hS hnil (by omega) (by omega) (by omega) (by omega) (by omega)

set_option maxRecDepth 100000 in
theorem lifted (os : Os) (started : os.Started) (H : Type) (enc : TypeId × Value → H) :
    ReturnsInHanded {} Trym.checked os 3 .any (Rows.fnNextBandedRowsMatchOSADistanceSpec.pre6 enc Trym.prog Trym.f3 Rows.fnNextBandedRowsMatchOSADistanceRow.domain false) (Rows.fnNextBandedRowsMatchOSADistanceSpec.post enc Trym.prog Trym.f3 false true false false) := by
  refine returnsInHanded_of_change (C := Trym.checked) own started (by kernel_rfl) Trym.func3
    (ChangeSpec.witness6 (enc := enc) (C := Trym.checked) false ⟨#[], #[.string ByteArray.empty, .slice none 0 0, .int .i64 0, .int .i64 0], []⟩ 8 (by kernel_rfl) (by kernel_rfl) (by kernel_rfl) (by kernel_rfl)) ?_
  intro W base args ds gs before hval0 hW hcnd _
  have hval : ∀ (j : Nat) t v, Trym.f3.params[j]? = some t → args[j]? = some v → Value.okWide Trym.prog W .any base t v := hval0
  have hW' := hW
  obtain ⟨p, q, hA0, hV, rfl, hfz, hnd⟩ := hW
  have hA : DataW.TrodAll enc Trym.prog W 0 (fun _ => true) true Trym.f3.params.toList args.toList ds p := hA0
  rw [Trym.params3] at hA hval
  obtain ⟨v0, vs0, d0, ds0, p0, q0, hargs, rfl, rfl, h0, r0⟩ := trodAll_cons hA
  obtain ⟨v1, vs1, d1, ds1, p1, q1, rfl, rfl, rfl, h1, r1⟩ := trodAll_cons r0
  obtain ⟨v2, vs2, d2, ds2, p2, q2, rfl, rfl, rfl, h2, r2⟩ := trodAll_cons r1
  obtain ⟨v3, vs3, d3, ds3, p3, q3, rfl, rfl, rfl, h3, r3⟩ := trodAll_cons r2
  obtain ⟨rfl, rfl, rfl⟩ := trodAll_nil r3
  obtain rfl : args = #[v0, v1, v2, v3] := by cases args; simp_all
  obtain ⟨rfl, rfl⟩ := trodVars_none hV
  obtain ⟨a0, rfl, rfl, rfl, w0⟩ := open_string Trym.underlying9 (hval 0 9 v0 rfl rfl) h0
  obtain ⟨a1, len1, cap1, rfl⟩ := okWide_slice Trym.underlying22 (hval 1 22 v1 rfl rfl)
  have k1 := h1
  have lt1 : ∀ x ∈ p1, x.block < W.heap.size := by obtain ⟨m, hm⟩ := k1; exact DataW.trod_lt m _ _ _ hm
  obtain ⟨ns, s1, e1, m1⟩ := open_runes h1
  obtain ⟨a2, rfl, rfl, rfl, w2⟩ := open_int Trym.underlying3 (hval 2 3 v2 rfl rfl) h2
  obtain ⟨a3, rfl, rfl, rfl, w3⟩ := open_int Trym.underlying3 (hval 3 3 v3 rfl rfl) h3
  clear hA0 hval0
  refine (walk a0 a1 len1 cap1 a2 a3 ns W w0 s1 e1 m1).mono fun e W' ⟨he, bel⟩ => ?_
  subst he
  exact ⟨_, rfl, _, _, _, [], _, [], hW', trodAll_mk1 (shut_bool Trym.underlying4 _), (trodAll_cons_mk (shut_string Trym.underlying9 w0) (trodAll_cons_mk (Below.trod laidOut (by kernel_rfl) (of_decide_eq_true (by kernel_rfl)) k1 bel lt1) (trodAll_cons_mk (shut_int Trym.underlying3 w2) (trodAll_cons_mk (shut_int Trym.underlying3 w3) trodAll_mk0)))), rfl, bel.frame _, fun h => by cases h⟩

theorem over : Rows.fnNextBandedRowsMatchOSADistanceRow.holds Trym.pinned (OpenSpec.ofChange Rows.fnNextBandedRowsMatchOSADistanceSpec) :=
  OpenClaim.holds_of_wide 3 Trym.f3 rfl rfl rfl rfl rfl rfl rfl ⟨rfl, rfl, rfl, rfl, rfl⟩ rfl rfl rfl rfl rfl (by kernel_rfl) Trym.func3 (by kernel_rfl)
    (of_decide_eq_true (by kernel_rfl)) (by unfold Func.isWrapper; first | (rw [if_pos (by decide +kernel)]; kernel_rfl) | (rw [if_neg (by decide +kernel)]; exact ⟨rfl, rfl⟩))
    (fun os started H enc _ => lifted os started H enc)

/-- THE STATEMENT. -/
theorem proved : Rows.FnNextBandedRowsMatchOSADistanceSaid := over
#print axioms proved
end Go.Proofs.Qxb6600935aMods.fnNextBandedRowsMatchOSADistance
