/-
  THE CONTRACT OF appendPacked.
-/
import Derived.Test.Qxb6604085aModsCopy
import Derived.Deep.RegionHeld3
import Derived.ArgAppend
namespace Go.Proofs.Qxb6604085aMods.B
open Go.ChangeShapes Go.WideShapes Go.ChangeAt Go.RowKit
open Go.Proofs.Qxb6604085aMods.Pl

/-- WHERE THE APPENDING TO b STANDS: below w0's blocks nothing has turned; the value v holds L: it is b itself, which is full (no append yet), or a row made since. -/
def Bs (w0 : World) (ao : Option Addr) (n0 : Nat) (bs : List Int) (w : World) (v : Value) (L : List Int) : Prop :=
  Below w0.heap.size w0 w ∧ ((v = .slice ao n0 n0 ∧ L = bs) ∨ w.ownsRow w0.heap.size 5 1 v L.length (L.map (Value.int .u8)))

theorem Bs.drew {w0 : World} {ao : Option Addr} {n0 : Nat} {bs : List Int} {w : World} {v : Value} {L : List Int} (h : Bs w0 ao n0 bs w v L) : Bs w0 ao n0 bs w.drew v L := by
  refine ⟨h.1.drew, ?_⟩
  rcases h.2 with h2 | h2
  · exact .inl h2
  · exact .inr h2.drew
theorem Bs.alloc {w0 : World} {ao : Option Addr} {n0 : Nat} {bs : List Int} {w : World} {v : Value} {L : List Int} (h : Bs w0 ao n0 bs w v L) (o : Obj) : Bs w0 ao n0 bs (w.alloc o) v L := by
  refine ⟨h.1.alloc h.1.size o, ?_⟩
  rcases h.2 with h2 | h2
  · exact .inl h2
  · exact .inr (h2.alloc o)

/-- THE RUN OF ONE append OF ONE BYTE. -/
theorem run_byte (w0 : World) (ao : Option Addr) (n0 : Nat) (bs : List Int) (hb : Sl w0 ao n0 bs) (hbn : ao = none → n0 = 0) (w : World) (v : Value) (L : List Int) (hB : Bs w0 ao n0 bs w v L) (ty : TypeId) (h : Nat) (z : Int)
    (hz : w.cell? ⟨h, 0, none⟩ = some (.int .u8 z)) (hlen : L.length ≤ 2097152) :
    ∃ v' w', (Builtin.append_ #[22, 22] ty #[v, .slice (some ⟨h, 0, none⟩) 1 1]).run Trym.prog w = .ok v' w' ∧ Bs w0 ao n0 bs w' v' (L ++ [z]) := by
  obtain ⟨i0, hi, hz0, hz1, hz2⟩ := info_parts info5
  have hnews : ∀ j u, [Value.int .u8 z][j]? = some u → w.cell? ((⟨h, 0, none⟩ : Addr).add j) = some u := by
    intro j u hu
    match j, hu with
    | 0, hu => simp at hu; subst hu; rw [Addr.add_lit]; exact hz
  rcases hB.2 with ⟨rfl, rfl⟩ | ho
  · cases ao with
    | none =>
      obtain rfl := hbn rfl
      obtain rfl : L = [] := List.eq_nil_of_length_eq_zero hb.1
      obtain ⟨v', w', hrun, r1, r2, _⟩ := run_append_own (P := Trym.prog) w w0.heap.size 22 ty 5 i0 _ 1 1 Trym.underlying22 hi hz0 hz1 hz2 rfl (by omega) (.slice none 0 0) 0 [] (World.ownsRow_nil w _ 5 1) ⟨h, 0, none⟩ 1 1 [.int .u8 z] rfl hnews (by simp [Value.oneCell']) (by unfold maxLen; omega) (by omega) hB.1.size
      exact ⟨v', w', hrun, hB.1.grown r2 hB.1.size (fun k e => by simp [Value.ownBlock] at e), .inr r1⟩
    | some ad =>
      have hl : L.length = n0 := hb.1
      have hold : ∀ j u, (L.map (Value.int .u8))[j]? = some u → w.cell? (ad.add j) = some u := by
        intro j u hu
        have hj := (List.getElem?_eq_some_iff.1 hu).1
        simp at hj
        obtain ⟨b, off, e, hbw, hc⟩ := hb.2 (by omega)
        obtain rfl := Option.some.inj e
        rw [Addr.add_lit, (hB.1.cell (p := ⟨b, off + j, none⟩) hbw), hc j (by omega), ← hu]
        simp [List.getD, List.getElem?_eq_getElem hj]
      obtain ⟨v', w', hrun, r1, r2⟩ := run_append_arg_grows (P := Trym.prog) w 22 ty 5 i0 _ 1 1 Trym.underlying22 hi hz0 hz1 hz2 rfl (by omega) ad n0 n0 (L.map (Value.int .u8)) (by simp [hl]) hold ⟨h, 0, none⟩ 1 1 [.int .u8 z] rfl hnews (by omega) (by unfold maxLen; omega) (by omega)
      refine ⟨v', w', hrun, hB.1.grown r2 hB.1.size (fun k e => by cases e), .inr ?_⟩
      have r3 : w'.ownsRow w0.heap.size 5 1 v' (n0 + 1) (L.map (Value.int .u8) ++ [.int .u8 z]) := by
        refine ⟨r1.1, ?_⟩
        rcases r1.2 with r | ⟨g, cap, cur, q1, q2, q3⟩
        · exact .inl r
        · exact .inr ⟨g, cap, cur, q1, Nat.le_trans hB.1.size q2, q3⟩
      rw [List.length_append, List.map_append, hl]
      exact r3
  · obtain ⟨v', w', hrun, r1, r2, _⟩ := run_append_own (P := Trym.prog) w w0.heap.size 22 ty 5 i0 _ 1 1 Trym.underlying22 hi hz0 hz1 hz2 rfl (by omega) v L.length _ ho ⟨h, 0, none⟩ 1 1 [.int .u8 z] rfl hnews (by simp [Value.oneCell']) (by unfold maxLen; omega) (by omega) hB.1.size
    refine ⟨v', w', hrun, hB.1.grown r2 hB.1.size (fun k e => (ho.lt k e).1), .inr ?_⟩
    rw [List.length_append, List.map_append]
    exact r1

/-- One append of one byte, as a step of a region that draws. -/
theorem step_byte (w0 : World) (ao : Option Addr) (n0 : Nat) (bs : List Int) (hb : Sl w0 ao n0 bs) (hbn : ao = none → n0 = 0) {w : World} {ops : Array Oper} {o : Oper} {a : Act} {K : Act → World → Prop} {Q : Exit → Act → World → Prop} {E : Prop}
    (hg : o.guard = none) (s x : Operand) (hop : o.op = Op.call { callee := Callee.builtin Builtin.append, args := #[s, x], argTypes := #[22, 22] })
    (v : Value) (L : List Int) (h : Nat) (z : Int) (hs : a.eval s = v) (hx : a.eval x = .slice (some ⟨h, 0, none⟩) 1 1) (hB : Bs w0 ao n0 bs w v L) (hz : w.cell? ⟨h, 0, none⟩ = some (.int .u8 z)) (hlen : L.length ≤ 2097152)
    (hK : ∀ v' w', Bs w0 ao n0 bs w' v' (L ++ [z]) → K (a.put o.dst v') w') :
    if Region.wanted o (yielded ops a.tmps) = true then Oper.wp Trym.prog o a w K Q else E := by
  have hw : Region.wanted o (yielded ops a.tmps) = true := by simp [Region.wanted, hg]
  rw [if_pos hw]
  obtain ⟨v', w', hrun, r1⟩ := run_byte w0 ao n0 bs hb hbn w v L hB o.type h z hz hlen
  unfold Oper.wp
  simp [execOp, hop, resolve, invoke, builtin, hs, hx, hrun, Result.andThen]
  exact hK v' w' r1

/-- One append of one byte, at a plain list of operations. -/
theorem list_byte (w0 : World) (ao : Option Addr) (n0 : Nat) (bs : List Int) (hb : Sl w0 ao n0 bs) (hbn : ao = none → n0 = 0) {w : World} {ops : Array Oper} {rest : List Oper} {o : Oper} {a : Act} {Q : Exit → Act → World → Prop}
    (hg : o.guard = none) (s x : Operand) (hop : o.op = Op.call { callee := Callee.builtin Builtin.append, args := #[s, x], argTypes := #[22, 22] })
    (v : Value) (L : List Int) (h : Nat) (z : Int) (hs : a.eval s = v) (hx : a.eval x = .slice (some ⟨h, 0, none⟩) 1 1) (hB : Bs w0 ao n0 bs w v L) (hz : w.cell? ⟨h, 0, none⟩ = some (.int .u8 z)) (hlen : L.length ≤ 2097152)
    (hK : ∀ v' w', Bs w0 ao n0 bs w' v' (L ++ [z]) → wpList Trym.prog ops Q rest (a.put o.dst v') w') :
    wpList Trym.prog ops Q (o :: rest) a w := by
  refine wpList_plain hg fun K hK' => ?_
  obtain ⟨v', w', hrun, r1⟩ := run_byte w0 ao n0 bs hb hbn w v L hB o.type h z hz hlen
  unfold Oper.wp
  simp [execOp, hop, resolve, invoke, builtin, hs, hx, hrun, Result.andThen]
  exact hK' _ _ (hK v' w' r1)

end Go.Proofs.Qxb6604085aMods.B
