/-
  THE CONTRACT OF vtInsert: it gives an insertion of one bit whose syndrome is a.
-/
import Derived.Test.Qxb6604085aModsSums
import Derived.Deep.RegionHeld3
import Derived.Deep.RegionLaw
import Derived.Deep.AppendLies
namespace Go.Proofs.Qxb6604085aMods.B
open Go.ChangeShapes Go.WideShapes Go.ChangeAt Go.RowKit
open Go.Proofs.Qxb6604085aMods.Pl

/-- append WITHIN THE CAPACITY, as one step of a region that draws; what is appended may be nil, empty, cut. (The kit's 'wpList_append_fits_any' at a step.) -/
theorem step_append_fits_any {P : Program} (w : World) {ops : Array Oper} {o : Oper} {a : Act} {K : Act → World → Prop} {Q : Exit → Act → World → Prop} {E : Prop}
    (hg : o.guard = none) (s x : Operand) (t : TypeId) (hop : o.op = Op.call { callee := Callee.builtin Builtin.append, args := #[s, x], argTypes := #[t, t] })
    (base : Nat) (e : TypeId) (i : TypeInfo) (size : Nat) (h1 : P.underlying t = some (.slice e)) (h2 : P.info? e = some i) (h4 : i.size = size)
    (g k cap : Nat) (xs : List Value) (hs : a.eval s = .slice (some ⟨g, 0, none⟩) k cap) (hown : w.ownsRow base e size (.slice (some ⟨g, 0, none⟩) k cap) k xs) (ao : Option Addr) (m c : Nat) (news : List Value) (hx : a.eval x = .slice ao m c) (hn : news.length = m * size)
    (hnone : ao = none → m = 0 ∧ c = 0) (hc : ∀ ad, ao = some ad → ∀ j u, news[j]? = some u → w.cell? (ad.add j) = some u) (h1c : ∀ u ∈ news, u.oneCell' = true) (b1 : k + m ≤ cap)
    (hK : ∀ w', w'.ownsRow base e size (.slice (some ⟨g, 0, none⟩) (k + m) cap) (k + m) (xs ++ news) → w.grownBy w' (some g) → K (a.put o.dst (.slice (some ⟨g, 0, none⟩) (k + m) cap)) w') :
    if Region.wanted o (yielded ops a.tmps) = true then Oper.wp P o a w K Q else E := by
  have hw : Region.wanted o (yielded ops a.tmps) = true := by simp [Region.wanted, hg]
  rw [if_pos hw]
  cases ao with
  | some ad =>
    obtain ⟨w', hrun, r1, r2⟩ := run_append_fits (P := P) w base t o.type e i size h1 h2 h4 g k cap xs hown ad m c news hn (hc ad rfl) h1c b1
    unfold Oper.wp
    simp [execOp, hop, resolve, invoke, builtin, hs, hx, hrun, Result.andThen]
    exact hK w' r1 r2
  | none =>
    obtain ⟨rfl, rfl⟩ := hnone rfl
    have hnews : news = [] := List.eq_nil_of_length_eq_zero (by simpa using hn)
    subst hnews
    have hrun := run_append_owned_none (P := P) w base t o.type e i size h1 h2 _ k xs hown
    unfold Oper.wp
    simp [execOp, hop, resolve, invoke, builtin, hs, hx, hrun, Result.andThen]
    exact (by simpa using hK w (by simpa using hown) (World.grownBy.refl _ _) : K (a.put o.dst (.slice (some ⟨g, 0, none⟩) k cap)) w)

/-- WHERE THE BUILDING OF A NEW SLICE STANDS: block g (of the call's own, blocks from B on) holds L in its first k cells, of cap; y's cells lie as they lay; below B nothing has turned. -/
structure St (w0 : World) (B g cap b off : Nat) (zs : List Int) (w : World) (k : Nat) (L : List Int) : Prop where
  own : w.ownsRow B 5 1 (.slice (some ⟨g, 0, none⟩) k cap) k (L.map (Value.int .u8))
  base : B ≤ g
  far : 0 < zs.length → b ≠ g
  there : 0 < zs.length → b < w.heap.size
  cells : ∀ i, i < zs.length → w.cell? ⟨b, off + i, none⟩ = some (.int .u8 (zs.getD i 0))
  size : B ≤ w.heap.size
  below : Below B w0 w

theorem St.drew {w0 : World} {B g cap b off : Nat} {zs : List Int} {w : World} {k : Nat} {L : List Int} (h : St w0 B g cap b off zs w k L) : St w0 B g cap b off zs w.drew k L :=
  ⟨h.own, h.base, h.far, h.there, h.cells, h.size, h.below.drew⟩
theorem St.alloc {w0 : World} {B g cap b off : Nat} {zs : List Int} {w : World} {k : Nat} {L : List Int} (h : St w0 B g cap b off zs w k L) (o : Obj) : St w0 B g cap b off zs (w.alloc o) k L := by
  refine ⟨h.own.alloc o, h.base, h.far, fun h0 => ?_, fun i hi => ?_, ?_, h.below.alloc h.size o⟩
  · have := h.there h0; simp; omega
  · exact ((World.grownBy_alloc w o none).cell_far ⟨b, off + i, none⟩ (h.there (by omega)) (by simp)).trans (h.cells i hi)
  · have := h.size; simp; omega
theorem St.grown {w0 : World} {B g cap b off : Nat} {zs : List Int} {w w' : World} {k k' : Nat} {L L' : List Int} (h : St w0 B g cap b off zs w k L) (hg : w.grownBy w' (some g))
    (ho : w'.ownsRow B 5 1 (.slice (some ⟨g, 0, none⟩) k' cap) k' (L'.map (Value.int .u8))) : St w0 B g cap b off zs w' k' L' := by
  refine ⟨ho, h.base, h.far, fun h0 => Nat.lt_of_lt_of_le (h.there h0) hg.size, fun i hi => ?_, Nat.le_trans h.size hg.size, h.below.grown hg h.size (fun k e => by cases e; exact h.base)⟩
  exact (hg.cell_far ⟨b, off + i, none⟩ (h.there (by omega)) (by simpa using h.far (by omega))).trans (h.cells i hi)

/-- One append of a part of y. -/
theorem app_range (w0 : World) (B g cap b off : Nat) (zs : List Int) {w : World} {ops : Array Oper} {o : Oper} {a : Act} {K : Act → World → Prop} {Q : Exit → Act → World → Prop} {E : Prop}
    (hg : o.guard = none) (s x : Operand) (hop : o.op = Op.call { callee := Callee.builtin Builtin.append, args := #[s, x], argTypes := #[22, 22] })
    (k m k' c lo : Nat) (L L' : List Int) (ao : Option Addr) (hs : a.eval s = .slice (some ⟨g, 0, none⟩) k cap) (hx : a.eval x = .slice ao m c) (hst : St w0 B g cap b off zs w k L)
    (hao : 0 < m → ao = some ⟨b, off + lo, none⟩) (hnone : ao = none → c = 0) (hlo : lo + m ≤ zs.length) (hk : k + m = k') (hcap : k' ≤ cap) (hL : L ++ (zs.drop lo).take m = L')
    (hK : ∀ w', St w0 B g cap b off zs w' k' L' → w.grownBy w' (some g) → K (a.put o.dst (.slice (some ⟨g, 0, none⟩) k' cap)) w') :
    if Region.wanted o (yielded ops a.tmps) = true then Oper.wp Trym.prog o a w K Q else E := by
  obtain ⟨i0, hi, hz0, hz1, hz2⟩ := info_parts info5
  subst hk
  refine step_append_fits_any w hg s x 22 hop B 5 i0 1 Trym.underlying22 hi hz1 g k cap _ hs hst.own ao m c (((zs.drop lo).take m).map (Value.int .u8)) hx (by simp; omega) ?_ ?_ (ints_oneCell _ _) hcap ?_
  · intro h
    refine ⟨?_, hnone h⟩
    by_cases h0 : 0 < m
    · rw [hao h0] at h; cases h
    · omega
  · intro ad had j u hu
    have hj := (List.getElem?_eq_some_iff.1 hu).1
    simp at hj
    rw [hao (by omega)] at had
    obtain rfl := Option.some.inj had
    rw [Addr.add_lit, Nat.add_assoc, hst.cells (lo + j) (by omega)]
    rw [← hu]
    simp [List.getD, show j < m from by omega, List.getElem?_eq_getElem (show lo + j < zs.length by omega)]
  · intro w' ho hgr
    refine hK w' (hst.grown hgr ?_) hgr
    rw [← hL, List.map_append]
    exact ho

/-- One append of a bit that lies in a block of its own. -/
theorem app_one (w0 : World) (B g cap b off : Nat) (zs : List Int) {w : World} {ops : Array Oper} {o : Oper} {a : Act} {K : Act → World → Prop} {Q : Exit → Act → World → Prop} {E : Prop}
    (hg : o.guard = none) (s x : Operand) (hop : o.op = Op.call { callee := Callee.builtin Builtin.append, args := #[s, x], argTypes := #[22, 22] })
    (k k' h : Nat) (L L' : List Int) (z : Int) (hs : a.eval s = .slice (some ⟨g, 0, none⟩) k cap) (hx : a.eval x = .slice (some ⟨h, 0, none⟩) 1 1) (hst : St w0 B g cap b off zs w k L)
    (hz : w.cell? ⟨h, 0, none⟩ = some (.int .u8 z)) (hk : k + 1 = k') (hcap : k' ≤ cap) (hL : L ++ [z] = L')
    (hK : ∀ w', St w0 B g cap b off zs w' k' L' → w.grownBy w' (some g) → K (a.put o.dst (.slice (some ⟨g, 0, none⟩) k' cap)) w') :
    if Region.wanted o (yielded ops a.tmps) = true then Oper.wp Trym.prog o a w K Q else E := by
  obtain ⟨i0, hi, hz0, hz1, hz2⟩ := info_parts info5
  subst hk
  refine step_append_fits_any w hg s x 22 hop B 5 i0 1 Trym.underlying22 hi hz1 g k cap _ hs hst.own (some ⟨h, 0, none⟩) 1 1 [.int .u8 z] hx rfl (fun h => by cases h) ?_ (by simp [Value.oneCell']) hcap ?_
  · intro ad had j u hu
    obtain rfl := Option.some.inj had
    match j, hu with
    | 0, hu => simp at hu; subst hu; rw [Addr.add_lit]; exact hz
  · intro w' ho hgr
    refine hK w' (hst.grown hgr ?_) hgr
    rw [← hL, List.map_append]
    exact ho

theorem ins_parts (zs : List Int) (n j : Nat) (z : Int) (h : zs.length = n) : zs.take j ++ [z] ++ (zs.drop j).take (n - j) = ins zs j z := by
  have e : (zs.drop j).take (n - j) = zs.drop j := List.take_of_length_le (by rw [List.length_drop, h]; exact Nat.le_refl _)
  rw [e, ins, List.append_assoc]; rfl

/-- The lack: added to the sum it gives a. -/
theorem lack_ok (T x m : Int) : (T + (x % m + m - T % m) % m) % m = x % m := by
  rw [Int.add_emod_emod]
  have h := Int.mul_ediv_add_emod T m
  have e : T + (x % m + m - T % m) = x % m + m * (T / m + 1) := by rw [Int.mul_add, Int.mul_one]; omega
  rw [e, Int.add_mul_emod_self_left, Int.emod_emod]

/-- WHAT vtInsert LEAVES: an insertion of one bit whose syndrome is x. -/
def InsPost (w : World) (n : Nat) (x : Int) (zs : List Int) (e : Ending) (w' : World) : Prop :=
  ∃ (v : Value) (i : Nat) (bit : Int), e = .returned v ∧ i ≤ n ∧ (bit = 0 ∨ bit = 1) ∧ Own w' w.heap.size v (ins zs i bit) ∧ ws 1 (ins zs i bit) % ((n : Int) + 2) = x % ((n : Int) + 2) ∧ Below w.heap.size w w'

set_option maxHeartbeats 1000000 in
theorem vtInsert_some (b off n c : Nat) (x : Int) (zs : List Int) (w : World) (hlen0 : zs.length = n) (hbw : b < w.heap.size) (hcell : ∀ i, i < n → w.cell? ⟨b, off + i, none⟩ = some (.int .u8 (zs.getD i 0)))
    (hnc : n ≤ c) (hn : n ≤ 1048576) (hbits : Bits zs) (hx0 : 0 ≤ x) (hx1 : x ≤ 18446744073709551615) :
    Calls Trym.prog 25 #[.slice (some ⟨b, off, none⟩) n c, .int .u64 x] w (InsPost w n x zs) := by
  obtain ⟨i0, hi, hz0, hz1, hz2⟩ := info_parts info5
  have hS : Sl w (some ⟨b, off, none⟩) n zs := ⟨hlen0, fun _ => ⟨b, off, rfl, hbw, hcell⟩⟩
  have C := vtSum_any (some ⟨b, off, none⟩) n c ((n : Int) + 2) zs w hS (by omega) hbits (by omega) (by omega)
  have L := lack_ok (ws 1 zs) x ((n : Int) + 2)
  obtain ⟨s, hs⟩ : ∃ s, s = ws 1 zs % ((n : Int) + 2) := ⟨_, rfl⟩
  have hs0 : 0 ≤ s := by rw [hs]; exact Int.emod_nonneg _ (by omega)
  have hs1 : s < (n : Int) + 2 := by rw [hs]; exact Int.emod_lt_of_pos _ (by omega)
  obtain ⟨W, hW⟩ : ∃ W, W = sm zs := ⟨_, rfl⟩
  have hWb := sm_bd hbits
  rw [← hs] at C L
  rw [← hW] at C hWb
  have hW0 : 0 ≤ W := hWb.1
  have hW1 : W ≤ n := by have := hWb.2; omega
  have hr0 : 0 ≤ x % ((n : Int) + 2) := Int.emod_nonneg _ (by omega)
  have hr1 : x % ((n : Int) + 2) < (n : Int) + 2 := Int.emod_lt_of_pos _ (by omega)
  obtain ⟨d, hd⟩ : ∃ d, (x % ((n : Int) + 2) + ((n : Int) + 2) - s) % ((n : Int) + 2) = d := ⟨_, rfl⟩
  have hd0 : 0 ≤ d := by rw [← hd]; exact Int.emod_nonneg _ (by omega)
  have hd1 : d < (n : Int) + 2 := by rw [← hd]; exact Int.emod_lt_of_pos _ (by omega)
  rw [hd] at L
  have HC := tuck C
  have HL := tuck L
  have HW : Hid (W = sm zs) := hW
  have HB : Hid (Bits zs) := hbits
  have Hlen : Hid (zs.length = n) := hlen0
  have Hcell : Hid (∀ i, i < n → w.cell? ⟨b, off + i, none⟩ = some (.int .u8 (zs.getD i 0))) := hcell
  clear C L hs hW hWb hbits hlen0 hS hcell
  by_cases hdW : d ≤ W
  · go_enter Trym.func25, Trym.ntmps25
    go_wp2_with (go_at_call 27; refine HC.out.mono ?_; rintro e w1 ⟨rfl, hw1⟩; obtain rfl := hw1.symm)
    rw [hd]
    have HD := tuck hd
    clear hd HC
    go_loop [9, 11] (fun i t => ∃ j : Nat, j ≤ n ∧ i = .int .i64 j ∧ t = .int .u64 (sm (zs.drop j)) ∧ sm (zs.drop j) ≤ d) (fun i _ => (intOf i).toNat)
    case atStart => exact ⟨n, Nat.le_refl _, rfl, by rw [List.drop_eq_nil_of_le (by rw [Hlen.out]; omega)]; rfl, by rw [List.drop_eq_nil_of_le (by rw [Hlen.out]; omega)]; exact hd0⟩
    case round =>
      obtain ⟨j, hj, rfl, rfl, hle⟩ := hrel
      have hb1 := sm_bd (HB.out.drop j)
      obtain ⟨t, ht⟩ : ∃ t, t = sm (zs.drop j) := ⟨_, rfl⟩
      rw [← ht] at hb1 hle ⊢
      have HT := tuck ht
      have ht0 : 0 ≤ t := hb1.1
      clear hb1 ht
      by_cases hlt : t < d
      · obtain ⟨k, rfl⟩ : ∃ k, j = k + 1 := by
          refine ⟨j - 1, ?_⟩
          by_cases h0 : j = 0
          · rw [h0, List.drop_zero] at HT
            have h1 := HT.out
            have h2 := HW.out
            omega
          · omega
        have hck := Hcell.out k (by omega)
        obtain ⟨z, hz⟩ : ∃ z, z = zs.getD k 0 := ⟨_, rfl⟩
        have hz01 := HB.out.at k
        rw [← hz] at hck hz01
        have HZ := tuck hz
        clear hz
        have hz0' : 0 ≤ z := by omega
        have hz1' : z ≤ 1 := by omega
        clear hz01
        go_wp2
        go_round
        case rel =>
          have e := sm_drop zs k (by rw [Hlen.out]; omega)
          rw [← HZ.out, ← HT.out] at e
          exact ⟨k, by omega, by go_num, by rw [e]; go_num, by rw [e]; omega⟩
        case measure => simp [intOf]; try omega
      · go_wp2_with (at_make; refine wpList_make_own _ rfl _ _ 22 rfl w.heap.size 5 i0 _ 1 Trym.underlying22 hi hz0 hz1 .i64 .i64 _ (n + 1) rfl rfl (by omega) (by rw [hz2]; omega) (by unfold maxLen; omega) (Nat.le_refl _) ?_; intro w1 hown hgrow)
        have hj0 : (0 : Int) ≤ (j : Int) := by omega
        have hjn : (j : Int) ≤ (n : Int) := by omega
        have hjc : (j : Int) ≤ (c : Int) := by omega
        have hb1 : Below w.heap.size w w1 := (Below.refl _ _).grown hgrow (Nat.le_refl _) (by simp)
        have hst : Hid (St w w.heap.size w.heap.size (n + 1) b off zs w1 0 []) := ⟨hown, Nat.le_refl _, fun _ => by omega, fun _ => by have := hb1.size; omega, fun i hi => (hb1.cell (p := ⟨b, off + i, none⟩) hbw).trans (Hcell.out i (by rw [← Hlen.out]; exact hi)), hb1.size, hb1⟩
        have hlt1 : w.heap.size < w1.heap.size := (hown.lt _ rfl).2
        clear hown hgrow hb1
        have e1 : Hid ([] ++ (zs.drop 0).take j = zs.take j) := by simp [Hid]
        have e3 : Hid (zs.take j ++ [0] ++ (zs.drop j).take (n - j) = ins zs j 0) := ins_parts zs n j 0 Hlen.out
        go_region_held3 (fun _ => True) (trivial) ((first
          | (refine app_range w w.heap.size w.heap.size (n + 1) b off zs ?_ (.tmp 70) (.tmp 73) ?_ 0 j j c 0 [] (zs.take j) (some ⟨b, off, none⟩) ?_ ?_ ?_ (fun _ => rfl) (fun h => by cases h) (by rw [Hlen.out]; omega) (by omega) (by omega) e1.out ?_; exact rfl; exact rfl; exact rfl; exact rfl; (first | exact hst.out.drew | exact (hst.out.alloc _).drew); intro w2 hst2 hgr2)
          | (refine app_one w w.heap.size w.heap.size (n + 1) b off zs ?_ (.tmp 74) (.tmp 76) ?_ j (j + 1) w2.heap.size (zs.take j) (zs.take j ++ [0]) 0 ?_ ?_ ?_ ?_ rfl (by omega) rfl ?_; exact rfl; exact rfl; exact rfl; exact rfl; exact hst2.alloc _; simp; intro w3 hst3 hgr3)
          | (refine app_one w w.heap.size w.heap.size (n + 1) b off zs ?_ (.tmp 74) (.tmp 76) ?_ j (j + 1) w1.heap.size (zs.take j) (zs.take j ++ [0]) 0 ?_ ?_ ?_ ?_ rfl (by omega) rfl ?_; exact rfl; exact rfl; exact rfl; exact rfl; exact hst2; (rw [hgr2.cell_far _ (by simp) (by simp; omega)]; simp); intro w3 hst3 hgr3)
          | (refine app_range w w.heap.size w.heap.size (n + 1) b off zs ?_ (.tmp 77) (.tmp 80) ?_ (j + 1) (n - j) (n + 1) (c - j) j (zs.take j ++ [0]) (ins zs j 0) (if c = j then some ⟨b, off, none⟩ else some ⟨b, off + j, none⟩) ?_ ?_ ?_ ?_ ?_ ?_ (by omega) (by omega) e3.out ?_; exact rfl; exact rfl; exact rfl; exact rfl; exact hst3; (intro h0; rw [if_neg (by omega)]); (intro h0; split at h0 <;> cases h0); (rw [Hlen.out]; omega); intro w4 hst4 hgr4)))
        all_goals go_wp2
        all_goals go_ret
        all_goals
          have hO : Own w4 w.heap.size (.slice (some ⟨w.heap.size, 0, none⟩) (n + 1) (n + 1)) (ins zs j 0) := by
            unfold Own; rw [length_ins _ _ _ (by rw [Hlen.out]; exact hj), Hlen.out]; exact hst4.own
          refine ⟨_, j, 0, rfl, hj, by simp, hO, ?_, hst4.below⟩
          rw [← HL.out]
          congr 1
          rw [ws_ins zs j 0 (by rw [Hlen.out]; exact hj), ← HT.out]
          omega
  · have hdW' : W < d := by omega
    clear hdW
    go_enter Trym.func25, Trym.ntmps25
    go_wp2_with (go_at_call 27; refine HC.out.mono ?_; rintro e w1 ⟨rfl, hw1⟩; obtain rfl := hw1.symm)
    rw [hd]
    have HD := tuck hd
    clear hd HC
    go_loop [9, 12] (fun i t => ∃ j : Nat, j ≤ n ∧ i = .int .i64 j ∧ t = .int .u64 ((j : Int) - sm (zs.take j)) ∧ (j : Int) - sm (zs.take j) ≤ d - W - 1) (fun i _ => n - (intOf i).toNat)
    case atStart => exact ⟨0, Nat.zero_le _, rfl, rfl, by simp [sm]; omega⟩
    case round =>
      obtain ⟨j, hj, rfl, rfl, hle⟩ := hrel
      have hb1 := sm_bd (HB.out.take j)
      have hlj : (zs.take j).length ≤ j := List.length_take_le _ _
      obtain ⟨t, ht⟩ : ∃ t, t = (j : Int) - sm (zs.take j) := ⟨_, rfl⟩
      rw [← ht] at hle ⊢
      have HT := tuck ht
      have ht0 : 0 ≤ t := by omega
      clear hb1 ht hlj
      by_cases hlt : t < d - W - 1
      · have hjn : j < n := by
          by_cases h0 : j = n
          · rw [List.take_of_length_le (by rw [Hlen.out]; omega)] at HT
            have h1 := HT.out
            have h2 := HW.out
            omega
          · omega
        have hck := Hcell.out j hjn
        obtain ⟨z, hz⟩ : ∃ z, z = zs.getD j 0 := ⟨_, rfl⟩
        have hz01 := HB.out.at j
        rw [← hz] at hck hz01
        have HZ := tuck hz
        clear hz
        have hz0' : 0 ≤ z := by omega
        have hz1' : z ≤ 1 := by omega
        clear hz01
        go_wp2
        go_round
        case rel =>
          have e := sm_take zs j (by rw [Hlen.out]; omega)
          have e2 := HT.out
          rw [← HZ.out] at e
          exact ⟨j + 1, by omega, by go_num, by rw [e]; go_num, by rw [e]; omega⟩
        case measure => simp [intOf]; omega
      · go_wp2_with (at_make; refine wpList_make_own _ rfl _ _ 22 rfl w.heap.size 5 i0 _ 1 Trym.underlying22 hi hz0 hz1 .i64 .i64 _ (n + 1) rfl rfl (by omega) (by rw [hz2]; omega) (by unfold maxLen; omega) (Nat.le_refl _) ?_; intro w1 hown hgrow)
        have hj0 : (0 : Int) ≤ (j : Int) := by omega
        have hjn : (j : Int) ≤ (n : Int) := by omega
        have hjc : (j : Int) ≤ (c : Int) := by omega
        have hb1 : Below w.heap.size w w1 := (Below.refl _ _).grown hgrow (Nat.le_refl _) (by simp)
        have hst : Hid (St w w.heap.size w.heap.size (n + 1) b off zs w1 0 []) := ⟨hown, Nat.le_refl _, fun _ => by omega, fun _ => by have := hb1.size; omega, fun i hi => (hb1.cell (p := ⟨b, off + i, none⟩) hbw).trans (Hcell.out i (by rw [← Hlen.out]; exact hi)), hb1.size, hb1⟩
        have hlt1 : w.heap.size < w1.heap.size := (hown.lt _ rfl).2
        clear hown hgrow hb1
        have e1 : Hid ([] ++ (zs.drop 0).take j = zs.take j) := by simp [Hid]
        have e3 : Hid (zs.take j ++ [1] ++ (zs.drop j).take (n - j) = ins zs j 1) := ins_parts zs n j 1 Hlen.out
        go_region_held3 (fun _ => True) (trivial) ((first
          | (refine app_range w w.heap.size w.heap.size (n + 1) b off zs ?_ (.tmp 70) (.tmp 73) ?_ 0 j j c 0 [] (zs.take j) (some ⟨b, off, none⟩) ?_ ?_ ?_ (fun _ => rfl) (fun h => by cases h) (by rw [Hlen.out]; omega) (by omega) (by omega) e1.out ?_; exact rfl; exact rfl; exact rfl; exact rfl; (first | exact hst.out.drew | exact (hst.out.alloc _).drew); intro w2 hst2 hgr2)
          | (refine app_one w w.heap.size w.heap.size (n + 1) b off zs ?_ (.tmp 74) (.tmp 76) ?_ j (j + 1) w2.heap.size (zs.take j) (zs.take j ++ [1]) 1 ?_ ?_ ?_ ?_ rfl (by omega) rfl ?_; exact rfl; exact rfl; exact rfl; exact rfl; exact hst2.alloc _; simp; intro w3 hst3 hgr3)
          | (refine app_one w w.heap.size w.heap.size (n + 1) b off zs ?_ (.tmp 74) (.tmp 76) ?_ j (j + 1) w1.heap.size (zs.take j) (zs.take j ++ [1]) 1 ?_ ?_ ?_ ?_ rfl (by omega) rfl ?_; exact rfl; exact rfl; exact rfl; exact rfl; exact hst2; (rw [hgr2.cell_far _ (by simp) (by simp; omega)]; simp); intro w3 hst3 hgr3)
          | (refine app_range w w.heap.size w.heap.size (n + 1) b off zs ?_ (.tmp 77) (.tmp 80) ?_ (j + 1) (n - j) (n + 1) (c - j) j (zs.take j ++ [1]) (ins zs j 1) (if c = j then some ⟨b, off, none⟩ else some ⟨b, off + j, none⟩) ?_ ?_ ?_ ?_ ?_ ?_ (by omega) (by omega) e3.out ?_; exact rfl; exact rfl; exact rfl; exact rfl; exact hst3; (intro h0; rw [if_neg (by omega)]); (intro h0; split at h0 <;> cases h0); (rw [Hlen.out]; omega); intro w4 hst4 hgr4)))
        all_goals go_wp2
        all_goals go_ret
        all_goals
          have hO : Own w4 w.heap.size (.slice (some ⟨w.heap.size, 0, none⟩) (n + 1) (n + 1)) (ins zs j 1) := by
            unfold Own; rw [length_ins _ _ _ (by rw [Hlen.out]; exact hj), Hlen.out]; exact hst4.own
          refine ⟨_, j, 1, rfl, hj, by simp, hO, ?_, hst4.below⟩
          rw [← HL.out]
          congr 1
          rw [ws_ins1 zs j (by rw [Hlen.out]; exact hj), ← HW.out, ← HT.out]
          omega

end Go.Proofs.Qxb6604085aMods.B
