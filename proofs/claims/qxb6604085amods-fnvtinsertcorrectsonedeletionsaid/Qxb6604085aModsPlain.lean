/-
  THE PLAIN LAW: lists of bits, their sums, one bit put in, one bit taken out. No Go in sight; nothing of the dump is imported.
-/
namespace Go.Proofs.Qxb6604085aMods.Pl

def sm : List Int → Int
  | [] => 0
  | x :: xs => x + sm xs
/-- The sum of (k + i) * x_i over the indices i. -/
def ws : Int → List Int → Int
  | _, [] => 0
  | k, x :: xs => k * x + ws (k + 1) xs
def ins (y : List Int) (i : Nat) (b : Int) : List Int := y.take i ++ b :: y.drop i
def del (y : List Int) (i : Nat) : List Int := y.take i ++ y.drop (i + 1)
def Bits (l : List Int) : Prop := ∀ x ∈ l, x = 0 ∨ x = 1

theorem getD_at {l : List Int} {i : Nat} (h : i < l.length) : l.getD i 0 = l[i] := by simp [List.getD, List.getElem?_eq_getElem h]

theorem sm_append (a b : List Int) : sm (a ++ b) = sm a + sm b := by
  induction a with
  | nil => simp [sm]
  | cons x xs ih => simp only [List.cons_append, sm, ih]; omega
theorem ws_append (k : Int) (a b : List Int) : ws k (a ++ b) = ws k a + ws (k + a.length) b := by
  induction a generalizing k with
  | nil => simp [ws]
  | cons x xs ih =>
    simp only [List.cons_append, ws, ih, List.length_cons]
    rw [show k + 1 + (xs.length : Int) = k + ((xs.length + 1 : Nat) : Int) from by omega]
    omega
theorem ws_succ (k : Int) (a : List Int) : ws (k + 1) a = ws k a + sm a := by
  induction a generalizing k with
  | nil => simp [ws, sm]
  | cons x xs ih =>
    simp only [ws, sm, ih, Int.add_mul, Int.one_mul]
    omega

theorem Bits.take {l : List Int} (h : Bits l) (i : Nat) : Bits (l.take i) := fun x hx => h x (List.mem_of_mem_take hx)
theorem Bits.drop {l : List Int} (h : Bits l) (i : Nat) : Bits (l.drop i) := fun x hx => h x (List.mem_of_mem_drop hx)
theorem Bits.append {a b : List Int} (ha : Bits a) (hb : Bits b) : Bits (a ++ b) := fun x hx => by
  rcases List.mem_append.1 hx with h | h
  · exact ha x h
  · exact hb x h
theorem Bits.cons {x : Int} {l : List Int} (hx : x = 0 ∨ x = 1) (h : Bits l) : Bits (x :: l) := fun z hz => by
  rcases List.mem_cons.1 hz with h1 | h1
  · rw [h1]; exact hx
  · exact h z h1
theorem Bits.tail {x : Int} {l : List Int} (h : Bits (x :: l)) : Bits l := fun z hz => h z (List.mem_cons_of_mem _ hz)
theorem Bits.head {x : Int} {l : List Int} (h : Bits (x :: l)) : x = 0 ∨ x = 1 := h x (List.mem_cons_self ..)
theorem Bits.at {l : List Int} (h : Bits l) (i : Nat) : l.getD i 0 = 0 ∨ l.getD i 0 = 1 := by
  by_cases hi : i < l.length
  · rw [getD_at hi]; exact h _ (List.getElem_mem hi)
  · left; simp [List.getD, List.getElem?_eq_none (Nat.le_of_not_lt hi)]
theorem Bits.ins {l : List Int} (h : Bits l) (i : Nat) {b : Int} (hb : b = 0 ∨ b = 1) : Bits (ins l i b) := (h.take i).append (Bits.cons hb (h.drop i))
theorem Bits.del {l : List Int} (h : Bits l) (i : Nat) : Bits (del l i) := (h.take i).append (h.drop (i + 1))

theorem length_ins (y : List Int) (i : Nat) (b : Int) (h : i ≤ y.length) : (ins y i b).length = y.length + 1 := by simp [ins]; omega
theorem length_del (y : List Int) (i : Nat) (h : i < y.length) : (del y i).length + 1 = y.length := by simp [del]; omega

theorem sm_bd {l : List Int} (h : Bits l) : 0 ≤ sm l ∧ sm l ≤ l.length := by
  induction l with
  | nil => simp [sm]
  | cons x xs ih =>
    have := ih h.tail
    have := h.head
    simp only [sm, List.length_cons]
    omega
theorem ws_bd {l : List Int} (h : Bits l) (k : Int) (hk : 0 ≤ k) (hl : k + l.length ≤ 2097152) : 0 ≤ ws k l ∧ ws k l ≤ 2097152 * l.length := by
  induction l generalizing k with
  | nil => simp [ws]
  | cons x xs ih =>
    simp only [List.length_cons] at hl
    have h1 := ih h.tail (k + 1) (by omega) (by omega)
    simp only [ws, List.length_cons]
    rcases h.head with hx | hx <;> rw [hx] <;> simp only [Int.mul_zero, Int.mul_one] <;> omega

theorem sm_split (y : List Int) (i : Nat) : sm y = sm (y.take i) + sm (y.drop i) := by
  rw [← sm_append, List.take_append_drop]
theorem take_snoc (l : List Int) (i : Nat) (h : i < l.length) : l.take (i + 1) = l.take i ++ [l.getD i 0] := by
  rw [List.take_succ_eq_append_getElem h, getD_at h]
theorem drop_cons (l : List Int) (i : Nat) (h : i < l.length) : l.drop i = l.getD i 0 :: l.drop (i + 1) := by
  rw [List.drop_eq_getElem_cons h, getD_at h]
theorem sm_take (l : List Int) (i : Nat) (h : i < l.length) : sm (l.take (i + 1)) = sm (l.take i) + l.getD i 0 := by
  rw [take_snoc l i h, sm_append]; simp [sm]
theorem sm_drop (l : List Int) (i : Nat) (h : i < l.length) : sm (l.drop i) = l.getD i 0 + sm (l.drop (i + 1)) := by
  rw [drop_cons l i h]; rfl
theorem ws_take (k : Int) (l : List Int) (i : Nat) (h : i < l.length) : ws k (l.take (i + 1)) = ws k (l.take i) + (k + i) * l.getD i 0 := by
  rw [take_snoc l i h, ws_append]
  have : (l.take i).length = i := by simp; omega
  rw [this]; simp [ws]
theorem ws_split (k : Int) (y : List Int) (i : Nat) (h : i ≤ y.length) : ws k y = ws k (y.take i) + ws (k + i) (y.drop i) := by
  have := ws_append k (y.take i) (y.drop i)
  rw [List.take_append_drop] at this
  have e : (y.take i).length = i := by simp; omega
  rw [e] at this; exact this

/-! ### one bit put in -/
theorem ws_ins (y : List Int) (i : Nat) (b : Int) (h : i ≤ y.length) : ws 1 (ins y i b) = ws 1 y + sm (y.drop i) + (i + 1) * b := by
  have e : (y.take i).length = i := by simp; omega
  unfold ins
  rw [ws_append, e, ws_split 1 y i h]
  simp only [ws]
  rw [ws_succ, show (1 : Int) + (i : Int) = (i : Int) + 1 from by omega]
  omega
/-- As the search reckons it. -/
theorem ws_ins_search (y : List Int) (i : Nat) (h : i ≤ y.length) : ws 1 (ins y i 0) = ws 1 (y.take i) + (ws 2 y - ws 2 (y.take i)) := by
  have e : (y.take i).length = i := by simp; omega
  unfold ins
  rw [ws_append, e, ws_split 2 y i h]
  simp only [ws]
  rw [show (1 : Int) + (i : Int) + 1 = 2 + (i : Int) from by omega]
  omega
theorem ws_ins_one (y : List Int) (i : Nat) (h : i ≤ y.length) : ws 1 (ins y i 1) = ws 1 (ins y i 0) + i + 1 := by
  rw [ws_ins y i 1 h, ws_ins y i 0 h]; omega

theorem ins_step (y : List Int) (i : Nat) (b : Int) (h : i < y.length) (hb : y.getD i 0 = b) : ins y i b = ins y (i + 1) b := by
  unfold ins
  rw [take_snoc y i h, drop_cons y i h, hb]
  simp
theorem ins_zero_same (y : List Int) (hy : Bits y) (i d : Nat) (h : i + d ≤ y.length) (hs : sm (y.drop i) = sm (y.drop (i + d))) : ins y i 0 = ins y (i + d) 0 := by
  induction d generalizing i with
  | zero => rfl
  | succ d ih =>
    have h1 := sm_drop y i (by omega)
    have hb := hy.at i
    have h2 := sm_split (y.drop (i + 1)) d
    rw [List.drop_drop] at h2
    have h3 := sm_bd ((hy.drop (i + 1)).take d)
    rw [show i + (d + 1) = i + 1 + d from by omega] at hs h ⊢
    rw [ins_step y i 0 (by omega) (by omega)]
    exact ih (i + 1) h (by omega)
theorem ins_one_same (y : List Int) (hy : Bits y) (i d : Nat) (h : i + d ≤ y.length) (hs : (i : Int) - sm (y.take i) = ((i + d : Nat) : Int) - sm (y.take (i + d))) : ins y i 1 = ins y (i + d) 1 := by
  induction d generalizing i with
  | zero => rfl
  | succ d ih =>
    have h1 := sm_take y i (by omega)
    have hb := hy.at i
    have h2 := sm_split (y.take (i + 1 + d)) (i + 1)
    rw [List.take_take, Nat.min_eq_left (by omega), List.drop_take] at h2
    have h3 := sm_bd ((hy.drop (i + 1)).take (i + 1 + d - (i + 1)))
    have h4 : ((y.drop (i + 1)).take (i + 1 + d - (i + 1))).length ≤ d := by simp; omega
    rw [show i + (d + 1) = i + 1 + d from by omega] at hs h ⊢
    rw [ins_step y i 1 (by omega) (by omega)]
    exact ih (i + 1) h (by omega)

theorem emod_close {a b m : Int} (h : a % m = b % m) (h1 : a - b < m) (h2 : b - a < m) : a = b := by
  have hm : 0 < m := by omega
  have h3 : (a - b) % m = 0 := Int.emod_eq_emod_iff_emod_sub_eq_zero.1 h
  by_cases h4 : 0 ≤ a - b
  · rw [Int.emod_eq_of_lt h4 h1] at h3; omega
  · have h5 : (b - a) % m = 0 := Int.emod_eq_emod_iff_emod_sub_eq_zero.1 h.symm
    rw [Int.emod_eq_of_lt (by omega) h2] at h5; omega

/-- WHAT AN INSERTION ADDS, bit 1: the weight, one, and the zeros ahead of it. -/
theorem ws_ins1 (y : List Int) (i : Nat) (h : i ≤ y.length) : ws 1 (ins y i 1) = ws 1 y + sm y + 1 + ((i : Int) - sm (y.take i)) := by
  have h1 := ws_ins y i 1 h
  have h2 := sm_split y i
  omega

/-- THE VT THEOREM FOR INSERTIONS: two insertions into one string with one syndrome are one string. -/
theorem ins_unique (y : List Int) (hy : Bits y) (i j : Nat) (b c : Int) (hi : i ≤ y.length) (hj : j ≤ y.length) (hb : b = 0 ∨ b = 1) (hc : c = 0 ∨ c = 1)
    (h : ws 1 (ins y i b) % ((y.length : Int) + 2) = ws 1 (ins y j c) % ((y.length : Int) + 2)) : ins y i b = ins y j c := by
  have W := sm_bd hy
  have ti := sm_bd (hy.take i)
  have tj := sm_bd (hy.take j)
  have di := sm_bd (hy.drop i)
  have dj := sm_bd (hy.drop j)
  have li : (y.take i).length ≤ i := List.length_take_le _ _
  have lj : (y.take j).length ≤ j := List.length_take_le _ _
  have ei : (y.drop i).length = y.length - i := List.length_drop ..
  have ej : (y.drop j).length = y.length - j := List.length_drop ..
  have si := sm_split y i
  have sj := sm_split y j
  rcases hb with rfl | rfl <;> rcases hc with rfl | rfl
  · have e1 := ws_ins y i 0 hi
    have e2 := ws_ins y j 0 hj
    have e := emod_close h (by omega) (by omega)
    by_cases hij : i ≤ j
    · obtain ⟨d, rfl⟩ : ∃ d, j = i + d := ⟨j - i, by omega⟩
      exact ins_zero_same y hy i d hj (by omega)
    · obtain ⟨d, rfl⟩ : ∃ d, i = j + d := ⟨i - j, by omega⟩
      exact (ins_zero_same y hy j d hi (by omega)).symm
  · have e1 := ws_ins y i 0 hi
    have e2 := ws_ins1 y j hj
    have e := emod_close h (by omega) (by omega)
    omega
  · have e1 := ws_ins1 y i hi
    have e2 := ws_ins y j 0 hj
    have e := emod_close h (by omega) (by omega)
    omega
  · have e1 := ws_ins1 y i hi
    have e2 := ws_ins1 y j hj
    have e := emod_close h (by omega) (by omega)
    by_cases hij : i ≤ j
    · obtain ⟨d, rfl⟩ : ∃ d, j = i + d := ⟨j - i, by omega⟩
      exact ins_one_same y hy i d hj (by omega)
    · obtain ⟨d, rfl⟩ : ∃ d, i = j + d := ⟨i - j, by omega⟩
      exact (ins_one_same y hy j d hi (by omega)).symm

/-! ### one bit taken out -/
theorem ws_del (y : List Int) (i : Nat) (h : i < y.length) : ws 1 (del y i) = ws 1 y - (i + 1) * y.getD i 0 - sm (y.drop (i + 1)) := by
  have e : (y.take i).length = i := by simp; omega
  unfold del
  have h1 := ws_split 1 y i (by omega)
  rw [drop_cons y i h] at h1
  simp only [ws] at h1
  rw [ws_append, e]
  have h2 := ws_succ (1 + (i : Int)) (y.drop (i + 1))
  rw [show (i : Int) + 1 = 1 + (i : Int) from by omega]
  omega
theorem ws_del_search (y : List Int) (i : Nat) (h : i < y.length) : ws 1 (del y i) = ws 1 (y.take i) + (ws 0 y - ws 0 (y.take i) - i * y.getD i 0) := by
  have e : (y.take i).length = i := by simp; omega
  unfold del
  have h1 := ws_split 0 y i (by omega)
  rw [drop_cons y i h] at h1
  simp only [ws, Int.zero_add] at h1
  rw [ws_append, e, show (1 : Int) + (i : Int) = (i : Int) + 1 from by omega]
  omega
theorem del_step (y : List Int) (i : Nat) (h : i + 1 < y.length) (hb : y.getD i 0 = y.getD (i + 1) 0) : del y i = del y (i + 1) := by
  unfold del
  rw [take_snoc y i (by omega), drop_cons y (i + 1) h, hb]
  simp
/-- How much deleting at i lowers the sum. -/
def low (y : List Int) (i : Nat) : Int := (i + 1) * y.getD i 0 + sm (y.drop (i + 1))
theorem low_zero (y : List Int) (i : Nat) (hb : y.getD i 0 = 0) : low y i = sm (y.drop (i + 1)) := by unfold low; rw [hb]; omega
theorem low_one (y : List Int) (i : Nat) (h : i < y.length) (hb : y.getD i 0 = 1) : low y i = sm y + ((i : Int) - sm (y.take i)) := by
  unfold low
  have h1 := sm_split y i
  have h2 := sm_drop y i h
  rw [hb] at h2 ⊢
  omega
theorem del_zero_same (y : List Int) (hy : Bits y) (i d : Nat) (h : i + d < y.length) (hi : y.getD i 0 = 0) (hs : sm (y.drop (i + 1)) = sm (y.drop (i + d + 1))) : del y i = del y (i + d) := by
  induction d generalizing i with
  | zero => rfl
  | succ d ih =>
    have h1 := sm_drop y (i + 1) (by omega)
    have hb := hy.at (i + 1)
    have h2 := sm_split (y.drop (i + 1 + 1)) d
    rw [List.drop_drop] at h2
    have h3 := sm_bd ((hy.drop (i + 1 + 1)).take d)
    rw [show i + (d + 1) = i + 1 + d from by omega] at hs h ⊢
    rw [show i + 1 + d + 1 = i + 1 + 1 + d from by omega] at hs
    have h0 : y.getD (i + 1) 0 = 0 := by omega
    rw [del_step y i (by omega) (by omega)]
    exact ih (i + 1) h h0 (by rw [show i + 1 + d + 1 = i + 1 + 1 + d from by omega]; omega)
theorem del_one_same (y : List Int) (hy : Bits y) (i d : Nat) (h : i + d < y.length) (hj : y.getD (i + d) 0 = 1) (hs : (i : Int) - sm (y.take i) = ((i + d : Nat) : Int) - sm (y.take (i + d))) : del y i = del y (i + d) := by
  induction d with
  | zero => rfl
  | succ d ih =>
    have h1 := sm_take y (i + d) (by omega)
    have hb := hy.at (i + d)
    have h2 := sm_split (y.take (i + d)) i
    rw [List.take_take, Nat.min_eq_left (by omega), List.drop_take] at h2
    have h3 := sm_bd ((hy.drop i).take (i + d - i))
    have h4 : ((y.drop i).take (i + d - i)).length ≤ d := by simp; omega
    rw [← Nat.add_assoc] at hs h hj ⊢
    have h0 : y.getD (i + d) 0 = 1 := by omega
    rw [ih (by omega) h0 (by omega), del_step y (i + d) (by omega) (by omega)]

theorem low_bd (y : List Int) (hy : Bits y) (i : Nat) (h : i < y.length) :
    (y.getD i 0 = 0 ∧ 0 ≤ low y i ∧ low y i ≤ sm y ∧ sm y + 1 ≤ y.length) ∨ (y.getD i 0 = 1 ∧ sm y ≤ low y i ∧ low y i ≤ y.length ∧ 1 ≤ sm y) := by
  have ti := sm_bd (hy.take i)
  have di := sm_bd (hy.drop (i + 1))
  have li : (y.take i).length ≤ i := List.length_take_le _ _
  have ei : (y.drop (i + 1)).length = y.length - (i + 1) := List.length_drop ..
  have si := sm_split y i
  have sj := sm_drop y i h
  rcases hy.at i with hb | hb
  · left; rw [low_zero y i hb]; omega
  · right; rw [low_one y i h hb]; omega

/-- THE VT THEOREM FOR DELETIONS: two deletions out of one string with one syndrome are one string. -/
theorem del_unique (y : List Int) (hy : Bits y) (i j : Nat) (hi : i < y.length) (hj : j < y.length)
    (h : ws 1 (del y i) % (y.length : Int) = ws 1 (del y j) % (y.length : Int)) : del y i = del y j := by
  have ei := ws_del y i hi
  have ej := ws_del y j hj
  have bi := low_bd y hy i hi
  have bj := low_bd y hy j hj
  have fi : ws 1 (del y i) = ws 1 y - low y i := by unfold low; omega
  have fj : ws 1 (del y j) = ws 1 y - low y j := by unfold low; omega
  have tri : ∀ k, Bits (y.take k) ∧ (y.take k).length ≤ k := fun k => ⟨hy.take k, List.length_take_le _ _⟩
  have ti := sm_bd (hy.take i)
  have tj := sm_bd (hy.take j)
  have di := sm_bd (hy.drop (i + 1))
  have dj := sm_bd (hy.drop (j + 1))
  have li : (y.take i).length ≤ i := List.length_take_le _ _
  have lj : (y.take j).length ≤ j := List.length_take_le _ _
  have lei : (y.drop (i + 1)).length = y.length - (i + 1) := List.length_drop ..
  have lej : (y.drop (j + 1)).length = y.length - (j + 1) := List.length_drop ..
  have si := sm_split y i
  have sj := sm_split y j
  have si' := sm_drop y i hi
  have sj' := sm_drop y j hj
  -- the last bit
  have last0 : ∀ k, k < y.length → y.getD k 0 = 0 → sm (y.drop (k + 1)) = 0 → y.getD (y.length - 1) 0 = 0 := by
    intro k hk h0 hs
    by_cases hl : k + 1 = y.length
    · rw [show y.length - 1 = k from by omega]; exact h0
    · have h1 := sm_split (y.drop (k + 1)) (y.length - 1 - (k + 1))
      rw [List.drop_drop, show k + 1 + (y.length - 1 - (k + 1)) = y.length - 1 from by omega] at h1
      have h2 := sm_bd ((hy.drop (k + 1)).take (y.length - 1 - (k + 1)))
      have h3 := sm_drop y (y.length - 1) (by omega)
      have h4 := sm_bd (hy.drop (y.length - 1 + 1))
      have h5 := hy.at (y.length - 1)
      omega
  have last1 : ∀ k, k < y.length → y.getD k 0 = 1 → sm y + ((k : Int) - sm (y.take k)) = y.length → y.getD (y.length - 1) 0 = 1 := by
    intro k hk h0 hs
    have h1 := sm_split y k
    have h6 : sm (y.drop k) = y.length - k := by omega
    have h2 := sm_split (y.drop k) (y.length - 1 - k)
    rw [List.drop_drop, show k + (y.length - 1 - k) = y.length - 1 from by omega] at h2
    have h3 := sm_drop y (y.length - 1) (by omega)
    have h4 : y.drop (y.length - 1 + 1) = [] := List.drop_eq_nil_of_le (by omega)
    rw [h4] at h3
    have h7 := sm_bd ((hy.drop k).take (y.length - 1 - k))
    have h8 : ((y.drop k).take (y.length - 1 - k)).length ≤ y.length - 1 - k := List.length_take_le _ _
    have h5 := hy.at (y.length - 1)
    simp only [sm] at h3
    omega
  have first0 : ∀ k, k < y.length → sm (y.drop (k + 1)) = sm y → y.getD 0 0 = 0 := by
    intro k hk hs
    have h1 := sm_split y (k + 1)
    have h2 := sm_split (y.take (k + 1)) 1
    rw [List.take_take, Nat.min_eq_left (by omega)] at h2
    have h3 := sm_take y 0 (by omega)
    have h4 := sm_bd ((hy.take (k + 1)).drop 1)
    have h5 := hy.at 0
    simp only [List.take_zero, sm, Nat.zero_add] at h3
    omega
  have first1 : ∀ k, k < y.length → y.getD k 0 = 1 → (k : Int) - sm (y.take k) = 0 → y.getD 0 0 = 1 := by
    intro k hk h0 hs
    by_cases hk0 : k = 0
    · rw [hk0] at h0; exact h0
    · have h2 := sm_split (y.take k) 1
      rw [List.take_take, Nat.min_eq_left (by omega)] at h2
      have h3 := sm_take y 0 (by omega)
      have h4 := sm_bd ((hy.take k).drop 1)
      have h6 : ((y.take k).drop 1).length ≤ k - 1 := by simp; omega
      have h5 := hy.at 0
      simp only [List.take_zero, sm, Nat.zero_add] at h3
      omega
  -- equal or apart by the whole length
  have key : low y i = low y j ∨ (low y i = 0 ∧ low y j = y.length) ∨ (low y j = 0 ∧ low y i = y.length) := by
    by_cases c1 : low y i - low y j < y.length
    · by_cases c2 : low y j - low y i < y.length
      · left
        have := emod_close h (by omega) (by omega)
        omega
      · right; left; omega
    · right; right; omega
  rcases bi with ⟨zi, bi⟩ | ⟨oi, bi⟩ <;> rcases bj with ⟨zj, bj⟩ | ⟨oj, bj⟩
  · have wi := low_zero y i zi
    have wj := low_zero y j zj
    have e : low y i = low y j := by omega
    by_cases hij : i ≤ j
    · obtain ⟨d, rfl⟩ : ∃ d, j = i + d := ⟨j - i, by omega⟩
      exact del_zero_same y hy i d hj zi (by omega)
    · obtain ⟨d, rfl⟩ : ∃ d, i = j + d := ⟨i - j, by omega⟩
      exact (del_zero_same y hy j d hi zj (by omega)).symm
  · exfalso
    have wi := low_zero y i zi
    have wj := low_one y j hj oj
    rcases key with e | ⟨e1, e2⟩ | ⟨e1, e2⟩
    · have f0 := first0 i hi (by omega)
      have f1 := first1 j hj oj (by omega)
      omega
    · have f0 := last0 i hi zi (by omega)
      have f1 := last1 j hj oj (by omega)
      omega
    · omega
  · exfalso
    have wi := low_one y i hi oi
    have wj := low_zero y j zj
    rcases key with e | ⟨e1, e2⟩ | ⟨e1, e2⟩
    · have f0 := first0 j hj (by omega)
      have f1 := first1 i hi oi (by omega)
      omega
    · omega
    · have f0 := last0 j hj zj (by omega)
      have f1 := last1 i hi oi (by omega)
      omega
  · have wi := low_one y i hi oi
    have wj := low_one y j hj oj
    have e : low y i = low y j := by omega
    by_cases hij : i ≤ j
    · obtain ⟨d, rfl⟩ : ∃ d, j = i + d := ⟨j - i, by omega⟩
      exact del_one_same y hy i d hj oj (by omega)
    · obtain ⟨d, rfl⟩ : ∃ d, i = j + d := ⟨i - j, by omega⟩
      exact (del_one_same y hy j d hi oi (by omega)).symm

end Go.Proofs.Qxb6604085aMods.Pl
