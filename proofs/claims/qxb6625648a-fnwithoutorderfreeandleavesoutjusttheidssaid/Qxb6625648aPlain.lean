/-
  Plain lists of ranges (start, count) and what 'without' does to them. No Go here.
-/
import Derived.KernelRfl
namespace Go.Proofs.Qxb6625648a

/-- A number that fits 32 bits. -/
def U32 (n : Int) : Prop := 0 ≤ n ∧ n ≤ 4294967295
def U32s (L : List (Int × Int)) : Prop := ∀ p ∈ L, U32 p.1 ∧ U32 p.2
/-- A range that ends at or below 1<<32. -/
def fits (p : Int × Int) : Bool := decide (p.1 + p.2 ≤ 4294967296)

/-- What is left of one range. -/
def piece (id : Int) (p : Int × Int) : List (Int × Int) :=
  if id < p.1 ∨ p.1 + p.2 ≤ id then [p]
  else (if p.1 < id then [(p.1, id - p.1)] else []) ++ (if id < p.1 + p.2 - 1 then [(id + 1, p.1 + p.2 - 1 - id)] else [])
def wo (id : Int) (L : List (Int × Int)) : List (Int × Int) := L.flatMap (piece id)

theorem wo_nil (id : Int) : wo id [] = [] := rfl
theorem wo_cons (id : Int) (p : Int × Int) (L : List (Int × Int)) : wo id (p :: L) = piece id p ++ wo id L := by simp [wo]
theorem wo_append (id : Int) (A B : List (Int × Int)) : wo id (A ++ B) = wo id A ++ wo id B := by simp [wo]

theorem piece_len (id : Int) (p : Int × Int) : (piece id p).length ≤ 2 := by
  unfold piece
  split
  · simp
  · split <;> split <;> simp
theorem wo_len (id : Int) (L : List (Int × Int)) : (wo id L).length ≤ 2 * L.length := by
  induction L with
  | nil => simp [wo]
  | cons p L ih =>
    have := piece_len id p
    simp only [wo_cons, List.length_append, List.length_cons]
    omega

theorem take_succ {α : Type} {L : List α} {k : Nat} {p : α} (h : L[k]? = some p) : L.take (k + 1) = L.take k ++ [p] := by
  rw [List.take_add_one, h]; rfl
theorem wo_take (id : Int) {L : List (Int × Int)} {k : Nat} {p : Int × Int} (h : L[k]? = some p) : wo id (L.take (k + 1)) = wo id (L.take k) ++ piece id p := by
  rw [take_succ h, wo_append]; simp [wo]
theorem take_len_le (L : List (Int × Int)) (k : Nat) : (L.take k).length ≤ k := by simp; omega
theorem wo_take_len (id : Int) (L : List (Int × Int)) (k : Nat) : (wo id (L.take k)).length ≤ 2 * k := by
  have := wo_len id (L.take k)
  have := take_len_le L k
  omega
theorem wo_split (id : Int) {L : List (Int × Int)} {k : Nat} {p : Int × Int} (h : L[k]? = some p) : wo id L = wo id (L.take k) ++ (piece id p ++ wo id (L.drop (k + 1))) := by
  have e : L = L.take (k + 1) ++ L.drop (k + 1) := (List.take_append_drop _ _).symm
  conv => lhs; rw [e]
  rw [wo_append, wo_take id h, List.append_assoc]
/-- the j-th piece of range k lies in the whole answer behind the pieces of the ranges before -/
theorem wo_at (id : Int) {L : List (Int × Int)} {k j : Nat} {p q : Int × Int} (h : L[k]? = some p) (hq : (piece id p)[j]? = some q) : (wo id L)[(wo id (L.take k)).length + j]? = some q := by
  rw [wo_split id h]
  have hj : j < (piece id p).length := (List.getElem?_eq_some_iff.1 hq).1
  rw [List.getElem?_append_right (by omega), List.getElem?_append_left (by omega)]
  rw [show (wo id (L.take k)).length + j - (wo id (L.take k)).length = j from by omega]
  exact hq

theorem U32s_piece {id : Int} (hid : U32 id) {p : Int × Int} (h : U32 p.1 ∧ U32 p.2) (hf : p.1 + p.2 ≤ 4294967296) : U32s (piece id p) := by
  obtain ⟨⟨a, b⟩, c, d⟩ := h
  obtain ⟨e, f⟩ := hid
  intro q hq
  unfold piece at hq
  split at hq
  · simp at hq; subst hq; exact ⟨⟨a, b⟩, c, d⟩
  · simp only [List.mem_append] at hq
    rcases hq with hq | hq
    · split at hq
      · simp at hq; subst hq; simp only [U32]; omega
      · simp at hq
    · split at hq
      · simp at hq; subst hq; simp only [U32]; omega
      · simp at hq
theorem fits_piece {id : Int} {p : Int × Int} (hf : p.1 + p.2 ≤ 4294967296) : ∀ q ∈ piece id p, q.1 + q.2 ≤ 4294967296 := by
  intro q hq
  unfold piece at hq
  split at hq
  · simp at hq; subst hq; exact hf
  · simp only [List.mem_append] at hq
    rcases hq with hq | hq
    · split at hq
      · simp at hq; subst hq; simp only []; omega
      · simp at hq
    · split at hq
      · simp at hq; subst hq; simp only []; omega
      · simp at hq
theorem all_fits {L : List (Int × Int)} (h : L.all fits = true) : ∀ p ∈ L, p.1 + p.2 ≤ 4294967296 := by
  intro p hp
  have := List.all_eq_true.1 h p hp
  simpa [fits] using this
theorem U32s_wo {id : Int} (hid : U32 id) {L : List (Int × Int)} (h : U32s L) (hf : L.all fits = true) : U32s (wo id L) := by
  intro q hq
  obtain ⟨p, hp, hq⟩ := List.mem_flatMap.1 hq
  exact U32s_piece hid (h p hp) (all_fits hf p hp) q hq
theorem fits_wo {id : Int} {L : List (Int × Int)} (hf : L.all fits = true) : (wo id L).all fits = true := by
  rw [List.all_eq_true]
  intro q hq
  obtain ⟨p, hp, hq⟩ := List.mem_flatMap.1 hq
  simpa [fits] using fits_piece (all_fits hf p hp) q hq

/-! ### the order does not matter -/
theorem wo_two (id : Int) (x y : Int × Int) : wo id [x, y] = piece id x ++ piece id y := by simp [wo]
theorem wo_one (id : Int) (x : Int × Int) : wo id [x] = piece id x := by simp [wo]

theorem piece_out {id : Int} {p : Int × Int} (h : id < p.1 ∨ p.1 + p.2 ≤ id) : piece id p = [p] := by unfold piece; rw [if_pos h]
theorem piece_in {id : Int} {p : Int × Int} (h1 : p.1 ≤ id) (h2 : id < p.1 + p.2) : piece id p = (if p.1 < id then [(p.1, id - p.1)] else []) ++ (if id < p.1 + p.2 - 1 then [(id + 1, p.1 + p.2 - 1 - id)] else []) := by
  unfold piece; rw [if_neg (by omega)]

/-- a lower than b, both inside -/
theorem piece_comm_lt {a b : Int} {p : Int × Int} (hab : a < b) (ha : p.1 ≤ a) (hb : b < p.1 + p.2) : wo b (piece a p) = wo a (piece b p) := by
  have pa : piece a p = (if p.1 < a then [(p.1, a - p.1)] else []) ++ [(a + 1, p.1 + p.2 - 1 - a)] := by
    rw [piece_in ha (by omega), if_pos (show a < p.1 + p.2 - 1 by omega)]
  have pb : piece b p = [(p.1, b - p.1)] ++ (if b < p.1 + p.2 - 1 then [(b + 1, p.1 + p.2 - 1 - b)] else []) := by
    rw [piece_in (by omega) hb, if_pos (show p.1 < b by omega)]
  rw [pa, pb, wo_append, wo_append, wo_one, wo_one]
  have h1 : piece b (a + 1, p.1 + p.2 - 1 - a) = (if a + 1 < b then [(a + 1, b - (a + 1))] else []) ++ (if b < p.1 + p.2 - 1 then [(b + 1, p.1 + p.2 - 1 - b)] else []) := by
    rw [piece_in (by show a + 1 ≤ b; omega) (by show b < a + 1 + (p.1 + p.2 - 1 - a); omega)]
    show (if a + 1 < b then [(a + 1, b - (a + 1))] else []) ++ (if b < a + 1 + (p.1 + p.2 - 1 - a) - 1 then [(b + 1, a + 1 + (p.1 + p.2 - 1 - a) - 1 - b)] else []) = _
    rw [show a + 1 + (p.1 + p.2 - 1 - a) - 1 = p.1 + p.2 - 1 from by omega]
  have h2 : piece a (p.1, b - p.1) = (if p.1 < a then [(p.1, a - p.1)] else []) ++ (if a + 1 < b then [(a + 1, b - (a + 1))] else []) := by
    rw [piece_in (by show p.1 ≤ a; omega) (by show a < p.1 + (b - p.1); omega)]
    show (if p.1 < a then [(p.1, a - p.1)] else []) ++ (if a < p.1 + (b - p.1) - 1 then [(a + 1, p.1 + (b - p.1) - 1 - a)] else []) = _
    rw [show p.1 + (b - p.1) - 1 - a = b - (a + 1) from by omega]
    by_cases h : a + 1 < b
    · rw [if_pos h, if_pos (show a < p.1 + (b - p.1) - 1 by omega)]
    · rw [if_neg h, if_neg (show ¬ a < p.1 + (b - p.1) - 1 by omega)]
  have h3 : wo b (if p.1 < a then [(p.1, a - p.1)] else []) = (if p.1 < a then [(p.1, a - p.1)] else []) := by
    split
    · rw [wo_one, piece_out (Or.inr (by show p.1 + (a - p.1) ≤ b; omega))]
    · rfl
  have h4 : wo a (if b < p.1 + p.2 - 1 then [(b + 1, p.1 + p.2 - 1 - b)] else []) = (if b < p.1 + p.2 - 1 then [(b + 1, p.1 + p.2 - 1 - b)] else []) := by
    split
    · rw [wo_one, piece_out (Or.inl (by show a < b + 1; omega))]
    · rfl
  rw [h1, h2, h3, h4, List.append_assoc]

/-- an id outside p is outside every piece of p -/
theorem piece_out_pieces {a b : Int} {p : Int × Int} (hb : b < p.1 ∨ p.1 + p.2 ≤ b) : wo b (piece a p) = piece a p := by
  by_cases ha : a < p.1 ∨ p.1 + p.2 ≤ a
  · rw [piece_out ha, wo_one, piece_out hb]
  · rw [piece_in (by omega) (by omega), wo_append]
    congr 1
    · split
      · rw [wo_one, piece_out]
        show b < p.1 ∨ p.1 + (a - p.1) ≤ b
        omega
      · rfl
    · split
      · rw [wo_one, piece_out]
        show b < a + 1 ∨ a + 1 + (p.1 + p.2 - 1 - a) ≤ b
        omega
      · rfl

theorem piece_comm (a b : Int) (p : Int × Int) : wo b (piece a p) = wo a (piece b p) := by
  by_cases hb : b < p.1 ∨ p.1 + p.2 ≤ b
  · rw [piece_out_pieces hb, piece_out hb, wo_one]
  by_cases ha : a < p.1 ∨ p.1 + p.2 ≤ a
  · rw [piece_out_pieces ha, piece_out ha, wo_one]
  rcases Int.lt_trichotomy a b with h | h | h
  · exact piece_comm_lt h (by omega) (by omega)
  · rw [h]
  · exact (piece_comm_lt h (by omega) (by omega)).symm
theorem wo_comm (a b : Int) (L : List (Int × Int)) : wo b (wo a L) = wo a (wo b L) := by
  induction L with
  | nil => rfl
  | cons p L ih => rw [wo_cons, wo_append, ih, piece_comm, wo_cons b, wo_append]

/-! ### how many ranges hold x -/
def holdsX (x : Int) (p : Int × Int) : Bool := decide (p.1 ≤ x ∧ x < p.1 + p.2)
def cover (x : Int) (L : List (Int × Int)) : Nat := (L.filter (holdsX x)).length
theorem cover_append (x : Int) (A B : List (Int × Int)) : cover x (A ++ B) = cover x A + cover x B := by simp [cover]
theorem cover_one (x : Int) (p : Int × Int) : cover x [p] = if p.1 ≤ x ∧ x < p.1 + p.2 then 1 else 0 := by
  unfold cover
  by_cases h : p.1 ≤ x ∧ x < p.1 + p.2
  · rw [if_pos h]; simp [holdsX, h.1, h.2]
  · rw [if_neg h]; simp [holdsX]; omega
theorem cover_nil (x : Int) : cover x [] = 0 := rfl
theorem cover_if (x : Int) (c : Prop) [Decidable c] (q : Int × Int) : cover x (if c then [q] else []) = if c ∧ q.1 ≤ x ∧ x < q.1 + q.2 then 1 else 0 := by
  by_cases h : c
  · simp only [h, if_true, true_and, cover_one]
  · simp only [h, if_false, false_and, cover_nil]
theorem cover_piece (a x : Int) (p : Int × Int) : cover x (piece a p) = if x = a then 0 else cover x [p] := by
  by_cases ha : a < p.1 ∨ p.1 + p.2 ≤ a
  · rw [piece_out ha, cover_one]
    by_cases h : x = a
    · rw [if_pos h, if_neg (by omega)]
    · rw [if_neg h]
  · rw [piece_in (by omega) (by omega), cover_append, cover_if, cover_if, cover_one]
    by_cases h : x = a
    · rw [if_pos h, if_neg (by simp only []; omega), if_neg (by simp only []; omega)]
    · rw [if_neg h]
      by_cases h1 : p.1 ≤ x ∧ x < p.1 + p.2
      · rw [if_pos h1]
        by_cases h2 : x < a
        · rw [if_pos (by simp only []; omega), if_neg (by simp only []; omega)]
        · rw [if_neg (by simp only []; omega), if_pos (by simp only []; omega)]
      · rw [if_neg h1, if_neg (by simp only []; omega), if_neg (by simp only []; omega)]
theorem cover_wo (a x : Int) (L : List (Int × Int)) : cover x (wo a L) = if x = a then 0 else cover x L := by
  induction L with
  | nil => simp [wo, cover]
  | cons p L ih =>
    rw [wo_cons, cover_append, ih, cover_piece]
    rw [show p :: L = [p] ++ L from rfl, cover_append]
    by_cases h : x = a <;> simp [h]
theorem cover_both (a b x : Int) (L : List (Int × Int)) : cover x (wo b (wo a L)) = if x ≠ a ∧ x ≠ b then cover x L else 0 := by
  rw [cover_wo, cover_wo]
  by_cases h1 : x = b
  · rw [if_pos h1, if_neg (by omega)]
  · rw [if_neg h1]
    by_cases h2 : x = a
    · rw [if_pos h2, if_neg (by omega)]
    · rw [if_neg h2, if_pos ⟨h2, h1⟩]
theorem cover_le (x : Int) (L : List (Int × Int)) : cover x L ≤ L.length := List.length_filter_le _ _
theorem cover_take (x : Int) {L : List (Int × Int)} {k : Nat} {p : Int × Int} (h : L[k]? = some p) : cover x (L.take (k + 1)) = cover x (L.take k) + if p.1 ≤ x ∧ x < p.1 + p.2 then 1 else 0 := by
  rw [take_succ h, cover_append, cover_one]

end Go.Proofs.Qxb6625648a
