/-
  Seat b6615774aM: lists alone. Nothing of Go stands here.
  'ins xs p x': x put into xs at place p.
-/
namespace Go.Proofs.Qxb6615774aMods.Plain

def ins {α : Type} (xs : List α) (p : Nat) (x : α) : List α := xs.take p ++ x :: xs.drop p

theorem ins_length {α : Type} (xs : List α) (p : Nat) (x : α) (h : p ≤ xs.length) : (ins xs p x).length = xs.length + 1 := by
  unfold ins; simp; omega

theorem ins_before {α : Type} (xs : List α) (p : Nat) (x : α) (d : α) (h : p ≤ xs.length) (i : Nat) (hi : i < p) : (ins xs p x).getD i d = xs.getD i d := by
  unfold ins
  simp only [List.getD_eq_getElem?_getD]
  rw [List.getElem?_append_left (by simp; omega), List.getElem?_take_of_lt hi]

theorem ins_at {α : Type} (xs : List α) (p : Nat) (x : α) (d : α) (h : p ≤ xs.length) : (ins xs p x).getD p d = x := by
  unfold ins
  simp only [List.getD_eq_getElem?_getD]
  rw [List.getElem?_append_right (by simp; omega)]
  simp [Nat.min_eq_left h]

theorem ins_behind {α : Type} (xs : List α) (p : Nat) (x : α) (d : α) (h : p ≤ xs.length) (i : Nat) (hi : p ≤ i) : (ins xs p x).getD (i + 1) d = xs.getD i d := by
  unfold ins
  simp only [List.getD_eq_getElem?_getD]
  rw [List.getElem?_append_right (by simp; omega)]
  have e : i + 1 - (xs.take p).length = (i - p) + 1 := by simp; omega
  rw [e, List.getElem?_cons_succ, List.getElem?_drop]
  congr 2; omega

/-- one more cell laid as 'm' has it -/
theorem take_set {α : Type} (l m : List α) (k : Nat) (d : α) (hl : l.length = m.length) (hk : k < m.length) (h : l.take k = m.take k) :
    (l.set k (m.getD k d)).take (k + 1) = m.take (k + 1) := by
  rw [List.take_succ_eq_append_getElem (by simp; omega), List.take_succ_eq_append_getElem hk, List.take_set_of_le (Nat.le_refl _), h]
  simp [List.getD_eq_getElem?_getD, List.getElem?_eq_getElem hk]

theorem ins_inj {α : Type} (xs ys : List α) (p : Nat) (x : α) (hx : p ≤ xs.length) (hy : p ≤ ys.length) : ins xs p x = ins ys p x ↔ xs = ys := by
  constructor
  · intro h
    unfold ins at h
    have h1 := List.append_inj h (by simp; omega)
    have h2 : xs.drop p = ys.drop p := by have := h1.2; simpa using this
    rw [← List.take_append_drop p xs, ← List.take_append_drop p ys, h1.1, h2]
  · rintro rfl; rfl

theorem ins_ne {α : Type} (xs : List α) (p : Nat) (x : α) (h : p ≤ xs.length) : ¬ xs = ins xs p x := by
  intro e
  have := ins_length xs p x h
  rw [← e] at this
  omega

/-- two lists of one length that agree up to k and at k agree up to k + 1 -/
theorem take_next {α : Type} (xs ys : List α) (d : α) (k : Nat) (hk : k < xs.length) (hk' : k < ys.length) (h : xs.take k = ys.take k) (he : xs.getD k d = ys.getD k d) : xs.take (k + 1) = ys.take (k + 1) := by
  rw [List.take_succ_eq_append_getElem hk, List.take_succ_eq_append_getElem hk', h]
  simp [List.getD_eq_getElem?_getD, List.getElem?_eq_getElem hk, List.getElem?_eq_getElem hk'] at he
  rw [he]

theorem ne_at {α : Type} (xs ys : List α) (d : α) (k : Nat) (h : ¬ xs.getD k d = ys.getD k d) : ¬ xs = ys := by
  rintro rfl; exact h rfl

end Go.Proofs.Qxb6615774aMods.Plain
