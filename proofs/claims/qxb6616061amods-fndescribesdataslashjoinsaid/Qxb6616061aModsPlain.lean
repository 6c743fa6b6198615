/-
  Seat b6616061aM: byte lists alone. Nothing of Go stands here.
  'preB l p': l begins with p. 'descB l': l is the name, or begins with the name and a slash.
-/
namespace Go.Proofs.Qxb6616061aMods.Plain

def nameL : List UInt8 := [115, 101, 114, 118, 105, 99, 101, 46, 98, 105, 110, 100, 105, 110, 103]
def nameS : List UInt8 := [115, 101, 114, 118, 105, 99, 101, 46, 98, 105, 110, 100, 105, 110, 103, 47]

def preB (l p : List UInt8) : Bool := decide (l.take p.length = p)
def descB (l : List UInt8) : Bool := decide (l = nameL) || preB l nameS

theorem nameS_eq : nameS = nameL ++ [47] := rfl
theorem nameL_length : nameL.length = 15 := rfl
theorem nameS_length : nameS.length = 16 := rfl
theorem nameL_noslash (i : Nat) (h : i < 15) : nameL[i]? ≠ some 47 := by
  have : i = 0 ∨ i = 1 ∨ i = 2 ∨ i = 3 ∨ i = 4 ∨ i = 5 ∨ i = 6 ∨ i = 7 ∨ i = 8 ∨ i = 9 ∨ i = 10 ∨ i = 11 ∨ i = 12 ∨ i = 13 ∨ i = 14 := by omega
  rcases this with rfl | rfl | rfl | rfl | rfl | rfl | rfl | rfl | rfl | rfl | rfl | rfl | rfl | rfl | rfl <;> decide

theorem descB_iff (l : List UInt8) : descB l = true ↔ l = nameL ∨ l.take 16 = nameS := by
  unfold descB preB
  rw [nameS_length]
  simp

/-- the byte at i of a list that is the name, or begins with the name and a slash -/
theorem desc_at (l : List UInt8) (h : descB l = true) (i : Nat) (hi : i < 15) : l[i]? = nameL[i]? := by
  rw [descB_iff] at h
  rcases h with rfl | h
  · rfl
  · have e : (l.take 16)[i]? = nameS[i]? := by rw [h]
    rw [List.getElem?_take_of_lt (by omega)] at e
    rw [e, nameS_eq, List.getElem?_append_left (by rw [nameL_length]; exact hi)]

theorem desc_entry (s : List UInt8) : descB (nameS ++ s) = true := by
  rw [descB_iff]
  right
  rw [List.take_append_of_le_length (by rw [nameS_length]; omega), List.take_of_length_le (by rw [nameS_length]; omega)]

/-- the first law's heart: k and a slash and s describes data just where k does -/
theorem desc_join (k s : List UInt8) : descB (k ++ [47] ++ s) = descB k := by
  rw [Bool.eq_iff_iff]
  constructor
  · intro h
    have hk : ¬ k.length < 15 := by
      intro hl
      have e := desc_at _ h k.length hl
      rw [List.append_assoc, List.getElem?_append_right (Nat.le_refl _)] at e
      simp at e
      exact nameL_noslash _ hl e.symm
    rw [descB_iff] at h ⊢
    rcases h with h | h
    · exfalso
      have : (k ++ [47] ++ s).length = 15 := by rw [h]; rfl
      simp at this
      omega
    · by_cases h16 : k.length = 15
      · left
        have e : k = ((k ++ [47] ++ s).take 16).take 15 := by
          rw [List.take_take, List.append_assoc, List.take_append_of_le_length (by omega), List.take_of_length_le (by omega)]
        rw [e, h]
        rfl
      · right
        rw [← h, List.append_assoc, List.take_append_of_le_length (by omega)]
  · intro h
    rw [descB_iff] at h ⊢
    right
    rcases h with rfl | h
    · rw [List.take_append_of_le_length (by simp [nameL_length]), List.take_of_length_le (by simp [nameL_length])]
      rfl
    · have hl : 16 ≤ k.length := by
        have : (k.take 16).length = 16 := by rw [h]; rfl
        simp at this
        omega
      rw [List.append_assoc, List.take_append_of_le_length hl, h]

/-- the second law: the name and s describes data just where s is empty or begins with a slash -/
theorem desc_name (s : List UInt8) : descB (nameL ++ s) = (decide (s = []) || decide (s[0]? = some 47)) := by
  rw [Bool.eq_iff_iff, descB_iff]
  simp only [Bool.or_eq_true, decide_eq_true_eq]
  have e : (nameL ++ s).take 16 = nameL ++ s.take 1 := by
    rw [List.take_append, nameL_length, List.take_of_length_le (by rw [nameL_length]; omega)]
  rw [e, nameS_eq]
  constructor
  · rintro (h | h)
    · left
      simpa using h
    · right
      have h' := List.append_cancel_left h
      cases s with
      | nil => simp at h'
      | cons x t => simp at h'; simp [h']
  · rintro (rfl | h)
    · left; simp
    · right
      cases s with
      | nil => simp at h
      | cons x t => simp at h; simp [h]

/-- one byte of the name changed: never -/
theorem desc_near (s : List UInt8) (i : Nat) (hi : i < 15) (c : UInt8) (hc : nameL[i]? ≠ some c) : descB (nameL.set i c ++ s) = false := by
  cases h : descB (nameL.set i c ++ s) with
  | false => rfl
  | true =>
    exfalso
    have e := desc_at _ h i hi
    rw [List.getElem?_append_left (by simp [nameL_length]; exact hi), List.getElem?_set_self (by rw [nameL_length]; exact hi)] at e
    exact hc e.symm

end Go.Proofs.Qxb6616061aMods.Plain
