/-
  Seat b6615550aM: the plain arithmetic. Nothing of Go stands here.
  'ch n': the room of the chunk after n others; 'tot k': the room of the first k chunks.
-/
namespace Go.Proofs.Qxb6615550aMods.Plain

def ch (n : Nat) : Int := if n < 7 then 8 * 2 ^ n else 1024

def tot : Nat → Int
  | 0 => 0
  | k + 1 => tot k + ch k

theorem ch_big (n : Nat) (h : 7 ≤ n) : ch n = 1024 := by unfold ch; rw [if_neg (by omega)]

theorem ch_bd (n : Nat) : 8 ≤ ch n ∧ ch n ≤ 1024 := by
  by_cases h : 7 ≤ n
  · rw [ch_big n h]; omega
  · have : n = 0 ∨ n = 1 ∨ n = 2 ∨ n = 3 ∨ n = 4 ∨ n = 5 ∨ n = 6 := by omega
    rcases this with rfl | rfl | rfl | rfl | rfl | rfl | rfl <;> decide

theorem tot_bd (k : Nat) : 0 ≤ tot k ∧ tot k ≤ 1024 * (k : Int) := by
  induction k with
  | zero => simp [tot]
  | succ k ih => have := ch_bd k; simp only [tot]; omega

theorem tot_succ (k : Nat) : tot (k + 1) = tot k + ch k := rfl

theorem tot_big (k : Nat) : tot (8 + k) = 2040 + 1024 * (k : Int) := by
  induction k with
  | zero => decide
  | succ k ih =>
    have e : 8 + (k + 1) = (8 + k) + 1 := by omega
    rw [e, tot_succ, ih, ch_big _ (by omega)]
    omega

end Go.Proofs.Qxb6615550aMods.Plain
