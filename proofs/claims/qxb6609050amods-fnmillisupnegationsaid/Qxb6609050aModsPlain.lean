/-
  Seat b6609050aM: the plain arithmetic. Nothing of Go stands here.
  'up d': d in whole millions, rounded up, as the Go text reckons it (truncated quotient, and one more where the truncated rest is positive).
-/
namespace Go.Proofs.Qxb6609050aMods.Plain

def up (d : Int) : Int := d.tdiv 1000000 + (if 0 < d.tmod 1000000 then 1 else 0)

theorem tq (d : Int) : (0 ≤ d → d.tdiv 1000000 = d / 1000000 ∧ d.tmod 1000000 = d % 1000000) ∧ (d < 0 → d.tdiv 1000000 = -((-d) / 1000000) ∧ d.tmod 1000000 = -((-d) % 1000000)) := by
  refine ⟨fun h => ⟨Int.tdiv_eq_ediv_of_nonneg h, Int.tmod_eq_emod_of_nonneg h⟩, fun h => ?_⟩
  have h1 : (-d).tdiv 1000000 = (-d) / 1000000 := Int.tdiv_eq_ediv_of_nonneg (by omega)
  have h2 : (-d).tmod 1000000 = (-d) % 1000000 := Int.tmod_eq_emod_of_nonneg (by omega)
  rw [Int.neg_tdiv] at h1
  rw [Int.neg_tmod] at h2
  omega

/-- 'up d' is the least r with d ≤ r million. -/
theorem up_ceil (d : Int) : 1000000 * (up d - 1) < d ∧ d ≤ 1000000 * up d := by
  have := tq d
  unfold up
  split <;> omega

theorem up_of {d r : Int} (h1 : 1000000 * (r - 1) < d) (h2 : d ≤ 1000000 * r) : up d = r := by
  have := up_ceil d
  omega

theorem up_shift (d k : Int) : up (d + k * 1000000) = up d + k := by
  have := up_ceil d
  apply up_of <;> omega

/-- rounding d up and rounding -d up: together 0 or 1. -/
theorem up_neg_whole (d : Int) (h : up d * 1000000 = d) : up d + up (-d) = 0 := by
  have := up_ceil d
  have e : up (-d) = -up d := by apply up_of <;> omega
  omega

theorem up_neg_part (d : Int) (h : ¬ up d * 1000000 = d) : up d + up (-d) = 1 := by
  have := up_ceil d
  have e : up (-d) = 1 - up d := by apply up_of <;> omega
  omega

theorem tdiv_bd (d : Int) (h1 : -9223372036854775808 ≤ d) (h2 : d ≤ 9223372036854775807) : -9223372036854 ≤ d.tdiv 1000000 ∧ d.tdiv 1000000 ≤ 9223372036854 := by
  have := tq d
  omega

theorem up_bd (d : Int) (h1 : -9223372036854775808 ≤ d) (h2 : d ≤ 9223372036854775807) : -9223372036854 ≤ up d ∧ up d ≤ 9223372036855 := by
  have := up_ceil d
  omega

end Go.Proofs.Qxb6609050aMods.Plain
