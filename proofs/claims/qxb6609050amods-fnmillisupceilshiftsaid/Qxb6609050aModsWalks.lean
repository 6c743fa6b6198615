/-
  Seat b6609050aM: the walks of the functions that both laws call: millisUp (8), ZZmillisUp (5), zzMulLess (6), zzMulEq (7).
-/
import Derived.Test.Qxb6609050aModsRows
import Derived.Test.Qxb6609050aModsPlain
import Derived.WalkKit
import Derived.ProofKit
namespace Go.Proofs.Qxb6609050aMods.Walks
open Go.ChangeShapes Go.WideShapes Go.ChangeAt Go.RowKit
open Go.Proofs.Qxb6609050aMods.Plain

theorem ret_int {k : IntKind} {a b : Int} (h : a = b) : Ending.returned (.int k a) = .returned (.int k b) := by rw [h]

theorem millis (d : Int) (h1 : -9223372036854775808 ≤ d) (h2 : d ≤ 9223372036854775807) (w : World) :
    Calls Trym.prog 8 #[.int .i64 d] w fun e w' => e = .returned (.int .i64 (up d)) ∧ w' = w := by
  have hb := tdiv_bd d h1 h2
  by_cases c : 0 < d.tmod 1000000
  · go_enter Trym.func8, Trym.ntmps8
    go_wp2
    go_ret
    exact ⟨ret_int (by unfold up; rw [if_pos c]), rfl⟩
  · go_enter Trym.func8, Trym.ntmps8
    go_wp2
    go_ret
    exact ⟨ret_int (by unfold up; rw [if_neg (by omega)]; omega), rfl⟩

theorem zzmillis (d : Int) (h1 : -9223372036854775808 ≤ d) (h2 : d ≤ 9223372036854775807) (w : World) :
    Calls Trym.prog 5 #[.int .i64 d] w fun e w' => e = .returned (.int .i64 (up d)) ∧ w' = w := by
  go_enter Trym.func5, Trym.ntmps5
  go_wp2_with (go_at_call 8; refine (millis _ (by omega) (by omega) _).mono ?_; rintro e w' ⟨rfl, rfl⟩)
  go_ret
  exact ⟨rfl, rfl⟩

theorem mulLess_yes (a d : Int) (h1 : -9223372036854775808 ≤ d) (h2 : d ≤ 9223372036854775807) (h : a * 1000000 < d) (w : World) :
    Calls Trym.prog 6 #[.int .i64 a, .int .i64 d] w fun e w' => e = .returned (.bool true) ∧ w' = w := by
  have c : ¬ 9223372036854 < a := by omega
  by_cases c2 : a < -9223372036854
  · go_enter Trym.func6, Trym.ntmps6
    go_wp2
    go_ret
    exact ⟨rfl, rfl⟩
  · go_enter Trym.func6, Trym.ntmps6
    go_wp2
    go_ret
    exact ⟨rfl, rfl⟩

theorem mulLess_no (a d : Int) (h1 : -9223372036854775808 ≤ d) (h2 : d ≤ 9223372036854775807) (h : d ≤ a * 1000000) (w : World) :
    Calls Trym.prog 6 #[.int .i64 a, .int .i64 d] w fun e w' => e = .returned (.bool false) ∧ w' = w := by
  have c2 : ¬ a < -9223372036854 := by omega
  by_cases c : 9223372036854 < a
  · go_enter Trym.func6, Trym.ntmps6
    go_wp2
    go_ret
    exact ⟨rfl, rfl⟩
  · have hd : decide (a * 1000000 < d) = false := by simp; omega
    go_enter Trym.func6, Trym.ntmps6
    go_wp2
    go_ret
    exact ⟨rfl, rfl⟩

theorem mulEq_yes (a d : Int) (h1 : -9223372036854775808 ≤ d) (h2 : d ≤ 9223372036854775807) (h : (a * 1000000 == d) = true) (w : World) :
    Calls Trym.prog 7 #[.int .i64 a, .int .i64 d] w fun e w' => e = .returned (.bool true) ∧ w' = w := by
  have h' : a * 1000000 = d := by simpa using h
  have c : ¬ 9223372036854 < a := by omega
  have c2 : ¬ a < -9223372036854 := by omega
  clear h'
  go_enter Trym.func7, Trym.ntmps7
  go_wp2
  go_ret
  exact ⟨rfl, rfl⟩

theorem mulEq_no (a d : Int) (h : (a * 1000000 == d) = false) (w : World) :
    Calls Trym.prog 7 #[.int .i64 a, .int .i64 d] w fun e w' => e = .returned (.bool false) ∧ w' = w := by
  by_cases c : 9223372036854 < a
  · go_enter Trym.func7, Trym.ntmps7
    go_wp2
    go_ret
    exact ⟨rfl, rfl⟩
  · by_cases c2 : a < -9223372036854
    · go_enter Trym.func7, Trym.ntmps7
      go_wp2
      go_ret
      exact ⟨rfl, rfl⟩
    · go_enter Trym.func7, Trym.ntmps7
      go_wp2
      go_ret
      exact ⟨rfl, rfl⟩

end Go.Proofs.Qxb6609050aMods.Walks
