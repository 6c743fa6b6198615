/-
  Seat b6615550aM: the walks of the functions that both laws call: chunkSize (15), ZZchunkSize (7), chunkTotalOf (8).
-/
import Derived.Test.Qxb6615550aModsRows
import Derived.Test.Qxb6615550aModsPlain
import Derived.WalkKit
import Derived.ProofKit
namespace Go.Proofs.Qxb6615550aMods.Walks
open Go.ChangeShapes Go.WideShapes Go.ChangeAt Go.RowKit
open Go.Proofs.Qxb6615550aMods.Plain

theorem ret_int {k : IntKind} {a b : Int} (h : a = b) : Ending.returned (.int k a) = .returned (.int k b) := by rw [h]

theorem chunk_big (n : Int) (h : 7 < n) (w : World) :
    Calls Trym.prog 15 #[.int .i64 n] w fun e w' => e = .returned (.int .i64 1024) ∧ w' = w := by
  go_enter Trym.func15, Trym.ntmps15
  go_wp2
  go_ret
  exact ⟨rfl, rfl⟩

theorem chunk_small (n : Int) (h0 : 0 ≤ n) (h : n ≤ 7) (w : World) :
    Calls Trym.prog 15 #[.int .i64 n] w fun e w' => e = .returned (.int .i64 (ch n.toNat)) ∧ w' = w := by
  have hn : n = 0 ∨ n = 1 ∨ n = 2 ∨ n = 3 ∨ n = 4 ∨ n = 5 ∨ n = 6 ∨ n = 7 := by omega
  rcases hn with rfl | rfl | rfl | rfl | rfl | rfl | rfl | rfl
  all_goals
    clear h0 h
    go_enter Trym.func15, Trym.ntmps15
    go_wp2
    go_ret
    exact ⟨rfl, rfl⟩

theorem chunk (n : Int) (h0 : 0 ≤ n) (w : World) :
    Calls Trym.prog 7 #[.int .i64 n] w fun e w' => e = .returned (.int .i64 (ch n.toNat)) ∧ w' = w := by
  by_cases h : 7 < n
  · go_enter Trym.func7, Trym.ntmps7
    go_wp2_with (go_at_call 15; refine (chunk_big _ h _).mono ?_; rintro e w' ⟨rfl, rfl⟩)
    go_ret
    exact ⟨ret_int (by rw [ch_big _ (by omega)]), rfl⟩
  · go_enter Trym.func7, Trym.ntmps7
    go_wp2_with (go_at_call 15; refine (chunk_small _ h0 (by omega) _).mono ?_; rintro e w' ⟨rfl, rfl⟩)
    go_ret
    exact ⟨rfl, rfl⟩

theorem total_small (m : Int) (h0 : 1 ≤ m) (h : m ≤ 8) (w : World) :
    Calls Trym.prog 8 #[.int .i64 m] w fun e w' => e = .returned (.int .i64 (tot m.toNat)) ∧ w' = w := by
  have hn : m = 1 ∨ m = 2 ∨ m = 3 ∨ m = 4 ∨ m = 5 ∨ m = 6 ∨ m = 7 ∨ m = 8 := by omega
  rcases hn with rfl | rfl | rfl | rfl | rfl | rfl | rfl | rfl
  all_goals
    clear h0 h
    go_enter Trym.func8, Trym.ntmps8
    go_wp2
    go_ret
    exact ⟨ret_int (by decide), rfl⟩

theorem total_big (m : Int) (h0 : 8 < m) (h : m ≤ 65537) (w : World) :
    Calls Trym.prog 8 #[.int .i64 m] w fun e w' => e = .returned (.int .i64 (tot m.toNat)) ∧ w' = w := by
  have E : Hid (tot m.toNat = 2040 + 1024 * (m - 8)) := by
    show tot m.toNat = 2040 + 1024 * (m - 8)
    have e : m.toNat = 8 + (m.toNat - 8) := by omega
    rw [e, tot_big]; omega
  go_enter Trym.func8, Trym.ntmps8
  go_wp2
  go_ret
  exact ⟨ret_int (by rw [E.out]), rfl⟩

theorem total (m : Int) (h0 : 1 ≤ m) (h : m ≤ 65537) (w : World) :
    Calls Trym.prog 8 #[.int .i64 m] w fun e w' => e = .returned (.int .i64 (tot m.toNat)) ∧ w' = w := by
  by_cases c : m ≤ 8
  · exact total_small m h0 c w
  · exact total_big m (by omega) h w

end Go.Proofs.Qxb6615550aMods.Walks
