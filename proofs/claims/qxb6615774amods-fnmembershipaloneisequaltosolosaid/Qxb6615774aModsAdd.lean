/-
  Seat b6615774aM: the counting functions: zzB1AddStr (13), zzB1AddList (14), zzBytes_FnMembershipAloneIsEqualToSolo (21), zzBytes_FnMembershipEqualInsertOne (23): each returns (some int, some bool) and leaves the world as it was.
-/
import Derived.Test.Qxb6615774aModsEqual
namespace Go.Proofs.Qxb6615774aMods.Walks
open Go.ChangeShapes Go.WideShapes Go.ChangeAt Go.RowKit
open Go.Proofs.Qxb6615774aMods.Plain

/-- what a walk wants of a slice of strings: no element, or the cells -/
def Read (w : World) (oa : Option Addr) (n : Nat) : Prop :=
  n * 16 ≤ 281474976710656 ∧ (n = 0 ∨ ∃ b off, oa = some ⟨b, off, none⟩ ∧ ∀ i, i < n → ∃ s : ByteArray, w.cell? ⟨b, off + i, none⟩ = some (.string s))

theorem SV.read {w : World} {oa : Option Addr} {n c : Nat} {ss : List ByteArray} (h : SV w (.slice oa n c) ss) : Read w oa n := by
  obtain ⟨oa', c', e, h1, h2, h3⟩ := h
  injection e with e1 e2 e3
  subst e1 e2 e3
  refine ⟨by omega, ?_⟩
  by_cases h0 : ss.length = 0
  · exact Or.inl h0
  · obtain ⟨b, off, rfl, _, hc⟩ := h3 (by omega)
    exact Or.inr ⟨b, off, rfl, fun i hi => ⟨_, hc i hi⟩⟩

theorem addStr (n : Int) (s : ByteArray) (w : World) :
    Calls Trym.prog 13 #[.int .i64 n, .string s] w fun e w' => (∃ z : Int, e = .returned (.int .i64 z)) ∧ w' = w := by
  go_enter Trym.func13, Trym.ntmps13
  go_wp2
  all_goals (go_ret; exact ⟨⟨_, rfl⟩, rfl⟩)

set_option maxHeartbeats 400000 in
theorem addList (z : Int) (oa : Option Addr) (n c : Nat) (w : World) (h : Read w oa n) :
    Calls Trym.prog 14 #[.int .i64 z, .slice oa n c] w fun e w' => (∃ z : Int, e = .returned (.int .i64 z)) ∧ w' = w := by
  obtain ⟨hn, h⟩ := h
  by_cases hz : 1048576 < z
  · clear h
    go_enter Trym.func14, Trym.ntmps14
    go_wp2
    go_ret; exact ⟨⟨_, rfl⟩, rfl⟩
  rcases h with rfl | ⟨b, off, rfl, hc⟩
  · go_enter Trym.func14, Trym.ntmps14
    go_wp2
    refine wp_loop_rounds 1 ?_
    rw [rounds_succ]
    go_wp2
    go_ret; exact ⟨⟨_, rfl⟩, rfl⟩
  · have H : Hid (∀ i, i < n → ∃ s : ByteArray, w.cell? ⟨b, off + i, none⟩ = some (.string s)) := hc
    clear hc
    go_enter Trym.func14, Trym.ntmps14
    go_wp2
    clear hz
    go_loop [0, 5] (fun t i => ∃ (y : Int) (k : Nat), k ≤ n ∧ i = .int .i64 k ∧ t = .int .i64 y) (fun _ i => n - (intOf i).toNat)
    case atStart => exact ⟨_, 0, by omega, rfl, rfl⟩
    case round =>
      obtain ⟨y, k, hk, rfl, rfl⟩ := hrel
      by_cases hlt : k < n
      · obtain ⟨s, hs⟩ := H.out k hlt
        have hlt' : (k : Int) < (n : Int) := by omega
        go_wp2
        · go_ret; exact ⟨⟨_, rfl⟩, rfl⟩
        · go_round
          case rel => exact ⟨_, k + 1, by omega, by go_num, rfl⟩
          case measure => simp [intOf]; omega
      · go_wp2
        go_ret; exact ⟨⟨_, rfl⟩, rfl⟩

end Go.Proofs.Qxb6615774aMods.Walks
