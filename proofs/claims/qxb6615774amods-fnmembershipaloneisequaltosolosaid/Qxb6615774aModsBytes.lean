/-
  Seat b6615774aM: zzBytes_FnMembershipAloneIsEqualToSolo (21), zzBytes_FnMembershipEqualInsertOne (23): each returns some bool and leaves the world as it was.
-/
import Derived.Test.Qxb6615774aModsAdd
namespace Go.Proofs.Qxb6615774aMods.Walks
open Go.ChangeShapes Go.WideShapes Go.ChangeAt Go.RowKit
open Go.Proofs.Qxb6615774aMods.Plain

/-- some bool was returned (behind a name, so that the walk does not open it) -/
def IsB (e : Ending) : Prop := ∃ b : Bool, e = .returned (.bool b)
theorem isB (b : Bool) : IsB (.returned (.bool b)) := ⟨b, rfl⟩

set_option maxHeartbeats 1000000 in
theorem bytesSolo (i0 c1 c2 : ByteArray) (oa : Option Addr) (n c : Nat) (k1 s1 k2 s2 : Int) (w : World) (h : Read w oa n) :
    Calls Trym.prog 21 #[.string i0, .slice oa n c, .string c1, .int .u64 k1, .int .u64 s1, .string c2, .int .u64 k2, .int .u64 s2] w fun e w' => IsB e ∧ w' = w := by
  obtain ⟨hn, h⟩ := h
  rcases h with rfl | ⟨b, off, rfl, hc⟩
  · go_enter Trym.func21, Trym.ntmps21
    go_wp2
    all_goals first
      | (go_ret; exact ⟨isB _, rfl⟩)
      | (refine wp_loop_rounds 1 ?_
         rw [rounds_succ]
         go_wp2
         all_goals (go_ret; exact ⟨isB _, rfl⟩))
  · have H : Hid (∀ i, i < n → ∃ s : ByteArray, w.cell? ⟨b, off + i, none⟩ = some (.string s)) := hc
    clear hc
    go_enter Trym.func21, Trym.ntmps21
    go_wp2
    all_goals first | (go_ret; exact ⟨isB _, rfl⟩) | skip
    go_loop [17, 18] (fun t i => ∃ (y : Int) (k : Nat), k ≤ n ∧ i = .int .i64 k ∧ t = .int .i64 y) (fun _ i => n - (intOf i).toNat)
    case atStart => exact ⟨_, 0, by omega, rfl, rfl⟩
    case round =>
      obtain ⟨y, k, hk, rfl, rfl⟩ := hrel
      by_cases hlt : k < n
      · obtain ⟨s, hs⟩ := H.out k hlt
        have hlt' : (k : Int) < (n : Int) := by omega
        go_wp2
        all_goals first
          | (go_ret; exact ⟨isB _, rfl⟩)
          | (go_round
             case rel => exact ⟨_, k + 1, by omega, by go_num, rfl⟩
             case measure => simp [intOf]; omega)
      · go_wp2
        all_goals (go_ret; exact ⟨isB _, rfl⟩)

/-- the cells hold strings (behind a name) -/
def ReadAt (w : World) (b off n : Nat) : Prop := ∀ i, i < n → ∃ s : ByteArray, w.cell? ⟨b, off + i, none⟩ = some (.string s)

set_option maxHeartbeats 1000000 in
theorem bytesIns00 (ia ib x c1 : ByteArray) (oa : Option Addr) (ob : Option Addr) (c d : Nat) (p k1 s1 : Int) (w : World) :
    Calls Trym.prog 23 #[.string ia, .slice oa 0 c, .string ib, .slice ob 0 d, .string x, .int .i64 p, .string c1, .int .u64 k1, .int .u64 s1] w fun e w' => IsB e ∧ w' = w := by
  go_enter Trym.func23, Trym.ntmps23
  go_wp2
  all_goals first | (go_ret; exact ⟨isB _, rfl⟩) | skip
  refine wp_loop_rounds 1 ?_
  rw [rounds_succ]
  go_wp2
  all_goals first | (go_ret; exact ⟨isB _, rfl⟩) | skip
  refine wp_loop_rounds 1 ?_
  rw [rounds_succ]
  go_wp2
  all_goals first | (go_ret; exact ⟨isB _, rfl⟩) | skip

set_option maxHeartbeats 1000000 in
theorem bytesIns01 (ia ib x c1 : ByteArray) (oa : Option Addr) (bb offb m : Nat) (hm : m * 16 ≤ 281474976710656) (c d : Nat) (p k1 s1 : Int) (w : World) (HB : ReadAt w bb offb m) :
    Calls Trym.prog 23 #[.string ia, .slice oa 0 c, .string ib, .slice (some ⟨bb, offb, none⟩) m d, .string x, .int .i64 p, .string c1, .int .u64 k1, .int .u64 s1] w fun e w' => IsB e ∧ w' = w := by
  go_enter Trym.func23, Trym.ntmps23
  go_wp2
  all_goals first | (go_ret; exact ⟨isB _, rfl⟩) | skip
  refine wp_loop_rounds 1 ?_
  rw [rounds_succ]
  go_wp2
  all_goals first | (go_ret; exact ⟨isB _, rfl⟩) | skip
  go_loop [19, 21] (fun t i => ∃ (y : Int) (k : Nat), k ≤ m ∧ i = .int .i64 k ∧ t = .int .i64 y) (fun _ i => m - (intOf i).toNat)
  case atStart => exact ⟨_, 0, by omega, rfl, rfl⟩
  case round =>
    obtain ⟨y, k, hk, rfl, rfl⟩ := hrel
    by_cases hlt : k < m
    · obtain ⟨s, hs⟩ := HB k hlt
      have hlt' : (k : Int) < (m : Int) := by omega
      go_wp2
      all_goals first
        | (go_ret; exact ⟨isB _, rfl⟩)
        | (go_round
           case rel => exact ⟨_, k + 1, by omega, by go_num, rfl⟩
           case measure => simp [intOf]; omega)
    · go_wp2
      all_goals first | (go_ret; exact ⟨isB _, rfl⟩) | skip

set_option maxHeartbeats 1000000 in
theorem bytesIns10 (ia ib x c1 : ByteArray) (ba offa n : Nat) (hn : n * 16 ≤ 281474976710656) (ob : Option Addr) (c d : Nat) (p k1 s1 : Int) (w : World) (HA : ReadAt w ba offa n) :
    Calls Trym.prog 23 #[.string ia, .slice (some ⟨ba, offa, none⟩) n c, .string ib, .slice ob 0 d, .string x, .int .i64 p, .string c1, .int .u64 k1, .int .u64 s1] w fun e w' => IsB e ∧ w' = w := by
  go_enter Trym.func23, Trym.ntmps23
  go_wp2
  all_goals first | (go_ret; exact ⟨isB _, rfl⟩) | skip
  go_loop [19, 20] (fun t i => ∃ (y : Int) (k : Nat), k ≤ n ∧ i = .int .i64 k ∧ t = .int .i64 y) (fun _ i => n - (intOf i).toNat)
  case atStart => exact ⟨_, 0, by omega, rfl, rfl⟩
  case round =>
    obtain ⟨y, k, hk, rfl, rfl⟩ := hrel
    by_cases hlt : k < n
    · obtain ⟨s, hs⟩ := HA k hlt
      have hlt' : (k : Int) < (n : Int) := by omega
      go_wp2
      all_goals first
        | (go_ret; exact ⟨isB _, rfl⟩)
        | (go_round
           case rel => exact ⟨_, k + 1, by omega, by go_num, rfl⟩
           case measure => simp [intOf]; omega)
    · go_wp2
      all_goals first | (go_ret; exact ⟨isB _, rfl⟩) | skip
      refine wp_loop_rounds 1 ?_
      rw [rounds_succ]
      go_wp2
      all_goals first | (go_ret; exact ⟨isB _, rfl⟩) | skip

set_option maxHeartbeats 1000000 in
theorem bytesIns11 (ia ib x c1 : ByteArray) (ba offa n : Nat) (hn : n * 16 ≤ 281474976710656) (bb offb m : Nat) (hm : m * 16 ≤ 281474976710656) (c d : Nat) (p k1 s1 : Int) (w : World) (HA : ReadAt w ba offa n) (HB : ReadAt w bb offb m) :
    Calls Trym.prog 23 #[.string ia, .slice (some ⟨ba, offa, none⟩) n c, .string ib, .slice (some ⟨bb, offb, none⟩) m d, .string x, .int .i64 p, .string c1, .int .u64 k1, .int .u64 s1] w fun e w' => IsB e ∧ w' = w := by
  go_enter Trym.func23, Trym.ntmps23
  go_wp2
  all_goals first | (go_ret; exact ⟨isB _, rfl⟩) | skip
  go_loop [19, 20] (fun t i => ∃ (y : Int) (k : Nat), k ≤ n ∧ i = .int .i64 k ∧ t = .int .i64 y) (fun _ i => n - (intOf i).toNat)
  case atStart => exact ⟨_, 0, by omega, rfl, rfl⟩
  case round =>
    obtain ⟨y, k, hk, rfl, rfl⟩ := hrel
    by_cases hlt : k < n
    · obtain ⟨s, hs⟩ := HA k hlt
      have hlt' : (k : Int) < (n : Int) := by omega
      go_wp2
      all_goals first
        | (go_ret; exact ⟨isB _, rfl⟩)
        | (go_round
           case rel => exact ⟨_, k + 1, by omega, by go_num, rfl⟩
           case measure => simp [intOf]; omega)
    · go_wp2
      all_goals first | (go_ret; exact ⟨isB _, rfl⟩) | skip
      go_loop [19, 21] (fun t i => ∃ (y : Int) (k : Nat), k ≤ m ∧ i = .int .i64 k ∧ t = .int .i64 y) (fun _ i => m - (intOf i).toNat)
      case atStart => exact ⟨_, 0, by omega, rfl, rfl⟩
      case round =>
        obtain ⟨y, k, hk, rfl, rfl⟩ := hrel
        by_cases hlt : k < m
        · obtain ⟨s, hs⟩ := HB k hlt
          have hlt' : (k : Int) < (m : Int) := by omega
          go_wp2
          all_goals first
            | (go_ret; exact ⟨isB _, rfl⟩)
            | (go_round
               case rel => exact ⟨_, k + 1, by omega, by go_num, rfl⟩
               case measure => simp [intOf]; omega)
        · go_wp2
          all_goals first | (go_ret; exact ⟨isB _, rfl⟩) | skip

theorem bytesIns (ia ib x c1 : ByteArray) (oa ob : Option Addr) (n c m d : Nat) (p k1 s1 : Int) (w : World) (h : Read w oa n) (h' : Read w ob m) :
    Calls Trym.prog 23 #[.string ia, .slice oa n c, .string ib, .slice ob m d, .string x, .int .i64 p, .string c1, .int .u64 k1, .int .u64 s1] w fun e w' => IsB e ∧ w' = w := by
  obtain ⟨hn, h⟩ := h
  obtain ⟨hm, h'⟩ := h'
  rcases h with rfl | ⟨b, off, rfl, hc⟩ <;> rcases h' with rfl | ⟨b', off', rfl, hc'⟩
  · exact bytesIns00 ia ib x c1 oa ob c d p k1 s1 w
  · exact bytesIns01 ia ib x c1 oa b' off' m hm c d p k1 s1 w hc'
  · exact bytesIns10 ia ib x c1 b off n hn ob c d p k1 s1 w hc
  · exact bytesIns11 ia ib x c1 b off n hn b' off' m hm c d p k1 s1 w hc hc'

end Go.Proofs.Qxb6615774aMods.Walks
