/-
  Seat b6616061aM: the walks of HasPrefix (10, 9), describesData (8), ZZdescribesData (6).
-/
import Derived.Test.Qxb6616061aModsRows
import Derived.Test.Qxb6616061aModsPlain
import Derived.WalkKit
import Derived.ProofKit
import Derived.WalkSpells
import Derived.Lib.Strings
namespace Go.Proofs.Qxb6616061aMods.Walks
open Go.ChangeShapes Go.WideShapes Go.ChangeAt Go.RowKit
open Go.Proofs.Qxb6616061aMods.Plain

theorem ret_bool {a b : Bool} (h : a = b) : Ending.returned (.bool a) = .returned (.bool b) := by rw [h]

theorem size_eq (s : ByteArray) : s.size = s.data.toList.length := rfl

theorem pre_eq (s p : ByteArray) : ((s.extract 0 p.size).toList == p.toList) = preB s.data.toList p.data.toList := by
  rw [Lib.extract_toList, ByteArray.toList_eq, size_eq, List.drop_zero, Nat.sub_zero]
  unfold preB
  rw [Bool.eq_iff_iff, beq_iff_eq, decide_eq_true_iff]

theorem pre_yes (s p : ByteArray) (h : p.size ≤ s.size) (w : World) :
    Calls Trym.prog 10 #[.string s, .string p] w fun e w' => e = .returned (.bool (preB s.data.toList p.data.toList)) ∧ w' = w := by
  go_enter Trym.func10, Trym.ntmps10
  go_wp2
  go_ret
  exact ⟨ret_bool (pre_eq s p), rfl⟩

theorem pre_no (s p : ByteArray) (h : ¬ p.size ≤ s.size) (w : World) :
    Calls Trym.prog 10 #[.string s, .string p] w fun e w' => e = .returned (.bool (preB s.data.toList p.data.toList)) ∧ w' = w := by
  have HN : Hid (¬ p.size ≤ s.size) := h
  go_enter Trym.func10, Trym.ntmps10
  go_wp2
  go_ret
  refine ⟨ret_bool ?_, rfl⟩
  unfold preB
  rw [decide_eq_false]
  intro e
  have := congrArg List.length e
  rw [List.length_take, ← size_eq, ← size_eq] at this
  have := HN.out
  omega

theorem pre_any (s p : ByteArray) (w : World) :
    Calls Trym.prog 9 #[.string s, .string p] w fun e w' => e = .returned (.bool (preB s.data.toList p.data.toList)) ∧ w' = w := by
  have key : Calls Trym.prog 10 #[.string s, .string p] w fun e w' => e = .returned (.bool (preB s.data.toList p.data.toList)) ∧ w' = w := by
    by_cases h : p.size ≤ s.size
    · exact pre_yes s p h w
    · exact pre_no s p h w
  go_enter Trym.func9, Trym.ntmps9
  go_wp2_with fail
  refine key.mono ?_
  rintro e w' ⟨rfl, rfl⟩
  go_wp2_with fail
  go_ret
  exact ⟨rfl, rfl⟩

theorem desc_any (s : ByteArray) (w : World) :
    Calls Trym.prog 8 #[.string s] w fun e w' => e = .returned (.bool (descB s.data.toList)) ∧ w' = w := by
  by_cases h : s.data.toList = nameL
  · have hq : (s.toList == [115, 101, 114, 118, 105, 99, 101, 46, 98, 105, 110, 100, 105, 110, 103]) = true := by
      rw [ByteArray.toList_eq, h]; rfl
    have HH : Hid (s.data.toList = nameL) := h
    clear h
    go_enter Trym.func8, Trym.ntmps8
    go_wp2_with fail
    go_ret
    refine ⟨ret_bool ?_, rfl⟩
    rw [descB, decide_eq_true HH.out]
    rfl
  · have hq : (s.toList == [115, 101, 114, 118, 105, 99, 101, 46, 98, 105, 110, 100, 105, 110, 103]) = false := by
      rw [ByteArray.toList_eq]; exact beq_false_of_ne h
    have HH : Hid (¬ s.data.toList = nameL) := h
    clear h
    go_enter Trym.func8, Trym.ntmps8
    go_wp2_with fail
    refine (pre_any s _ _).mono ?_
    rintro e w' ⟨rfl, rfl⟩
    go_wp2_with fail
    go_ret
    refine ⟨ret_bool ?_, rfl⟩
    rw [descB, decide_eq_false HH.out]
    rfl

theorem zzdesc (s : ByteArray) (w : World) :
    Calls Trym.prog 6 #[.string s] w fun e w' => e = .returned (.bool (descB s.data.toList)) ∧ w' = w := by
  go_enter Trym.func6, Trym.ntmps6
  go_wp2_with fail
  refine (desc_any s _).mono ?_
  rintro e w' ⟨rfl, rfl⟩
  go_wp2_with fail
  go_ret
  exact ⟨rfl, rfl⟩

theorem data_add (a b : ByteArray) : (a ++ b).data.toList = a.data.toList ++ b.data.toList := by simp

theorem zz_of (t : ByteArray) (b : Bool) (h : descB t.data.toList = b) (w : World) :
    Calls Trym.prog 6 #[.string t] w fun e w' => e = .returned (.bool b) ∧ w' = w := by
  subst h
  exact zzdesc t w

/-- what the laws' calls answer -/
theorem join_says (k s : ByteArray) : descB (k ++ ⟨#[47]⟩ ++ s).data.toList = descB k.data.toList := by
  rw [data_add, data_add]
  exact desc_join _ _

theorem entry_says (s : ByteArray) : descB ((⟨#[115, 101, 114, 118, 105, 99, 101, 46, 98, 105, 110, 100, 105, 110, 103, 47]⟩ : ByteArray) ++ s).data.toList = true := by
  rw [data_add]
  exact desc_entry _

theorem name_says (s : ByteArray) : descB ((⟨#[115, 101, 114, 118, 105, 99, 101, 46, 98, 105, 110, 100, 105, 110, 103]⟩ : ByteArray) ++ s).data.toList = (decide (s.data.toList = []) || decide (s.data.toList[0]? = some 47)) := by
  rw [data_add]
  exact desc_name _

/-- some bool was returned (behind a name, so that the walk does not open it) -/
def IsB (e : Ending) : Prop := ∃ b : Bool, e = .returned (.bool b)
theorem isB (b : Bool) : IsB (.returned (.bool b)) := ⟨b, rfl⟩

theorem bytesJoin (k s : ByteArray) (w : World) : Calls Trym.prog 5 #[.string k, .string s] w fun e w' => IsB e ∧ w' = w := by
  go_enter Trym.func5, Trym.ntmps5
  go_wp2
  all_goals (go_ret; exact ⟨isB _, rfl⟩)

theorem bytesExact (s : ByteArray) (i c : Int) (w : World) : Calls Trym.prog 7 #[.string s, .int .i64 i, .int .u8 c] w fun e w' => IsB e ∧ w' = w := by
  go_enter Trym.func7, Trym.ntmps7
  go_wp2
  all_goals (go_ret; exact ⟨isB _, rfl⟩)

end Go.Proofs.Qxb6616061aMods.Walks
