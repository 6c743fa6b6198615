/-
  Seat b6616061aM: the walk of FnDescribesDataNameExact (4).
-/
import Derived.Test.Qxb6616061aModsWalks
import Derived.Lib.SlBytesConst
import Derived.Laws.BytesArg
import Derived.OpenShut
import Derived.Below
namespace Go.Proofs.Qxb6616061aMods.Walks
open Go.ChangeShapes Go.WideShapes Go.ChangeAt Go.RowKit
open Go.Proofs.Qxb6616061aMods.Plain

/-- the name's bytes as numbers -/
def nums : List Int := [115, 101, 114, 118, 105, 99, 101, 46, 98, 105, 110, 100, 105, 110, 103]
theorem nums_length : nums.length = 15 := rfl
theorem cells_nums : #[Value.int IntKind.u8 115, Value.int IntKind.u8 101, Value.int IntKind.u8 114, Value.int IntKind.u8 118, Value.int IntKind.u8 105, Value.int IntKind.u8 99, Value.int IntKind.u8 101, Value.int IntKind.u8 46, Value.int IntKind.u8 98, Value.int IntKind.u8 105, Value.int IntKind.u8 110, Value.int IntKind.u8 100, Value.int IntKind.u8 105, Value.int IntKind.u8 110, Value.int IntKind.u8 103] = (nums.map (Value.int .u8)).toArray := rfl

theorem row_cell (w : World) (j : Nat) (hj : j < 15) : (w.alloc (Obj.cells #[Value.int IntKind.u8 115, Value.int IntKind.u8 101, Value.int IntKind.u8 114, Value.int IntKind.u8 118, Value.int IntKind.u8 105, Value.int IntKind.u8 99, Value.int IntKind.u8 101, Value.int IntKind.u8 46, Value.int IntKind.u8 98, Value.int IntKind.u8 105, Value.int IntKind.u8 110, Value.int IntKind.u8 100, Value.int IntKind.u8 105, Value.int IntKind.u8 110, Value.int IntKind.u8 103] 5 (15, 16))).cell? ⟨w.heap.size, j, none⟩ = some (.int .u8 (nums.getD j 0)) := by
  rw [World.cell?_alloc_mark, cells_nums, List.getElem?_toArray, List.getElem?_map, List.getD_eq_getElem?_getD, List.getElem?_eq_getElem (by rw [nums_length]; exact hj)]
  rfl

theorem row_free (w : World) (i : Nat) (hi : i < 15) : (w.alloc (Obj.cells #[Value.int IntKind.u8 115, Value.int IntKind.u8 101, Value.int IntKind.u8 114, Value.int IntKind.u8 118, Value.int IntKind.u8 105, Value.int IntKind.u8 99, Value.int IntKind.u8 101, Value.int IntKind.u8 46, Value.int IntKind.u8 98, Value.int IntKind.u8 105, Value.int IntKind.u8 110, Value.int IntKind.u8 100, Value.int IntKind.u8 105, Value.int IntKind.u8 110, Value.int IntKind.u8 103] 5 (15, 16))).frozen? ⟨w.heap.size, i, none⟩ = false := by
  rw [World.frozen?_alloc_mark]
  simp
  omega

/-- the changed name, read as a string -/
theorem row_string (w : World) (i : Nat) (hi : i < 15) (a2 : Int) :
    (convert 25 9 (.slice (some ⟨w.heap.size, 0, none⟩) 15 15)).run Trym.prog ((w.alloc (Obj.cells #[Value.int IntKind.u8 115, Value.int IntKind.u8 101, Value.int IntKind.u8 114, Value.int IntKind.u8 118, Value.int IntKind.u8 105, Value.int IntKind.u8 99, Value.int IntKind.u8 101, Value.int IntKind.u8 46, Value.int IntKind.u8 98, Value.int IntKind.u8 105, Value.int IntKind.u8 110, Value.int IntKind.u8 100, Value.int IntKind.u8 105, Value.int IntKind.u8 110, Value.int IntKind.u8 103] 5 (15, 16))).setCell ⟨w.heap.size, i, none⟩ (.int .u8 a2)) = .ok (.string (strOfNums (nums.set i a2))) ((w.alloc (Obj.cells #[Value.int IntKind.u8 115, Value.int IntKind.u8 101, Value.int IntKind.u8 114, Value.int IntKind.u8 118, Value.int IntKind.u8 105, Value.int IntKind.u8 99, Value.int IntKind.u8 101, Value.int IntKind.u8 46, Value.int IntKind.u8 98, Value.int IntKind.u8 105, Value.int IntKind.u8 110, Value.int IntKind.u8 100, Value.int IntKind.u8 105, Value.int IntKind.u8 110, Value.int IntKind.u8 103] 5 (15, 16))).setCell ⟨w.heap.size, i, none⟩ (.int .u8 a2)) := by
  refine run_convert_bytes_arg ((w.alloc (Obj.cells #[Value.int IntKind.u8 115, Value.int IntKind.u8 101, Value.int IntKind.u8 114, Value.int IntKind.u8 118, Value.int IntKind.u8 105, Value.int IntKind.u8 99, Value.int IntKind.u8 101, Value.int IntKind.u8 46, Value.int IntKind.u8 98, Value.int IntKind.u8 105, Value.int IntKind.u8 110, Value.int IntKind.u8 100, Value.int IntKind.u8 105, Value.int IntKind.u8 110, Value.int IntKind.u8 103] 5 (15, 16))).setCell ⟨w.heap.size, i, none⟩ (.int .u8 a2)) 25 5 Trym.underlying25 Trym.underlying5 w.heap.size 0 15 15 (nums.set i a2) (by simp [nums_length]) (fun j hj => ?_) 9 Trym.underlying9
  rw [Nat.zero_add, List.getD_eq_getElem?_getD, List.getElem?_set]
  by_cases h : i = j
  · subst h
    rw [if_pos rfl, if_pos (by rw [nums_length]; exact hi), World.cell?_setCell_same _ _ _ (row_cell w i hi)]
    rfl
  · rw [if_neg h, World.cell?_setCell_other _ _ _ _ (by intro e; injection e with _ e2 _; exact h e2), row_cell w j hj, List.getD_eq_getElem?_getD]

theorem near_data (i : Nat) (c : Int) : (strOfNums (nums.set i c)).data.toList = nameL.set i (UInt8.ofNat c.toNat) := by
  rw [strOfNums_data, List.map_set]
  rfl

theorem near_size (i : Nat) (c : Int) : (strOfNums (nums.set i c)).size = 15 := by
  rw [strOfNums_size, List.length_set]
  rfl

theorem name_size : (⟨#[115, 101, 114, 118, 105, 99, 101, 46, 98, 105, 110, 100, 105, 110, 103]⟩ : ByteArray).size = 15 := rfl

theorem near_ne (i : Nat) (hi : i < (⟨#[115, 101, 114, 118, 105, 99, 101, 46, 98, 105, 110, 100, 105, 110, 103]⟩ : ByteArray).size) (c : Int) (l : 0 ≤ c) (u : c ≤ 255) (h : (c == (((⟨#[115, 101, 114, 118, 105, 99, 101, 46, 98, 105, 110, 100, 105, 110, 103]⟩ : ByteArray)[i]'hi).toNat : Int)) = false) : nameL[i]? ≠ some (UInt8.ofNat c.toNat) := by
  intro e
  have e1 : nameL[i]? = some ((⟨#[115, 101, 114, 118, 105, 99, 101, 46, 98, 105, 110, 100, 105, 110, 103]⟩ : ByteArray)[i]'hi) := by
    rw [List.getElem?_eq_getElem (show i < nameL.length from hi)]
    rfl
  rw [e1] at e
  injection e with e
  have h' : ¬ c = (((⟨#[115, 101, 114, 118, 105, 99, 101, 46, 98, 105, 110, 100, 105, 110, 103]⟩ : ByteArray)[i]'hi).toNat : Int) := by simpa using h
  apply h'
  rw [e, UInt8.toNat_ofNat']
  have : c.toNat < 256 := by omega
  omega

theorem near_says (i : Nat) (hi : i < (⟨#[115, 101, 114, 118, 105, 99, 101, 46, 98, 105, 110, 100, 105, 110, 103]⟩ : ByteArray).size) (c : Int) (l : 0 ≤ c) (u : c ≤ 255) (h : (c == (((⟨#[115, 101, 114, 118, 105, 99, 101, 46, 98, 105, 110, 100, 105, 110, 103]⟩ : ByteArray)[i]'hi).toNat : Int)) = false) (s : ByteArray) : descB (strOfNums (nums.set i c) ++ s).data.toList = false := by
  rw [data_add, near_data]
  exact desc_near _ i hi _ (near_ne i hi c l u h)

/-- the name and s, s empty; s not empty -/
theorem name_empty (s : ByteArray) (h : s.size = 0) : descB ((⟨#[115, 101, 114, 118, 105, 99, 101, 46, 98, 105, 110, 100, 105, 110, 103]⟩ : ByteArray) ++ s).data.toList = true := by
  rw [name_says]
  have e : s.data.toList = [] := List.length_eq_zero_iff.1 h
  rw [decide_eq_true e]
  rfl

theorem name_more (s : ByteArray) (h : 0 < s.size) : descB ((⟨#[115, 101, 114, 118, 105, 99, 101, 46, 98, 105, 110, 100, 105, 110, 103]⟩ : ByteArray) ++ s).data.toList = (((s[0]'h).toNat : Int) == 47) := by
  rw [name_says]
  have hl : 0 < s.data.toList.length := h
  have hne : ¬ s.data.toList = [] := by intro e; rw [e] at hl; simp at hl
  have e0 : s.data.toList[0]? = some (s[0]'h) := by
    rw [List.getElem?_eq_getElem hl]
    rfl
  rw [decide_eq_false hne, Bool.false_or, e0, Bool.eq_iff_iff, decide_eq_true_iff, beq_iff_eq]
  constructor
  · intro e
    injection e with e
    rw [e]
    rfl
  · intro e
    have : (s[0]'h).toNat = 47 := by omega
    rw [show (47 : UInt8) = UInt8.ofNat 47 from rfl, ← this, UInt8.ofNat_toNat]

set_option maxHeartbeats 1000000 in
theorem exact_on (a0 : ByteArray) (i : Nat) (hi : i < (⟨#[115, 101, 114, 118, 105, 99, 101, 46, 98, 105, 110, 100, 105, 110, 103]⟩ : ByteArray).size) (a2 : Int) (l2 : 0 ≤ a2) (u2 : a2 ≤ 255) (h0 : (a0.size : Int) ≤ 1048576)
    (hc : (a2 == (((⟨#[115, 101, 114, 118, 105, 99, 101, 46, 98, 105, 110, 100, 105, 110, 103]⟩ : ByteArray)[i]'hi).toNat : Int)) = false) (w : World) :
    Calls Trym.prog 4 #[.string a0, .int .i64 i, .int .u8 a2] w fun e w' => e = .returned (.bool true) ∧ Below w.heap.size w w' := by
  have hi15 : i < 15 := hi
  have hiI : (i : Int) < 15 := by omega
  have kc := fun (w : World) (C : Array Value) (n c : Nat) => Lib.run_convert_bytes_const (P := Trym.prog) w 25 5 C n c Trym.underlying25 Trym.underlying5
  have k1 := row_cell w i hi15
  have k2 := row_free w i hi15
  have k3 := row_string w i hi15 a2
  have near : Hid (descB (strOfNums (nums.set i a2) ++ a0).data.toList = false) := near_says i hi a2 l2 u2 hc a0
  have k4 := near_size i a2
  generalize strOfNums (nums.set i a2) = S at k3 near k4
  generalize nums.getD i 0 = v0 at k1
  go_enter Trym.func4, Trym.ntmps4
  go_wp2_with fail
  refine (bytesExact _ _ _ _).mono ?_
  rintro e w' ⟨⟨b, rfl⟩, hw⟩
  subst w'
  cases b
  · go_wp2_with fail
    go_ret
    exact ⟨rfl, Below.refl _ _⟩
  go_wp2_with fail
  refine (zz_of _ _ near.out _).mono ?_
  rintro e w' ⟨rfl, hw⟩
  have hb : Hid (Below w.heap.size w w') := by
    rw [hw]
    exact ((Below.refl _ _).alloc (Nat.le_refl _) _).setCell (Nat.le_refl _) _
  clear k1 k2 k3 kc hw
  by_cases hz : a0.size = 0
  · have hz' : ((a0.size : Int) == 0) = true := by rw [hz]; rfl
    have HZ : Hid (a0.size = 0) := hz
    clear hz
    go_wp2_with fail
    refine (zz_of _ _ (name_empty a0 HZ.out) _).mono ?_
    rintro e w4 ⟨rfl, hw⟩
    subst w4
    go_wp2_with fail
    go_ret
    exact ⟨rfl, hb.out⟩
  · have hp : 0 < a0.size := by omega
    have hz' : ((a0.size : Int) == 0) = false := by simpa using hz
    clear hz
    go_wp2_with fail
    refine (zz_of _ _ (name_more a0 hp) _).mono ?_
    rintro e w4 ⟨rfl, hw⟩
    subst w4
    go_wp2_with fail
    go_ret
    exact ⟨rfl, hb.out⟩

theorem exact_any (a0 : ByteArray) (a1 a2 : Int) (l2 : 0 ≤ a2) (u2 : a2 ≤ 255) (w : World) :
    Calls Trym.prog 4 #[.string a0, .int .i64 a1, .int .u8 a2] w fun e w' => e = .returned (.bool true) ∧ Below w.heap.size w w' := by
  by_cases h0 : 1048576 < (a0.size : Int)
  · go_enter Trym.func4, Trym.ntmps4
    go_wp2_with fail
    refine (bytesExact _ _ _ _).mono ?_
    rintro e w' ⟨⟨b, rfl⟩, hw⟩
    subst w'
    cases b
    all_goals
      go_wp2_with fail
      go_ret
      exact ⟨rfl, Below.refl _ _⟩
  by_cases h1 : a1 < 0
  · go_enter Trym.func4, Trym.ntmps4
    go_wp2_with fail
    refine (bytesExact _ _ _ _).mono ?_
    rintro e w' ⟨⟨b, rfl⟩, hw⟩
    subst w'
    cases b
    all_goals
      go_wp2_with fail
      go_ret
      exact ⟨rfl, Below.refl _ _⟩
  by_cases h2 : 15 ≤ a1
  · go_enter Trym.func4, Trym.ntmps4
    go_wp2_with fail
    refine (bytesExact _ _ _ _).mono ?_
    rintro e w' ⟨⟨b, rfl⟩, hw⟩
    subst w'
    cases b
    all_goals
      go_wp2_with fail
      go_ret
      exact ⟨rfl, Below.refl _ _⟩
  obtain ⟨i, rfl⟩ : ∃ i : Nat, a1 = (i : Int) := ⟨a1.toNat, by omega⟩
  have hi : i < (⟨#[115, 101, 114, 118, 105, 99, 101, 46, 98, 105, 110, 100, 105, 110, 103]⟩ : ByteArray).size := by rw [name_size]; omega
  by_cases hc : (a2 == (((⟨#[115, 101, 114, 118, 105, 99, 101, 46, 98, 105, 110, 100, 105, 110, 103]⟩ : ByteArray)[i]'hi).toNat : Int)) = false
  · exact exact_on a0 i hi a2 l2 u2 (by omega) hc w
  · have hc' : (a2 == (((⟨#[115, 101, 114, 118, 105, 99, 101, 46, 98, 105, 110, 100, 105, 110, 103]⟩ : ByteArray)[i]'hi).toNat : Int)) = true := by simpa using hc
    have hi15 : i < 15 := hi
    have hiI : (i : Int) < 15 := by omega
    clear hc
    go_enter Trym.func4, Trym.ntmps4
    go_wp2_with fail
    refine (bytesExact _ _ _ _).mono ?_
    rintro e w' ⟨⟨b, rfl⟩, hw⟩
    subst w'
    cases b
    all_goals
      go_wp2_with fail
      go_ret
      exact ⟨rfl, Below.refl _ _⟩

end Go.Proofs.Qxb6616061aMods.Walks
