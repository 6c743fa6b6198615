/-
  Seat b6615774aM: the walk of FnMembershipAloneIsEqualToSolo (7).
-/
import Derived.Test.Qxb6615774aModsReg
import Derived.Test.Qxb6615774aModsBytes
namespace Go.Proofs.Qxb6615774aMods.Walks
open Go.ChangeShapes Go.WideShapes Go.ChangeAt Go.RowKit
open Go.Proofs.Qxb6615774aMods.Plain

theorem eqL_self (xs : List ByteArray) : eqL xs xs = true := by
  unfold eqL
  rw [decide_eq_true rfl]

theorem eqM_alone (i : ByteArray) (xs : List ByteArray) : eqM i i xs [i] = eqL xs [i] := by
  unfold eqM eqL
  rw [decide_eq_decide]
  simp

theorem eqM_alone' (i : ByteArray) (xs : List ByteArray) : eqM i i [i] xs = eqL xs [i] := by
  unfold eqM eqL
  rw [decide_eq_decide]
  constructor
  · rintro ⟨_, h⟩; exact h.symm
  · intro h; exact ⟨rfl, h.symm⟩

/-- where the two memberships and the slice of one string lie -/
theorem layoutSolo (w : World) (oM oR oS : Obj) :
    (((w.alloc oM).alloc oR).alloc oS).heap[w.heap.size]? = some oM ∧ (((w.alloc oM).alloc oR).alloc oS).heap[w.heap.size + 1]? = some oR ∧ (((w.alloc oM).alloc oR).alloc oS).heap[w.heap.size + 1 + 1]? = some oS ∧
      Below w.heap.size w (((w.alloc oM).alloc oR).alloc oS) := by
  refine ⟨?_, ?_, ?_, (((Below.refl _ _).alloc (Nat.le_refl _) _).alloc (by simp) _).alloc (by simp; omega) _⟩
  · rw [heap_alloc_old _ _ (by simp; omega), heap_alloc_old _ _ (by simp), heap_alloc_new]
  · rw [heap_alloc_old _ _ (by simp)]
    have := heap_alloc_new (w.alloc oM) oR
    simpa using this
  · have := heap_alloc_new ((w.alloc oM).alloc oR) oS
    simpa using this

theorem SV.one {W : World} {b : Nat} {s : ByteArray} (h : W.heap[b]? = some (.cells #[.string s] 9)) : SV W (.slice (some ⟨b, 0, none⟩) 1 1) [s] := by
  refine ⟨_, 1, rfl, by simp, by omega, fun _ => ⟨b, 0, rfl, (Array.getElem?_eq_some_iff.1 h).1, fun i hi => ?_⟩⟩
  have hi' : i = 0 := by simp at hi; omega
  subst hi'
  rw [cell_of_row W b _ _ _ _ h]
  rfl

set_option maxHeartbeats 1000000 in
theorem solo (i0 c1 c2 : ByteArray) (oa : Option Addr) (n c : Nat) (k1 s1 k2 s2 : Int) (xs : List ByteArray) (w : World) (hx : SV w (.slice oa n c) xs) :
    Calls Trym.prog 7 #[.string i0, .slice oa n c, .string c1, .int .u64 k1, .int .u64 s1, .string c2, .int .u64 k2, .int .u64 s2] w
      fun e w' => e = .returned (.bool true) ∧ Below w.heap.size w w' := by
  have HX : Hid (SV w (.slice oa n c) xs) := hx
  clear hx
  go_enter Trym.func7, Trym.ntmps7
  go_wp2_with fail
  refine (bytesSolo i0 c1 c2 oa n c k1 s1 k2 s2 _ HX.out.read).mono ?_
  rintro e w' ⟨⟨b, rfl⟩, hw⟩
  subst w'
  cases b
  · go_wp2_with fail
    go_ret
    exact ⟨rfl, Below.refl _ _⟩
  go_wp2_with fail
  refine (addStr _ _ _).mono ?_
  rintro e w' ⟨⟨z1, rfl⟩, hw⟩
  subst w'
  go_wp2_with fail
  refine (addStr _ _ _).mono ?_
  rintro e w' ⟨⟨z2, rfl⟩, hw⟩
  subst w'
  go_wp2_with fail
  refine (addStr _ _ _).mono ?_
  rintro e w' ⟨⟨z3, rfl⟩, hw⟩
  subst w'
  go_wp2_with fail
  refine (addList _ _ _ _ _ HX.out.read).mono ?_
  rintro e w' ⟨⟨z4, rfl⟩, hw⟩
  subst w'
  by_cases hz : 1048576 < z4
  · go_wp2_with fail
    go_ret
    exact ⟨rfl, Below.refl _ _⟩
  go_wp2_with fail
  obtain ⟨W, hW⟩ : ∃ W, W = ((w.alloc (Obj.cells #[Value.string i0, Value.slice oa n c, Value.string c1, Value.int IntKind.u64 k1, Value.int IntKind.u64 s1] 31)).alloc (Obj.cells #[Value.string i0] 9)).alloc (Obj.cells #[Value.string i0, Value.slice (some ⟨w.heap.size + 1, 0, none⟩) 1 1, Value.string c2, Value.int IntKind.u64 k2, Value.int IntKind.u64 s2] 31) := ⟨_, rfl⟩
  rw [← hW]
  have L := layoutSolo w (mem i0 (.slice oa n c) c1 k1 s1) (.cells #[.string i0] 9) (mem i0 (.slice (some ⟨w.heap.size + 1, 0, none⟩) 1 1) c2 k2 s2)
  have hW' : ((w.alloc (mem i0 (.slice oa n c) c1 k1 s1)).alloc (.cells #[.string i0] 9)).alloc (mem i0 (.slice (some ⟨w.heap.size + 1, 0, none⟩) 1 1) c2 k2 s2) = W := hW.symm
  rw [hW'] at L
  clear hW hW'
  obtain ⟨lM, lR, lS, t0⟩ := L
  have LM : Hid (W.heap[w.heap.size]? = some (mem i0 (.slice oa n c) c1 k1 s1)) := lM
  have LS : Hid (W.heap[w.heap.size + 1 + 1]? = some (mem i0 (.slice (some ⟨w.heap.size + 1, 0, none⟩) 1 1) c2 k2 s2)) := lS
  have T0 : Hid (Below w.heap.size w W) := t0
  have VM : Hid (SV W (.slice oa n c) xs) := HX.out.below t0
  have VS : Hid (SV W (.slice (some ⟨w.heap.size + 1, 0, none⟩) 1 1) [i0]) := SV.one lR
  have E1 : eqL [i0] [i0] = true := eqL_self _
  have E2 : eqM i0 i0 xs [i0] = eqL xs [i0] := eqM_alone i0 xs
  have E3 : eqM i0 i0 [i0] xs = eqL xs [i0] := eqM_alone' i0 xs
  clear lM lR lS t0 HX hz
  refine (zzalone _ _ _ _ _ _ _ [i0] _ VS.out).mono ?_
  rintro e w4 ⟨rfl, hb4⟩
  have R4 : Hid (Below W.heap.size W w4) := hb4
  have m4 := cell5 LM.out hb4
  have s4 := cell5 LS.out hb4
  clear hb4
  go_wp2_with fail
  refine (zzalone _ _ _ _ _ _ _ xs _ (VM.out.below R4.out)).mono ?_
  rintro e w5 ⟨rfl, hb5⟩
  have hb5' : Below W.heap.size W w5 := R4.out.trans (hb5.mono R4.out.size)
  have R5 : Hid (Below W.heap.size W w5) := hb5'
  have m5 := cell5 LM.out hb5'
  have s5 := cell5 LS.out hb5'
  clear hb5 hb5' m4 s4
  go_wp2_with fail
  refine (zzequal _ _ _ _ _ _ _ _ _ _ _ _ _ _ xs [i0] _ (VM.out.below R5.out) (VS.out.below R5.out)).mono ?_
  rintro e w6 ⟨rfl, hb6⟩
  have hb6' : Below W.heap.size W w6 := R5.out.trans (hb6.mono R5.out.size)
  have R6 : Hid (Below W.heap.size W w6) := hb6'
  have m6 := cell5 LM.out hb6'
  have s6 := cell5 LS.out hb6'
  clear hb6 hb6' m5 s5
  go_wp2_with fail
  refine (zzequal _ _ _ _ _ _ _ _ _ _ _ _ _ _ [i0] xs _ (VS.out.below R6.out) (VM.out.below R6.out)).mono ?_
  rintro e w7 ⟨rfl, hb7⟩
  have R7 : Hid (Below W.heap.size W w7) := R6.out.trans (hb7.mono R6.out.size)
  clear hb7 m6 s6
  go_wp2_with fail
  go_ret
  exact ⟨rfl, T0.out.trans (R7.out.mono (Below.size T0.out))⟩

end Go.Proofs.Qxb6615774aMods.Walks
