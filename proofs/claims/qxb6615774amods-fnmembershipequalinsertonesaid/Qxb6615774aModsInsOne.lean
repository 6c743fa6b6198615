/-
  Seat b6615774aM: the walk of FnMembershipEqualInsertOne (8).
-/
import Derived.Test.Qxb6615774aModsReg
import Derived.Test.Qxb6615774aModsBytes
import Derived.Test.Qxb6615774aModsInsert
import Derived.Deep.RegionHeld3
namespace Go.Proofs.Qxb6615774aMods.Walks
open Go.ChangeShapes Go.WideShapes Go.ChangeAt Go.RowKit
open Go.Proofs.Qxb6615774aMods.Plain

theorem eqM_ins (i j : ByteArray) (xs ys : List ByteArray) (p : Nat) (x : ByteArray) (hx : p ≤ xs.length) (hy : p ≤ ys.length) : eqM i j (ins xs p x) (ins ys p x) = eqM i j xs ys := by
  unfold eqM
  have := ins_inj xs ys p x hx hy
  rw [decide_eq_decide]
  simp [this]

theorem eqM_longer (i : ByteArray) (xs : List ByteArray) (p : Nat) (x : ByteArray) (hx : p ≤ xs.length) : eqM i i xs (ins xs p x) = false := by
  unfold eqM
  rw [decide_eq_false]
  rintro ⟨_, h⟩
  exact ins_ne xs p x hx h

/-- where the five memberships lie -/
theorem layout (w : World) (oA oB oA1 oB1 oC : Obj) (w3 w5 w7 : World) (hb3 : Below ((w.alloc oA).alloc oB).heap.size ((w.alloc oA).alloc oB) w3) (hb5 : Below (w3.alloc oA1).heap.size (w3.alloc oA1) w5)
    (hb7 : Below (w5.alloc oB1).heap.size (w5.alloc oB1) w7) :
    (w7.alloc oC).heap[w.heap.size]? = some oA ∧ (w7.alloc oC).heap[w.heap.size + 1]? = some oB ∧ (w7.alloc oC).heap[w3.heap.size]? = some oA1 ∧ (w7.alloc oC).heap[w5.heap.size]? = some oB1 ∧ (w7.alloc oC).heap[w7.heap.size]? = some oC ∧
      Below w.heap.size w (w7.alloc oC) ∧ Below w3.heap.size w3 (w7.alloc oC) ∧ Below w5.heap.size w5 (w7.alloc oC) ∧ Below w7.heap.size w7 (w7.alloc oC) := by
  have z3 : w.heap.size + 2 ≤ w3.heap.size := by have := hb3.size; simp at this; omega
  have z5 : w3.heap.size + 1 ≤ w5.heap.size := by have := hb5.size; simp at this; omega
  have z7 : w5.heap.size + 1 ≤ w7.heap.size := by have := hb7.size; simp at this; omega
  have t7 : Below w7.heap.size w7 (w7.alloc oC) := (Below.refl _ _).alloc (Nat.le_refl _) _
  have t5 : Below (w5.alloc oB1).heap.size (w5.alloc oB1) (w7.alloc oC) := hb7.trans (t7.mono (by simp; omega))
  have t5' : Below w5.heap.size w5 (w7.alloc oC) := ((Below.refl _ _).alloc (Nat.le_refl _) oB1).trans (t5.mono (by simp))
  have t3 : Below (w3.alloc oA1).heap.size (w3.alloc oA1) (w7.alloc oC) := hb5.trans (t5'.mono (by simp; omega))
  have t3' : Below w3.heap.size w3 (w7.alloc oC) := ((Below.refl _ _).alloc (Nat.le_refl _) oA1).trans (t3.mono (by simp))
  have t2 : Below ((w.alloc oA).alloc oB).heap.size ((w.alloc oA).alloc oB) (w7.alloc oC) := hb3.trans (t3'.mono (by simp; omega))
  have t0 : Below w.heap.size w (w7.alloc oC) := (((Below.refl _ _).alloc (Nat.le_refl _) oA).alloc (by simp) oB).trans (t2.mono (by simp; omega))
  refine ⟨?_, ?_, ?_, ?_, ?_, t0, t3', t5', t7⟩
  · rw [t2.block _ (by simp; omega), heap_alloc_old _ _ (by simp), heap_alloc_new]
  · rw [t2.block _ (by simp)]
    have := heap_alloc_new (w.alloc oA) oB
    simpa using this
  · rw [t3.block _ (by simp), heap_alloc_new]
  · rw [t5.block _ (by simp), heap_alloc_new]
  · rw [heap_alloc_new]

set_option maxHeartbeats 1000000 in
theorem insOne (ia ib x c1 : ByteArray) (oa ob : Option Addr) (n c m d : Nat) (p k1 s1 : Int) (xs ys : List ByteArray) (w : World)
    (hn : n * 16 ≤ 140737488355328) (hm : m * 16 ≤ 140737488355328) (hx : SV w (.slice oa n c) xs) (hy : SV w (.slice ob m d) ys) :
    Calls Trym.prog 8 #[.string ia, .slice oa n c, .string ib, .slice ob m d, .string x, .int .i64 p, .string c1, .int .u64 k1, .int .u64 s1] w
      fun e w' => e = .returned (.bool true) ∧ Below w.heap.size w w' := by
  have HX : Hid (SV w (.slice oa n c) xs) := hx
  have HY : Hid (SV w (.slice ob m d) ys) := hy
  clear hx hy
  go_enter Trym.func8, Trym.ntmps8
  go_wp2_with fail
  refine (bytesIns ia ib x c1 oa ob n c m d p k1 s1 _ HX.out.read HY.out.read).mono ?_
  rintro e w' ⟨⟨b, rfl⟩, hw⟩
  subst w'
  cases b
  · go_wp2_with fail
    go_ret
    exact ⟨rfl, Below.refl _ _⟩
  go_wp2_with fail
  refine (addStr _ _ _).mono ?_
  rintro e w' ⟨⟨z1, rfl⟩, hw⟩
  subst w'
  go_wp2_with fail
  refine (addList _ _ _ _ _ HX.out.read).mono ?_
  rintro e w' ⟨⟨z2, rfl⟩, hw⟩
  subst w'
  go_wp2_with fail
  refine (addStr _ _ _).mono ?_
  rintro e w' ⟨⟨z3, rfl⟩, hw⟩
  subst w'
  go_wp2_with fail
  refine (addList _ _ _ _ _ HY.out.read).mono ?_
  rintro e w' ⟨⟨z4, rfl⟩, hw⟩
  subst w'
  go_wp2_with fail
  refine (addStr _ _ _).mono ?_
  rintro e w' ⟨⟨z5, rfl⟩, hw⟩
  subst w'
  go_wp2_with fail
  refine (addStr _ _ _).mono ?_
  rintro e w' ⟨⟨z6, rfl⟩, hw⟩
  subst w'
  by_cases hz : 1048576 < z6
  · go_wp2_with fail
    go_ret
    exact ⟨rfl, Below.refl _ _⟩
  by_cases hp0 : p < 0
  · go_wp2_with fail
    go_ret
    exact ⟨rfl, Below.refl _ _⟩
  by_cases hpn : (n : Int) < p
  · go_wp2_with fail
    go_ret
    exact ⟨rfl, Below.refl _ _⟩
  by_cases hpm : (m : Int) < p
  · go_wp2_with fail
    go_ret
    exact ⟨rfl, Below.refl _ _⟩
  obtain ⟨q, rfl⟩ : ∃ q : Nat, p = (q : Int) := ⟨p.toNat, by omega⟩
  have hqn : q ≤ n := by omega
  have hqm : q ≤ m := by omega
  go_wp2_with fail
  refine (insert_ex oa n c q x xs _ hn hqn ?_).mono ?_
  · exact (HX.out.alloc _).alloc _
  rintro e w3 ⟨g3, rfl, hs3, hb3⟩
  have HS3 : Hid (SV w3 (.slice (some ⟨g3, 0, none⟩) (n + 1) (n + 1)) (ins xs q x)) := hs3
  have HB3 : Hid (Below ((w.alloc (mem ia (.slice oa n c) e0 0 0)).alloc (mem ib (.slice ob m d) e0 0 0)).heap.size ((w.alloc (mem ia (.slice oa n c) e0 0 0)).alloc (mem ib (.slice ob m d) e0 0 0)) w3) := hb3
  have hz3 : w.heap.size + 2 ≤ w3.heap.size := by have := hb3.size; simp at this; omega
  have HT3 : Hid (Below w.heap.size w w3) := (((Below.refl _ _).alloc (Nat.le_refl _) _).alloc (by simp) _).trans (hb3.mono (by simp; omega))
  clear hs3 hb3
  go_wp2_with fail
  refine (insert_ex ob m d q x ys _ hm hqm ?_).mono ?_
  · exact (HY.out.below HT3.out).alloc _
  rintro e w5 ⟨g5, rfl, hs5, hb5⟩
  have HS5 : Hid (SV w5 (.slice (some ⟨g5, 0, none⟩) (m + 1) (m + 1)) (ins ys q x)) := hs5
  have HB5 : Hid (Below (w3.alloc (mem ia (.slice (some ⟨g3, 0, none⟩) (n + 1) (n + 1)) c1 k1 s1)).heap.size (w3.alloc (mem ia (.slice (some ⟨g3, 0, none⟩) (n + 1) (n + 1)) c1 k1 s1)) w5) := hb5
  have hz5 : w3.heap.size + 1 ≤ w5.heap.size := by have := hb5.size; simp at this; omega
  have HT5 : Hid (Below w.heap.size w w5) := HT3.out.trans ((((Below.refl _ _).alloc (Nat.le_refl _) _).trans (hb5.mono (by simp))).mono (by omega))
  clear hs5 hb5
  go_wp2_with fail
  refine (insert_ex oa n c q x xs _ hn hqn ?_).mono ?_
  · exact (HX.out.below HT5.out).alloc _
  rintro e w7 ⟨g7, rfl, hs7, hb7⟩
  have HS7 : Hid (SV w7 (.slice (some ⟨g7, 0, none⟩) (n + 1) (n + 1)) (ins xs q x)) := hs7
  have HB7 : Hid (Below (w5.alloc (mem ib (.slice (some ⟨g5, 0, none⟩) (m + 1) (m + 1)) e0 0 0)).heap.size (w5.alloc (mem ib (.slice (some ⟨g5, 0, none⟩) (m + 1) (m + 1)) e0 0 0)) w7) := hb7
  have hz7 : w5.heap.size + 1 ≤ w7.heap.size := by have := hb7.size; simp at this; omega
  clear hs7 hb7
  go_wp2_with fail
  obtain ⟨W, hW⟩ : ∃ W, W = w7.alloc (Obj.cells #[Value.string ia, Value.slice (some ⟨g7, 0, none⟩) (n + 1) (n + 1), Value.string ⟨#[]⟩, Value.int IntKind.u64 0, Value.int IntKind.u64 0] 31) := ⟨_, rfl⟩
  rw [← hW]
  have L := layout w _ _ _ _ (mem ia (.slice (some ⟨g7, 0, none⟩) (n + 1) (n + 1)) e0 0 0) w3 w5 w7 HB3.out HB5.out HB7.out
  have hW' : w7.alloc (mem ia (.slice (some ⟨g7, 0, none⟩) (n + 1) (n + 1)) e0 0 0) = W := hW.symm
  rw [hW'] at L
  clear hW hW'
  obtain ⟨lA, lB, lA1, lB1, lC, t0, t3, t5, t7⟩ := L
  have LA : Hid (W.heap[w.heap.size]? = some (mem ia (.slice oa n c) e0 0 0)) := lA
  have LB : Hid (W.heap[w.heap.size + 1]? = some (mem ib (.slice ob m d) e0 0 0)) := lB
  have LA1 : Hid (W.heap[w3.heap.size]? = some (mem ia (.slice (some ⟨g3, 0, none⟩) (n + 1) (n + 1)) c1 k1 s1)) := lA1
  have LB1 : Hid (W.heap[w5.heap.size]? = some (mem ib (.slice (some ⟨g5, 0, none⟩) (m + 1) (m + 1)) e0 0 0)) := lB1
  have LC : Hid (W.heap[w7.heap.size]? = some (mem ia (.slice (some ⟨g7, 0, none⟩) (n + 1) (n + 1)) e0 0 0)) := lC
  have T0 : Hid (Below w.heap.size w W) := t0
  have VA : Hid (SV W (.slice oa n c) xs) := HX.out.below t0
  have VB : Hid (SV W (.slice ob m d) ys) := HY.out.below t0
  have VA1 : Hid (SV W (.slice (some ⟨g3, 0, none⟩) (n + 1) (n + 1)) (ins xs q x)) := HS3.out.below t3
  have VB1 : Hid (SV W (.slice (some ⟨g5, 0, none⟩) (m + 1) (m + 1)) (ins ys q x)) := HS5.out.below t5
  have VC : Hid (SV W (.slice (some ⟨g7, 0, none⟩) (n + 1) (n + 1)) (ins xs q x)) := HS7.out.below t7
  have lx : xs.length = n := by obtain ⟨_, _, e, _⟩ := HX.out; injection e with _ e2 _; exact e2.symm
  have ly : ys.length = m := by obtain ⟨_, _, e, _⟩ := HY.out; injection e with _ e2 _; exact e2.symm
  have E1 : eqM ia ib (ins xs q x) (ins ys q x) = eqM ia ib xs ys := eqM_ins ia ib xs ys q x (by omega) (by omega)
  have E3 : eqM ia ia xs (ins xs q x) = false := eqM_longer ia xs q x (by omega)
  have E4 : eqM ia ia (ins xs q x) (ins xs q x) = true := eqM_self ia _
  clear lA lB lA1 lB1 lC t0 t3 t5 t7 lx ly HX HY HS3 HS5 HS7 HB3 HB5 HB7 HT3 HT5 hz3 hz5 hz7 hn hm hqn hqm hz hp0 hpn hpm
  go_region_held3 (fun w' => Reg W w' ∧ (w'.cell? ⟨w.heap.size, 0, none⟩ = some (.string ia) ∧ w'.cell? ⟨w.heap.size, 1, none⟩ = some (.slice oa n c) ∧ w'.cell? ⟨w.heap.size, 2, none⟩ = some (.string e0) ∧ w'.cell? ⟨w.heap.size, 3, none⟩ = some (.int .u64 0) ∧ w'.cell? ⟨w.heap.size, 4, none⟩ = some (.int .u64 0)) ∧ (w'.cell? ⟨w.heap.size + 1, 0, none⟩ = some (.string ib) ∧ w'.cell? ⟨w.heap.size + 1, 1, none⟩ = some (.slice ob m d) ∧ w'.cell? ⟨w.heap.size + 1, 2, none⟩ = some (.string e0) ∧ w'.cell? ⟨w.heap.size + 1, 3, none⟩ = some (.int .u64 0) ∧ w'.cell? ⟨w.heap.size + 1, 4, none⟩ = some (.int .u64 0)) ∧ (w'.cell? ⟨w3.heap.size, 0, none⟩ = some (.string ia) ∧ w'.cell? ⟨w3.heap.size, 1, none⟩ = some (.slice (some ⟨g3, 0, none⟩) (n + 1) (n + 1)) ∧ w'.cell? ⟨w3.heap.size, 2, none⟩ = some (.string c1) ∧ w'.cell? ⟨w3.heap.size, 3, none⟩ = some (.int .u64 k1) ∧ w'.cell? ⟨w3.heap.size, 4, none⟩ = some (.int .u64 s1)) ∧ (w'.cell? ⟨w5.heap.size, 0, none⟩ = some (.string ib) ∧ w'.cell? ⟨w5.heap.size, 1, none⟩ = some (.slice (some ⟨g5, 0, none⟩) (m + 1) (m + 1)) ∧ w'.cell? ⟨w5.heap.size, 2, none⟩ = some (.string e0) ∧ w'.cell? ⟨w5.heap.size, 3, none⟩ = some (.int .u64 0) ∧ w'.cell? ⟨w5.heap.size, 4, none⟩ = some (.int .u64 0)) ∧ (w'.cell? ⟨w7.heap.size, 0, none⟩ = some (.string ia) ∧ w'.cell? ⟨w7.heap.size, 1, none⟩ = some (.slice (some ⟨g7, 0, none⟩) (n + 1) (n + 1)) ∧ w'.cell? ⟨w7.heap.size, 2, none⟩ = some (.string e0) ∧ w'.cell? ⟨w7.heap.size, 3, none⟩ = some (.int .u64 0) ∧ w'.cell? ⟨w7.heap.size, 4, none⟩ = some (.int .u64 0)))
    (first
      | (have R : Reg W W.drew := (Below.refl _ W).drew
         exact ⟨R, cell5 LA.out R, cell5 LB.out R, cell5 LA1.out R, cell5 LB1.out R, cell5 LC.out R⟩)
      | (have R := Reg.step (W := W) (by assumption) hb
         exact ⟨R, cell5 LA.out R, cell5 LB.out R, cell5 LA1.out R, cell5 LB1.out R, cell5 LC.out R⟩))
    (first
      | (go_at_call_of 22 g5; have R := Reg.get (W := W) (by assumption); refine (zzequal _ _ _ _ _ _ _ _ _ _ _ _ _ _ (ins xs q x) (ins ys q x) _ (VA1.out.below R) (VB1.out.below R)).mono ?_; rintro e w' ⟨rfl, hb⟩)
      | (go_at_call_of 22 ob; have R := Reg.get (W := W) (by assumption); refine (zzequal _ _ _ _ _ _ _ _ _ _ _ _ _ _ xs ys _ (VA.out.below R) (VB.out.below R)).mono ?_; rintro e w' ⟨rfl, hb⟩)
      | (go_at_call_of 22 g7; have R := Reg.get (W := W) (by assumption); refine (zzequal _ _ _ _ _ _ _ _ _ _ _ _ _ _ (ins xs q x) (ins xs q x) _ (VA1.out.below R) (VC.out.below R)).mono ?_; rintro e w' ⟨rfl, hb⟩)
      | (go_at_call 22; have R := Reg.get (W := W) (by assumption); refine (zzequal _ _ _ _ _ _ _ _ _ _ _ _ _ _ xs (ins xs q x) _ (VA.out.below R) (VA1.out.below R)).mono ?_; rintro e w' ⟨rfl, hb⟩))
  all_goals go_wp2_with fail
  all_goals go_ret
  all_goals exact ⟨rfl, T0.out.trans ((Reg.get (W := W) (by assumption)).mono (Below.size T0.out))⟩

end Go.Proofs.Qxb6615774aMods.Walks
