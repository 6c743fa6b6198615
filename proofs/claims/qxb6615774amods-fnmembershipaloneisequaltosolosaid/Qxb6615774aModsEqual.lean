/-
  Seat b6615774aM: a slice of strings as it lies in memory ('SV'), and slices.Equal at []string (29).
-/
import Derived.Test.Qxb6615774aModsRows
import Derived.Test.Qxb6615774aModsPlain
import Derived.WalkKit
import Derived.ProofKit
import Derived.Deep.QuietTactic
import Derived.BigQuiet
namespace Go.Proofs.Qxb6615774aMods.Walks
open Go.ChangeShapes Go.WideShapes Go.ChangeAt Go.RowKit
open Go.Proofs.Qxb6615774aMods.Plain

/-- 'v' is a slice value whose elements are the strings 'ss' (nil, empty or not). -/
def SV (w : World) (v : Value) (ss : List ByteArray) : Prop :=
  ∃ (oa : Option Addr) (cap : Nat), v = .slice oa ss.length cap ∧ ss.length ≤ cap ∧ cap * 16 ≤ 281474976710656 ∧
    (0 < ss.length → ∃ b off, oa = some ⟨b, off, none⟩ ∧ b < w.heap.size ∧ ∀ i, i < ss.length → w.cell? ⟨b, off + i, none⟩ = some (.string (ss.getD i ByteArray.empty)))

theorem SV.below {w w' : World} {v : Value} {ss : List ByteArray} (h : SV w v ss) (hb : Below w.heap.size w w') : SV w' v ss := by
  obtain ⟨oa, cap, rfl, h1, h2, h3⟩ := h
  refine ⟨oa, cap, rfl, h1, h2, fun h0 => ?_⟩
  obtain ⟨b, off, rfl, hlt, hc⟩ := h3 h0
  exact ⟨b, off, rfl, Nat.lt_of_lt_of_le hlt hb.size, fun i hi => by rw [hb.cell (p := ⟨b, off + i, none⟩) hlt]; exact hc i hi⟩

theorem SV.alloc {w : World} {v : Value} {ss : List ByteArray} (h : SV w v ss) (o : Obj) : SV (w.alloc o) v ss := h.below ((Below.refl _ _).alloc (Nat.le_refl _) o)

theorem SV.drewN {w : World} {v : Value} {ss : List ByteArray} (h : SV w v ss) (n : Nat) : SV (w.drewN n) v ss := h

theorem str_eq {s t : ByteArray} : (s.toList == t.toList) = decide (s = t) := by
  rw [ByteArray.toList_eq, ByteArray.toList_eq]
  by_cases h : s = t
  · subst h; simp
  · have h' : ¬ s.data.toList = t.data.toList := fun e => h (bytes_inj e)
    rw [beq_false_of_ne h', decide_eq_false h]

/-- what slices.Equal says; what (Membership).equal says: Bool functions that the walk does not open -/
def eqL (xs ys : List ByteArray) : Bool := decide (xs = ys)
def eqM (i1 i2 : ByteArray) (xs ys : List ByteArray) : Bool := decide (i1 = i2 ∧ xs = ys)

theorem ret_bool {a b : Bool} (h : a = b) : Ending.returned (.bool a) = .returned (.bool b) := by rw [h]

theorem equal_len (oa ob : Option Addr) (n m c d : Nat) (h : ¬ (n : Int) = (m : Int)) (w : World) :
    Calls Trym.prog 29 #[.slice oa n c, .slice ob m d] w fun e w' => e = .returned (.bool false) ∧ w' = w := by
  go_enter Trym.func29, Trym.ntmps29
  go_wp2
  go_ret
  exact ⟨rfl, rfl⟩

theorem equal_none (oa ob : Option Addr) (c d : Nat) (w : World) :
    Calls Trym.prog 29 #[.slice oa 0 c, .slice ob 0 d] w fun e w' => e = .returned (.bool true) ∧ w' = w := by
  go_enter Trym.func29, Trym.ntmps29
  go_wp2
  refine wp_loop_rounds 1 ?_
  rw [rounds_succ]
  go_wp2
  go_ret
  exact ⟨rfl, rfl⟩

set_option maxHeartbeats 400000 in
theorem equal_rows (b1 o1 c1 b2 o2 c2 n : Nat) (xs ys : List ByteArray) (hx : xs.length = n) (hy : ys.length = n) (hn : n * 16 ≤ 281474976710656) (w : World)
    (h1 : ∀ i, i < n → w.cell? ⟨b1, o1 + i, none⟩ = some (.string (xs.getD i ByteArray.empty)))
    (h2 : ∀ i, i < n → w.cell? ⟨b2, o2 + i, none⟩ = some (.string (ys.getD i ByteArray.empty))) :
    Calls Trym.prog 29 #[.slice (some ⟨b1, o1, none⟩) n c1, .slice (some ⟨b2, o2, none⟩) n c2] w fun e w' => e = .returned (.bool (decide (xs = ys))) ∧ ∃ q, w' = w.drewN q := by
  have HX : Hid (xs.length = n) := hx
  have HY : Hid (ys.length = n) := hy
  have H1 : Hid (∀ i, i < n → w.cell? ⟨b1, o1 + i, none⟩ = some (.string (xs.getD i ByteArray.empty))) := h1
  have H2 : Hid (∀ i, i < n → w.cell? ⟨b2, o2 + i, none⟩ = some (.string (ys.getD i ByteArray.empty))) := h2
  clear hx hy h1 h2
  go_enter Trym.func29, Trym.ntmps29
  go_wp2
  go_loopw [13] (fun i wr => ∃ k q : Nat, k ≤ n ∧ i = .int .i64 k ∧ wr = w.drewN q ∧ Hid (xs.take k = ys.take k)) (fun i _ => n - (intOf i).toNat)
  case atStart => exact ⟨0, 0, by omega, rfl, rfl, by simp [Hid]⟩
  case round =>
    obtain ⟨k, q, hk, rfl, rfl, HT⟩ := hrel
    by_cases hlt : k < n
    · have g1 := H1.out k hlt
      have g2 := H2.out k hlt
      obtain ⟨s, hs⟩ : ∃ s, s = xs.getD k ByteArray.empty := ⟨_, rfl⟩
      obtain ⟨t, ht⟩ : ∃ t, t = ys.getD k ByteArray.empty := ⟨_, rfl⟩
      rw [← hs] at g1
      rw [← ht] at g2
      have HS : Hid (s = xs.getD k ByteArray.empty) := hs
      have HU : Hid (t = ys.getD k ByteArray.empty) := ht
      clear hs ht
      have hlt' : (k : Int) < (n : Int) := by omega
      by_cases hst : s = t
      · have hq : (s.toList == t.toList) = true := by rw [str_eq]; simp [hst]
        have HE : Hid (s = t) := hst
        clear hst
        go_wp2
        go_quiet (fail)
        go_wp2
        go_roundw
        case rel => exact ⟨k + 1, _, by omega, by go_num, rfl, take_next xs ys _ k (by rw [HX.out]; exact hlt) (by rw [HY.out]; exact hlt) HT.out (by rw [← HS.out, ← HU.out]; exact HE.out)⟩
        case measure => simp [intOf]; omega
      · have hq : (s.toList == t.toList) = false := by rw [str_eq]; simp [hst]
        go_wp2
        go_quiet (fail)
        go_wp2
        go_ret
        exact ⟨ret_bool (by rw [decide_eq_false]; exact ne_at xs ys _ k (by rw [← HS.out, ← HU.out]; exact hst)), q + nq, by simp⟩
    · go_wp2
      go_ret
      exact ⟨ret_bool (by
        have e := HT.out
        rw [List.take_of_length_le (by rw [HX.out]; omega), List.take_of_length_le (by rw [HY.out]; omega)] at e
        rw [decide_eq_true e]), q, rfl⟩

theorem below_drewN (w : World) (q : Nat) : Below w.heap.size w (w.drewN q) := ⟨rfl, rfl, rfl, Nat.le_refl _, fun _ _ => rfl⟩

/-- slices.Equal at whatever two slices of strings -/
theorem equal_any (oa ob : Option Addr) (n m c d : Nat) (xs ys : List ByteArray) (w : World) (hx : SV w (.slice oa n c) xs) (hy : SV w (.slice ob m d) ys) :
    Calls Trym.prog 29 #[.slice oa n c, .slice ob m d] w fun e w' => e = .returned (.bool (eqL xs ys)) ∧ Below w.heap.size w w' := by
  obtain ⟨oa', c', e1, hc1, hc2, hc3⟩ := hx
  obtain ⟨ob', d', e2, hd1, hd2, hd3⟩ := hy
  injection e1 with e11 e12 e13
  injection e2 with e21 e22 e23
  subst e11 e13 e21 e23
  by_cases hnm : n = m
  · subst hnm
    by_cases h0 : n = 0
    · subst h0
      have ex : xs = [] := List.length_eq_zero_iff.1 e12.symm
      have ey : ys = [] := List.length_eq_zero_iff.1 e22.symm
      refine (equal_none oa ob c d w).mono fun e w' ⟨he, hw⟩ => ?_
      subst hw
      exact ⟨by rw [he, ex, ey, eqL, decide_eq_true rfl], Below.refl _ _⟩
    · obtain ⟨b1, o1, rfl, _, g1⟩ := hc3 (by omega)
      obtain ⟨b2, o2, rfl, _, g2⟩ := hd3 (by omega)
      refine (equal_rows b1 o1 c b2 o2 d n xs ys e12.symm e22.symm (by omega) w (fun i hi => g1 i (by omega)) (fun i hi => g2 i (by omega))).mono fun e w' ⟨he, q, hw⟩ => ?_
      subst hw
      exact ⟨he, below_drewN w q⟩
  · refine (equal_len oa ob n m c d (by omega) w).mono fun e w' ⟨he, hw⟩ => ?_
    subst hw
    refine ⟨?_, Below.refl _ _⟩
    have hne : ¬ xs = ys := fun e => hnm (by rw [e12, e22, e])
    rw [he, eqL, decide_eq_false hne]

/-- (Membership).equal -/
theorem memb_equal (i1 i2 c1 c2 : ByteArray) (oa ob : Option Addr) (n m c d : Nat) (k1 s1 k2 s2 : Int) (xs ys : List ByteArray) (w : World) (hx : SV w (.slice oa n c) xs) (hy : SV w (.slice ob m d) ys) :
    Calls Trym.prog 28 #[.agg #[.string i1, .slice oa n c, .string c1, .int .u64 k1, .int .u64 s1], .agg #[.string i2, .slice ob m d, .string c2, .int .u64 k2, .int .u64 s2]] w
      fun e w' => e = .returned (.bool (eqM i1 i2 xs ys)) ∧ Below w.heap.size w w' := by
  have HX : Hid (SV w (.slice oa n c) xs) := hx
  have HY : Hid (SV w (.slice ob m d) ys) := hy
  clear hx hy
  by_cases h : i1 = i2
  · have hq : (i1.toList == i2.toList) = true := by rw [str_eq]; simp [h]
    have HE : Hid (i1 = i2) := h
    clear h
    go_enter Trym.func28, Trym.ntmps28
    go_wp2_with fail
    refine (equal_any _ _ _ _ _ _ xs ys _ ?_ ?_).mono ?_
    · exact (HX.out.alloc _).alloc _
    · exact (HY.out.alloc _).alloc _
    · rintro e w' ⟨rfl, hb⟩
      go_wp2_with fail
      go_ret
      refine ⟨ret_bool ?_, ?_⟩
      · have := HE.out
        simp [eqL, eqM, this]
      · exact (((Below.refl _ _).alloc (Nat.le_refl _) _).alloc (by simp) _).trans (hb.mono (by simp; omega))
  · have hq : (i1.toList == i2.toList) = false := by rw [str_eq]; simp [h]
    go_enter Trym.func28, Trym.ntmps28
    go_wp2_with fail
    go_ret
    refine ⟨ret_bool ?_, ?_⟩
    · simp [eqM, h]
    · exact ((Below.refl _ _).alloc (Nat.le_refl _) _).alloc (by simp) _

/-- ZZequal -/
theorem zzequal (i1 i2 c1 c2 : ByteArray) (oa ob : Option Addr) (n m c d : Nat) (k1 s1 k2 s2 : Int) (xs ys : List ByteArray) (w : World) (hx : SV w (.slice oa n c) xs) (hy : SV w (.slice ob m d) ys) :
    Calls Trym.prog 22 #[.agg #[.string i1, .slice oa n c, .string c1, .int .u64 k1, .int .u64 s1], .agg #[.string i2, .slice ob m d, .string c2, .int .u64 k2, .int .u64 s2]] w
      fun e w' => e = .returned (.bool (eqM i1 i2 xs ys)) ∧ Below w.heap.size w w' := by
  have HX : Hid (SV w (.slice oa n c) xs) := hx
  have HY : Hid (SV w (.slice ob m d) ys) := hy
  clear hx hy
  go_enter Trym.func22, Trym.ntmps22
  go_wp2_with fail
  refine (memb_equal _ _ _ _ _ _ _ _ _ _ _ _ _ _ xs ys _ ?_ ?_).mono ?_
  · exact (HX.out.alloc _).alloc _
  · exact (HY.out.alloc _).alloc _
  · rintro e w' ⟨rfl, hb⟩
    go_wp2_with fail
    go_ret
    exact ⟨rfl, (((Below.refl _ _).alloc (Nat.le_refl _) _).alloc (by simp) _).trans (hb.mono (by simp; omega))⟩

/-- (Membership).alone -/
theorem memb_alone (i1 c1 : ByteArray) (oa : Option Addr) (n c : Nat) (k1 s1 : Int) (xs : List ByteArray) (w : World) (hx : SV w (.slice oa n c) xs) :
    Calls Trym.prog 26 #[.agg #[.string i1, .slice oa n c, .string c1, .int .u64 k1, .int .u64 s1]] w
      fun e w' => e = .returned (.bool (eqL xs [i1])) ∧ Below w.heap.size w w' := by
  have HX : Hid (SV w (.slice oa n c) xs) := hx
  clear hx
  go_enter Trym.func26, Trym.ntmps26
  go_wp2_with fail
  refine (equal_any _ _ _ _ _ _ xs [i1] _ ?_ ?_).mono ?_
  · exact (HX.out.alloc _).alloc _
  · refine ⟨_, 1, rfl, by simp, by omega, fun _ => ⟨w.heap.size + 1, 0, rfl, by simp, fun i hi => ?_⟩⟩
    have hi' : i = 0 := by simp at hi; omega
    subst hi'
    simp
  · rintro e w' ⟨rfl, hb⟩
    go_wp2_with fail
    go_ret
    exact ⟨rfl, (((Below.refl _ _).alloc (Nat.le_refl _) _).alloc (by simp) _).trans (hb.mono (by simp; omega))⟩

/-- ZZalone -/
theorem zzalone (i1 c1 : ByteArray) (oa : Option Addr) (n c : Nat) (k1 s1 : Int) (xs : List ByteArray) (w : World) (hx : SV w (.slice oa n c) xs) :
    Calls Trym.prog 20 #[.agg #[.string i1, .slice oa n c, .string c1, .int .u64 k1, .int .u64 s1]] w
      fun e w' => e = .returned (.bool (eqL xs [i1])) ∧ Below w.heap.size w w' := by
  have HX : Hid (SV w (.slice oa n c) xs) := hx
  clear hx
  go_enter Trym.func20, Trym.ntmps20
  go_wp2_with fail
  refine (memb_alone _ _ _ _ _ _ _ xs _ ?_).mono ?_
  · exact HX.out.alloc _
  · rintro e w' ⟨rfl, hb⟩
    go_wp2_with fail
    go_ret
    exact ⟨rfl, ((Below.refl _ _).alloc (Nat.le_refl _) _).trans (hb.mono (by simp))⟩

end Go.Proofs.Qxb6615774aMods.Walks
