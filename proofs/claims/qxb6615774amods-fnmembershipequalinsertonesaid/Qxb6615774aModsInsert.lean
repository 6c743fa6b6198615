/-
  Seat b6615774aM: zzB1Insert (24): a new slice of strings, x put in at place p.
-/
import Derived.Test.Qxb6615774aModsEqual
namespace Go.Proofs.Qxb6615774aMods.Walks
open Go.ChangeShapes Go.WideShapes Go.ChangeAt Go.RowKit
open Go.Proofs.Qxb6615774aMods.Plain

theorem info9 : (Trym.prog.info? 9).map (fun i => (i.zero, i.size, i.bytes)) = some (some (.string ByteArray.empty), 1, 16) := by kernel_rfl

/-- the new row (N cells, the block that the call made) agrees with M up to k; all that was there is as it was -/
def OutAt (w wr : World) (N : Nat) (M : List Value) (k : Nat) : Prop :=
  ∃ vs : List Value, wr.ownsRow w.heap.size 9 1 (.slice (some ⟨w.heap.size, 0, none⟩) N N) N vs ∧ vs.take k = M.take k ∧ Below w.heap.size w wr

theorem OutAt.start {w wr : World} {N : Nat} {M vs : List Value} (h : wr.ownsRow w.heap.size 9 1 (.slice (some ⟨w.heap.size, 0, none⟩) N N) N vs) (hg : w.grownBy wr none) : OutAt w wr N M 0 :=
  ⟨vs, h, by simp, (Below.refl _ _).grown hg (Nat.le_refl _) (fun k e => by cases e)⟩

theorem OutAt.cell {w wr : World} {N : Nat} {M : List Value} {k : Nat} (h : OutAt w wr N M k) (j : Nat) (hj : j < N) : ∃ v, wr.cell? ⟨w.heap.size, j, none⟩ = some v := by
  obtain ⟨vs, h1, _, _⟩ := h
  have hl := h1.1
  refine ⟨vs[j]'(by omega), ?_⟩
  rw [h1.cellAt j (by omega), List.getElem?_eq_getElem]

theorem OutAt.free {w wr : World} {N : Nat} {M : List Value} {k : Nat} (h : OutAt w wr N M k) (j : Nat) : wr.frozen? ⟨w.heap.size, j, none⟩ = false := by
  obtain ⟨vs, h1, _, _⟩ := h
  exact h1.frozenAt j

theorem OutAt.below {w wr : World} {N : Nat} {M : List Value} {k : Nat} (h : OutAt w wr N M k) : Below w.heap.size w wr := by
  obtain ⟨vs, _, _, h3⟩ := h
  exact h3

theorem OutAt.step {w wr : World} {N : Nat} {M : List Value} {k : Nat} (h : OutAt w wr N M k) (hM : M.length = N) (hk : k < N) (u : Value) (hu : M.getD k undef = u) : OutAt w (wr.setCell ⟨w.heap.size, k, none⟩ u) N M (k + 1) := by
  obtain ⟨vs, h1, h2, h3⟩ := h
  have hl := h1.1
  refine ⟨vs.set k u, (h1.stored k u).1, ?_, h3.setCell (Nat.le_refl _) u⟩
  rw [← hu]
  exact take_set vs M k _ (by omega) (by omega) h2

theorem OutAt.done {w wr : World} {N : Nat} {ss : List ByteArray} (h : OutAt w wr N (ss.map Value.string) N) (hl : ss.length = N) (hN : N * 16 ≤ 281474976710656) :
    SV wr (.slice (some ⟨w.heap.size, 0, none⟩) N N) ss := by
  obtain ⟨vs, h1, h2, h3⟩ := h
  have hvl := h1.1
  rw [List.take_of_length_le (by omega), List.take_of_length_le (by simp; omega)] at h2
  subst h2
  subst hl
  refine ⟨_, _, rfl, Nat.le_refl _, hN, fun h0 => ⟨w.heap.size, 0, rfl, ?_, fun i hi => ?_⟩⟩
  · rcases h1.2 with ⟨h', _⟩ | ⟨g', cap', cur, h', _, hg, _⟩
    · simp at h'
    · simp only [Value.slice.injEq, Option.some.injEq, Addr.mk.injEq, and_true, true_and] at h'
      obtain ⟨rfl, rfl⟩ := h'
      exact (Array.getElem?_eq_some_iff.1 hg).1
  · rw [Nat.zero_add, h1.cellAt i (by omega), List.getElem?_map, List.getD_eq_getElem?_getD, List.getElem?_eq_getElem hi]
    rfl

theorem map_getD (ss : List ByteArray) (k : Nat) (h : k < ss.length) : (ss.map Value.string).getD k undef = .string (ss.getD k ByteArray.empty) := by
  rw [List.getD_eq_getElem?_getD, List.getElem?_map, List.getD_eq_getElem?_getD, List.getElem?_eq_getElem h]
  rfl

set_option maxHeartbeats 400000 in
theorem insert_none (oa : Option Addr) (c : Nat) (x : ByteArray) (w : World) :
    Calls Trym.prog 24 #[.slice oa 0 c, .int .i64 0, .string x] w fun e w' => e = .returned (.slice (some ⟨w.heap.size, 0, none⟩) 1 1) ∧ OutAt w w' 1 [.string x] 1 := by
  obtain ⟨i0, hi, hz0, hz1, hz2⟩ := info_parts info9
  go_enter Trym.func24, Trym.ntmps24
  go_wp2_with (at_make; refine wpList_make_full _ rfl _ _ 25 rfl w.heap.size 9 i0 (.string ByteArray.empty) 1 Trym.underlying25 hi hz0 hz1 _ _ _ _ 1 rfl rfl (by omega) (by omega) (by rw [hz2]; omega) (by unfold maxLen; omega) (Nat.le_refl _) ?_; intro w0 hown0 hgrow0)
  have hO : OutAt w w0 1 [.string x] 0 := OutAt.start hown0 hgrow0
  clear hown0 hgrow0 hi hz0 hz1 hz2
  obtain ⟨v, hv⟩ := hO.cell 0 (by omega)
  have hf := hO.free 0
  have HO : Hid (OutAt w w0 1 [.string x] 0) := hO
  clear hO
  refine wp_loop_rounds 1 ?_
  rw [rounds_succ]
  go_wp2_with fail
  refine wp_loop_rounds 1 ?_
  rw [rounds_succ]
  go_wp2_with fail
  go_ret
  exact ⟨rfl, HO.out.step rfl (by omega) _ rfl⟩

set_option maxHeartbeats 400000 in
theorem insert_row (b off n c p : Nat) (x : ByteArray) (xs : List ByteArray) (w : World) (hn : n * 16 ≤ 140737488355328) (hp : p ≤ n) (h0 : 0 < n) (hl : xs.length = n) (hb : b < w.heap.size)
    (hc : ∀ i, i < n → w.cell? ⟨b, off + i, none⟩ = some (.string (xs.getD i ByteArray.empty))) :
    Calls Trym.prog 24 #[.slice (some ⟨b, off, none⟩) n c, .int .i64 p, .string x] w fun e w' => e = .returned (.slice (some ⟨w.heap.size, 0, none⟩) (n + 1) (n + 1)) ∧ OutAt w w' (n + 1) ((ins xs p x).map Value.string) (n + 1) := by
  obtain ⟨i0, hi, hz0, hz1, hz2⟩ := info_parts info9
  have HC : Hid (∀ i, i < n → w.cell? ⟨b, off + i, none⟩ = some (.string (xs.getD i ByteArray.empty))) := hc
  have HL : Hid (xs.length = n) := hl
  clear hc hl
  go_enter Trym.func24, Trym.ntmps24
  go_wp2_with (at_make; refine wpList_make_full _ rfl _ _ 25 rfl w.heap.size 9 i0 (.string ByteArray.empty) 1 Trym.underlying25 hi hz0 hz1 _ _ _ _ (n + 1) rfl rfl (by omega) (by omega) (by rw [hz2]; omega) (by unfold maxLen; omega) (Nat.le_refl _) ?_; intro w0 hown0 hgrow0)
  have hO : OutAt w w0 (n + 1) ((ins xs p x).map Value.string) 0 := OutAt.start hown0 hgrow0
  clear hown0 hgrow0 hi hz0 hz1 hz2
  go_loopw [8] (fun i wr => ∃ k : Nat, k ≤ p ∧ i = .int .i64 k ∧ Hid (OutAt w wr (n + 1) ((ins xs p x).map Value.string) k)) (fun i _ => p - (intOf i).toNat)
  case atStart => exact ⟨0, by omega, rfl, hO⟩
  case round =>
    obtain ⟨k, hk, rfl, HO⟩ := hrel
    clear hO
    by_cases hlt : k < p
    · have hlt' : (k : Int) < (p : Int) := by omega
      obtain ⟨v, hv⟩ := HO.out.cell k (by omega)
      have hf := HO.out.free k
      have hx : wr.cell? ⟨b, off + k, none⟩ = some (.string (xs.getD k ByteArray.empty)) := (HO.out.below.cell (p := ⟨b, off + k, none⟩) hb).trans (HC.out k (by omega))
      obtain ⟨s, hs⟩ : ∃ s, s = xs.getD k ByteArray.empty := ⟨_, rfl⟩
      rw [← hs] at hx
      have HS : Hid (s = xs.getD k ByteArray.empty) := hs
      clear hs
      go_wp2_with fail
      go_roundw
      case rel => exact ⟨k + 1, by omega, by go_num, HO.out.step (by simp [ins_length xs p x (by rw [HL.out]; exact hp), HL.out]) (by omega) _ (by rw [map_getD _ _ (by rw [ins_length xs p x (by rw [HL.out]; exact hp), HL.out]; omega), ins_before xs p x _ (by rw [HL.out]; exact hp) k hlt, HS.out])⟩
      case measure => simp [intOf]; omega
    · have hkp : p = k := by omega
      subst hkp
      obtain ⟨v, hv⟩ := HO.out.cell p (by omega)
      have hf := HO.out.free p
      go_wp2_with fail
      have hO2 : Hid (OutAt w (wr.setCell ⟨w.heap.size, p, none⟩ (.string x)) (n + 1) ((ins xs p x).map Value.string) (p + 1)) :=
        HO.out.step (by simp [ins_length xs p x (by rw [HL.out]; exact hp), HL.out]) (by omega) _ (by rw [map_getD _ _ (by rw [ins_length xs p x (by rw [HL.out]; exact hp), HL.out]; omega), ins_at xs p x _ (by rw [HL.out]; exact hp)])
      clear hv hf HO
      go_loopw [9] (fun i wq => ∃ k : Nat, p ≤ k ∧ k ≤ n ∧ i = .int .i64 k ∧ Hid (OutAt w wq (n + 1) ((ins xs p x).map Value.string) (k + 1))) (fun i _ => n - (intOf i).toNat)
      case atStart => exact ⟨p, by omega, by omega, rfl, hO2⟩
      case round =>
        obtain ⟨k, hk1, hk2, rfl, HO⟩ := hrel
        clear hO2
        by_cases hlt : k < n
        · have hlt' : (k : Int) < (n : Int) := by omega
          obtain ⟨v, hv⟩ := HO.out.cell (k + 1) (by omega)
          have hf := HO.out.free (k + 1)
          have hx := (HO.out.below.cell (p := ⟨b, off + k, none⟩) hb).trans (HC.out k (by omega))
          obtain ⟨s, hs⟩ : ∃ s, s = xs.getD k ByteArray.empty := ⟨_, rfl⟩
          rw [← hs] at hx
          have HS : Hid (s = xs.getD k ByteArray.empty) := hs
          clear hs
          go_wp2_with fail
          go_roundw
          case rel => exact ⟨k + 1, by omega, by omega, by go_num, HO.out.step (by simp [ins_length xs p x (by rw [HL.out]; exact hp), HL.out]) (by omega) _ (by rw [map_getD _ _ (by rw [ins_length xs p x (by rw [HL.out]; exact hp), HL.out]; omega), ins_behind xs p x _ (by rw [HL.out]; exact hp) k hk1, HS.out])⟩
          case measure => simp [intOf]; omega
        · have hkn : n = k := by omega
          subst hkn
          go_wp2_with fail
          go_ret
          exact ⟨rfl, HO.out⟩

/-- zzB1Insert at whatever slice of strings, whatever place in it -/
theorem insert_any (oa : Option Addr) (n c p : Nat) (x : ByteArray) (xs : List ByteArray) (w : World) (hn : n * 16 ≤ 140737488355328) (hp : p ≤ n) (h : SV w (.slice oa n c) xs) :
    Calls Trym.prog 24 #[.slice oa n c, .int .i64 p, .string x] w fun e w' => e = .returned (.slice (some ⟨w.heap.size, 0, none⟩) (n + 1) (n + 1)) ∧ SV w' (.slice (some ⟨w.heap.size, 0, none⟩) (n + 1) (n + 1)) (ins xs p x) ∧ Below w.heap.size w w' := by
  obtain ⟨oa', c', e, h1, h2, h3⟩ := h
  injection e with e1 e2 e3
  subst e1 e3
  by_cases h0 : n = 0
  · subst h0
    obtain rfl : p = 0 := by omega
    have ex : xs = [] := List.length_eq_zero_iff.1 e2.symm
    subst ex
    refine (insert_none oa c x w).mono fun e w' ⟨he, hO⟩ => ?_
    exact ⟨he, OutAt.done (ss := [x]) hO rfl (by omega), hO.below⟩
  · obtain ⟨b, off, rfl, hb, hc⟩ := h3 (by omega)
    refine (insert_row b off n c p x xs w hn hp (by omega) e2.symm hb (fun i hi => hc i (by omega))).mono fun e w' ⟨he, hO⟩ => ?_
    exact ⟨he, OutAt.done hO (by rw [ins_length xs p x (by omega)]; omega) (by omega), hO.below⟩

/-- the same, the new block a letter -/
theorem insert_ex (oa : Option Addr) (n c p : Nat) (x : ByteArray) (xs : List ByteArray) (w : World) (hn : n * 16 ≤ 140737488355328) (hp : p ≤ n) (h : SV w (.slice oa n c) xs) :
    Calls Trym.prog 24 #[.slice oa n c, .int .i64 p, .string x] w fun e w' => ∃ g : Nat, e = .returned (.slice (some ⟨g, 0, none⟩) (n + 1) (n + 1)) ∧ SV w' (.slice (some ⟨g, 0, none⟩) (n + 1) (n + 1)) (ins xs p x) ∧ Below w.heap.size w w' :=
  (insert_any oa n c p x xs w hn hp h).mono fun _ _ h => ⟨_, h⟩

end Go.Proofs.Qxb6615774aMods.Walks
