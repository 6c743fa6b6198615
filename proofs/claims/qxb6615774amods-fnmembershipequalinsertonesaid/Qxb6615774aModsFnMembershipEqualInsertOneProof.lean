/-
  A proof of 'Rows.FnMembershipEqualInsertOneSaid' (seat b6615774aM). The walk: insOne.
  The frame follows the one that the kit's tool proof-skeleton.mjs writes for a law over slices, with a slice of strings and the sized builder in the place of a slice of integers.
-/
import Derived.Test.Qxb6615774aModsOpen
import Derived.Test.Qxb6615774aModsInsOne
namespace Go.Proofs.Qxb6615774aMods.fnMembershipEqualInsertOne
open Go.ChangeShapes Go.WideShapes Go.ChangeAt Go.RowKit
open Go.ChangeMaps (open_string shut_string)
open Go.Proofs.Qxb6615774aMods.Walks

set_option maxRecDepth 100000 in
theorem lifted (os : Os) (started : os.Started) (H : Type) (enc : TypeId × Value → H) :
    ReturnsInHanded {} Trym.checked os 8 .any (Rows.fnMembershipEqualInsertOneSpec.pre6 enc Trym.prog Trym.f8 Rows.fnMembershipEqualInsertOneRow.domain false) (Rows.fnMembershipEqualInsertOneSpec.post enc Trym.prog Trym.f8 false true false false) := by
  refine returnsInHanded_of_change_sized (C := Trym.checked) own started (by kernel_rfl) Trym.func8
    (ChangeSpec.witness6 (enc := enc) (C := Trym.checked) false ⟨#[], #[.string ByteArray.empty, .slice none 0 0, .string ByteArray.empty, .slice none 0 0, .string ByteArray.empty, .int .i64 0, .string ByteArray.empty, .int .u64 0, .int .u64 0], []⟩ 8 (by kernel_rfl) (by kernel_rfl) (by kernel_rfl) (by kernel_rfl)) ?_
  intro W base args ds gs before hval0 hW _ hsz0 _
  have hval : ∀ (j : Nat) t v, Trym.f8.params[j]? = some t → args[j]? = some v → Value.okWide Trym.prog W .any base t v := hval0
  have hsz : (DataW.weightsEach Trym.prog (Trym.f8.params.toList ++ Rows.fnMembershipEqualInsertOneSpec.plain.varTypes Trym.prog) (ds ++ gs)).all (· ≤ reachBytes) = true := hsz0
  have hW' := hW
  obtain ⟨p, q, hA0, hV, rfl, hfz, hnd⟩ := hW
  have hA : DataW.TrodAll enc Trym.prog W 0 (fun _ => true) true Trym.f8.params.toList args.toList ds p := hA0
  rw [Trym.params8] at hA hval hsz
  obtain ⟨v0, vs0, d0, ds0, p0, q0, hargs, rfl, rfl, h0, r0⟩ := trodAll_cons hA
  obtain ⟨v1, vs1, d1, ds1, p1, q1, rfl, rfl, rfl, h1, r1⟩ := trodAll_cons r0
  obtain ⟨v2, vs2, d2, ds2, p2, q2, rfl, rfl, rfl, h2, r2⟩ := trodAll_cons r1
  obtain ⟨v3, vs3, d3, ds3, p3, q3, rfl, rfl, rfl, h3, r3⟩ := trodAll_cons r2
  obtain ⟨v4, vs4, d4, ds4, p4, q4, rfl, rfl, rfl, h4, r4⟩ := trodAll_cons r3
  obtain ⟨v5, vs5, d5, ds5, p5, q5, rfl, rfl, rfl, h5, r5⟩ := trodAll_cons r4
  obtain ⟨v6, vs6, d6, ds6, p6, q6, rfl, rfl, rfl, h6, r6⟩ := trodAll_cons r5
  obtain ⟨v7, vs7, d7, ds7, p7, q7, rfl, rfl, rfl, h7, r7⟩ := trodAll_cons r6
  obtain ⟨v8, vs8, d8, ds8, p8, q8, rfl, rfl, rfl, h8, r8⟩ := trodAll_cons r7
  obtain ⟨rfl, rfl, rfl⟩ := trodAll_nil r8
  obtain rfl : args = #[v0, v1, v2, v3, v4, v5, v6, v7, v8] := by cases args; simp_all
  obtain ⟨rfl, rfl⟩ := trodVars_none hV
  obtain ⟨a0, rfl, rfl, rfl, w0⟩ := open_string Trym.underlying9 (hval 0 9 v0 rfl rfl) h0
  obtain ⟨a1, len1, cap1, rfl⟩ := okWide_slice Trym.underlying25 (hval 1 25 v1 rfl rfl)
  have lt1 : ∀ x ∈ p1, x.block < W.heap.size := by obtain ⟨m, hm⟩ := h1; exact DataW.trod_lt m _ _ _ hm
  obtain ⟨z1, b1, w1⟩ : ∃ ss, len1 * 16 ≤ 140737488355328 ∧ SV W (.slice a1 len1 cap1) ss := by
    rcases open_sv h1 with ⟨e1, _, hs⟩ | ⟨es, sp, ss, hd, hl, hc, hs⟩
    · exact ⟨[], by omega, hs⟩
    · have hr := sized_slice hsz (j := 1) (t := 25) (e := 9) rfl (by rw [hd]; rfl) Trym.underlying25
      rw [bytes9, hl] at hr
      simp only [reachBytes] at hr
      exact ⟨ss, by omega, hs (by omega)⟩
  obtain ⟨a2, rfl, rfl, rfl, w2⟩ := open_string Trym.underlying9 (hval 2 9 v2 rfl rfl) h2
  obtain ⟨a3, len3, cap3, rfl⟩ := okWide_slice Trym.underlying25 (hval 3 25 v3 rfl rfl)
  have lt3 : ∀ x ∈ p3, x.block < W.heap.size := by obtain ⟨m, hm⟩ := h3; exact DataW.trod_lt m _ _ _ hm
  obtain ⟨z3, b3, w3⟩ : ∃ ss, len3 * 16 ≤ 140737488355328 ∧ SV W (.slice a3 len3 cap3) ss := by
    rcases open_sv h3 with ⟨e1, _, hs⟩ | ⟨es, sp, ss, hd, hl, hc, hs⟩
    · exact ⟨[], by omega, hs⟩
    · have hr := sized_slice hsz (j := 3) (t := 25) (e := 9) rfl (by rw [hd]; rfl) Trym.underlying25
      rw [bytes9, hl] at hr
      simp only [reachBytes] at hr
      exact ⟨ss, by omega, hs (by omega)⟩
  obtain ⟨a4, rfl, rfl, rfl, w4⟩ := open_string Trym.underlying9 (hval 4 9 v4 rfl rfl) h4
  obtain ⟨a5, rfl, rfl, rfl, w5⟩ := open_int Trym.underlying3 (hval 5 3 v5 rfl rfl) h5
  obtain ⟨a6, rfl, rfl, rfl, w6⟩ := open_string Trym.underlying9 (hval 6 9 v6 rfl rfl) h6
  obtain ⟨a7, rfl, rfl, rfl, w7⟩ := open_int Trym.underlying26 (hval 7 26 v7 rfl rfl) h7
  obtain ⟨a8, rfl, rfl, rfl, w8⟩ := open_int Trym.underlying26 (hval 8 26 v8 rfl rfl) h8
  clear hA0 hval0 hsz0
  refine (insOne a0 a2 a4 a6 a1 a3 len1 cap1 len3 cap3 a5 a7 a8 z1 z3 W b1 b3 w1 w3).mono fun e W' ⟨he, bel⟩ => ?_
  subst he
  exact ⟨_, rfl, _, _, _, [], _, [], hW', trodAll_mk1 (shut_bool Trym.underlying4 _), (trodAll_cons_mk (shut_string Trym.underlying9 w0) (trodAll_cons_mk (Below.trod laidOut (by kernel_rfl) (of_decide_eq_true (by kernel_rfl)) h1 bel lt1) (trodAll_cons_mk (shut_string Trym.underlying9 w2) (trodAll_cons_mk (Below.trod laidOut (by kernel_rfl) (of_decide_eq_true (by kernel_rfl)) h3 bel lt3) (trodAll_cons_mk (shut_string Trym.underlying9 w4) (trodAll_cons_mk (shut_int Trym.underlying3 w5) (trodAll_cons_mk (shut_string Trym.underlying9 w6) (trodAll_cons_mk (shut_int Trym.underlying26 w7) (trodAll_cons_mk (shut_int Trym.underlying26 w8) trodAll_mk0))))))))), rfl, bel.frame _, fun h => by cases h⟩

theorem over : Rows.fnMembershipEqualInsertOneRow.holds Trym.pinned (OpenSpec.ofChange Rows.fnMembershipEqualInsertOneSpec) :=
  OpenClaim.holds_of_wide 8 Trym.f8 rfl rfl rfl rfl rfl rfl rfl ⟨rfl, rfl, rfl, rfl, rfl⟩ rfl rfl rfl rfl rfl (by kernel_rfl) Trym.func8 (by kernel_rfl)
    (of_decide_eq_true (by kernel_rfl)) (by unfold Func.isWrapper; first | (rw [if_pos (by decide +kernel)]; kernel_rfl) | (rw [if_neg (by decide +kernel)]; exact ⟨rfl, rfl⟩))
    (fun os started H enc _ => lifted os started H enc)

/-- the statement -/
theorem proved : Rows.FnMembershipEqualInsertOneSaid :=
  over
#print axioms proved
end Go.Proofs.Qxb6615774aMods.fnMembershipEqualInsertOne
