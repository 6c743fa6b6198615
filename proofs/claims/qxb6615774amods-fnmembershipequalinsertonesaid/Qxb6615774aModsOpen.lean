/-
  Seat b6615774aM: a slice of strings among the arguments: from its reading as data to 'SV' (what the walks ask), and its bound off the form's own reach.
-/
import Derived.Test.Qxb6615774aModsEqual
import Derived.OpenShut
import Derived.ShutString
import Derived.ChangeOld
import Derived.Below
import Derived.SizedLaws
import Derived.SliceStrings
namespace Go.Proofs.Qxb6615774aMods.Walks
open Go.ChangeShapes Go.WideShapes Go.ChangeAt Go.RowKit

theorem bytes9 : Trym.prog.bytesOf 9 = 16 := by kernel_rfl
theorem cells9 : Trym.prog.cellsOf 9 = 1 := by kernel_rfl
theorem own : ownKnob Trym.prog.godebug = none := by kernel_rfl
theorem laidOut : laidOutB Trym.prog = true := by kernel_rfl

theorem take_getD (ss : List ByteArray) (n i : Nat) (hi : i < n) : (ss.take n).getD i ByteArray.empty = ss.getD i ByteArray.empty := by
  simp only [List.getD_eq_getElem?_getD]
  rw [List.getElem?_take_of_lt hi]

/-- the slice, opened: its datum is nil or a slice of so many elements and so much spare; bounded by the reach it is an 'SV' -/
theorem open_sv {H : Type} {enc : TypeId × Value → H} {W : World} {a : Option Addr} {len cap : Nat} {d : DataW H} {p : List MemPlace} (h : DataW.Trod enc Trym.prog W 0 (fun _ => true) true 25 (.slice a len cap) d p) :
    (len = 0 ∧ cap = 0 ∧ SV W (.slice a len cap) []) ∨
    ∃ (es sp : List (DataW H)) (ss : List ByteArray), d = .slice es sp ∧ es.length + sp.length = cap ∧ len ≤ cap ∧ (cap * 16 ≤ 281474976710656 → SV W (.slice a len cap) ss) := by
  obtain ⟨fuel, hf⟩ := h
  rcases open_strings Trym.underlying25 Trym.underlying9 cells9 hf with ⟨hcs, _⟩ | ⟨x, l, c, ss, hcs, _, hl, hm, hz, hx, hcell, hws⟩
  · simp [Value.cells] at hcs
    obtain ⟨rfl, rfl, rfl⟩ := hcs
    exact .inl ⟨rfl, rfl, ⟨none, 0, rfl, by simp, by omega, fun h0 => by simp at h0⟩⟩
  · simp [Value.cells] at hcs
    obtain ⟨rfl, rfl, rfl⟩ := hcs
    simp at hz
    simp only [Prod.mk.injEq] at hx
    have e : len = (ss.take len).length := by rw [List.length_take, hz]; omega
    refine .inr ⟨_, _, ss.take len, hx.1, by simp [strs, hz]; omega, hl, fun hb => ⟨some x, cap, by rw [← e], by omega, hb, fun h0 => ?_⟩⟩
    obtain ⟨b, off, spot⟩ := x
    have c0 := hcell 0 (by omega)
    have hspot : spot = none := by simpa [Addr.add] using World.cell?_spot c0
    subst hspot
    refine ⟨b, off, rfl, by simpa [Addr.add] using World.block_lt_of_cell? W _ c0, fun i hi => ?_⟩
    rw [← e] at hi
    rw [take_getD ss len i hi, ← add_plain]
    exact hcell i (by omega)

end Go.Proofs.Qxb6615774aMods.Walks
