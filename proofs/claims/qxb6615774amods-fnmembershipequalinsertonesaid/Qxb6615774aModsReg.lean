/-
  Seat b6615774aM: a membership as a block of memory; what lay there lies there still.
-/
import Derived.Test.Qxb6615774aModsEqual
namespace Go.Proofs.Qxb6615774aMods.Walks
open Go.ChangeShapes Go.WideShapes Go.ChangeAt Go.RowKit
open Go.Proofs.Qxb6615774aMods.Plain

/-- a membership as a block of its own -/
def mem (i : ByteArray) (v : Value) (c : ByteArray) (k s : Int) : Obj := .cells #[.string i, v, .string c, .int .u64 k, .int .u64 s] 31
def e0 : ByteArray := ⟨#[]⟩

theorem eqM_self (i : ByteArray) (xs : List ByteArray) : eqM i i xs xs = true := by
  unfold eqM
  rw [decide_eq_true ⟨rfl, rfl⟩]

/-- all that lay in W lies in w' (behind a name) -/
def Reg (W w' : World) : Prop := Below W.heap.size W w'

theorem Reg.step {W w1 w2 : World} {p : Prop} (h : Reg W w1 ∧ p) (hb : Below w1.heap.size w1 w2) : Reg W w2 := Below.trans h.1 (hb.mono (Below.size h.1))
theorem Reg.get {W w1 : World} {p : Prop} (h : Reg W w1 ∧ p) : Below W.heap.size W w1 := h.1

theorem cell5 {W w' : World} {b : Nat} {v0 v1 v2 v3 v4 : Value} {t : TypeId} (h : W.heap[b]? = some (.cells #[v0, v1, v2, v3, v4] t)) (hr : Reg W w') :
    w'.cell? ⟨b, 0, none⟩ = some v0 ∧ w'.cell? ⟨b, 1, none⟩ = some v1 ∧ w'.cell? ⟨b, 2, none⟩ = some v2 ∧ w'.cell? ⟨b, 3, none⟩ = some v3 ∧ w'.cell? ⟨b, 4, none⟩ = some v4 := by
  have hb : b < W.heap.size := (Array.getElem?_eq_some_iff.1 h).1
  have h' : w'.heap[b]? = some (.cells #[v0, v1, v2, v3, v4] t) := by rw [Below.block hr b hb, h]
  refine ⟨?_, ?_, ?_, ?_, ?_⟩ <;> rw [cell_of_row w' b _ _ _ _ h'] <;> rfl

end Go.Proofs.Qxb6615774aMods.Walks
