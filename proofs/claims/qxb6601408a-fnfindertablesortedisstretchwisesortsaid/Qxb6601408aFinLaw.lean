/-
  The two laws' common head: the boxes, the tests of size, the domain.
-/
import Derived.Test.Qxb6601408aFinNilTop
namespace Go.Proofs.Qxb6601408a.Fin
open Go.RowKit
set_option linter.unusedVariables false

/-- the three arrays lie boxed in the blocks h, h + 1, h + 2 -/
structure Rows3 (w : World) (h : Nat) (sa xa ca : Array Value) : Prop where
  s : w.heap[h]? = some (.cells sa 34 (0, 0))
  x : w.heap[h + 1]? = some (.cells xa 35 (0, 0))
  c : w.heap[h + 1 + 1]? = some (.cells ca 35 (0, 0))
theorem Rows3.on {w w' : World} {h : Nat} {sa xa ca : Array Value} (r : Rows3 w h sa xa ca) (hB : RowKit.Below (h + 1 + 1 + 1) w w') : Rows3 w' h sa xa ca :=
  ⟨(hB.block h (by omega)).trans r.s, (hB.block (h + 1) (by omega)).trans r.x, (hB.block (h + 1 + 1) (by omega)).trans r.c⟩
theorem Rows3.cellS {w : World} {h : Nat} {sa xa ca : Array Value} (r : Rows3 w h sa xa ca) (i : Nat) : w.cell? ⟨h, i, none⟩ = sa[i]? := by simp [World.cell?, r.s]
theorem Rows3.cellX {w : World} {h : Nat} {sa xa ca : Array Value} (r : Rows3 w h sa xa ca) (i : Nat) : w.cell? ⟨h + 1, i, none⟩ = xa[i]? := by simp [World.cell?, r.x]
theorem rows3 (w : World) (sa xa ca : Array Value) : ∃ w1, w1 = ((w.alloc (Obj.cells sa 34)).alloc (Obj.cells xa 35)).alloc (Obj.cells ca 35) ∧ Rows3 w1 w.heap.size sa xa ca ∧ RowKit.Below w.heap.size w w1 ∧ w1.heap.size = w.heap.size + 1 + 1 + 1 := by
  have z1 : (w.alloc (Obj.cells sa 34)).heap.size = w.heap.size + 1 := size_alloc' _ _
  have z2 : ((w.alloc (Obj.cells sa 34)).alloc (Obj.cells xa 35)).heap.size = w.heap.size + 1 + 1 := by rw [size_alloc', z1]
  have z3 : (((w.alloc (Obj.cells sa 34)).alloc (Obj.cells xa 35)).alloc (Obj.cells ca 35)).heap.size = w.heap.size + 1 + 1 + 1 := by rw [size_alloc', z2]
  refine ⟨_, rfl, ⟨?_, ?_, ?_⟩, (((RowKit.Below.refl _ _).alloc (Nat.le_refl _) _).alloc (by omega) _).alloc (by omega) _, z3⟩
  · rw [RowKit.Below.heap_alloc _ _ _ (by omega), RowKit.Below.heap_alloc _ _ _ (by omega), heap_at]
  · rw [RowKit.Below.heap_alloc _ _ _ (by omega), ← z1, heap_at]
  · rw [← z2, heap_at]
/-- what the argument's slice holds -/
def Arg (A : Option Addr) (n cap : Nat) (d : Nat → Int) (w : World) : Prop :=
  (A = none ∧ n = 0 ∧ cap = 0) ∨ ∃ b off, A = some ⟨b, off, none⟩ ∧ (0 < n → b < w.heap.size) ∧ ∀ j, j < n → w.cell? ⟨b, off + j, none⟩ = some (.int .u64 (d j))
theorem Arg.reads {A : Option Addr} {n cap : Nat} {d : Nat → Int} {w w' : World} (h : Arg A n cap d w) (hB : RowKit.Below w.heap.size w w') : 0 < n → ∃ b off, A = some ⟨b, off, none⟩ ∧ b < w'.heap.size ∧ ∀ j, j < n → w'.cell? ⟨b, off + j, none⟩ = some (.int .u64 (d j)) := by
  intro hn
  rcases h with h | ⟨b, off, h1, h2, h3⟩
  · omega
  · exact ⟨b, off, h1, Nat.lt_of_lt_of_le (h2 hn) hB.size, fun j hj => by rw [hB.cell (by exact h2 hn)]; exact h3 j hj⟩
def TrueAns (w : World) (e : Ending) (w' : World) : Prop := e = .returned (.bool true) ∧ RowKit.Below w.heap.size w w'
end Go.Proofs.Qxb6601408a.Fin
