/-
  The arguments: a map of slices of pointers to strings; a slice of strings. The laws at the look-up and at len.
-/
import Derived.Test.Qxb6601681aNonPlain
import Derived.WalkKit
import Derived.WalkSpells
import Derived.WalkLawsBesides
import Derived.Deep.QuietTactic
import Derived.BigQuiet
import Derived.Laws.Cover1
namespace Go.Proofs.Qxb6601681a.Non
open Go.RowKit
set_option linter.unusedVariables false

/-- a slice of pointers to strings that can be read -/
def RS (w : World) (v : Value) : Prop :=
  v = .slice none 0 0 ∨ ∃ (a : Addr) (l c : Nat) (pt : Nat → Option Addr), v = .slice (some a) l c ∧ l ≤ maxLen ∧
    (0 < l → ∃ b off, a = ⟨b, off, none⟩ ∧ b < w.heap.size ∧ ∀ j, j < l → w.cell? ⟨b, off + j, none⟩ = some (.pointer (pt j))) ∧
    ∀ j, j < l → ∀ p, pt j = some p → ∃ pb po s, p = ⟨pb, po, none⟩ ∧ pb < w.heap.size ∧ w.cell? ⟨pb, po, none⟩ = some (.string s) ∧ s.size ≤ maxLen
theorem RS.on {w w' : World} {v : Value} (h : RS w v) (hB : Below w.heap.size w w') : RS w' v := by
  rcases h with h | ⟨a, l, c, pt, h1, h2, h3, h4⟩
  · exact .inl h
  · refine .inr ⟨a, l, c, pt, h1, h2, fun h0 => ?_, fun j hj p hp => ?_⟩
    · obtain ⟨b, off, e1, e2, e3⟩ := h3 h0
      exact ⟨b, off, e1, Nat.lt_of_lt_of_le e2 hB.size, fun j hj => by rw [hB.cell (by exact e2)]; exact e3 j hj⟩
    · obtain ⟨pb, po, s, e1, e2, e3, e4⟩ := h4 j hj p hp
      exact ⟨pb, po, s, e1, Nat.lt_of_lt_of_le e2 hB.size, by rw [hB.cell (by exact e2)]; exact e3, e4⟩
theorem RS.gen {w : World} {v : Value} (h : RS w v) : ∃ (A : Option Addr) (l c : Nat) (pt : Nat → Option Addr), v = .slice A l c ∧ l ≤ maxLen ∧ (A = none → l = 0 ∧ c = 0) ∧
    (0 < l → ∃ b off, A = some ⟨b, off, none⟩ ∧ b < w.heap.size ∧ ∀ j, j < l → w.cell? ⟨b, off + j, none⟩ = some (.pointer (pt j))) ∧
    ∀ j, j < l → ∀ p, pt j = some p → ∃ pb po s, p = ⟨pb, po, none⟩ ∧ pb < w.heap.size ∧ w.cell? ⟨pb, po, none⟩ = some (.string s) ∧ s.size ≤ maxLen := by
  rcases h with rfl | ⟨a, l, c, pt, rfl, h2, h3, h4⟩
  · exact ⟨none, 0, 0, fun _ => none, rfl, Nat.zero_le _, fun _ => ⟨rfl, rfl⟩, fun h => by omega, fun j hj => by omega⟩
  · refine ⟨some a, l, c, pt, rfl, h2, fun h => (by cases h), fun h0 => ?_, h4⟩
    obtain ⟨b, off, e1, e2, e3⟩ := h3 h0
    exact ⟨b, off, by rw [e1], e2, e3⟩
/-- a slice's length -/
def len (v : Value) : Nat := match v with | .slice _ l _ => l | _ => 0

/-- the map that came in -/
structure PM (w : World) (pm : Value) (look : ByteArray → Value) (cnt : Nat) : Prop where
  map : (pm = .map none ∧ cnt = 0 ∧ ∀ s, look s = .slice none 0 0) ∨ ∃ b N, ∃ D : DataW Value, pm = .map (some b) ∧ w.ownsMap Try.prog 9 RH b N D ∧ cnt = Maps.size D ∧ ∀ s : ByteArray, s.size ≤ maxLen → D.atKey (L s) (.held (.slice none 0 0)) = .held (look s)
  read : ∀ s : ByteArray, s.size ≤ maxLen → RS w (look s)
  small : cnt ≤ maxLen
theorem owns_on {w w' : World} {b N : Nat} {D : DataW Value} (h : w.ownsMap Try.prog 9 RH b N D) (hB : Below w.heap.size w w') : w'.ownsMap Try.prog 9 RH b N D :=
  h.kept (row := none) ⟨hB.os, hB.tape, hB.output, hB.size, fun i hi _ => hB.block i hi⟩ (by simp)
theorem owns_under {w w' : World} {b N B : Nat} {D : DataW Value} (h : w.ownsMap Try.prog 9 RH b N D) (hB : Below B w w') (hb : b < B) : w'.ownsMap Try.prog 9 RH b N D := by
  obtain ⟨es, clock, h1, h2⟩ := h
  exact ⟨es, clock, (hB.block b hb).trans h1, h2⟩
theorem PM.on {w w' : World} {pm : Value} {look : ByteArray → Value} {cnt : Nat} (h : PM w pm look cnt) (hB : Below w.heap.size w w') : PM w' pm look cnt := by
  refine ⟨?_, fun s hs => (h.read s hs).on hB, h.small⟩
  rcases h.map with g | ⟨b, N, D, g1, g2, g3⟩
  · exact .inl g
  · exact .inr ⟨b, N, D, g1, owns_on g2 hB, g3⟩
theorem PM.get {w : World} {pm : Value} {look : ByteArray → Value} {cnt : Nat} (h : PM w pm look cnt) {s : ByteArray} (hs : s.size ≤ maxLen) : (Instr.lookup 32 pm (.string s) false).run Try.prog w = .ok (look s) w := by
  rcases h.map with ⟨rfl, _, g⟩ | ⟨b, N, D, rfl, g2, _, g3⟩
  · rw [Maps.look_nil false keyed9 Try.underlying32 (zero42 w) (keyL hs), g s]; rfl
  · obtain ⟨v, ps, h1, h2⟩ := g2.lookup keyed9 Try.underlying32 (zero42 w) (RH_mk none 0 0) (keyL hs)
    obtain ⟨c, h3, h4⟩ := RH_inv h2
    rw [g3 s hs] at h4
    injection h4 with h4
    injection h4 with h4
    rw [h1, ← h4]
theorem PM.getok {w : World} {pm : Value} {look : ByteArray → Value} {cnt : Nat} (h : PM w pm look cnt) {s : ByteArray} (hs : s.size ≤ maxLen) : ∃ k, (Instr.lookup 32 pm (.string s) true).run Try.prog w = .ok (.tuple #[look s, .bool k]) w := by
  rcases h.map with ⟨rfl, _, g⟩ | ⟨b, N, D, rfl, g2, _, g3⟩
  · exact ⟨false, by rw [Maps.look_nil true keyed9 Try.underlying32 (zero42 w) (keyL hs), g s]; rfl⟩
  · obtain ⟨v, ps, h1, h2⟩ := g2.look_ok keyed9 Try.underlying32 (zero42 w) (RH_mk none 0 0) (keyL hs)
    obtain ⟨c, h3, h4⟩ := RH_inv h2
    rw [g3 s hs] at h4
    injection h4 with h4
    injection h4 with h4
    exact ⟨_, by rw [h1, ← h4]⟩
theorem PM.lenRun {w : World} {pm : Value} {look : ByteArray → Value} {cnt : Nat} (h : PM w pm look cnt) (ty : TypeId) : (Builtin.len_ #[32] ty #[pm]).run Try.prog w = .ok (.int .i64 cnt) w := by
  rcases h.map with ⟨rfl, rfl, _⟩ | ⟨b, N, D, rfl, g2, rfl, _⟩
  · rw [Maps.len_nil Try.underlying32]; rfl
  · exact g2.len Try.underlying32 ty

/-- the slice of strings -/
structure KS (w : World) (A : Option Addr) (n : Nat) (ks : Nat → ByteArray) : Prop where
  at_ : 0 < n → ∃ b off, A = some ⟨b, off, none⟩ ∧ b < w.heap.size ∧ ∀ j, j < n → w.cell? ⟨b, off + j, none⟩ = some (.string (ks j))
  size : ∀ j, (ks j).size ≤ maxLen
theorem KS.on {w w' : World} {A : Option Addr} {n : Nat} {ks : Nat → ByteArray} (h : KS w A n ks) (hB : Below w.heap.size w w') : KS w' A n ks := by
  refine ⟨fun h0 => ?_, h.size⟩
  obtain ⟨b, off, e1, e2, e3⟩ := h.at_ h0
  exact ⟨b, off, e1, Nat.lt_of_lt_of_le e2 hB.size, fun j hj => by rw [hB.cell (by exact e2)]; exact e3 j hj⟩

section
variable {w : World} {ops : Array Oper} {rest : List Oper} {o : Oper} {a : Act} {Q : Exit → Act → World → Prop}
theorem wpList_lookup_run (hg : o.guard = none) (m x : Operand) (c : Bool) (hop : o.op = Op.lookup 32 m x c) (mv kv v : Value) (hm : a.eval m = mv) (hx : a.eval x = kv) (hrun : (Instr.lookup 32 mv kv c).run Try.prog w = .ok v w)
    (hK : wpList Try.prog ops Q rest (a.put o.dst v) w) : wpList Try.prog ops Q (o :: rest) a w := by
  refine wpList_plain hg fun K' hK' => ?_
  unfold Oper.wp
  simp [execOp, hop, hm, hx, hrun, Result.andThen]
  exact hK' _ _ hK
theorem wpList_len_run (hg : o.guard = none) (m : Operand) (hop : o.op = .call { callee := .builtin .len, args := #[m], argTypes := #[32] }) (mv v : Value) (hm : a.eval m = mv) (hrun : ∀ ty, (Builtin.len_ #[32] ty #[mv]).run Try.prog w = .ok v w)
    (hK : wpList Try.prog ops Q rest (a.put o.dst v) w) : wpList Try.prog ops Q (o :: rest) a w := by
  refine wpList_plain hg fun K' hK' => ?_
  unfold Oper.wp
  simp [execOp, hop, resolve, invoke, builtin, hm, hrun, Result.andThen]
  exact hK' _ _ hK
theorem wpList_lookup_ok (hg : o.guard = none) (m x : Operand) (hop : o.op = Op.lookup 32 m x true) (pm : Value) (u : ByteArray) (look : ByteArray → Value) (cnt : Nat) (hm : a.eval m = pm) (hx : a.eval x = .string u) (hP : PM w pm look cnt) (hu : u.size ≤ maxLen)
    (hK : ∀ k, wpList Try.prog ops Q rest (a.put o.dst (.tuple #[look u, .bool k])) w) : wpList Try.prog ops Q (o :: rest) a w := by
  obtain ⟨k, hk⟩ := hP.getok hu
  exact wpList_lookup_run hg m x true hop pm (.string u) _ hm hx hk (hK k)
theorem wpList_lookup_pm (hg : o.guard = none) (m x : Operand) (hop : o.op = Op.lookup 32 m x false) (pm : Value) (u : ByteArray) (look : ByteArray → Value) (cnt : Nat) (v : Value) (hm : a.eval m = pm) (hx : a.eval x = .string u) (hP : PM w pm look cnt) (hu : u.size ≤ maxLen) (hv : look u = v)
    (hK : wpList Try.prog ops Q rest (a.put o.dst v) w) : wpList Try.prog ops Q (o :: rest) a w := by
  subst hv
  exact wpList_lookup_run hg m x false hop pm (.string u) _ hm hx (hP.get hu) hK
end
end Go.Proofs.Qxb6601681a.Non
