/-
  What 'want' holds; append into the room that stands; make with room.
-/
import Derived.Test.Qxb6601408aFinTop
import Derived.Test.Qxb6601408aFinPlain2
import Derived.OwnWalk
namespace Go.Proofs.Qxb6601408a.Fin
open Go.RowKit
set_option linter.unusedVariables false

/-- q holds, from its start on, the first b stretches of d, each sorted -/
structure Want (S X : Nat → Nat) (b : Nat) (d q : Nat → Int) : Prop where
  sorted : ∀ c, c < b → Sorted (En S X c) (En S X (c + 1)) q
  cnt : ∀ c, c < b → ∀ v, cnt q (En S X c) v (X c - S c) = cnt d (S c) v (X c - S c)
theorem Want.start (S X : Nat → Nat) (d q : Nat → Int) : Want S X 0 d q := ⟨fun c h => by omega, fun c h => by omega⟩
theorem Want.step {S X : Nat → Nat} {b : Nat} {d q r : Nat → Int} (h : Want S X b d q) (hp : Perm 0 (X b - S b) (fun t => d (S b + t)) r) (hs : Sorted 0 (X b - S b) r) : Want S X (b + 1) d (Fin.join q (En S X b) (X b - S b) r) := by
  have e0 : En S X (b + 1) = En S X b + (X b - S b) := rfl
  refine ⟨fun c hc => ?_, fun c hc v => ?_⟩
  · by_cases e : c = b
    · subst e; rw [e0]; exact Sorted.join hs
    · have hm2 : En S X (c + 1) ≤ En S X b := En.mono S X (by omega)
      exact (h.sorted c (by omega)).congr fun i _ g => join_out _ _ _ _ _ (by omega)
  · by_cases e : c = b
    · subst e
      have a1 := cnt_shift (Fin.join q (En S X c) (X c - S c) r) 0 (En S X c) v (X c - S c)
      have a2 := cnt_shift d 0 (S c) v (X c - S c)
      have a3 := hp.cnt v
      rw [Nat.add_zero] at a1 a2
      rw [Nat.sub_zero] at a3
      rw [← a1, ← a2, ← a3]
      exact cnt_congr v _ fun i _ g => join_in _ _ _ _ i (by omega)
    · have hm2 : En S X (c + 1) ≤ En S X b := En.mono S X (by omega)
      have e1 : En S X (c + 1) = En S X c + (X c - S c) := rfl
      rw [cnt_congr v _ fun i g1 g2 => join_out q _ _ r i (by omega)]
      exact h.cnt c (by omega) v
theorem Str.want {S X : Nat → Nat} {d d1 q : Nat → Int} (h : Str S X 256 d d1) (k : Want S X 256 d q) (p : Nat) (hp : p < En S X 256) : d1 p = q p := by
  obtain ⟨c, c1, c2, c3⟩ := En.find S X 256 p hp
  have e0 : En S X (c + 1) = En S X c + (X c - S c) := rfl
  have s1 := h.sorted c c1
  have s2 := k.sorted c c1
  rw [e0] at s1 s2
  have := uniq (X c - S c) (En S X c) (En S X c) d1 q s1 s2 (fun v => (h.cnt c c1 v).trans (k.cnt c c1 v).symm) (p - En S X c) (by omega)
  rw [show En S X c + (p - En S X c) = p from by omega] at this
  exact this

/-- append of m numbers r into the room behind the t first of n -/
theorem append_run (w : World) (g t n sb so m c : Nat) (q r : Nat → Int) (ty : TypeId) (h : Hold w g 0 n q) (hm : t + m ≤ n) (hs : ∀ j, j < m → w.cell? ⟨sb, so + j, none⟩ = some (.int .u64 (r j))) :
    ∃ w', (Builtin.append_ #[33, 33] ty #[.slice (some ⟨g, 0, none⟩) t n, .slice (some ⟨sb, so, none⟩) m c]).run Try.prog w = .ok (.slice (some ⟨g, 0, none⟩) (t + m) n) w' ∧ Keep g t m w w' ∧ Hold w' g t m r := by
  obtain ⟨i0, hi, hz0, hz1, hz2⟩ := info_parts info26
  have hf := run_firstCells_some (P := Try.prog) w 1 m ⟨sb, so, none⟩ m c (ints r m) (by rw [ints_len]; omega) (fun j v hj => by obtain ⟨h1, rfl⟩ := ints_some hj; rw [Addr.add_lit]; exact hs j h1)
  have hc : ∀ j, j < (ints r m).length → (w.cell? ⟨g, t + 0 + j, none⟩).isSome = true := fun j hj => by
    rw [ints_len] at hj
    have := h.cell (t + j) (by omega)
    rw [Nat.zero_add] at this
    rw [Nat.add_zero, this]; rfl
  have hz : ∀ j, j < (ints r m).length → w.frozen? ⟨g, t + 0 + j, none⟩ = false := fun j hj => by
    rw [ints_len] at hj
    have := h.loose (t + j) (by omega)
    rw [Nat.zero_add] at this
    rw [Nat.add_zero]; exact this
  have hst := run_storeCells_cells (P := Try.prog) g t (ints r m) 0 w hc hz (ints_one _ _)
  have hadd : (⟨g, 0, none⟩ : Addr).add t = ⟨g, t, none⟩ := by rw [Addr.add_lit, Nat.zero_add]
  refine ⟨_, ?_, keep_setCells g t m (ints r m) 0 w (by rw [ints_len]; omega), ⟨fun j hj => ?_, fun j hj => ?_⟩⟩
  · simp [Builtin.append_, run_underlying Try.underlying33, sizeOf, typeInfo, hi, hz1, Builtin.lenOf, hm, hf, hadd]
    rw [hst]
    simp
  · have := World.cell?_setCells_in g (ints r m) t w (fun j hj => by have := hc j hj; rw [Nat.add_zero] at this; exact this) j (by rw [ints_len]; exact hj)
    show (w.setCells g (t + 0) (ints r m)).cell? _ = _
    rw [Nat.add_zero, this]
    have e := ints_get r m j hj
    rw [List.getElem?_eq_getElem (by rw [ints_len]; exact hj)] at e
    exact e
  · rw [World.frozen?_setCells]
    have := hz j (by rw [ints_len]; exact hj)
    rw [Nat.add_zero] at this; exact this
theorem append_run_nil (w : World) (g t n : Nat) (ty : TypeId) (hm : t ≤ n) :
    (Builtin.append_ #[33, 33] ty #[.slice (some ⟨g, 0, none⟩) t n, .slice none 0 0]).run Try.prog w = .ok (.slice (some ⟨g, 0, none⟩) t n) w := by
  obtain ⟨i0, hi, hz0, hz1, hz2⟩ := info_parts info26
  simp [Builtin.append_, run_underlying Try.underlying33, sizeOf, typeInfo, hi, Builtin.lenOf, hm, run_firstCells_none, storeCells]

theorem wpList_append_hold {w : World} {ops : Array Oper} {rest : List Oper} {o : Oper} {a : Act} {Q : Exit → Act → World → Prop} (hgd : o.guard = none) (ds ss : Operand)
    (ho : o.op = .call { callee := .builtin .append, args := #[ds, ss], argTypes := #[33, 33] }) (g t n sb so m c : Nat) (q r : Nat → Int) (hde : a.eval ds = .slice (some ⟨g, 0, none⟩) t n) (hse : a.eval ss = .slice (some ⟨sb, so, none⟩) m c)
    (h : Hold w g 0 n q) (hm : t + m ≤ n) (hs : ∀ j, j < m → w.cell? ⟨sb, so + j, none⟩ = some (.int .u64 (r j)))
    (hk : ∀ w', Hid (Keep g t m w w') → Hid (Hold w' g t m r) → wpList Try.prog ops Q rest (a.put o.dst (.slice (some ⟨g, 0, none⟩) (t + m) n)) w') : wpList Try.prog ops Q (o :: rest) a w := by
  obtain ⟨w', hrun, h1, h2⟩ := append_run w g t n sb so m c q r o.type h hm hs
  refine wpList_plain hgd fun K hK => ?_
  unfold Oper.wp
  simp [execOp, ho, resolve, invoke, builtin, hde, hse, hrun, Result.andThen]
  exact hK _ _ (hk w' h1 h2)
theorem wpList_append_none {w : World} {ops : Array Oper} {rest : List Oper} {o : Oper} {a : Act} {Q : Exit → Act → World → Prop} (hgd : o.guard = none) (ds ss : Operand)
    (ho : o.op = .call { callee := .builtin .append, args := #[ds, ss], argTypes := #[33, 33] }) (g t n : Nat) (hde : a.eval ds = .slice (some ⟨g, 0, none⟩) t n) (hse : a.eval ss = .slice none 0 0)
    (hm : t ≤ n) (hk : wpList Try.prog ops Q rest (a.put o.dst (.slice (some ⟨g, 0, none⟩) t n)) w) : wpList Try.prog ops Q (o :: rest) a w := by
  have hrun := append_run_nil w g t n o.type hm
  refine wpList_plain hgd fun K hK => ?_
  unfold Oper.wp
  simp [execOp, ho, resolve, invoke, builtin, hde, hse, hrun, Result.andThen]
  exact hK _ _ hk

theorem wpList_make_room (w : World) {ops : Array Oper} {rest : List Oper} {o : Oper} {a : Act} {Q : Exit → Act → World → Prop} (hgd : o.guard = none) (l c : Operand) (hop : o.op = Op.makeSlice 33 l c) (n : Nat)
    (hl : a.eval l = .int .i64 0) (hc : a.eval c = .int .i64 n) (hn : n ≤ 65536)
    (hK : ∀ w', Hid (RowKit.Below w.heap.size w w') → Hid (Hold w' w.heap.size 0 n (fun _ => 0)) → Hid (w'.heap.size = w.heap.size + 1) → wpList Try.prog ops Q rest (a.put o.dst (.slice (some ⟨w.heap.size, 0, none⟩) 0 n)) w') :
    wpList Try.prog ops Q (o :: rest) a w := by
  obtain ⟨i0, hi, hz0, hz1, hz2⟩ := info_parts info26
  have hr := run_make (P := Try.prog) w 33 26 i0 (.int .u64 0) Try.underlying33 hi hz0 .i64 .i64 0 (n : Int) (by omega) (by omega) (by rw [hz2]; omega) (by omega)
  simp only [Int.toNat_zero, Int.toNat_natCast, hz1] at hr
  refine wpList_plain hgd fun K hK' => ?_
  unfold Oper.wp
  simp [execOp, hop, hl, hc, hr, Result.andThen]
  refine hK' _ _ (hK _ ((RowKit.Below.refl _ _).alloc (Nat.le_refl _) _) ⟨fun t ht => ?_, fun t ht => ?_⟩ (World.size_alloc ..))
  · rw [Nat.zero_add, World.cell?_alloc_new, ← Array.getElem?_toList]
    have e : (madeCells (Value.int .u64 0).cells n).toList[t]? = some (.int .u64 0) := by
      show (madeCells #[Value.int .u64 0] n).toList[t]? = _
      rw [toList_madeCells_one, List.getElem?_replicate, if_pos (by omega)]
    exact e
  · rw [Nat.zero_add]
    simp only [World.frozen?]
    rw [heap_at]
    simp
end Go.Proofs.Qxb6601408a.Fin
