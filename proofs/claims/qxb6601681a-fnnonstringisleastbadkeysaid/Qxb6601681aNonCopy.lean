/-
  The walks of regB1CopyKeys and regB1CopyProps.
-/
import Derived.Test.Qxb6601681aNonStr
import Derived.OwnWalk
namespace Go.Proofs.Qxb6601681a.Non
open Go.RowKit
set_option linter.unusedVariables false

/-- a row of n cells that may be written -/
structure Row (w : World) (g n : Nat) (f : Nat → Value) : Prop where
  cell : ∀ t, t < n → w.cell? ⟨g, t, none⟩ = some (f t)
  loose : ∀ t, t < n → w.frozen? ⟨g, t, none⟩ = false
def put (f : Nat → Value) (k : Nat) (v : Value) : Nat → Value := fun t => if t = k then v else f t
theorem Row.set {w : World} {g n : Nat} {f : Nat → Value} (h : Row w g n f) {k : Nat} (hk : k < n) (v : Value) : Row (w.setCell ⟨g, k, none⟩ v) g n (put f k v) := by
  refine ⟨fun t ht => ?_, fun t ht => by rw [World.frozen?_setCell]; exact h.loose t ht⟩
  by_cases e : t = k
  · subst e
    rw [World.cell?_setCell_same _ _ _ (h.cell t ht)]
    simp [put]
  · rw [World.cell?_setCell_other _ _ _ _ (by intro c; injection c with _ c; exact e c.symm), h.cell t ht]
    simp [put, e]
theorem Row.on {w w' : World} {g n B : Nat} {f : Nat → Value} (h : Row w g n f) (hB : Below B w w') (hg : g < B) : Row w' g n f :=
  ⟨fun t ht => by rw [hB.cell (by exact hg)]; exact h.cell t ht, fun t ht => by rw [World.frozen?_of_block (w := w) (hB.block g hg)]; exact h.loose t ht⟩
theorem Row.congr {w : World} {g n : Nat} {f f' : Nat → Value} (h : Row w g n f) (e : ∀ t, t < n → f' t = f t) : Row w g n f' := ⟨fun t ht => by rw [e t ht]; exact h.cell t ht, h.loose⟩

theorem info9 : (Try.prog.info? 9).map (fun i => (i.zero, i.size, i.bytes)) = some (some (.string ByteArray.empty), 1, 16) := by kernel_rfl
theorem info50 : (Try.prog.info? 50).map (fun i => (i.zero, i.size, i.bytes)) = some (some (.pointer none), 1, 8) := by kernel_rfl
theorem heap_at (w : World) (o : Obj) : (w.alloc o).heap[w.heap.size]? = some o := by
  show (w.heap.push o)[w.heap.size]? = some o
  simp

theorem wpList_make_cells (w : World) {ops : Array Oper} {rest : List Oper} {o : Oper} {a : Act} {Q : Exit → Act → World → Prop} (hgd : o.guard = none) (l c : Operand) (t : TypeId) (hop : o.op = Op.makeSlice t l c) (e : TypeId) (n : Nat) (z : Value) (bytes : Nat)
    (ht : Try.prog.underlying t = some (.slice e)) (hi : (Try.prog.info? e).map (fun i => (i.zero, i.size, i.bytes)) = some (some z, 1, bytes)) (hz1 : z.cells = #[z]) (hl : a.eval l = .int .i64 n) (hc : a.eval c = .int .i64 n) (hb : (bytes : Int) * n ≤ 281474976710656) (hn : n ≤ maxLen)
    (hK : ∀ w', Hid (Below w.heap.size w w') → Hid (Row w' w.heap.size n (fun _ => z)) → Hid (w'.heap.size = w.heap.size + 1) → wpList Try.prog ops Q rest (a.put o.dst (.slice (some ⟨w.heap.size, 0, none⟩) n n)) w') :
    wpList Try.prog ops Q (o :: rest) a w := by
  obtain ⟨i0, hi0, hz0, hzs, hzb⟩ := info_parts hi
  have h63 : (n : Int) ≤ 9223372036854775807 := by unfold maxLen at hn; omega
  have hr := run_make (P := Try.prog) w t e i0 z ht hi0 hz0 .i64 .i64 (n : Int) (n : Int) (by omega) (by omega) (by rw [hzb]; exact hb) h63
  simp only [Int.toNat_natCast, hzs] at hr
  refine wpList_plain hgd fun K hK' => ?_
  unfold Oper.wp
  simp [execOp, hop, hl, hc, hr, Result.andThen]
  refine hK' _ _ (hK _ ((Below.refl _ _).alloc (Nat.le_refl _) _) ⟨fun t ht => ?_, fun t ht => ?_⟩ (World.size_alloc ..))
  · rw [World.cell?_alloc_new, ← Array.getElem?_toList, hz1]
    rw [toList_madeCells_one, List.getElem?_replicate, if_pos (by omega)]
  · simp only [World.frozen?]
    rw [heap_at]
    simp

def CkAns (n : Nat) (ks : Nat → ByteArray) (w : World) (e : Ending) (w' : World) : Prop := ∃ A' cap', e = .returned (.slice A' n cap') ∧ Below w.heap.size w w' ∧ KS w' A' n ks

set_option maxHeartbeats 1000000 in
theorem ck_c (A : Option Addr) (n cap : Nat) (ks : Nat → ByteArray) (w : World) (hn : n ≤ 65536) (hK : KS w A n ks) (hA : A = none → n = 0 ∧ cap = 0) : Calls Try.prog 23 #[.slice A n cap] w (CkAns n ks w) := by
  cases A with
  | none =>
    obtain ⟨rfl, rfl⟩ := hA rfl
    have hnil := fun w => Lib.run_eql_slice_nil (P := Try.prog) w 33 9 none 0 0 0 0 Try.underlying33
    have HK : Hid (KS w none 0 ks) := hK
    clear hK hA
    go_enter Try.func23, Try.ntmps23
    go_wp2_with fail
    go_ret
    exact ⟨none, 0, rfl, Below.refl _ _, HK.out⟩
  | some a =>
    have hnil := fun w => Lib.run_eql_slice_nil (P := Try.prog) w 33 9 (some a) n cap 0 0 Try.underlying33
    have HK : Hid (KS w (some a) n ks) := hK
    have hb16 : ((16 : Nat) : Int) * n ≤ 281474976710656 := by omega
    have hnm : n ≤ maxLen := by unfold maxLen; omega
    clear hK hA
    go_enter Try.func23, Try.ntmps23
    go_wp2_with (at_make; refine wpList_make_cells _ rfl (.tmp 8) (.tmp 8) 33 rfl 9 n (.string ByteArray.empty) 16 Try.underlying33 info9 rfl rfl rfl hb16 hnm ?_; intro w1 b1 r1 z1)
    obtain ⟨g, hg⟩ : ∃ g, g = w.heap.size := ⟨_, rfl⟩
    rw [← hg] at b1 r1 z1 ⊢
    have HG : Hid (g = w.heap.size) := hg
    have Z1 : Hid (g < w1.heap.size) := by show g < w1.heap.size; rw [z1.out]; omega
    clear hg z1 hnil
    go_loopw [4] (fun iv wq => ∃ (i : Nat) (f : Nat → Value), iv = .int .i64 i ∧ i ≤ n ∧ Hid (Row wq g n f) ∧ Hid (Below g w wq) ∧ Hid (g < wq.heap.size) ∧ Hid (∀ t, t < i → f t = .string (ks t))) (fun iv _ => n + 1 - (intOf iv).toNat)
    case atStart => exact ⟨0, _, rfl, by omega, r1, b1, Z1, fun t ht => by omega⟩
    case round =>
      obtain ⟨i, f, rfl, hi, hR, hB, hz, hf⟩ := hrel
      clear b1 r1 Z1
      by_cases hin : i < n
      · have din : decide (i < n) = true := decide_eq_true hin
        have nin : (i : Int) < n := by omega
        obtain ⟨b, off, ha, hb, hc⟩ := (HK.out.on (by rw [← HG.out]; exact hB.out)).at_ (by omega)
        cases ha
        obtain ⟨u, hu⟩ : ∃ u, u = ks i := ⟨_, rfl⟩
        have cu : wr.cell? ⟨b, off + i, none⟩ = some (.string u) := by rw [hu]; exact hc i hin
        have cg : wr.cell? ⟨g, i, none⟩ = some (f i) := hR.out.cell i hin
        have fg : wr.frozen? ⟨g, i, none⟩ = false := hR.out.loose i hin
        have HU : Hid (u = ks i) := hu
        clear hc hu hb
        go_wp2_with fail
        go_roundw
        case rel =>
          refine ⟨i + 1, put f i (.string u), by go_num, by omega, hR.out.set hin _, hB.out.setCell (Nat.le_refl _) _, ?_, fun t ht => ?_⟩
          · have := hz.out
            show g < (wr.setCell _ _).heap.size
            simp [World.setCell]; omega
          · by_cases e : t = i
            · subst e; simp [put, HU.out]
            · simp [put, e]; exact hf.out t (by omega)
        case measure => simp [intOf] <;> omega
      · have din : decide (i < n) = false := decide_eq_false hin
        go_wp2_with fail
        go_ret
        refine ⟨some ⟨g, 0, none⟩, n, rfl, by rw [← HG.out]; exact hB.out, ⟨fun _ => ⟨g, 0, rfl, hz.out, fun j hj => ?_⟩, HK.out.size⟩⟩
        rw [Nat.zero_add, hR.out.cell j hj, hf.out j (by omega)]
end Go.Proofs.Qxb6601681a.Non
