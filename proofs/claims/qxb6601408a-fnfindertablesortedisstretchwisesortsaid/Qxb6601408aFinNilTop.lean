/-
  sorted and ZZFinderTableSorted at a nil slice: all stretches are empty.
-/
import Derived.Test.Qxb6601408aFinNil
namespace Go.Proofs.Qxb6601408a.Fin
open Go.RowKit
set_option linter.unusedVariables false

def NilAns (w : World) (e : Ending) (w' : World) : Prop := e = .returned (.slice none 0 0) ∧ RowKit.Below w.heap.size w w'

set_option maxRecDepth 100000 in
set_option maxHeartbeats 4000000 in
theorem sorted_nil (tb : Nat) (ca : Array Value) (w : World) (htb : tb < w.heap.size) (he : w.cell? ⟨tb, 0, none⟩ = some (.slice none 0 0)) (hS : ∀ i, i < 257 → w.cell? ⟨tb, 1 + i, none⟩ = some (.int .i64 0)) (hX : ∀ i, i < 256 → w.cell? ⟨tb, 258 + i, none⟩ = some (.int .i64 0))
    (hcc : ∀ i, i < 256 → ca[i]? = some (.int .i64 0)) :
    Calls Try.prog 22 #[.pointer (some ⟨tb, 0, none⟩), .agg ca] w (NilAns w) := by
  have HS : Hid (∀ i, i < 257 → w.cell? ⟨tb, 1 + i, none⟩ = some (.int .i64 0)) := hS
  have HX : Hid (∀ i, i < 256 → w.cell? ⟨tb, 258 + i, none⟩ = some (.int .i64 0)) := hX
  have HE : Hid (w.cell? ⟨tb, 0, none⟩ = some (.slice none 0 0)) := he
  have HC : Hid (∀ i, i < 256 → ca[i]? = some (.int .i64 0)) := hcc
  clear hS hX he hcc
  go_enter Try.func22, Try.ntmps22
  go_wp2_with fail
  have BA : Hid (RowKit.Below w.heap.size w (w.alloc (Obj.cells ca 35))) := (RowKit.Below.refl _ _).alloc (Nat.le_refl _) _
  have CA : Hid (∀ i, i < 256 → (w.alloc (Obj.cells ca 35)).cell? ⟨w.heap.size, i, none⟩ = some (.int .i64 0)) := fun i hi => by rw [World.cell?_alloc_new]; exact HC.out i hi
  have ZA : Hid ((w.alloc (Obj.cells ca 35)).heap.size = w.heap.size + 1) := size_alloc' _ _
  obtain ⟨cb, hcb⟩ : ∃ cb, cb = w.heap.size := ⟨_, rfl⟩
  rw [← hcb] at CA ZA BA htb ⊢
  have HCB : Hid (cb = w.heap.size) := hcb
  generalize w.alloc (Obj.cells ca 35) = w1 at BA CA ZA ⊢
  clear hcb HC
  go_loopw [5, 6, 12] (fun spv ev bv wq => ∃ (b : Nat), bv = .int .i64 b ∧ b ≤ 256 ∧ ev = .int .i64 0 ∧ spv = .slice none 0 0 ∧ Hid (RowKit.Below (cb + 1) w1 wq)) (fun _ _ bv _ => 256 - (intOf bv).toNat)
  case atStart => exact ⟨0, rfl, by omega, rfl, rfl, RowKit.Below.refl _ _⟩
  case round =>
    obtain ⟨b, rfl, hb256, rfl, rfl, hB⟩ := hrel
    have cE : wr.cell? ⟨tb, 0, none⟩ = some (.slice none 0 0) := by rw [hB.out.cell (by exact (by omega : tb < cb + 1)), BA.out.cell (by exact htb)]; exact HE.out
    by_cases hb : b < 256
    · have cS : wr.cell? ⟨tb, 1 + b, none⟩ = some (.int .i64 0) := by rw [hB.out.cell (by exact (by omega : tb < cb + 1)), BA.out.cell (by exact htb)]; exact HS.out b (by omega)
      have cX : wr.cell? ⟨tb, 258 + b, none⟩ = some (.int .i64 0) := by rw [hB.out.cell (by exact (by omega : tb < cb + 1)), BA.out.cell (by exact htb)]; exact HX.out b hb
      have cC : wr.cell? ⟨cb, b, none⟩ = some (.int .i64 0) := by rw [hB.out.cell (by exact (by omega : cb < cb + 1))]; exact CA.out b hb
      have db : decide ((b : Int) < 256) = true := decide_eq_true (by omega)
      have db' : decide (b < 256) = true := decide_eq_true hb
      have nb1 : (b : Int) < 257 := by omega
      have nb2 : (b : Int) < 256 := by omega
      go_upto_region 6 with fail
      go_quiet (fail)
      go_wp2_with fail
      refine (sort_nil _).mono ?_
      rintro e w2 ⟨rfl, rfl⟩
      go_wp2_with fail
      go_roundw
      case rel => exact ⟨b + 1, by go_num, by omega, rfl, rfl, below_drewN hB.out _⟩
      case measure => simp [intOf] <;> omega
    · obtain rfl : b = 256 := by omega
      go_wp2_with fail
      go_ret
      exact ⟨rfl, by rw [← HCB.out]; exact BA.out.trans (hB.out.down (by omega))⟩
/-- an array value of m zeros -/
structure Zeros (a : Array Value) (m : Nat) : Prop where
  size : a.size = m
  get : ∀ i, i < m → a[i]? = some (.int .i64 0)

set_option maxRecDepth 100000 in
set_option maxHeartbeats 4000000 in
theorem zz_nil (sa xa ca : Array Value) (w : World) (hs : Zeros sa 257) (hx : Zeros xa 256) (hc : Zeros ca 256) :
    Calls Try.prog 18 #[.slice none 0 0, .agg sa, .agg xa, .agg ca] w (NilAns w) := by
  have HS : Hid (Zeros sa 257) := hs
  have HX : Hid (Zeros xa 256) := hx
  have HC : Hid (Zeros ca 256) := hc
  clear hs hx hc
  go_enter Try.func18, Try.ntmps18
  go_upto_region 1 with fail
  have z1 : (w.alloc (Obj.cells sa 34)).heap.size = w.heap.size + 1 := size_alloc' _ _
  have z2 : ((w.alloc (Obj.cells sa 34)).alloc (Obj.cells xa 35)).heap.size = w.heap.size + 1 + 1 := by rw [size_alloc', z1]
  have z3 : (((w.alloc (Obj.cells sa 34)).alloc (Obj.cells xa 35)).alloc (Obj.cells ca 35)).heap.size = w.heap.size + 1 + 1 + 1 := by rw [size_alloc', z2]
  have W1 : Hid ((((w.alloc (Obj.cells sa 34)).alloc (Obj.cells xa 35)).alloc (Obj.cells ca 35)).heap[w.heap.size]? = some (.cells sa 34 (0, 0))) := by
    show (((w.alloc (Obj.cells sa 34)).alloc (Obj.cells xa 35)).alloc (Obj.cells ca 35)).heap[w.heap.size]? = _
    rw [Below.heap_alloc _ _ _ (by omega), Below.heap_alloc _ _ _ (by omega), heap_at]
  have W2 : Hid ((((w.alloc (Obj.cells sa 34)).alloc (Obj.cells xa 35)).alloc (Obj.cells ca 35)).heap[w.heap.size + 1]? = some (.cells xa 35 (0, 0))) := by
    show (((w.alloc (Obj.cells sa 34)).alloc (Obj.cells xa 35)).alloc (Obj.cells ca 35)).heap[w.heap.size + 1]? = _
    rw [Below.heap_alloc _ _ _ (by omega), ← z1, heap_at]
  have W3 : Hid ((((w.alloc (Obj.cells sa 34)).alloc (Obj.cells xa 35)).alloc (Obj.cells ca 35)).heap[w.heap.size + 1 + 1]? = some (.cells ca 35 (0, 0))) := by
    show (((w.alloc (Obj.cells sa 34)).alloc (Obj.cells xa 35)).alloc (Obj.cells ca 35)).heap[w.heap.size + 1 + 1]? = _
    rw [← z2, heap_at]
  have ZW : Hid ((((w.alloc (Obj.cells sa 34)).alloc (Obj.cells xa 35)).alloc (Obj.cells ca 35)).heap.size = w.heap.size + 1 + 1 + 1) := z3
  have K1 : Hid (RowKit.Below w.heap.size w (((w.alloc (Obj.cells sa 34)).alloc (Obj.cells xa 35)).alloc (Obj.cells ca 35))) := (((RowKit.Below.refl _ _).alloc (Nat.le_refl _) _).alloc (by omega) _).alloc (by omega) _
  clear z1 z2 z3
  generalize ((w.alloc (Obj.cells sa 34)).alloc (Obj.cells xa 35)).alloc (Obj.cells ca 35) = w1 at W1 W2 W3 ZW K1 ⊢
  obtain ⟨h, hh⟩ : ∃ h, h = w.heap.size := ⟨_, rfl⟩
  rw [← hh] at W1 W2 W3 ZW K1 ⊢
  have HH : Hid (h = w.heap.size) := hh
  clear hh
  have i34 : (Try.prog.info? 34).map (·.size) = some sa.size := by rw [HS.out.size]; kernel_rfl
  have i35 : (Try.prog.info? 35).map (·.size) = some xa.size := by rw [HX.out.size]; kernel_rfl
  have i35' : (Try.prog.info? 35).map (·.size) = some ca.size := by rw [HC.out.size]; kernel_rfl
  obtain ⟨out, hb1, hb2, hb3, hb4, hb5⟩ := built44 (.slice none 0 0) rfl sa xa HS.out.size HX.out.size
  have HB : Hid (Try.prog.built 44 [(0, .slice none 0 0), (1, .agg sa), (2, .agg xa)] = some out) := hb1
  have HB3 : Hid (out[0]? = some (.slice none 0 0)) := hb3
  have HB4 : Hid (∀ i, i < 257 → out[1 + i]? = sa[i]?) := hb4
  have HB5 : Hid (∀ i, i < 256 → out[258 + i]? = xa[i]?) := hb5
  clear hb1 hb2 hb3 hb4 hb5
  have W3' : Hid ((w1.alloc (Obj.cells out 44)).heap[h + 1 + 1]? = some (.cells ca 35 (0, 0))) := by
    show (w1.alloc (Obj.cells out 44)).heap[h + 1 + 1]? = _
    rw [Below.heap_alloc _ _ _ (by have := ZW.out; omega)]; exact W3.out
  go_wp2_with (first | refine wpList_load_row rfl 34 (.tmp 5) rfl h rfl 34 sa (0, 0) _ W1.out Try.underlying34 rfl i34 ?_ | refine wpList_load_row rfl 35 (.tmp 6) rfl (h + 1) rfl 35 xa (0, 0) _ W2.out Try.underlying35 rfl i35 ?_ | refine wpList_build_at rfl 44 #[(0, .tmp 10), (1, .tmp 11), (2, .tmp 12)] rfl out (by rw [List.map_toArray]; exact HB.out) ?_ | refine wpList_load_row rfl 35 (.tmp 7) rfl (h + 1 + 1) rfl 35 ca (0, 0) _ W3'.out Try.underlying35 rfl i35' ?_)
  have hz := ZW.out
  refine (sorted_nil w1.heap.size ca _ (by rw [size_alloc']; omega) ?_ ?_ ?_ HC.out.get).mono ?_
  · rw [World.cell?_alloc_new]; exact HB3.out
  · intro i hi; rw [World.cell?_alloc_new, HB4.out i hi]; exact HS.out.get i hi
  · intro i hi; rw [World.cell?_alloc_new, HB5.out i hi]; exact HX.out.get i hi
  rintro e w2 ⟨rfl, k2⟩
  have KF : Hid (RowKit.Below w.heap.size w w2) := by
    have k0 : RowKit.Below h w (w1.alloc (Obj.cells out 44)) := K1.out.alloc (by omega) _
    rw [← HH.out]
    exact k0.trans (k2.down (by rw [size_alloc']; omega))
  clear k2
  go_wp2_with fail
  go_ret
  exact ⟨rfl, KF⟩
end Go.Proofs.Qxb6601408a.Fin
