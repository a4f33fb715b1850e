import Derived.Test.Qxb6601408aFinBuild
namespace Go.Proofs.Qxb6601408a.Fin
open Go.RowKit
set_option linter.unusedVariables false

/-- an array value of m ints -/
structure Ints (a : Array Value) (m : Nat) (A : Nat → Nat) : Prop where
  size : a.size = m
  get : ∀ i, i < m → a[i]? = some (.int .i64 (A i))

theorem wpList_build_at {P : Program} {ops : Array Oper} {rest : List Oper} {o : Oper} {a : Act} {w : World} {Q : Exit → Act → World → Prop} (hg : o.guard = none) (t : TypeId) (parts : Array (Nat × Operand)) (ho : o.op = .build t parts) (out : Array Value)
    (hb : P.built t (parts.map fun (i, x) => (i, a.eval x)).toList = some out) (h : wpList P ops Q rest (a.put o.dst (.agg out)) w) : wpList P ops Q (o :: rest) a w :=
  wpList_build hg t parts ho (by rw [hb]; rfl) (by rw [hb]; exact h)
theorem heap_at (w : World) (o : Obj) : (w.alloc o).heap[w.heap.size]? = some o := by
  show (w.heap.push o)[w.heap.size]? = some o
  simp
theorem size_alloc' (w : World) (o : Obj) : (w.alloc o).heap.size = w.heap.size + 1 := World.size_alloc ..

set_option maxRecDepth 100000 in
set_option maxHeartbeats 4000000 in
theorem zz_c (blk off n : Nat) (S X C : Nat → Nat) (sa xa ca : Array Value) (d : Nat → Int) (w : World) (h : Hold w blk off n d) (hn : n ≤ 65536) (hD : Dom S X C n d) (hblk : blk < w.heap.size)
    (hs : Ints sa 257 S) (hx : Ints xa 256 X) (hc : Ints ca 256 C) :
    Calls Try.prog 18 #[.slice (some ⟨blk, off, none⟩) n n, .agg sa, .agg xa, .agg ca] w (SortedAll w.heap.size blk off n S X d w) := by
  have H0 : Hid (Hold w blk off n d) := h
  have HD : Hid (Dom S X C n d) := hD
  have HS : Hid (Ints sa 257 S) := hs
  have HX : Hid (Ints xa 256 X) := hx
  have HC : Hid (Ints ca 256 C) := hc
  clear h hD hs hx hc
  go_enter Try.func18, Try.ntmps18
  go_upto_region 1 with fail
  have z1 : (w.alloc (Obj.cells sa 34)).heap.size = w.heap.size + 1 := size_alloc' _ _
  have z2 : ((w.alloc (Obj.cells sa 34)).alloc (Obj.cells xa 35)).heap.size = w.heap.size + 1 + 1 := by rw [size_alloc', z1]
  have z3 : (((w.alloc (Obj.cells sa 34)).alloc (Obj.cells xa 35)).alloc (Obj.cells ca 35)).heap.size = w.heap.size + 1 + 1 + 1 := by rw [size_alloc', z2]
  have W1 : Hid ((((w.alloc (Obj.cells sa 34)).alloc (Obj.cells xa 35)).alloc (Obj.cells ca 35)).heap[w.heap.size]? = some (.cells sa 34 (0, 0))) := by
    show (((w.alloc (Obj.cells sa 34)).alloc (Obj.cells xa 35)).alloc (Obj.cells ca 35)).heap[w.heap.size]? = _
    rw [Below.heap_alloc _ _ _ (by omega), Below.heap_alloc _ _ _ (by omega), heap_at]
  have W2 : Hid ((((w.alloc (Obj.cells sa 34)).alloc (Obj.cells xa 35)).alloc (Obj.cells ca 35)).heap[w.heap.size + 1]? = some (.cells xa 35 (0, 0))) := by
    show (((w.alloc (Obj.cells sa 34)).alloc (Obj.cells xa 35)).alloc (Obj.cells ca 35)).heap[w.heap.size + 1]? = _
    rw [Below.heap_alloc _ _ _ (by omega), ← z1, heap_at]
  have W3 : Hid ((((w.alloc (Obj.cells sa 34)).alloc (Obj.cells xa 35)).alloc (Obj.cells ca 35)).heap[w.heap.size + 1 + 1]? = some (.cells ca 35 (0, 0))) := by
    show (((w.alloc (Obj.cells sa 34)).alloc (Obj.cells xa 35)).alloc (Obj.cells ca 35)).heap[w.heap.size + 1 + 1]? = _
    rw [← z2, heap_at]
  have ZW : Hid ((((w.alloc (Obj.cells sa 34)).alloc (Obj.cells xa 35)).alloc (Obj.cells ca 35)).heap.size = w.heap.size + 1 + 1 + 1) := z3
  have K1 : Hid (Keep blk off n w (((w.alloc (Obj.cells sa 34)).alloc (Obj.cells xa 35)).alloc (Obj.cells ca 35))) := (((Keep.refl _ _ _ _).alloc hblk _).alloc (by omega) _).alloc (by omega) _
  have H1 : Hid (Hold (((w.alloc (Obj.cells sa 34)).alloc (Obj.cells xa 35)).alloc (Obj.cells ca 35)) blk off n d) := ((H0.out.alloc hblk _).alloc (by omega) _).alloc (by omega) _
  clear z1 z2 z3
  generalize ((w.alloc (Obj.cells sa 34)).alloc (Obj.cells xa 35)).alloc (Obj.cells ca 35) = w1 at W1 W2 W3 ZW K1 H1 ⊢
  obtain ⟨h, hh⟩ : ∃ h, h = w.heap.size := ⟨_, rfl⟩
  rw [← hh] at W1 W2 W3 ZW hblk ⊢
  have HH : Hid (h = w.heap.size) := hh
  clear hh
  have i34 : (Try.prog.info? 34).map (·.size) = some sa.size := by rw [HS.out.size]; kernel_rfl
  have i35 : (Try.prog.info? 35).map (·.size) = some xa.size := by rw [HX.out.size]; kernel_rfl
  have i35' : (Try.prog.info? 35).map (·.size) = some ca.size := by rw [HC.out.size]; kernel_rfl
  obtain ⟨out, hb1, hb2, hb3, hb4, hb5⟩ := built44 (.slice (some ⟨blk, off, none⟩) n n) rfl sa xa HS.out.size HX.out.size
  have HB : Hid (Try.prog.built 44 [(0, .slice (some ⟨blk, off, none⟩) n n), (1, .agg sa), (2, .agg xa)] = some out) := hb1
  have HB3 : Hid (out[0]? = some (.slice (some ⟨blk, off, none⟩) n n)) := hb3
  have HB4 : Hid (∀ i, i < 257 → out[1 + i]? = sa[i]?) := hb4
  have HB5 : Hid (∀ i, i < 256 → out[258 + i]? = xa[i]?) := hb5
  clear hb1 hb2 hb3 hb4 hb5
  have W3' : Hid ((w1.alloc (Obj.cells out 44)).heap[h + 1 + 1]? = some (.cells ca 35 (0, 0))) := by
    show (w1.alloc (Obj.cells out 44)).heap[h + 1 + 1]? = _
    rw [Below.heap_alloc _ _ _ (by have := ZW.out; omega)]; exact W3.out
  go_wp2_with (first | refine wpList_load_row rfl 34 (.tmp 5) rfl h rfl 34 sa (0, 0) _ W1.out Try.underlying34 rfl i34 ?_ | refine wpList_load_row rfl 35 (.tmp 6) rfl (h + 1) rfl 35 xa (0, 0) _ W2.out Try.underlying35 rfl i35 ?_ | refine wpList_build_at rfl 44 #[(0, .tmp 10), (1, .tmp 11), (2, .tmp 12)] rfl out (by rw [List.map_toArray]; exact HB.out) ?_ | refine wpList_load_row rfl 35 (.tmp 7) rfl (h + 1 + 1) rfl 35 ca (0, 0) _ W3'.out Try.underlying35 rfl i35' ?_)
  have hz := ZW.out
  refine (sorted_c w1.heap.size blk off n S X C ca d _ (H1.out.alloc (by omega) _) hn HD.out (by rw [size_alloc']; omega) (by rw [size_alloc']; omega) (by omega) ?_ ?_ ?_ HC.out.size HC.out.get).mono ?_
  · rw [World.cell?_alloc_new]; exact HB3.out
  · intro i hi; rw [World.cell?_alloc_new, HB4.out i hi]; exact HS.out.get i hi
  · intro i hi; rw [World.cell?_alloc_new, HB5.out i hi]; exact HX.out.get i hi
  rintro e w2 ⟨⟨c, rfl⟩, k2, d2, h2, s2⟩
  have KF : Hid (Kept w.heap.size blk off n w w2) := by
    have k0 : Keep blk off n w (w1.alloc (Obj.cells out 44)) := K1.out.alloc (by omega) _
    exact (k0.kept (Nat.le_refl _)).trans (k2.down (by rw [size_alloc']; have := HH.out; omega))
  have HF : Hid (Hold w2 blk off n d2) := h2
  have SF : Hid (Str S X 256 d d2) := s2
  clear k2 h2 s2
  go_wp2_with fail
  go_ret
  exact ⟨⟨c, rfl⟩, KF, d2, HF, SF⟩
end Go.Proofs.Qxb6601408a.Fin
