/-
  The walk of finderFirstBytes.
-/
import Derived.Test.Qxb6601408aFinDom
namespace Go.Proofs.Qxb6601408a.Fin
open Go.RowKit
set_option linter.unusedVariables false

def FirstAns (S X : Nat → Nat) (d : Nat → Int) (w : World) (e : Ending) (w' : World) : Prop :=
  ∃ r : Bool, e = .returned (.bool r) ∧ RowKit.Below w.heap.size w w' ∧ (r = true → ∀ b, b < 256 → ∀ i, S b ≤ i → i < X b → d i / 72057594037927936 = b)

theorem boxed2 (w : World) (sa xa : Array Value) : ∃ w1, w1 = (w.alloc (Obj.cells sa 34)).alloc (Obj.cells xa 35) ∧ (∀ i, w1.cell? ⟨w.heap.size, i, none⟩ = sa[i]?) ∧ (∀ i, w1.cell? ⟨w.heap.size + 1, i, none⟩ = xa[i]?) ∧
    RowKit.Below w.heap.size w w1 ∧ w1.heap.size = w.heap.size + 1 + 1 := by
  have z1 : (w.alloc (Obj.cells sa 34)).heap.size = w.heap.size + 1 := size_alloc' _ _
  have z2 : ((w.alloc (Obj.cells sa 34)).alloc (Obj.cells xa 35)).heap.size = w.heap.size + 1 + 1 := by rw [size_alloc', z1]
  refine ⟨_, rfl, fun i => ?_, fun i => ?_, ((RowKit.Below.refl _ _).alloc (Nat.le_refl _) _).alloc (by omega) _, z2⟩
  · rw [World.cell?_alloc_lt _ _ _ (by show w.heap.size < _; omega), World.cell?_alloc_new]
  · rw [← z1, World.cell?_alloc_new]

set_option maxRecDepth 100000 in
set_option maxHeartbeats 4000000 in
theorem first_c (A : Option Addr) (n cap : Nat) (S X : Nat → Nat) (sa xa : Array Value) (d : Nat → Int) (w : World) (hn : n ≤ 65536)
    (hA : 0 < n → ∃ b off, A = some ⟨b, off, none⟩ ∧ b < w.heap.size ∧ ∀ j, j < n → w.cell? ⟨b, off + j, none⟩ = some (.int .u64 (d j)))
    (hs : Ints sa 257 S) (hx : Ints xa 256 X) (hX : ∀ b, b < 256 → X b ≤ n) (hSn : ∀ b, b < 256 → S b ≤ n) :
    Calls Try.prog 20 #[.slice A n cap, .agg sa, .agg xa] w (FirstAns S X d w) := by
  have HA : Hid (0 < n → ∃ b off, A = some ⟨b, off, none⟩ ∧ b < w.heap.size ∧ ∀ j, j < n → w.cell? ⟨b, off + j, none⟩ = some (.int .u64 (d j))) := hA
  have HS : Hid (Ints sa 257 S) := hs
  have HX : Hid (Ints xa 256 X) := hx
  have HXN : Hid (∀ b, b < 256 → X b ≤ n) := hX
  have HSN : Hid (∀ b, b < 256 → S b ≤ n) := hSn
  clear hA hs hx hX hSn
  go_enter Try.func20, Try.ntmps20
  go_upto_region 1 with fail
  obtain ⟨w1, hw1, hb1, hb2, hb4, hb5⟩ := boxed2 w sa xa
  rw [← hw1]
  have HB1 : Hid (RowKit.Below w.heap.size w w1) := hb4
  obtain ⟨h, hh⟩ : ∃ h, h = w.heap.size := ⟨_, rfl⟩
  obtain ⟨H3, hH3⟩ : ∃ H3, H3 = w1.heap.size := ⟨_, rfl⟩
  rw [← hh] at hb1 hb2 HB1 hb5 ⊢
  have HS1 : Hid (∀ i, w1.cell? ⟨h, i, none⟩ = sa[i]?) := hb1
  have HX1 : Hid (∀ i, w1.cell? ⟨h + 1, i, none⟩ = xa[i]?) := hb2
  have HH : Hid (h = w.heap.size) := hh
  have hz1 : H3 ≤ h + 1 + 1 := by omega
  have hz2 : h + 1 + 1 ≤ H3 := by omega
  have H3R : Hid (RowKit.Below H3 w1 w1) := RowKit.Below.refl _ _
  clear hw1 hb1 hb2 hb4 hb5 hh hH3
  go_wp2_with fail
  go_loopw [7] (fun bv wq => ∃ b : Nat, bv = .int .i64 b ∧ b ≤ 256 ∧ Hid (RowKit.Below H3 w1 wq) ∧ Hid (∀ k, k < b → ∀ i, S k ≤ i → i < X k → d i / 72057594037927936 = k)) (fun bv _ => 256 - (intOf bv).toNat)
  case atStart => exact ⟨0, rfl, by omega, H3R, fun k hk => absurd hk (Nat.not_lt_zero _)⟩
  case round =>
    obtain ⟨b, rfl, hb256, hB, hO⟩ := hrel
    clear H3R
    by_cases hb : b < 256
    · have db : decide ((b : Int) < 256) = true := decide_eq_true (by omega)
      have db' : decide (b < 256) = true := decide_eq_true hb
      have nb2 : (b : Int) < 257 := by omega
      have nb3 : (b : Int) < 256 := by omega
      obtain ⟨sb, hsb⟩ : ∃ v, v = S b := ⟨_, rfl⟩
      obtain ⟨xb, hxb⟩ : ∃ v, v = X b := ⟨_, rfl⟩
      have cS : wr.cell? ⟨h, b, none⟩ = some (.int .i64 sb) := by rw [hsb, hB.out.cell (by exact (by omega : h < H3)), HS1.out]; exact HS.out.get b (by omega)
      have hxn : xb ≤ n := by rw [hxb]; exact HXN.out b hb
      have hsn : sb ≤ n := by rw [hsb]; exact HSN.out b hb
      have ESB : Hid (sb = S b) := hsb
      have EXB : Hid (xb = X b) := hxb
      have hBo := hB
      clear hsb hxb hB
      go_wp2_with fail
      go_loopw [8] (fun iv wq => ∃ i : Nat, iv = .int .i64 i ∧ sb ≤ i ∧ i ≤ n + 1 ∧ Hid (RowKit.Below H3 w1 wq) ∧ Hid (∀ k, sb ≤ k → k < i → d k / 72057594037927936 = b)) (fun iv _ => n + 1 - (intOf iv).toNat)
      case atStart => exact ⟨sb, rfl, Nat.le_refl _, by omega, hBo, fun k h1 h2 => by omega⟩
      case round =>
        obtain ⟨i, rfl, hi1, hi2, hB, hI⟩ := hrel
        clear hBo cS
        have cX : wr.cell? ⟨h + 1, b, none⟩ = some (.int .i64 xb) := by rw [EXB.out, hB.out.cell (by exact (by omega : h + 1 < H3)), HX1.out]; exact HX.out.get b hb
        by_cases hix : i < xb
        · have dix : decide (i < xb) = true := decide_eq_true hix
          obtain ⟨eb, eo, rfl, hebl, hcells⟩ := HA.out (by omega)
          obtain ⟨v, hv⟩ : ∃ v, v = d i := ⟨_, rfl⟩
          have cv : wr.cell? ⟨eb, eo + i, none⟩ = some (.int .u64 v) := by rw [hv, hB.out.cell (by exact (by have := HH.out; omega : eb < H3)), HB1.out.cell (by show eb < h; have := HH.out; omega)]; exact hcells i (by omega)
          have EV : Hid (v = d i) := hv
          have ni2 : (i : Int) < n := by omega
          clear hv hcells
          by_cases hl : v / 72057594037927936 = b
          · have t1 : (v / 72057594037927936 != (b : Int)) = false := by simp [hl]
            have HI2 : Hid (∀ k, sb ≤ k → k < i + 1 → d k / 72057594037927936 = b) := fun k h1 h2 => by
              by_cases e : k = i
              · subst e; rw [← EV.out]; exact hl
              · exact hI.out k h1 (by omega)
            clear hl
            go_wp2_with fail
            go_roundw
            case rel => exact ⟨i + 1, by go_num, by omega, by omega, hB, HI2⟩
            case measure => simp [intOf] <;> omega
          · have t1 : (v / 72057594037927936 != (b : Int)) = true := by simp [hl]
            go_wp2_with fail
            go_ret
            exact ⟨false, rfl, (by rw [← HH.out]; exact HB1.out.trans (hB.out.down (by omega))), fun e => absurd e (by decide)⟩
        · have dix : decide (i < xb) = false := decide_eq_false hix
          have HO2 : Hid (∀ k, k < b + 1 → ∀ i, S k ≤ i → i < X k → d i / 72057594037927936 = k) := fun k hk i' g1 g2 => by
            by_cases e : k = b
            · subst e; rw [← ESB.out] at g1; rw [← EXB.out] at g2; exact hI.out i' g1 (by omega)
            · exact hO.out k (by omega) i' g1 g2
          go_wp2_with fail
          go_roundw
          case rel => exact ⟨b + 1, by go_num, by omega, hB, HO2⟩
          case measure => simp [intOf] <;> omega
    · obtain rfl : b = 256 := by omega
      go_wp2_with fail
      go_ret
      exact ⟨true, rfl, (by rw [← HH.out]; exact HB1.out.trans (hB.out.down (by omega))), fun _ => hO.out⟩
end Go.Proofs.Qxb6601408a.Fin
