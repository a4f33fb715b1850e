import Derived.Test.Qxb6601408aSortHeap
import Derived.Lib.BitFns
namespace Go.Proofs.Qxb6601408a.Fin
open Go.RowKit
set_option linter.unusedVariables false

set_option maxRecDepth 100000 in
theorem tab : ({ data := (([0, 1, 2, 2, 3, 3, 3, 3, 4, 4, 4, 4, 4, 4, 4, 4, 5, 5, 5, 5, 5, 5, 5, 5, 5, 5, 5, 5, 5, 5, 5, 5, 6, 6, 6, 6, 6, 6, 6, 6, 6, 6, 6, 6, 6, 6, 6, 6, 6, 6, 6, 6, 6, 6, 6, 6, 6, 6, 6, 6, 6, 6, 6, 6].append [7, 7, 7, 7, 7, 7, 7, 7, 7, 7, 7, 7, 7, 7, 7, 7, 7, 7, 7, 7, 7, 7, 7, 7, 7, 7, 7, 7, 7, 7, 7, 7, 7, 7, 7, 7, 7, 7, 7, 7, 7, 7, 7, 7, 7, 7, 7, 7, 7, 7, 7, 7, 7, 7, 7, 7, 7, 7, 7, 7, 7, 7, 7, 7]).append ([8, 8, 8, 8, 8, 8, 8, 8, 8, 8, 8, 8, 8, 8, 8, 8, 8, 8, 8, 8, 8, 8, 8, 8, 8, 8, 8, 8, 8, 8, 8, 8, 8, 8, 8, 8, 8, 8, 8, 8, 8, 8, 8, 8, 8, 8, 8, 8, 8, 8, 8, 8, 8, 8, 8, 8, 8, 8, 8, 8, 8, 8, 8, 8].append [8, 8, 8, 8, 8, 8, 8, 8, 8, 8, 8, 8, 8, 8, 8, 8, 8, 8, 8, 8, 8, 8, 8, 8, 8, 8, 8, 8, 8, 8, 8, 8, 8, 8, 8, 8, 8, 8, 8, 8, 8, 8, 8, 8, 8, 8, 8, 8, 8, 8, 8, 8, 8, 8, 8, 8, 8, 8, 8, 8, 8, 8, 8, 8])).toArray } : ByteArray) = Lib.len8tab := rfl

theorem len8_at (y : Int) (h : y.toNat < Lib.len8tab.size) (h0 : 0 ≤ y) (h1 : y ≤ 255) : ((Lib.len8tab[y.toNat]'h).toNat : Int) = Lib.bitLen y.toNat := by
  rw [← Lib.len8_of y h0 h1]
  unfold Lib.len8
  rw [getElem?_pos Lib.len8tab y.toNat h]
  rfl

set_option maxRecDepth 100000 in
set_option maxHeartbeats 1000000 in
theorem len64_c (x : Int) (w : World) (h0 : 0 ≤ x) (h : x ≤ 65536) : Calls Try.prog 37 #[.int .u64 x] w fun e w' => e = .returned (.int .i64 (Lib.bitLen x.toNat)) ∧ w' = w := by
  have hs : (Lib.len8tab.size : Int) = 256 := by rw [Lib.len8tab_size]; rfl
  by_cases h1 : x < 256
  · go_enter Try.func37, Try.ntmps37
    rw [tab]
    go_wp2
    · go_ret
      rw [len8_at x _ h0 (by omega)]
      have hb := Lib.bitLen_le8' x h0 (by omega)
      have e : wrap64 (wrap64 (Lib.bitLen x.toNat : Int)) = Lib.bitLen x.toNat := by unfold wrap64; omega
      rw [e]
      exact ⟨rfl, rfl⟩
  · by_cases h2 : x < 65536
    · go_enter Try.func37, Try.ntmps37
      rw [tab]
      go_wp2
      · go_ret
        rw [len8_at (x / 256) _ (by omega) (by omega)]
        have hb := Lib.bitLen_le8' (x / 256) (by omega) (by omega)
        have e1 := Lib.bitLen_shift8 x.toNat (by omega) (by omega)
        have e2 : (x / 256).toNat = x.toNat / 256 := by omega
        rw [← e2] at e1
        have e : wrap64 (8 + wrap64 (Lib.bitLen (x / 256).toNat : Int)) = Lib.bitLen x.toNat := by unfold wrap64; omega
        rw [e]
        exact ⟨rfl, rfl⟩
    · obtain rfl : x = 65536 := by omega
      go_enter Try.func37, Try.ntmps37
      rw [tab]
      go_wp2
      · go_ret
        have e : wrap64 (16 + wrap64 (Lib.len8 1)) = Lib.bitLen 65536 := by decide +kernel
        rw [e]
        exact ⟨rfl, rfl⟩

set_option maxHeartbeats 1000000 in
theorem len_c (x : Int) (w : World) (h0 : 0 ≤ x) (h : x ≤ 65536) : Calls Try.prog 26 #[.int .u64 x] w fun e w' => e = .returned (.int .i64 (Lib.bitLen x.toNat)) ∧ w' = w := by
  go_enter Try.func26, Try.ntmps26
  go_wp2_with fail
  refine (len64_c x w h0 h).mono ?_
  rintro e w' ⟨rfl, rfl⟩
  go_wp2_with fail
  go_ret
  exact ⟨rfl, rfl⟩

theorem pow_len : ∀ f x : Nat, 1 ≤ x → 2 ^ Lib.bitLenAux f x ≤ 2 * x := by
  intro f
  induction f with
  | zero => intro x h; simp [Lib.bitLenAux]; omega
  | succ f ih =>
    intro x h
    rw [Lib.bitLenAux, if_neg (by omega)]
    by_cases c : x / 2 = 0
    · rw [c]
      have : Lib.bitLenAux f 0 = 0 := by cases f <;> simp [Lib.bitLenAux]
      rw [this]; omega
    · have := ih (x / 2) (by omega)
      rw [Nat.add_comm, Nat.pow_succ]; omega

theorem wrap_small (m : Nat) (h : m ≤ 131072) : IntKind.u64.wrap (m : Int) = (m : Int) := by rw [IntKind.wrap_u64]; omega

set_option maxHeartbeats 1000000 in
theorem next2_c (x : Nat) (w : World) (h0 : 1 ≤ x) (h : x ≤ 65536) : Calls Try.prog 39 #[.int .i64 x] w fun e w' => (∃ m : Nat, e = .returned (.int .u64 m) ∧ 1 ≤ m ∧ m ≤ 2 * x) ∧ w' = w := by
  go_enter Try.func39, Try.ntmps39
  go_wp2_with fail
  refine (len_c x w (by omega) (by omega)).mono ?_
  rintro e w' ⟨rfl, rfl⟩
  go_wp2_with fail
  go_ret
  have h1 : 2 ^ Lib.bitLen x ≤ 2 * x := pow_len 64 x h0
  have h2 : 1 ≤ 2 ^ Lib.bitLen x := Nat.one_le_two_pow
  have h3 : Lib.bitLen x ≤ 64 := Lib.bitLen_le x 64 (Nat.le_refl _) (by omega)
  refine ⟨⟨2 ^ Lib.bitLen x, ?_, h2, h1⟩, rfl⟩
  have e1 : min (Lib.bitLen x) 64 = Lib.bitLen x := by omega
  show Ending.returned (Value.int IntKind.u64 (IntKind.u64.wrap (2 ^ min (Lib.bitLen x) 64))) = _
  rw [e1, ← wrap_small (2 ^ Lib.bitLen x) (by omega)]
  simp

set_option maxHeartbeats 1000000 in
theorem xor_c (blk off : Nat) (d : Nat → Int) (w : World) (h : Hold w blk off 1 d) :
    Calls Try.prog 40 #[.pointer (some ⟨blk, off, none⟩)] w fun e w' => ∃ d' : Nat → Int, e = .returned (.int .u64 (d' 0)) ∧ Keep blk off 1 w w' ∧ Hold w' blk off 1 d' := by
  have hc : w.cell? ⟨blk, off, none⟩ = some (.int .u64 (d 0)) := h.cell 0 (by omega)
  have hf : w.frozen? ⟨blk, off, none⟩ = false := h.loose 0 (by omega)
  have H : Hid (Hold w blk off 1 d) := h
  clear h
  have hcx : ∃ x, d 0 = x := ⟨_, rfl⟩
  obtain ⟨x, hx⟩ := hcx
  rw [hx] at hc
  have hcx := hc
  have hfx := hf
  have Hx := H
  clear hx hc hf H
  go_enter Try.func40, Try.ntmps40
  go_wp2_with fail
  go_region
  generalize bits BinOp.xor IntKind.u64 x (IntKind.u64.wrap (x * 8192)) = x1
  have Hx1 : Hid (Hold (w.setCell ⟨blk, off, none⟩ (.int .u64 x1)).drew blk off 1 (upd d 0 x1)) := (Hx.out.set 0 (by omega) x1).drew
  have Kx1 : Hid (Keep blk off 1 w (w.setCell ⟨blk, off, none⟩ (.int .u64 x1)).drew) := ((Keep.refl blk off 1 w).setCell 0 (by omega) _).drew
  generalize (w.setCell ⟨blk, off, none⟩ (.int .u64 x1)).drew = w1 at Hx1 Kx1 ⊢
  obtain ⟨d1, hdx1, hux1⟩ : ∃ q : Nat → Int, q = upd d 0 x1 ∧ q 0 = x1 := ⟨_, rfl, upd_same _ _ _⟩
  rw [← hdx1] at Hx1
  clear hdx1 hcx hfx
  have hcx1 : w1.cell? ⟨blk, off, none⟩ = some (.int .u64 x1) := by rw [← hux1]; exact Hx1.out.cell 0 (by omega)
  have hfx1 : w1.frozen? ⟨blk, off, none⟩ = false := Hx1.out.loose 0 (by omega)
  have HUx1 : Hid (d1 0 = x1) := hux1
  clear hux1
  go_wp2_with fail
  go_region
  generalize bits BinOp.xor IntKind.u64 x1 (x1 / 128) = x2
  have Hx2 : Hid (Hold (w1.setCell ⟨blk, off, none⟩ (.int .u64 x2)).drew blk off 1 (upd d1 0 x2)) := (Hx1.out.set 0 (by omega) x2).drew
  have Kx2 : Hid (Keep blk off 1 w (w1.setCell ⟨blk, off, none⟩ (.int .u64 x2)).drew) := (Kx1.out.setCell 0 (by omega) _).drew
  generalize (w1.setCell ⟨blk, off, none⟩ (.int .u64 x2)).drew = w2 at Hx2 Kx2 ⊢
  obtain ⟨d11, hdx2, hux2⟩ : ∃ q : Nat → Int, q = upd d1 0 x2 ∧ q 0 = x2 := ⟨_, rfl, upd_same _ _ _⟩
  rw [← hdx2] at Hx2
  clear hdx2 hcx1 hfx1
  have hcx2 : w2.cell? ⟨blk, off, none⟩ = some (.int .u64 x2) := by rw [← hux2]; exact Hx2.out.cell 0 (by omega)
  have hfx2 : w2.frozen? ⟨blk, off, none⟩ = false := Hx2.out.loose 0 (by omega)
  have HUx2 : Hid (d11 0 = x2) := hux2
  clear hux2
  go_wp2_with fail
  go_region
  generalize bits BinOp.xor IntKind.u64 x2 (IntKind.u64.wrap (x2 * 131072)) = x3
  have Hx3 : Hid (Hold (w2.setCell ⟨blk, off, none⟩ (.int .u64 x3)).drew blk off 1 (upd d11 0 x3)) := (Hx2.out.set 0 (by omega) x3).drew
  have Kx3 : Hid (Keep blk off 1 w (w2.setCell ⟨blk, off, none⟩ (.int .u64 x3)).drew) := (Kx2.out.setCell 0 (by omega) _).drew
  generalize (w2.setCell ⟨blk, off, none⟩ (.int .u64 x3)).drew = w3 at Hx3 Kx3 ⊢
  obtain ⟨d111, hdx3, hux3⟩ : ∃ q : Nat → Int, q = upd d11 0 x3 ∧ q 0 = x3 := ⟨_, rfl, upd_same _ _ _⟩
  rw [← hdx3] at Hx3
  clear hdx3 hcx2 hfx2
  have hcx3 : w3.cell? ⟨blk, off, none⟩ = some (.int .u64 x3) := by rw [← hux3]; exact Hx3.out.cell 0 (by omega)
  have hfx3 : w3.frozen? ⟨blk, off, none⟩ = false := Hx3.out.loose 0 (by omega)
  have HUx3 : Hid (d111 0 = x3) := hux3
  clear hux3
  go_wp2_with fail
  go_ret
  exact ⟨d111, by rw [HUx3.out]; rfl, Kx3, Hx3⟩

theorem and_le (v : Int) (m : Nat) (hm : m < 18446744073709551616) : ∃ r : Nat, bits .and .u64 v (m : Int) = r ∧ r ≤ m := by
  refine ⟨(BitVec.ofInt 64 v).toNat &&& m, ?_, Nat.and_le_right⟩
  have hx : (BitVec.ofInt 64 v).toNat &&& m ≤ m := Nat.and_le_right
  show IntKind.u64.wrap ((BitVec.ofInt 64 v &&& BitVec.ofInt 64 (m : Int)).toNat : Int) = _
  rw [BitVec.toNat_and, ofInt_u64 m hm, IntKind.wrap_u64]
  omega

end Go.Proofs.Qxb6601408a.Fin
