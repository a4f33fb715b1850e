/-
  The walks of the helpers that read: ZZMinTreeLows, ZZMinTreeAdds, slotValue, lesser32, eachNodeLeastBelow, minTreeShape, addRunDomain, the length guards.
-/
import Derived.Test.Qxb6601508aTreeMake
namespace Go.Proofs.Qxb6601508a.Tree
set_option linter.unusedVariables false
open Go.RowKit

set_option maxHeartbeats 1000000 in
theorem lows_c (T N size : Nat) (n : Int) (low add : Nat → Int) (w : World) (h : At w T N n size low add) (hs : size ≤ 65536) (hT : T < w.heap.size) (hN : N < w.heap.size) :
    Calls Try.prog 19 #[.pointer (some ⟨T, 0, none⟩)] w (Copied (2 * size) low w) := by
  have g0 := h.nodes
  have HA : Hid (At w T N n size low add) := h
  clear h
  obtain ⟨i0, hi, hz0, hz1, hz2⟩ := info_parts info21
  go_enter Try.func19, Try.ntmps19
  go_wp2_with (at_make; refine wpList_make_full _ rfl (.tmp 9) (.tmp 9) 25 rfl w.heap.size 21 i0 (.int .i32 0) 1 Try.underlying25 hi hz0 hz1 .i64 .i64 _ _ (2 * size) rfl rfl (by omega) (by omega) (by rw [hz2]; omega) (by unfold maxLen; omega) (Nat.le_refl _) ?_; intro w1 hown hgrow; have hb1 : Below w.heap.size w w1 := (Below.refl _ _).grown hgrow (Nat.le_refl _) (by simp); have g1 : w1.cell? ⟨T, 2, none⟩ = some (.slice (some ⟨N, 0, none⟩) (2 * size) (2 * size)) := (hb1.cell (by exact hT)).trans g0; have HB : Hid (Below w.heap.size w w1) := hb1; clear hb1)
  have HO : Hid (w1.ownsRow w.heap.size 21 1 (.slice (some ⟨w.heap.size, 0, none⟩) (2 * size) (2 * size)) (2 * size) (madeCells (Value.int .i32 0).cells (2 * size * 1)).toList) := hown
  clear hown hgrow hi hz0 hz1 hz2
  go_loopw [16] (fun i wr => ∃ (k : Nat) (xs : List Value), k ≤ 2 * size ∧ i = .int .i64 k ∧ Hid (wr.ownsRow w.heap.size 21 1 (.slice (some ⟨w.heap.size, 0, none⟩) (2 * size) (2 * size)) (2 * size) xs) ∧ Hid (∀ j, j < k → xs[j]? = some (.int .i32 (low j))) ∧ Hid (Below w.heap.size w wr)) (fun i _ => 2 * size - (intOf i).toNat)
  case atStart => exact ⟨0, _, Nat.zero_le _, rfl, HO, fun j hj => absurd hj (Nat.not_lt_zero _), HB⟩
  case round =>
    obtain ⟨k, xs, hk, rfl, hown, hxs, hbel⟩ := hrel
    clear g0 g1
    by_cases hlt : k < 2 * size
    · have q0 : wr.cell? ⟨T, 2, none⟩ = some (.slice (some ⟨N, 0, none⟩) (2 * size) (2 * size)) := (hbel.out.cell (by exact hT)).trans HA.out.nodes
      have q1 : wr.cell? ⟨N, k * 2, none⟩ = some (.int .i32 (low k)) := (hbel.out.cell (by exact hN)).trans (HA.out.low_ k hlt)
      have g2 := hown.out.frozenAt k
      have hlen := hown.out.1
      obtain ⟨u0, g3⟩ : ∃ u0, wr.cell? ⟨w.heap.size, k, none⟩ = some u0 := by
        rw [hown.out.cellAt k (by omega)]
        exact ⟨xs[k]'(by omega), List.getElem?_eq_getElem (by omega)⟩
      have HS : Hid ((wr.setCell ⟨w.heap.size, k, none⟩ (.int .i32 (low k))).ownsRow w.heap.size 21 1 (.slice (some ⟨w.heap.size, 0, none⟩) (2 * size) (2 * size)) (2 * size) (xs.set k (.int .i32 (low k)))) := (hown.out.stored k _).1
      have HX : Hid (∀ j, j < k + 1 → (xs.set k (.int .i32 (low k)))[j]? = some (.int .i32 (low j))) := fun j hj => by
        by_cases e : j = k
        · subst e; rw [List.getElem?_set_self (by omega)]
        · rw [List.getElem?_set_ne (by omega)]; exact hxs j (by omega)
      go_wp2_with fail
      go_roundw
      case rel => exact ⟨k + 1, _, by omega, by go_num, HS, HX, hbel.out.setCell (Nat.le_refl _) _⟩
      case measure => simp [intOf]; omega
    · obtain rfl : k = 2 * size := by omega
      go_wp2_with fail
      go_ret
      exact ⟨w.heap.size, rfl, Nat.le_refl _, row_lt hown.out, fun j hj => by rw [hown.out.cellAt j (by omega)]; exact hxs j hj, hbel⟩
set_option maxHeartbeats 1000000 in
theorem adds_c (T N size : Nat) (n : Int) (low add : Nat → Int) (w : World) (h : At w T N n size low add) (hs : size ≤ 65536) (hT : T < w.heap.size) (hN : N < w.heap.size) :
    Calls Try.prog 20 #[.pointer (some ⟨T, 0, none⟩)] w (Copied (2 * size) add w) := by
  have g0 := h.nodes
  have HA : Hid (At w T N n size low add) := h
  clear h
  obtain ⟨i0, hi, hz0, hz1, hz2⟩ := info_parts info21
  go_enter Try.func20, Try.ntmps20
  go_wp2_with (at_make; refine wpList_make_full _ rfl (.tmp 9) (.tmp 9) 25 rfl w.heap.size 21 i0 (.int .i32 0) 1 Try.underlying25 hi hz0 hz1 .i64 .i64 _ _ (2 * size) rfl rfl (by omega) (by omega) (by rw [hz2]; omega) (by unfold maxLen; omega) (Nat.le_refl _) ?_; intro w1 hown hgrow; have hb1 : Below w.heap.size w w1 := (Below.refl _ _).grown hgrow (Nat.le_refl _) (by simp); have g1 : w1.cell? ⟨T, 2, none⟩ = some (.slice (some ⟨N, 0, none⟩) (2 * size) (2 * size)) := (hb1.cell (by exact hT)).trans g0; have HB : Hid (Below w.heap.size w w1) := hb1; clear hb1)
  have HO : Hid (w1.ownsRow w.heap.size 21 1 (.slice (some ⟨w.heap.size, 0, none⟩) (2 * size) (2 * size)) (2 * size) (madeCells (Value.int .i32 0).cells (2 * size * 1)).toList) := hown
  clear hown hgrow hi hz0 hz1 hz2
  go_loopw [16] (fun i wr => ∃ (k : Nat) (xs : List Value), k ≤ 2 * size ∧ i = .int .i64 k ∧ Hid (wr.ownsRow w.heap.size 21 1 (.slice (some ⟨w.heap.size, 0, none⟩) (2 * size) (2 * size)) (2 * size) xs) ∧ Hid (∀ j, j < k → xs[j]? = some (.int .i32 (add j))) ∧ Hid (Below w.heap.size w wr)) (fun i _ => 2 * size - (intOf i).toNat)
  case atStart => exact ⟨0, _, Nat.zero_le _, rfl, HO, fun j hj => absurd hj (Nat.not_lt_zero _), HB⟩
  case round =>
    obtain ⟨k, xs, hk, rfl, hown, hxs, hbel⟩ := hrel
    clear g0 g1
    by_cases hlt : k < 2 * size
    · have q0 : wr.cell? ⟨T, 2, none⟩ = some (.slice (some ⟨N, 0, none⟩) (2 * size) (2 * size)) := (hbel.out.cell (by exact hT)).trans HA.out.nodes
      have q1 : wr.cell? ⟨N, k * 2 + 1, none⟩ = some (.int .i32 (add k)) := (hbel.out.cell (by exact hN)).trans (HA.out.add_ k hlt)
      have g2 := hown.out.frozenAt k
      have hlen := hown.out.1
      obtain ⟨u0, g3⟩ : ∃ u0, wr.cell? ⟨w.heap.size, k, none⟩ = some u0 := by
        rw [hown.out.cellAt k (by omega)]
        exact ⟨xs[k]'(by omega), List.getElem?_eq_getElem (by omega)⟩
      have HS : Hid ((wr.setCell ⟨w.heap.size, k, none⟩ (.int .i32 (add k))).ownsRow w.heap.size 21 1 (.slice (some ⟨w.heap.size, 0, none⟩) (2 * size) (2 * size)) (2 * size) (xs.set k (.int .i32 (add k)))) := (hown.out.stored k _).1
      have HX : Hid (∀ j, j < k + 1 → (xs.set k (.int .i32 (add k)))[j]? = some (.int .i32 (add j))) := fun j hj => by
        by_cases e : j = k
        · subst e; rw [List.getElem?_set_self (by omega)]
        · rw [List.getElem?_set_ne (by omega)]; exact hxs j (by omega)
      go_wp2_with fail
      go_roundw
      case rel => exact ⟨k + 1, _, by omega, by go_num, HS, HX, hbel.out.setCell (Nat.le_refl _) _⟩
      case measure => simp [intOf]; omega
    · obtain rfl : k = 2 * size := by omega
      go_wp2_with fail
      go_ret
      exact ⟨w.heap.size, rfl, Nat.le_refl _, row_lt hown.out, fun j hj => by rw [hown.out.cellAt j (by omega)]; exact hxs j hj, hbel⟩

theorem i64_in (x : Int) (h1 : 0 ≤ x) (h2 : x ≤ 1073741824) : IntKind.i64.wrap x = x := by rw [IntKind.wrap_i64]; omega
theorem i32_is (x : Int) : IntKind.i32.wrap x = wrap32 x := by rw [IntKind.wrap_i32]; unfold wrap32; omega

/-- a slice of int32s that reads as z says -/
def Row (w : World) (b o m : Nat) (z : Nat → Int) : Prop := ∀ j, j < m → w.cell? ⟨b, o + j, none⟩ = some (.int .i32 (z j))

def SlotIs (x : Int) (w : World) (e : Ending) (w' : World) : Prop := ∃ r, e = .returned (.int .i32 r) ∧ R r ∧ r % 4294967296 = x % 4294967296 ∧ w = w'

set_option maxHeartbeats 1000000 in
theorem slot_c (b1 o1 c1 b2 o2 c2 size s : Nat) (low add : Nat → Int) (w : World) (hs : size ≤ 65536) (hlt : s < size)
    (hl : Row w b1 o1 (2 * size) low) (ha : Row w b2 o2 (2 * size) add) (hr : R (low (size + s))) :
    Calls Try.prog 21 #[.int .i64 size, .slice (some ⟨b1, o1, none⟩) (2 * size) c1, .slice (some ⟨b2, o2, none⟩) (2 * size) c2, .int .i64 s] w (SlotIs (val low add (size + s)) w) := by
  have HA : Hid (Row w b2 o2 (2 * size) add) := ha
  have g1 := hl (size + s) (by omega)
  have HR : Hid (R (low (size + s))) := hr
  obtain ⟨v0, hv0⟩ : ∃ v0, v0 = low (size + s) := ⟨_, rfl⟩
  rw [← hv0] at g1
  have HV : Hid (v0 = low (size + s)) := hv0
  clear hl ha hr hv0
  go_enter Try.func21, Try.ntmps21
  go_wp2_with fail
  go_loop [10, 11] (fun vv av => ∃ (a : Nat) (v : Int), vv = .int .i32 v ∧ av = .int .i64 a ∧ a < size ∧ Hid (R v) ∧ Hid ((v + S add a) % 4294967296 = val low add (size + s) % 4294967296)) (fun _ av => (intOf av).toNat)
  case atStart =>
    exact ⟨(size + s) / 2, v0, rfl, by go_num, by omega, by rw [HV.out]; exact HR, by show _ = _; rw [HV.out]; rfl⟩
  case round =>
    obtain ⟨a, v, rfl, rfl, ha, hR, hsum⟩ := hrel
    clear g1
    by_cases h1 : 1 ≤ a
    · have g2 := HA.out a (by omega)
      obtain ⟨c, hc⟩ : ∃ c, c = add a := ⟨_, rfl⟩
      rw [← hc] at g2
      have HC : Hid (c = add a) := hc
      clear hc
      go_wp2_with fail
      go_round
      case rel =>
        refine ⟨a / 2, _, rfl, by go_num, by omega, R_wrap _, ?_⟩
        have e1 := hsum.out
        have e2 := wrap32_mod (v + c)
        rw [S_step add a (by omega)] at e1
        rw [HC.out] at *
        show _ = _
        omega
      case measure => simp [intOf]; omega
    · obtain rfl : a = 0 := by omega
      go_wp2_with fail
      go_ret
      refine ⟨v, rfl, hR, ?_, rfl⟩
      have e1 := hsum.out
      rw [S_zero] at e1
      omega

theorem min2_lt {a b : Int} (h : a < b) : min2 a b = a := by unfold min2; rw [if_neg (by omega)]
theorem min2_ge {a b : Int} (h : ¬ a < b) : min2 a b = b := by unfold min2; split <;> omega

set_option maxHeartbeats 400000 in
theorem lesser_c (a b : Int) (w : World) : Calls Try.prog 36 #[.int .i32 a, .int .i32 b] w fun e w' => e = .returned (.int .i32 (min2 a b)) ∧ w' = w := by
  by_cases h : a < b
  · rw [min2_lt h]
    go_enter Try.func36, Try.ntmps36
    go_wp2
    go_ret
    exact ⟨rfl, rfl⟩
  · rw [min2_ge h]
    go_enter Try.func36, Try.ntmps36
    go_wp2
    go_ret
    exact ⟨rfl, rfl⟩

/-- a bool that is true just where P holds; the world but for draws -/
def Asks (P : Prop) (w : World) (e : Ending) (w' : World) : Prop := ∃ b : Bool, e = .returned (.bool b) ∧ (b = true ↔ P) ∧ ∃ n, w' = w.drewN n

set_option maxHeartbeats 1000000 in
theorem each_c (b1 o1 c1 b2 o2 c2 size : Nat) (low add : Nat → Int) (w : World) (hs : size ≤ 65536)
    (hl : Row w b1 o1 (2 * size) low) (ha : Row w b2 o2 (2 * size) add) :
    Calls Try.prog 23 #[.int .i64 size, .slice (some ⟨b1, o1, none⟩) (2 * size) c1, .slice (some ⟨b2, o2, none⟩) (2 * size) c2] w (Asks (∀ m, m ≠ 0 → m < size → Least low add m) w) := by
  have HL : Hid (Row w b1 o1 (2 * size) low) := hl
  have HA : Hid (Row w b2 o2 (2 * size) add) := ha
  clear hl ha
  go_enter Try.func23, Try.ntmps23
  go_wp2_with fail
  go_loopw [7] (fun jv wr => ∃ j : Nat, 1 ≤ j ∧ j ≤ size + 1 ∧ jv = .int .i64 j ∧ Hid (∃ nq, wr = w.drewN nq) ∧ Hid (∀ m, m ≠ 0 → m < j → m < size → Least low add m)) (fun jv _ => size + 1 - (intOf jv).toNat)
  case atStart => exact ⟨1, by omega, by omega, rfl, ⟨0, rfl⟩, fun m _ _ => by omega⟩
  case round =>
    obtain ⟨j, hj1, hjs, rfl, hdr, hall⟩ := hrel
    have hcl : ∀ b o, wr.cell? ⟨b, o, none⟩ = w.cell? ⟨b, o, none⟩ := fun b o => by obtain ⟨nq, h⟩ := hdr.out; rw [h]; rfl
    have HL' : Hid (Row wr b1 o1 (2 * size) low) := fun k hk => (hcl _ _).trans (HL.out k hk)
    have HA' : Hid (Row wr b2 o2 (2 * size) add) := fun k hk => (hcl _ _).trans (HA.out k hk)
    clear hcl
    by_cases hlt : j < size
    · have g1 := HL'.out j (by omega)
      have g2 := HA'.out j (by omega)
      obtain ⟨j2, hj2⟩ : ∃ j2 : Nat, j2 = 2 * j := ⟨_, rfl⟩
      obtain ⟨j3, hj3⟩ : ∃ j3 : Nat, j3 = 2 * j + 1 := ⟨_, rfl⟩
      have g3 := HL'.out j2 (by omega)
      have g4 := HL'.out j3 (by omega)
      obtain ⟨x, hx⟩ : ∃ x, x = low j := ⟨_, rfl⟩
      obtain ⟨a, hA⟩ : ∃ a, a = add j := ⟨_, rfl⟩
      obtain ⟨y, hy⟩ : ∃ y, y = low j2 := ⟨_, rfl⟩
      obtain ⟨z, hz⟩ : ∃ z, z = low j3 := ⟨_, rfl⟩
      rw [← hx] at g1
      rw [← hA] at g2
      rw [← hy] at g3
      rw [← hz] at g4
      have HX : Hid (Least low add j ↔ x = wrap32 (a + min2 y z)) := by unfold Least; rw [hx, hA, hy, hz, hj2, hj3]; exact Iff.rfl
      clear hx hA hy hz
      have i1 : (j : Int) < 2 * (size : Int) := by omega
      have i2 : (j2 : Int) < 2 * (size : Int) := by omega
      have i3 : (j3 : Int) < 2 * (size : Int) := by omega
      have e1 : IntKind.i64.wrap (2 * (j : Int)) = (j2 : Int) := (i64_in _ (by omega) (by omega)).trans (by omega)
      have e2 : IntKind.i64.wrap ((j2 : Int) + 1) = (j3 : Int) := (i64_in _ (by omega) (by omega)).trans (by omega)
      clear hj2 hj3
      have e3 := i32_is (a + min2 y z)
      by_cases hq : x = wrap32 (a + min2 y z)
      · have t1 : (x != wrap32 (a + min2 y z)) = false := by simp; exact hq
        have HQ : Hid (Least low add j) := HX.out.2 hq
        clear hq
        go_wp2_with fail
        go_quiet ((go_at_call 36; exact Calls.quiet_of_same (lesser_c _ _ _)))
        go_wp2_with fail
        go_roundw
        case rel =>
          refine ⟨j + 1, by omega, by omega, by go_num, ?_, fun m h1 h2 h3 => ?_⟩
          · obtain ⟨k, hk⟩ := hdr.out; exact ⟨k + nq, by rw [hk, World.drewN_drewN]⟩
          · by_cases e : m = j
            · subst e; exact HQ
            · exact hall m h1 (by omega) h3
        case measure => simp [intOf]; omega
      · have t1 : (x != wrap32 (a + min2 y z)) = true := by simp; exact hq
        have HQ : Hid (¬ Least low add j) := fun h => hq (HX.out.1 h)
        clear hq
        go_wp2_with fail
        go_quiet ((go_at_call 36; exact Calls.quiet_of_same (lesser_c _ _ _)))
        go_wp2_with fail
        go_ret
        refine ⟨false, rfl, ⟨fun h => absurd h (by decide), fun h => absurd (h j (by omega) hlt) HQ⟩, ?_⟩
        obtain ⟨k, hk⟩ := hdr.out; exact ⟨k + nq, by rw [hk, World.drewN_drewN]⟩
    · go_wp2_with fail
      go_ret
      exact ⟨true, rfl, ⟨fun _ m h1 h2 => hall m h1 (by omega) h2, fun _ => rfl⟩, hdr⟩

theorem pow_of_and : ∀ (n x : Nat), x ≤ n → x ≠ 0 → x &&& (x - 1) = 0 → ∃ a, x = 2 ^ a := by
  intro n
  induction n with
  | zero => intro x h1 h2; omega
  | succ n ih =>
    intro x h1 h2 h3
    have h4 : (x &&& (x - 1)) / 2 = 0 := by rw [h3]
    rw [Nat.and_div_two] at h4
    by_cases e : x % 2 = 1
    · rw [show (x - 1) / 2 = x / 2 from by omega, Nat.and_self] at h4
      exact ⟨0, by rw [Nat.pow_zero]; omega⟩
    · rw [show (x - 1) / 2 = x / 2 - 1 from by omega] at h4
      obtain ⟨a, ha⟩ := ih (x / 2) (by omega) (by omega) h4
      exact ⟨a + 1, by rw [Nat.pow_succ, ← ha]; omega⟩

theorem and_pred (x : Nat) (h : x < 1073741824) : bits BinOp.and IntKind.i64 (x : Int) ((x - 1 : Nat) : Int) = ((x &&& (x - 1) : Nat) : Int) :=
  (bits_nat .i64 62 (by decide) wraps62 x (x - 1) (by omega) (by omega)).1

/-- a bool; where it is true, P -/
def Tells (P : Prop) (w : World) (e : Ending) (w' : World) : Prop := ∃ b : Bool, e = .returned (.bool b) ∧ (b = true → P) ∧ w = w'

def Shape (size : Int) (l1 l2 : Nat) : Prop := ∃ a, size = ((2 ^ a : Nat) : Int) ∧ 2 ^ a ≤ 65536 ∧ l1 = 2 * 2 ^ a ∧ l2 = 2 * 2 ^ a

set_option maxHeartbeats 1000000 in
theorem shape_c (size : Int) (a1 a2 : Option Addr) (l1 l2 c1 c2 : Nat) (w : World) (h1 : l1 ≤ 1048576) (h2 : l2 ≤ 1048576) :
    Calls Try.prog 25 #[.int .i64 size, .slice a1 l1 c1, .slice a2 l2 c2] w (Tells (Shape size l1 l2) w) := by
  by_cases k1 : size < 1
  · have d1 : decide (size < 1) = true := decide_eq_true k1
    go_enter Try.func25, Try.ntmps25
    go_wp2_with fail
    go_ret
    exact ⟨false, rfl, fun h => absurd h (by decide), rfl⟩
  · have d1 : decide (size < 1) = false := decide_eq_false k1
    by_cases k2 : 65536 < size
    · have d2 : decide (65536 < size) = true := decide_eq_true k2
      go_enter Try.func25, Try.ntmps25
      go_wp2_with fail
      go_ret
      exact ⟨false, rfl, fun h => absurd h (by decide), rfl⟩
    · have d2 : decide (65536 < size) = false := decide_eq_false k2
      obtain ⟨x, rfl⟩ := Int.eq_ofNat_of_zero_le (show 0 ≤ size by omega)
      obtain ⟨y, hy⟩ : ∃ y : Nat, y = x &&& (x - 1) := ⟨_, rfl⟩
      have e1 : bits BinOp.and IntKind.i64 (x : Int) ((x : Int) - 1) = (y : Int) := by
        have := and_pred x (by omega)
        rw [show ((x - 1 : Nat) : Int) = (x : Int) - 1 from by omega] at this
        rw [this, hy]
      have HY : Hid (y = x &&& (x - 1)) := hy
      clear hy
      by_cases k3 : y = 0
      · have d3 : ((y : Int) != 0) = false := by simp [k3]
        have H3 : Hid (y = 0) := k3
        clear k3
        go_enter Try.func25, Try.ntmps25
        go_wp2_with fail
        · go_ret
          have e2 : (l1 : Int) = 2 * (x : Int) := by assumption
          refine ⟨_, rfl, fun h => ?_, rfl⟩
          have e3 : (l2 : Int) = 2 * (x : Int) := by simpa using h
          obtain ⟨a, ha⟩ := pow_of_and x x (Nat.le_refl _) (by omega) (by rw [← HY.out]; exact H3)
          exact ⟨a, by rw [ha], by omega, by omega, by omega⟩
        · go_ret
          exact ⟨false, rfl, fun h => absurd h (by decide), rfl⟩
      · have d3 : ((y : Int) != 0) = true := by simp; omega
        go_enter Try.func25, Try.ntmps25
        go_wp2_with fail
        go_ret
        exact ⟨false, rfl, fun h => absurd h (by decide), rfl⟩

def Dom (size : Int) (l1 l2 : Nat) (p q : Int) : Prop :=
  ∃ a f u : Nat, size = ((2 ^ a : Nat) : Int) ∧ 2 ^ a ≤ 65536 ∧ l1 = 2 * 2 ^ a ∧ l2 = 2 * 2 ^ a ∧ p = f ∧ q = u ∧ f < 2 ^ a ∧ u ≤ 2 ^ a

set_option maxHeartbeats 1000000 in
theorem dom_c (n size p q : Int) (a1 a2 : Option Addr) (l1 l2 c1 c2 : Nat) (w : World) (h1 : l1 ≤ 1048576) (h2 : l2 ≤ 1048576) :
    Calls Try.prog 15 #[.int .i64 n, .int .i64 size, .slice a1 l1 c1, .slice a2 l2 c2, .int .i64 p, .int .i64 q] w (Tells (Dom size l1 l2 p q) w) := by
  by_cases k1 : n < 0
  · have d1 : decide (n < 0) = true := decide_eq_true k1
    go_enter Try.func15, Try.ntmps15
    go_wp2_with fail
    refine (shape_c size a1 a2 l1 l2 c1 c2 _ h1 h2).mono ?_
    rintro e w' ⟨b, rfl, hb, rfl⟩
    cases b <;> (go_wp2_with fail; go_ret; exact ⟨false, rfl, fun h => absurd h (by decide), rfl⟩)
  · have d1 : decide (n < 0) = false := decide_eq_false k1
    by_cases k2 : size < n
    · have d2 : decide (size < n) = true := decide_eq_true k2
      go_enter Try.func15, Try.ntmps15
      go_wp2_with fail
      refine (shape_c size a1 a2 l1 l2 c1 c2 _ h1 h2).mono ?_
      rintro e w' ⟨b, rfl, hb, rfl⟩
      cases b <;> (go_wp2_with fail; go_ret; exact ⟨false, rfl, fun h => absurd h (by decide), rfl⟩)
    · have d2 : decide (size < n) = false := decide_eq_false k2
      by_cases k3 : p < 0
      · have d3 : decide (p < 0) = true := decide_eq_true k3
        go_enter Try.func15, Try.ntmps15
        go_wp2_with fail
        refine (shape_c size a1 a2 l1 l2 c1 c2 _ h1 h2).mono ?_
        rintro e w' ⟨b, rfl, hb, rfl⟩
        cases b <;> (go_wp2_with fail; go_ret; exact ⟨false, rfl, fun h => absurd h (by decide), rfl⟩)
      · have d3 : decide (p < 0) = false := decide_eq_false k3
        by_cases k4 : n < p
        · have d4 : decide (n < p) = true := decide_eq_true k4
          go_enter Try.func15, Try.ntmps15
          go_wp2_with fail
          refine (shape_c size a1 a2 l1 l2 c1 c2 _ h1 h2).mono ?_
          rintro e w' ⟨b, rfl, hb, rfl⟩
          cases b <;> (go_wp2_with fail; go_ret; exact ⟨false, rfl, fun h => absurd h (by decide), rfl⟩)
        · have d4 : decide (n < p) = false := decide_eq_false k4
          by_cases k5 : q < 0
          · have d5 : decide (q < 0) = true := decide_eq_true k5
            go_enter Try.func15, Try.ntmps15
            go_wp2_with fail
            refine (shape_c size a1 a2 l1 l2 c1 c2 _ h1 h2).mono ?_
            rintro e w' ⟨b, rfl, hb, rfl⟩
            cases b <;> (go_wp2_with fail; go_ret; exact ⟨false, rfl, fun h => absurd h (by decide), rfl⟩)
          · have d5 : decide (q < 0) = false := decide_eq_false k5
            by_cases k6 : n < q
            · have d6 : decide (n < q) = true := decide_eq_true k6
              go_enter Try.func15, Try.ntmps15
              go_wp2_with fail
              refine (shape_c size a1 a2 l1 l2 c1 c2 _ h1 h2).mono ?_
              rintro e w' ⟨b, rfl, hb, rfl⟩
              cases b <;> (go_wp2_with fail; go_ret; exact ⟨false, rfl, fun h => absurd h (by decide), rfl⟩)
            · have d6 : decide (n < q) = false := decide_eq_false k6
              go_enter Try.func15, Try.ntmps15
              go_wp2_with fail
              refine (shape_c size a1 a2 l1 l2 c1 c2 _ h1 h2).mono ?_
              rintro e w' ⟨b, rfl, hb, rfl⟩
              have HB : Hid (b = true → Shape size l1 l2) := hb
              clear hb
              cases b
              · go_wp2_with fail
                go_ret
                exact ⟨false, rfl, fun h => absurd h (by decide), rfl⟩
              · have HB' : Hid (Shape size l1 l2) := HB.out rfl
                clear HB
                go_wp2_with fail
                go_ret
                refine ⟨_, rfl, fun h => ?_, rfl⟩
                have h' : p < size := by simpa using h
                obtain ⟨a, ha, hs, e1, e2⟩ := HB'.out
                obtain ⟨f, rfl⟩ := Int.eq_ofNat_of_zero_le (show 0 ≤ p by omega)
                obtain ⟨u, rfl⟩ := Int.eq_ofNat_of_zero_le (show 0 ≤ q by omega)
                exact ⟨a, f, u, ha, hs, e1, e2, rfl, rfl, by omega, by omega⟩

set_option maxHeartbeats 1000000 in
theorem bytes14 (n size p q d : Int) (a1 a2 : Option Addr) (l1 l2 c1 c2 : Nat) (w : World) (h1 : l1 ≤ maxLen) (h2 : l2 ≤ maxLen) :
    Calls Try.prog 14 #[.int .i64 n, .int .i64 size, .slice a1 l1 c1, .slice a2 l2 c2, .int .i64 p, .int .i64 q, .int .i32 d] w (Tells (l1 ≤ 1048576 ∧ l2 ≤ 1048576) w) := by
  unfold maxLen at h1 h2
  go_enter Try.func14, Try.ntmps14
  go_wp2_with fail
  all_goals go_ret
  all_goals first | exact ⟨false, rfl, fun h => absurd h (by decide), rfl⟩ | exact ⟨true, rfl, fun _ => by omega, rfl⟩

set_option maxHeartbeats 1000000 in
theorem bytes22 (n size p q d : Int) (a1 a2 : Option Addr) (l1 l2 c1 c2 : Nat) (w : World) (h1 : l1 ≤ maxLen) (h2 : l2 ≤ maxLen) :
    Calls Try.prog 22 #[.int .i64 n, .int .i64 size, .slice a1 l1 c1, .slice a2 l2 c2, .int .i64 p, .int .i64 q, .int .i32 d] w (Tells (l1 ≤ 1048576 ∧ l2 ≤ 1048576) w) := by
  unfold maxLen at h1 h2
  go_enter Try.func22, Try.ntmps22
  go_wp2_with fail
  all_goals go_ret
  all_goals first | exact ⟨false, rfl, fun h => absurd h (by decide), rfl⟩ | exact ⟨true, rfl, fun _ => by omega, rfl⟩

set_option maxHeartbeats 1000000 in
theorem zzAdd_c (T N a from_ to_ : Nat) (n d : Int) (low add : Nat → Int) (w : World) (h : At w T N n (2 ^ a) low add) (hs : 2 ^ a ≤ 65536) (hf : from_ < 2 ^ a) (ht : to_ ≤ 2 ^ a) :
    Calls Try.prog 18 #[.pointer (some ⟨T, 0, none⟩), .int .i64 from_, .int .i64 to_, .int .i32 d] w (Ran T N n a (from_ + 2 ^ a) (to_ + 2 ^ a) d low add w) := by
  have HA : Hid (At w T N n (2 ^ a) low add) := h
  have HS : Hid (2 ^ a ≤ 65536) := hs
  have HF : Hid (from_ < 2 ^ a) := hf
  have HT : Hid (to_ ≤ 2 ^ a) := ht
  clear h hs hf ht
  go_enter Try.func18, Try.ntmps18
  go_wp2_with fail
  refine (addRun_c T N a from_ to_ n d low add _ HA.out HS HF HT).mono ?_
  rintro e w' ⟨low', add', ⟨rfl, ho, ha⟩, h1, h2, h3⟩
  have HR : Hid (Ran T N n a (from_ + 2 ^ a) (to_ + 2 ^ a) d low add w (.returned (.tuple #[])) w') := ⟨low', add', ⟨rfl, ho, ha⟩, h1, h2, h3⟩
  clear ho ha h1 h2 h3
  go_wp2_with fail
  go_end0
  exact HR
end Go.Proofs.Qxb6601508a.Tree
