/-
  The walk of the law FnFirstAtFindsTheEndSlotAtMostX.
-/
import Derived.Test.Qxb6601508aFirstReads
import Derived.Test.Qxb6601508aAddLaws
namespace Go.Proofs.Qxb6601508a.Tree
open Go.RowKit
set_option linter.unusedVariables false

set_option maxHeartbeats 1000000 in
theorem bytes24 (n size p q r f t x : Int) (dd : ByteArray) (a1 a2 : Option Addr) (l1 l2 c1 c2 : Nat) (w : World) (h1 : l1 ≤ maxLen) (h2 : l2 ≤ maxLen) (h3 : dd.size ≤ maxLen) :
    Calls Try.prog 24 #[.int .i64 n, .int .i64 size, .slice a1 l1 c1, .slice a2 l2 c2, .int .i64 p, .int .i64 q, .int .i64 r, .int .i64 f, .int .i64 t, .int .i32 x, .string dd] w (Tells (l1 ≤ 1048576 ∧ l2 ≤ 1048576 ∧ dd.size ≤ 1048576) w) := by
  unfold maxLen at h1 h2 h3
  go_enter Try.func24, Try.ntmps24
  go_wp2_with fail
  all_goals go_ret
  all_goals first | exact ⟨false, rfl, fun h => absurd h (by decide), rfl⟩ | exact ⟨true, rfl, fun _ => by omega, rfl⟩

set_option maxHeartbeats 1000000 in
theorem zzFirst_c (back : Bool) (T N size : Nat) (n f t : Int) (low add : Nat → Int) (dd : ByteArray) (w : World) (hat : At w T N n size low add) (hs : size ≤ 65536) (hdd : (dd.toList == [98, 97, 99, 107, 119, 97, 114, 100]) = back)
    (h i lo : Nat) (x iv lov hiv : Int) (e1 : iv = i) (e2 : lov = lo) (e3 : hiv = ((lo + 2 ^ h : Nat) : Int)) (hi : i * 2 ^ h = size + lo) (hle : lo + 2 ^ h ≤ size) (hp : Prem low add h i x) (hx : -2147483648 ≤ x ∧ x ≤ 2147483647) :
    Calls Try.prog 27 #[.pointer (some ⟨T, 0, none⟩), .int .i64 iv, .int .i64 lov, .int .i64 hiv, .int .i64 f, .int .i64 t, .int .i32 x, .string dd] w (FoundIs back low add size f t x h i lo w) := by
  have HC : Hid (Calls Try.prog 37 #[.pointer (some ⟨T, 0, none⟩), .int .i64 iv, .int .i64 lov, .int .i64 hiv, .int .i64 f, .int .i64 t, .int .i32 x, .string dd] w (FoundIs back low add size f t x h i lo w)) := by
    cases back
    · exact firstF T N size n f t low add dd w hat hs hdd h i lo x iv lov hiv e1 e2 e3 hi hle hp hx
    · exact firstB T N size n f t low add dd w hat hs hdd h i lo x iv lov hiv e1 e2 e3 hi hle hp hx
  clear hat hdd e1 e2 e3 hi hle hp
  go_enter Try.func27, Try.ntmps27
  go_wp2_with fail
  refine HC.out.mono ?_
  rintro e w' ⟨rfl, r, rfl, hr⟩
  have HR : Hid (Ends back low add size f t x h i lo r) := hr
  clear hr
  go_wp2_with fail
  go_ret
  exact ⟨rfl, r, rfl, HR⟩

set_option maxRecDepth 100000 in
set_option maxHeartbeats 4000000 in
theorem law7 (n size i lo hi f t x : Int) (dd : ByteArray) (a1 a2 : Option Addr) (l1 l2 c1 c2 : Nat) (z1 z2 : Nat → Int) (w : World) (m1 : l1 ≤ maxLen) (m2 : l2 ≤ maxLen) (m3 : dd.size ≤ maxLen) (h1 : Came w a1 l1 z1) (h2 : Came w a2 l2 z2) (hx : R x) :
    Calls Try.prog 7 #[.int .i64 n, .int .i64 size, .slice a1 l1 c1, .slice a2 l2 c2, .int .i64 i, .int .i64 lo, .int .i64 hi, .int .i64 f, .int .i64 t, .int .i32 x, .string dd] w (Law w) := by
  have H1 : Hid (Came w a1 l1 z1) := h1
  have H2 : Hid (Came w a2 l2 z2) := h2
  have M1 : Hid (l1 ≤ maxLen) := m1
  have M2 : Hid (l2 ≤ maxLen) := m2
  have M3 : Hid (dd.size ≤ maxLen) := m3
  have HX : Hid (R x) := hx
  have hxr := hx
  unfold R at hxr
  clear h1 h2 m1 m2 m3 hx
  go_enter Try.func7, Try.ntmps7
  go_wp2_with fail
  refine (bytes24 n size i lo hi f t x dd a1 a2 l1 l2 c1 c2 _ M1 M2 M3).mono ?_
  rintro e w' ⟨b, rfl, hb, rfl⟩
  cases b
  · clear hb
    go_wp2_with fail
    go_ret
    exact ⟨rfl, Below.refl _ _⟩
  obtain ⟨n1, n2, n3⟩ := hb rfl
  clear hb
  by_cases k1 : 262144 < l1
  · have d1 : decide (262144 < (l1 : Int)) = true := decide_eq_true (by omega)
    go_wp2_with fail
    go_ret
    exact ⟨rfl, Below.refl _ _⟩
  have d1 : decide (262144 < (l1 : Int)) = false := decide_eq_false (by omega)
  by_cases k2 : 262144 < l2
  · have d2 : decide (262144 < (l2 : Int)) = true := decide_eq_true (by omega)
    go_wp2_with fail
    go_ret
    exact ⟨rfl, Below.refl _ _⟩
  have d2 : decide (262144 < (l2 : Int)) = false := decide_eq_false (by omega)
  by_cases k3 : 1048576 < 4 * l1 + 4 * l2 + dd.size
  · go_wp2_with fail
    go_ret
    exact ⟨rfl, Below.refl _ _⟩
  go_wp2_with fail
  refine (shape_c size a1 a2 l1 l2 c1 c2 _ n1 n2).mono ?_
  rintro e w' ⟨b, rfl, hb, rfl⟩
  cases b
  · clear hb
    go_wp2_with fail
    go_ret
    exact ⟨rfl, Below.refl _ _⟩
  obtain ⟨a, e1, hs, e2, e3⟩ := hb rfl
  clear hb
  have hpos : 0 < 2 ^ a := Nat.pow_pos (by decide)
  generalize hsz : 2 ^ a = sz at e1 hs e2 e3 hpos
  subst e1 e2 e3
  have HZ : Hid (2 ^ a = sz) := hsz
  clear hsz
  obtain ⟨b1, o1, rfl, hb1, hr1⟩ := H1.out.1 (by omega)
  obtain ⟨b2, o2, rfl, hb2, hr2⟩ := H2.out.1 (by omega)
  have R1 : Hid (∀ k, R (z1 k)) := H1.out.2
  have R2 : Hid (∀ k, R (z2 k)) := H2.out.2
  have Q1 : Hid (Row w b1 o1 (2 * sz) z1) := hr1
  have Q2 : Hid (Row w b2 o2 (2 * sz) z2) := hr2
  clear H1 H2 hr1 hr2 M1 M2 M3
  go_wp2_with fail
  refine (prem_c b1 o1 c1 b2 o2 c2 a sz i lo hi x z1 z2 _ hs HZ.out.symm hb1 hb2 Q1 Q2 R1 R2 HX).mono ?_
  rintro e w0 ⟨b, rfl, hb, Y0'⟩
  have Y0 : Hid (Below w.heap.size w w0) := Y0'
  have P1 : Hid (Row w0 b1 o1 (2 * sz) z1) := Q1.out.below Y0' hb1
  have P2 : Hid (Row w0 b2 o2 (2 * sz) z2) := Q2.out.below Y0' hb2
  have hb1' : b1 < w0.heap.size := by have := Y0'.size; omega
  have hb2' : b2 < w0.heap.size := by have := Y0'.size; omega
  clear Y0' Q1 Q2
  cases b
  · clear hb
    go_wp2_with fail
    go_ret
    exact ⟨rfl, Y0⟩
  obtain ⟨iN, loN, h, e4, e5, e6, hi0, hil, hle, hpr⟩ := hb rfl
  clear hb
  obtain ⟨hiN, hhi⟩ : ∃ hiN : Nat, hiN = loN + 2 ^ h := ⟨_, rfl⟩
  rw [← hhi] at e6
  subst e4 e5 e6
  have HH : Hid (hiN = loN + 2 ^ h) := hhi
  have hle2 : hiN ≤ sz := by omega
  have hlh : loN < hiN := by have : 0 < 2 ^ h := Nat.pow_pos (by decide)
                             omega
  have hi1 : 1 ≤ iN := by omega
  have hi2 : iN < 2 * sz := by
    have : 0 < 2 ^ h := Nat.pow_pos (by decide)
    have : iN * 1 ≤ iN * 2 ^ h := Nat.mul_le_mul_left _ this
    omega
  have HIL : Hid (iN * 2 ^ h = sz + loN) := hil
  have HLE : Hid (loN + 2 ^ h ≤ sz) := hle
  have HPR : Hid (Prem z1 z2 h iN x) := hpr
  clear hhi hi0 hil hle hpr
  go_wp2_with fail
  refine (clone_c b1 o1 (2 * sz) c1 z1 _ hb1' (by omega) P1.out).mono ?_
  rintro e w1 ⟨B1, rfl, i1, i2, i3, i4⟩
  have X1 : Hid (Row w1 B1 0 (2 * sz) z1) := row0 i3
  have Y1 : Hid (Below w.heap.size w w1) := Y0.out.trans (i4.mono Y0.out.size)
  have P2' : Hid (Row w1 b2 o2 (2 * sz) z2) := P2.out.below i4 hb2'
  have hb2'' : b2 < w1.heap.size := by have := i4.size; omega
  clear i3 i4 Y0
  go_wp2_with fail
  refine (clone_c b2 o2 (2 * sz) c2 z2 _ hb2'' (by omega) P2'.out).mono ?_
  rintro e w2 ⟨B2, rfl, i5, i6, i7, i8⟩
  have X2 : Hid (Row w2 B2 0 (2 * sz) z2) := row0 i7
  have X1' : Hid (Row w2 B1 0 (2 * sz) z1) := X1.out.below i8 i2
  have Y2 : Hid (Below w.heap.size w w2) := Y1.out.trans (i8.mono Y1.out.size)
  have hB1 : B1 < w2.heap.size := by have := i8.size; omega
  clear i7 i8 X1 Y1 P1 P2 P2'
  go_wp2_with fail
  refine (new_c B1 0 (2 * sz) B2 0 (2 * sz) sz n z1 z2 _ hB1 i6 hs X1'.out X2.out).mono ?_
  rintro e w3 ⟨T, N, rfl, j1, j2, j3, j4, j5, j6⟩
  have XR1 : Hid (Row w3 B1 0 (2 * sz) z1) := X1'.out.below j6 hB1
  have XR2 : Hid (Row w3 B2 0 (2 * sz) z2) := X2.out.below j6 i6
  have BL : Hid (Below w.heap.size w w3) := Y2.out.trans (j6.mono Y2.out.size)
  have AT : Hid (At w3 T N n sz z1 z2) := j5
  clear j1 j2 j3 j4 j5 j6 X1' X2 Y2 k1 k2 k3 n1 n2 n3 i1 i2 i5 i6 hB1 hb1 hb2 hb1' hb2' hb2''
  cases hdd : (dd.toList == [98, 97, 99, 107, 119, 97, 114, 100])
  · go_wp2_with fail
    refine (zzFirst_c false T N sz n f t z1 z2 dd _ AT.out hs hdd h iN loN x _ _ _ rfl rfl (by rw [← HH.out]) HIL.out HLE.out HPR.out hxr).mono ?_
    rintro e w5 ⟨rfl, r, rfl, hr⟩
    have HRS : Hid (Ends false z1 z2 sz f t x h iN loN r) := hr
    clear hr
    go_wp2_with fail
    go_loop [24, 26] (fun wv sv => ∃ si : Int, wv = .int .i64 (-1) ∧ sv = .int .i64 si ∧ (loN : Int) ≤ si ∧ si ≤ hiN ∧ Hid (∀ s : Nat, loN ≤ s → s < loN + 2 ^ h → (s : Int) < si → ¬ Sat z1 z2 sz f t x h iN s)) (fun _ sv => ((hiN : Int) - intOf sv).toNat)
    case atStart => exact ⟨(loN : Int), rfl, rfl, by omega, by omega, fun s h1 h2 h3 => by omega⟩
    case round =>
      obtain ⟨si, rfl, rfl, hs1, hs2, hall⟩ := hrel
      by_cases hgo : si < (hiN : Int)
      · obtain ⟨v, rfl⟩ := Int.eq_ofNat_of_zero_le (show 0 ≤ si by omega)
        have hv1 : loN ≤ v := by omega
        have hv2 : v < hiN := by omega
        have hv3 : Hid (v < loN + 2 ^ h) := by rw [← HH.out]; exact hv2
        by_cases m1 : f ≤ (v : Int)
        · have d3 : decide (f ≤ (v : Int)) = true := decide_eq_true m1
          by_cases m2 : (v : Int) < t
          · have d4 : decide ((v : Int) < t) = true := decide_eq_true m2
            go_wp2_with fail
            refine (below_c B1 0 (2 * sz) B2 0 (2 * sz) sz iN v z1 z2 _ hs (by omega) (by omega) XR1.out XR2.out R1.out R2.out).mono ?_
            rintro e w6 ⟨rfl, rfl⟩
            rw [V_sum z1 z2 sz h iN loN v (by omega) HIL.out hv1 hv3]
            obtain ⟨vv, hvv⟩ : ∃ vv, vv = V z1 z2 sz h iN v := ⟨_, rfl⟩
            rw [← hvv]
            have HVV : Hid (vv = V z1 z2 sz h iN v) := hvv
            clear hvv
            by_cases m3 : vv ≤ x
            · have d5 : decide (vv ≤ x) = true := decide_eq_true m3
              have hrv : r = (v : Int) := HRS.out.uniq (.inr ⟨v, rfl, hv1, hv3, ⟨m1, m2, by rw [← HVV.out]; exact m3⟩, fun s' c1 c2 c3 => hall s' c1 c2 (by simp at c3; omega)⟩)
              have t9 : (r == (v : Int)) = true := by simp [hrv]
              clear hrv
              go_wp2_with fail
              go_ret
              exact ⟨rfl, BL⟩
            · have d5 : decide (vv ≤ x) = false := decide_eq_false m3
              have HNS : Hid (¬ Sat z1 z2 sz f t x h iN v) := fun h => m3 (by rw [HVV.out]; exact h.2.2)
              go_wp2_with fail
              go_round
              case rel => exact ⟨(v : Int) + 1, rfl, by go_num, by omega, by omega, fun s h1 h2 h3 => if e : s = v then by rw [e]; exact HNS else hall s h1 h2 (by omega)⟩
              case measure => simp [intOf]; omega
          · have d4 : decide ((v : Int) < t) = false := decide_eq_false m2
            have HNS : Hid (¬ Sat z1 z2 sz f t x h iN v) := fun h => m2 h.2.1
            go_wp2_with fail
            go_round
            case rel => exact ⟨(v : Int) + 1, rfl, by go_num, by omega, by omega, fun s h1 h2 h3 => if e : s = v then by rw [e]; exact HNS else hall s h1 h2 (by omega)⟩
            case measure => simp [intOf]; omega
        · have d3 : decide (f ≤ (v : Int)) = false := decide_eq_false m1
          have HNS : Hid (¬ Sat z1 z2 sz f t x h iN v) := fun h => m1 h.1
          go_wp2_with fail
          go_round
          case rel => exact ⟨(v : Int) + 1, rfl, by go_num, by omega, by omega, fun s h1 h2 h3 => if e : s = v then by rw [e]; exact HNS else hall s h1 h2 (by omega)⟩
          case measure => simp [intOf]; omega
      · have hrv : r = -1 := HRS.out.uniq (.inl ⟨rfl, fun s c1 c2 => hall s c1 c2 (by have := HH.out; omega)⟩)
        have t9 : (r == -1) = true := by simp [hrv]
        clear hrv
        go_wp2_with fail
        go_ret
        exact ⟨rfl, BL⟩
  · go_wp2_with fail
    refine (zzFirst_c true T N sz n f t z1 z2 dd _ AT.out hs hdd h iN loN x _ _ _ rfl rfl (by rw [← HH.out]) HIL.out HLE.out HPR.out hxr).mono ?_
    rintro e w5 ⟨rfl, r, rfl, hr⟩
    have HRS : Hid (Ends true z1 z2 sz f t x h iN loN r) := hr
    clear hr
    go_wp2_with fail
    go_loop [24, 25] (fun wv sv => ∃ si : Int, wv = .int .i64 (-1) ∧ sv = .int .i64 si ∧ (loN : Int) - 1 ≤ si ∧ si < hiN ∧ Hid (∀ s : Nat, loN ≤ s → s < loN + 2 ^ h → si < s → ¬ Sat z1 z2 sz f t x h iN s)) (fun _ sv => (intOf sv - loN + 1).toNat)
    case atStart => exact ⟨(hiN : Int) - 1, rfl, rfl, by omega, by omega, fun s h1 h2 h3 => by have := HH.out; omega⟩
    case round =>
      obtain ⟨si, rfl, rfl, hs1, hs2, hall⟩ := hrel
      by_cases hgo : (loN : Int) ≤ si
      · obtain ⟨v, rfl⟩ := Int.eq_ofNat_of_zero_le (show 0 ≤ si by omega)
        have hv1 : loN ≤ v := by omega
        have hv2 : v < hiN := by omega
        have hv3 : Hid (v < loN + 2 ^ h) := by rw [← HH.out]; exact hv2
        by_cases m1 : f ≤ (v : Int)
        · have d3 : decide (f ≤ (v : Int)) = true := decide_eq_true m1
          by_cases m2 : (v : Int) < t
          · have d4 : decide ((v : Int) < t) = true := decide_eq_true m2
            go_wp2_with fail
            refine (below_c B1 0 (2 * sz) B2 0 (2 * sz) sz iN v z1 z2 _ hs (by omega) (by omega) XR1.out XR2.out R1.out R2.out).mono ?_
            rintro e w6 ⟨rfl, rfl⟩
            rw [V_sum z1 z2 sz h iN loN v (by omega) HIL.out hv1 hv3]
            obtain ⟨vv, hvv⟩ : ∃ vv, vv = V z1 z2 sz h iN v := ⟨_, rfl⟩
            rw [← hvv]
            have HVV : Hid (vv = V z1 z2 sz h iN v) := hvv
            clear hvv
            by_cases m3 : vv ≤ x
            · have d5 : decide (vv ≤ x) = true := decide_eq_true m3
              have hrv : r = (v : Int) := HRS.out.uniq (.inr ⟨v, rfl, hv1, hv3, ⟨m1, m2, by rw [← HVV.out]; exact m3⟩, fun s' c1 c2 c3 => hall s' c1 c2 (by simp at c3; omega)⟩)
              have t9 : (r == (v : Int)) = true := by simp [hrv]
              clear hrv
              go_wp2_with fail
              go_ret
              exact ⟨rfl, BL⟩
            · have d5 : decide (vv ≤ x) = false := decide_eq_false m3
              have HNS : Hid (¬ Sat z1 z2 sz f t x h iN v) := fun h => m3 (by rw [HVV.out]; exact h.2.2)
              go_wp2_with fail
              go_round
              case rel => exact ⟨(v : Int) - 1, rfl, by go_num, by omega, by omega, fun s h1 h2 h3 => if e : s = v then by rw [e]; exact HNS else hall s h1 h2 (by omega)⟩
              case measure => simp [intOf]; omega
          · have d4 : decide ((v : Int) < t) = false := decide_eq_false m2
            have HNS : Hid (¬ Sat z1 z2 sz f t x h iN v) := fun h => m2 h.2.1
            go_wp2_with fail
            go_round
            case rel => exact ⟨(v : Int) - 1, rfl, by go_num, by omega, by omega, fun s h1 h2 h3 => if e : s = v then by rw [e]; exact HNS else hall s h1 h2 (by omega)⟩
            case measure => simp [intOf]; omega
        · have d3 : decide (f ≤ (v : Int)) = false := decide_eq_false m1
          have HNS : Hid (¬ Sat z1 z2 sz f t x h iN v) := fun h => m1 h.1
          go_wp2_with fail
          go_round
          case rel => exact ⟨(v : Int) - 1, rfl, by go_num, by omega, by omega, fun s h1 h2 h3 => if e : s = v then by rw [e]; exact HNS else hall s h1 h2 (by omega)⟩
          case measure => simp [intOf]; omega
      · have hrv : r = -1 := HRS.out.uniq (.inl ⟨rfl, fun s c1 c2 => hall s c1 c2 (by omega)⟩)
        have t9 : (r == -1) = true := by simp [hrv]
        clear hrv
        go_wp2_with fail
        go_ret
        exact ⟨rfl, BL⟩

end Go.Proofs.Qxb6601508a.Tree
