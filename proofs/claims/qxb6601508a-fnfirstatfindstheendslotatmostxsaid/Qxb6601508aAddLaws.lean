/-
  The walks of the two laws on addRun.
-/
import Derived.Test.Qxb6601508aTreeReads
namespace Go.Proofs.Qxb6601508a.Tree
open Go.RowKit
set_option linter.unusedVariables false

def Law (w : World) (e : Ending) (w' : World) : Prop := e = .returned (.bool true) ∧ Below w.heap.size w w'

/-- what a slice of int32s that came in is: nil, or a row -/
def Came (w : World) (a : Option Addr) (l : Nat) (z : Nat → Int) : Prop :=
  (l ≠ 0 → ∃ b o, a = some ⟨b, o, none⟩ ∧ b < w.heap.size ∧ Row w b o l z) ∧ (∀ k, R (z k))

theorem Row.below {w w' : World} {b o m B : Nat} {z : Nat → Int} (h : Row w b o m z) (hb : Below B w w') (hB : b < B) : Row w' b o m z := fun j hj => (hb.cell (by exact hB)).trans (h j hj)
theorem Row.only {w w' : World} {b o m N : Nat} {z : Nat → Int} (h : Row w b o m z) (hb : Only N w w') (hB : b ≠ N) : Row w' b o m z := fun j hj => (hb.cell (by exact hB)).trans (h j hj)
theorem At.below {w w' : World} {T N size B : Nat} {n : Int} {low add : Nat → Int} (h : At w T N n size low add) (hb : Below B w w') (hT : T < B) (hN : N < B) : At w' T N n size low add :=
  ⟨(hb.cell (by exact hT)).trans h.n_, (hb.cell (by exact hT)).trans h.size_, (hb.cell (by exact hT)).trans h.nodes, fun k hk => (hb.cell (by exact hN)).trans (h.low_ k hk), fun k hk => (hb.cell (by exact hN)).trans (h.add_ k hk), fun i => (hb.frozen (by exact hN)).trans (h.loose i), h.apart⟩
theorem row0 {w : World} {B m : Nat} {z : Nat → Int} (h : ∀ j, j < m → w.cell? ⟨B, j, none⟩ = some (.int .i32 (z j))) : Row w B 0 m z := fun j hj => by rw [Nat.zero_add]; exact h j hj

/-- what stands when the tree has been made, run and read back: the clones, the read copies, the world -/
structure Done (w w6 : World) (a sz f u : Nat) (d : Int) (B1 B2 L1 L2 : Nat) (z1 z2 low add : Nat → Int) : Prop where
  below : Below w.heap.size w w6
  r1 : Row w6 B1 0 (2 * sz) z1
  r2 : Row w6 B2 0 (2 * sz) z2
  r3 : Row w6 L1 0 (2 * sz) low
  r4 : Row w6 L2 0 (2 * sz) add
  vals : ∀ l, sz ≤ l → l < 2 * sz → ((f + sz ≤ l ∧ l < u + sz) → val low add l % 4294967296 = (val z1 z2 l + d) % 4294967296) ∧ (¬ (f + sz ≤ l ∧ l < u + sz) → val low add l % 4294967296 = val z1 z2 l % 4294967296)
  least : (∀ m, m ≠ 0 → m < sz → Least z1 z2 m) → ∀ m, m ≠ 0 → m < sz → Least low add m
  range1 : ∀ k, R (z1 k)
  range : ∀ k, R (low k)

set_option maxHeartbeats 4000000 in
theorem law5 (n size p q d : Int) (a1 a2 : Option Addr) (l1 l2 c1 c2 : Nat) (z1 z2 : Nat → Int) (w : World) (m1 : l1 ≤ maxLen) (m2 : l2 ≤ maxLen) (h1 : Came w a1 l1 z1) (h2 : Came w a2 l2 z2) :
    Calls Try.prog 5 #[.int .i64 n, .int .i64 size, .slice a1 l1 c1, .slice a2 l2 c2, .int .i64 p, .int .i64 q, .int .i32 d] w (Law w) := by
  have H1 : Hid (Came w a1 l1 z1) := h1
  have H2 : Hid (Came w a2 l2 z2) := h2
  have M1 : Hid (l1 ≤ maxLen) := m1
  have M2 : Hid (l2 ≤ maxLen) := m2
  clear h1 h2 m1 m2
  go_enter Try.func5, Try.ntmps5
  go_wp2_with fail
  refine (bytes14 n size p q d a1 a2 l1 l2 c1 c2 _ M1 M2).mono ?_
  rintro e w' ⟨b, rfl, hb, rfl⟩
  cases b
  · go_wp2_with fail
    go_ret
    exact ⟨rfl, Below.refl _ _⟩
  obtain ⟨n1, n2⟩ := hb rfl
  clear hb
  by_cases k1 : 262144 < l1
  · have d1 : decide (262144 < (l1 : Int)) = true := decide_eq_true (by omega)
    go_wp2_with fail
    go_ret
    exact ⟨rfl, Below.refl _ _⟩
  have d1 : decide (262144 < (l1 : Int)) = false := decide_eq_false (by omega)
  by_cases k2 : 262144 < l2
  · have d2 : decide (262144 < (l2 : Int)) = true := decide_eq_true (by omega)
    go_wp2_with fail
    go_ret
    exact ⟨rfl, Below.refl _ _⟩
  have d2 : decide (262144 < (l2 : Int)) = false := decide_eq_false (by omega)
  by_cases k3 : 1048576 < 4 * l1 + 4 * l2
  · go_wp2_with fail
    go_ret
    exact ⟨rfl, Below.refl _ _⟩
  go_wp2_with fail
  refine (dom_c n size p q a1 a2 l1 l2 c1 c2 _ n1 n2).mono ?_
  rintro e w' ⟨b, rfl, hb, rfl⟩
  cases b
  · clear hb
    go_wp2_with fail
    go_ret
    exact ⟨rfl, Below.refl _ _⟩
  obtain ⟨a, f, u, e1, hs, e2, e3, e4, e5, hf, hu⟩ := hb rfl
  clear hb
  have hpos : 0 < 2 ^ a := Nat.pow_pos (by decide)
  generalize hsz : 2 ^ a = sz at e1 hs e2 e3 hf hu hpos
  subst e1 e2 e3 e4 e5
  have HZ : Hid (2 ^ a = sz) := hsz
  clear hsz
  obtain ⟨b1, o1, rfl, hb1, hr1⟩ := H1.out.1 (by omega)
  obtain ⟨b2, o2, rfl, hb2, hr2⟩ := H2.out.1 (by omega)
  have R1 : Hid (∀ k, R (z1 k)) := H1.out.2
  have Q1 : Hid (Row w b1 o1 (2 * sz) z1) := hr1
  have Q2 : Hid (Row w b2 o2 (2 * sz) z2) := hr2
  clear H1 H2 hr1 hr2 M1 M2
  go_wp2_with fail
  refine (clone_c b1 o1 (2 * sz) c1 z1 _ hb1 (by omega) Q1.out).mono ?_
  rintro e w1 ⟨B1, rfl, i1, i2, i3, i4⟩
  have X1 : Hid (Row w1 B1 0 (2 * sz) z1) := row0 i3
  have Y1 : Hid (Below w.heap.size w w1) := i4
  have hb2' : b2 < w1.heap.size := by have := i4.size; omega
  clear i3 i4
  go_wp2_with fail
  refine (clone_c b2 o2 (2 * sz) c2 z2 _ hb2' (by omega) (Q2.out.below Y1.out hb2)).mono ?_
  rintro e w2 ⟨B2, rfl, i5, i6, i7, i8⟩
  have X2 : Hid (Row w2 B2 0 (2 * sz) z2) := row0 i7
  have X1' : Hid (Row w2 B1 0 (2 * sz) z1) := X1.out.below i8 i2
  have Y2 : Hid (Below w.heap.size w w2) := Y1.out.trans (i8.mono Y1.out.size)
  have hB1 : B1 < w2.heap.size := by have := i8.size; omega
  clear i7 i8 X1 Y1 Q1 Q2
  go_wp2_with fail
  refine (new_c B1 0 (2 * sz) B2 0 (2 * sz) sz n z1 z2 _ hB1 i6 hs X1'.out X2.out).mono ?_
  rintro e w3 ⟨T, N, rfl, j1, j2, j3, j4, j5, j6⟩
  have X1 : Hid (Row w3 B1 0 (2 * sz) z1) := X1'.out.below j6 hB1
  have X2' : Hid (Row w3 B2 0 (2 * sz) z2) := X2.out.below j6 i6
  have Y3 : Hid (Below w.heap.size w w3) := Y2.out.trans (j6.mono Y2.out.size)
  have A3 : Hid (At w3 T N n sz z1 z2) := j5
  have hwN : w.heap.size ≤ N := by have := Y2.out.size; omega
  clear j5 j6 X1' X2 Y2
  go_wp2_with fail
  refine (zzAdd_c T N a f u n d z1 z2 _ (by rw [HZ.out]; exact A3) (by rw [HZ.out]; exact hs) (by rw [HZ.out]; exact hf) (by rw [HZ.out]; exact hu)).mono ?_
  rintro e w4 ⟨low, add, ⟨rfl, ho, ha⟩, v1, v2, v3⟩
  rw [HZ.out] at ha v1 v2
  have A4 : Hid (At w4 T N n sz low add) := ha
  have X3 : Hid (Row w4 B1 0 (2 * sz) z1) := X1.out.only ho (by omega)
  have X4 : Hid (Row w4 B2 0 (2 * sz) z2) := X2'.out.only ho (by omega)
  have Y4 : Hid (Below w.heap.size w w4) := Y3.out.trans (ho.below hwN)
  have hT4 : T < w4.heap.size := by have := ho.size; omega
  have hN4 : N < w4.heap.size := by have := ho.size; omega
  have V1 : Hid (∀ l, sz ≤ l → l < 2 * sz → ((f + sz ≤ l ∧ l < u + sz) → val low add l % 4294967296 = (val z1 z2 l + d) % 4294967296) ∧ (¬ (f + sz ≤ l ∧ l < u + sz) → val low add l % 4294967296 = val z1 z2 l % 4294967296)) := v1
  have V2 : Hid ((∀ m, m ≠ 0 → m < sz → Least z1 z2 m) → ∀ m, m ≠ 0 → m < sz → Least low add m) := v2
  have V3 : Hid (∀ k, R (low k)) := v3 R1
  have hB1' : B1 < w4.heap.size := by have := ho.size; omega
  have hB2' : B2 < w4.heap.size := by have := ho.size; omega
  clear ha ho v1 v2 v3 X1 X2' Y3 A3
  go_wp2_with fail
  refine (lows_c T N sz n low add _ A4.out hs hT4 hN4).mono ?_
  rintro e w5 ⟨L1, rfl, i9, i10, i11, i12⟩
  have A5 : Hid (At w5 T N n sz low add) := A4.out.below i12 hT4 hN4
  have X5 : Hid (Row w5 L1 0 (2 * sz) low) := row0 i11
  have X3' : Hid (Row w5 B1 0 (2 * sz) z1) := X3.out.below i12 hB1'
  have X4' : Hid (Row w5 B2 0 (2 * sz) z2) := X4.out.below i12 hB2'
  have Y5 : Hid (Below w.heap.size w w5) := Y4.out.trans (i12.mono Y4.out.size)
  have s5 := i12.size
  clear i11 i12 A4 X3 X4 Y4
  go_wp2_with fail
  refine (adds_c T N sz n low add _ A5.out hs (by omega) (by omega)).mono ?_
  rintro e w6 ⟨L2, rfl, i13, i14, i15, i16⟩
  have DN : Hid (Done w w6 a sz f u d B1 B2 L1 L2 z1 z2 low add) := ⟨Y5.out.trans (i16.mono Y5.out.size), X3'.out.below i16 (by omega), X4'.out.below i16 (by omega), X5.out.below i16 (by omega), row0 i15, V1, V2, R1, V3⟩
  clear i15 i16 A5 X5 X3' X4' Y5 V1 V2 V3 R1
  go_wp2_with fail
  go_loop [18] (fun sv => ∃ s : Nat, s ≤ sz ∧ sv = .int .i64 s) (fun sv => sz - (intOf sv).toNat)
  case atStart => exact ⟨0, Nat.zero_le _, rfl⟩
  case round =>
    obtain ⟨s, hss, rfl⟩ := hrel
    by_cases hlt : s < sz
    · go_wp2_with fail
      refine (slot_c B1 0 (2 * sz) B2 0 (2 * sz) sz s z1 z2 _ hs hlt DN.out.r1 DN.out.r2 (DN.out.range1 _)).mono ?_
      rintro e w7 ⟨r1, rfl, q1, q2, rfl⟩
      have G1 : Hid (R r1) := q1
      have G2 : Hid (r1 % 4294967296 = val z1 z2 (sz + s) % 4294967296) := q2
      clear q1 q2
      have hv := DN.out.vals (sz + s) (by omega) (by omega)
      by_cases hin : f ≤ s ∧ s < u
      · have d3 : decide (f ≤ s) = true := decide_eq_true (by omega)
        have d4 : decide (s < u) = true := decide_eq_true (by omega)
        have G3 : Hid (val low add (sz + s) % 4294967296 = (val z1 z2 (sz + s) + d) % 4294967296) := hv.1 (by omega)
        clear hv hin
        go_wp2_with fail
        refine (slot_c L1 0 (2 * sz) L2 0 (2 * sz) sz s low add _ hs hlt DN.out.r3 DN.out.r4 (DN.out.range _)).mono ?_
        rintro e w8 ⟨r2, rfl, q1, q2, rfl⟩
        have hne : (r2 != wrap32 (r1 + d)) = false := by
          have e1 := G2.out
          have e2 := G3.out
          have e3 := wrap32_mod (r1 + d)
          have : r2 = wrap32 (r1 + d) := R_eq q1 (R_wrap _) (by omega)
          simp [this]
        clear q1 q2
        go_wp2_with fail
        go_round
        case rel => exact ⟨s + 1, by omega, by go_num⟩
        case measure => simp [intOf]; omega
      · have G3 : Hid (val low add (sz + s) % 4294967296 = val z1 z2 (sz + s) % 4294967296) := hv.2 (by omega)
        clear hv
        by_cases hfs : f ≤ s
        · have d3 : decide (f ≤ s) = true := decide_eq_true (by omega)
          have d4 : decide (s < u) = false := decide_eq_false (by omega)
          clear hin
          go_wp2_with fail
          refine (slot_c L1 0 (2 * sz) L2 0 (2 * sz) sz s low add _ hs hlt DN.out.r3 DN.out.r4 (DN.out.range _)).mono ?_
          rintro e w8 ⟨r2, rfl, q1, q2, rfl⟩
          have hne : (r2 != r1) = false := by
            have e1 := G2.out
            have e2 := G3.out
            have : r2 = r1 := R_eq q1 G1 (by omega)
            simp [this]
          clear q1 q2
          go_wp2_with fail
          go_round
          case rel => exact ⟨s + 1, by omega, by go_num⟩
          case measure => simp [intOf]; omega
        · have d3 : decide (f ≤ s) = false := decide_eq_false (by omega)
          clear hin
          go_wp2_with fail
          refine (slot_c L1 0 (2 * sz) L2 0 (2 * sz) sz s low add _ hs hlt DN.out.r3 DN.out.r4 (DN.out.range _)).mono ?_
          rintro e w8 ⟨r2, rfl, q1, q2, rfl⟩
          have hne : (r2 != r1) = false := by
            have e1 := G2.out
            have e2 := G3.out
            have : r2 = r1 := R_eq q1 G1 (by omega)
            simp [this]
          clear q1 q2
          go_wp2_with fail
          go_round
          case rel => exact ⟨s + 1, by omega, by go_num⟩
          case measure => simp [intOf]; omega
    · go_wp2_with fail
      go_ret
      exact ⟨rfl, DN.out.below⟩
set_option maxHeartbeats 4000000 in
theorem law6 (n size p q d : Int) (a1 a2 : Option Addr) (l1 l2 c1 c2 : Nat) (z1 z2 : Nat → Int) (w : World) (m1 : l1 ≤ maxLen) (m2 : l2 ≤ maxLen) (h1 : Came w a1 l1 z1) (h2 : Came w a2 l2 z2) :
    Calls Try.prog 6 #[.int .i64 n, .int .i64 size, .slice a1 l1 c1, .slice a2 l2 c2, .int .i64 p, .int .i64 q, .int .i32 d] w (Law w) := by
  have H1 : Hid (Came w a1 l1 z1) := h1
  have H2 : Hid (Came w a2 l2 z2) := h2
  have M1 : Hid (l1 ≤ maxLen) := m1
  have M2 : Hid (l2 ≤ maxLen) := m2
  clear h1 h2 m1 m2
  go_enter Try.func6, Try.ntmps6
  go_wp2_with fail
  refine (bytes22 n size p q d a1 a2 l1 l2 c1 c2 _ M1 M2).mono ?_
  rintro e w' ⟨b, rfl, hb, rfl⟩
  cases b
  · go_wp2_with fail
    go_ret
    exact ⟨rfl, Below.refl _ _⟩
  obtain ⟨n1, n2⟩ := hb rfl
  clear hb
  by_cases k1 : 262144 < l1
  · have d1 : decide (262144 < (l1 : Int)) = true := decide_eq_true (by omega)
    go_wp2_with fail
    go_ret
    exact ⟨rfl, Below.refl _ _⟩
  have d1 : decide (262144 < (l1 : Int)) = false := decide_eq_false (by omega)
  by_cases k2 : 262144 < l2
  · have d2 : decide (262144 < (l2 : Int)) = true := decide_eq_true (by omega)
    go_wp2_with fail
    go_ret
    exact ⟨rfl, Below.refl _ _⟩
  have d2 : decide (262144 < (l2 : Int)) = false := decide_eq_false (by omega)
  by_cases k3 : 1048576 < 4 * l1 + 4 * l2
  · go_wp2_with fail
    go_ret
    exact ⟨rfl, Below.refl _ _⟩
  go_wp2_with fail
  refine (dom_c n size p q a1 a2 l1 l2 c1 c2 _ n1 n2).mono ?_
  rintro e w' ⟨b, rfl, hb, rfl⟩
  cases b
  · clear hb
    go_wp2_with fail
    go_ret
    exact ⟨rfl, Below.refl _ _⟩
  obtain ⟨a, f, u, e1, hs, e2, e3, e4, e5, hf, hu⟩ := hb rfl
  clear hb
  have hpos : 0 < 2 ^ a := Nat.pow_pos (by decide)
  generalize hsz : 2 ^ a = sz at e1 hs e2 e3 hf hu hpos
  subst e1 e2 e3 e4 e5
  have HZ : Hid (2 ^ a = sz) := hsz
  clear hsz
  obtain ⟨b1, o1, rfl, hb1, hr1⟩ := H1.out.1 (by omega)
  obtain ⟨b2, o2, rfl, hb2, hr2⟩ := H2.out.1 (by omega)
  have R1 : Hid (∀ k, R (z1 k)) := H1.out.2
  have Q1 : Hid (Row w b1 o1 (2 * sz) z1) := hr1
  have Q2 : Hid (Row w b2 o2 (2 * sz) z2) := hr2
  clear H1 H2 hr1 hr2 M1 M2
  go_wp2_with fail
  refine (each_c b1 o1 c1 b2 o2 c2 sz z1 z2 _ hs Q1.out Q2.out).mono ?_
  rintro e w0 ⟨b, rfl, hb, hdr⟩
  have Y0 : Hid (Below w.heap.size w w0) := by obtain ⟨nq, rfl⟩ := hdr; exact below_drewN (Below.refl _ _) nq
  have P1 : Hid (Row w0 b1 o1 (2 * sz) z1) := Q1.out.below Y0.out hb1
  have P2 : Hid (Row w0 b2 o2 (2 * sz) z2) := Q2.out.below Y0.out hb2
  have hb1' : b1 < w0.heap.size := by have := Y0.out.size; omega
  have hb2' : b2 < w0.heap.size := by have := Y0.out.size; omega
  clear hdr Q1 Q2
  cases b
  · clear hb
    go_wp2_with fail
    go_ret
    exact ⟨rfl, Y0⟩
  have HL : Hid (∀ m, m ≠ 0 → m < sz → Least z1 z2 m) := hb.1 rfl
  clear hb
  go_wp2_with fail
  refine (clone_c b1 o1 (2 * sz) c1 z1 _ hb1' (by omega) P1.out).mono ?_
  rintro e w1 ⟨B1, rfl, i1, i2, i3, i4⟩
  have X1 : Hid (Row w1 B1 0 (2 * sz) z1) := row0 i3
  have Y1 : Hid (Below w.heap.size w w1) := Y0.out.trans (i4.mono Y0.out.size)
  have P2' : Hid (Row w1 b2 o2 (2 * sz) z2) := P2.out.below i4 hb2'
  have hb2'' : b2 < w1.heap.size := by have := i4.size; omega
  have s0 := Y0.out.size
  clear i3 i4 Y0
  go_wp2_with fail
  refine (clone_c b2 o2 (2 * sz) c2 z2 _ hb2'' (by omega) P2'.out).mono ?_
  rintro e w2 ⟨B2, rfl, i5, i6, i7, i8⟩
  have X2 : Hid (Row w2 B2 0 (2 * sz) z2) := row0 i7
  have X1' : Hid (Row w2 B1 0 (2 * sz) z1) := X1.out.below i8 i2
  have Y2 : Hid (Below w.heap.size w w2) := Y1.out.trans (i8.mono Y1.out.size)
  have hB1 : B1 < w2.heap.size := by have := i8.size; omega
  clear i7 i8 X1 Y1 P1 P2 P2'
  go_wp2_with fail
  refine (new_c B1 0 (2 * sz) B2 0 (2 * sz) sz n z1 z2 _ hB1 i6 hs X1'.out X2.out).mono ?_
  rintro e w3 ⟨T, N, rfl, j1, j2, j3, j4, j5, j6⟩
  have X1 : Hid (Row w3 B1 0 (2 * sz) z1) := X1'.out.below j6 hB1
  have X2' : Hid (Row w3 B2 0 (2 * sz) z2) := X2.out.below j6 i6
  have Y3 : Hid (Below w.heap.size w w3) := Y2.out.trans (j6.mono Y2.out.size)
  have A3 : Hid (At w3 T N n sz z1 z2) := j5
  have hwN : w.heap.size ≤ N := by have := Y2.out.size; omega
  clear j5 j6 X1' X2 Y2
  go_wp2_with fail
  refine (zzAdd_c T N a f u n d z1 z2 _ (by rw [HZ.out]; exact A3) (by rw [HZ.out]; exact hs) (by rw [HZ.out]; exact hf) (by rw [HZ.out]; exact hu)).mono ?_
  rintro e w4 ⟨low, add, ⟨rfl, ho, ha⟩, v1, v2, v3⟩
  rw [HZ.out] at ha v1 v2
  have A4 : Hid (At w4 T N n sz low add) := ha
  have X3 : Hid (Row w4 B1 0 (2 * sz) z1) := X1.out.only ho (by omega)
  have X4 : Hid (Row w4 B2 0 (2 * sz) z2) := X2'.out.only ho (by omega)
  have Y4 : Hid (Below w.heap.size w w4) := Y3.out.trans (ho.below hwN)
  have hT4 : T < w4.heap.size := by have := ho.size; omega
  have hN4 : N < w4.heap.size := by have := ho.size; omega
  have V1 : Hid (∀ l, sz ≤ l → l < 2 * sz → ((f + sz ≤ l ∧ l < u + sz) → val low add l % 4294967296 = (val z1 z2 l + d) % 4294967296) ∧ (¬ (f + sz ≤ l ∧ l < u + sz) → val low add l % 4294967296 = val z1 z2 l % 4294967296)) := v1
  have V2 : Hid ((∀ m, m ≠ 0 → m < sz → Least z1 z2 m) → ∀ m, m ≠ 0 → m < sz → Least low add m) := v2
  have V3 : Hid (∀ k, R (low k)) := v3 R1
  have hB1' : B1 < w4.heap.size := by have := ho.size; omega
  have hB2' : B2 < w4.heap.size := by have := ho.size; omega
  clear ha ho v1 v2 v3 X1 X2' Y3 A3
  go_wp2_with fail
  refine (lows_c T N sz n low add _ A4.out hs hT4 hN4).mono ?_
  rintro e w5 ⟨L1, rfl, i9, i10, i11, i12⟩
  have A5 : Hid (At w5 T N n sz low add) := A4.out.below i12 hT4 hN4
  have X5 : Hid (Row w5 L1 0 (2 * sz) low) := row0 i11
  have X3' : Hid (Row w5 B1 0 (2 * sz) z1) := X3.out.below i12 hB1'
  have X4' : Hid (Row w5 B2 0 (2 * sz) z2) := X4.out.below i12 hB2'
  have Y5 : Hid (Below w.heap.size w w5) := Y4.out.trans (i12.mono Y4.out.size)
  have s5 := i12.size
  clear i11 i12 A4 X3 X4 Y4
  go_wp2_with fail
  refine (adds_c T N sz n low add _ A5.out hs (by omega) (by omega)).mono ?_
  rintro e w6 ⟨L2, rfl, i13, i14, i15, i16⟩
  have DN : Hid (Done w w6 a sz f u d B1 B2 L1 L2 z1 z2 low add) := ⟨Y5.out.trans (i16.mono Y5.out.size), X3'.out.below i16 (by omega), X4'.out.below i16 (by omega), X5.out.below i16 (by omega), row0 i15, V1, V2, R1, V3⟩
  clear i15 i16 A5 X5 X3' X4' Y5 V1 V2 V3 R1
  go_wp2_with fail
  refine (each_c L1 0 (2 * sz) L2 0 (2 * sz) sz low add _ hs DN.out.r3 DN.out.r4).mono ?_
  rintro e w7 ⟨b, rfl, hb, hdr⟩
  have Y7 : Hid (Below w.heap.size w w7) := by obtain ⟨nq, rfl⟩ := hdr; exact below_drewN DN.out.below nq
  obtain rfl : b = true := hb.2 (DN.out.least HL)
  clear hb hdr
  go_wp2_with fail
  go_ret
  exact ⟨rfl, Y7⟩
end Go.Proofs.Qxb6601508a.Tree
