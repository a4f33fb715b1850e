/-
  The minTree in memory; the walks of mend, addRun and of the helpers that copy.
-/
import Derived.Test.Qxb6601508aRows
import Derived.Test.Qxb6601508aAddPlain
import Derived.WalkKit
import Derived.WalkSpells
import Derived.WalkLawsBesides
import Derived.Deep.QuietTactic
import Derived.BigQuiet
import Derived.BigRegion
namespace Go.Proofs.Qxb6601508a.Tree
open Go.RowKit

/-- w' is w but for what block B holds. -/
structure Only (B : Nat) (w w' : World) : Prop where
  os : w'.os = w.os
  tape : w'.tape = w.tape
  output : w'.output = w.output
  size : w'.heap.size = w.heap.size
  block : ∀ k, k ≠ B → w'.heap[k]? = w.heap[k]?

theorem Only.refl (B : Nat) (w : World) : Only B w w := ⟨rfl, rfl, rfl, rfl, fun _ _ => rfl⟩
theorem Only.drewN {B : Nat} {a w : World} (h : Only B a w) (n : Nat) : Only B a (w.drewN n) := ⟨h.os, h.tape, h.output, h.size, h.block⟩
theorem Only.drew {B : Nat} {a w : World} (h : Only B a w) : Only B a w.drew := ⟨h.os, h.tape, h.output, h.size, h.block⟩
theorem Only.trans {B : Nat} {u v w : World} (h : Only B u v) (k : Only B v w) : Only B u w :=
  ⟨k.os.trans h.os, k.tape.trans h.tape, k.output.trans h.output, k.size.trans h.size, fun i hi => (k.block i hi).trans (h.block i hi)⟩
theorem Only.setCell {B : Nat} {a w : World} (h : Only B a w) (i : Nat) (v : Value) : Only B a (w.setCell ⟨B, i, none⟩ v) :=
  h.trans ⟨rfl, rfl, rfl, by simp [World.setCell], fun k hk => Below.heap_setCell _ _ _ _ hk⟩
theorem Only.below {B : Nat} {w w' : World} (h : Only B w w') {b : Nat} (hb : b ≤ B) : Below b w w' :=
  ⟨h.os, h.tape, h.output, Nat.le_of_eq h.size.symm, fun k hk => h.block k (by omega)⟩
theorem Only.cell {B : Nat} {w w' : World} (h : Only B w w') {p : Addr} (hp : p.block ≠ B) : w'.cell? p = w.cell? p := World.cell?_of_block (w := w) (h.block p.block hp)

/-- the tree whose struct lies in block T and whose nodes in block N -/
structure At (w : World) (T N : Nat) (n : Int) (size : Nat) (low add : Nat → Int) : Prop where
  n_ : w.cell? ⟨T, 0, none⟩ = some (.int .i64 n)
  size_ : w.cell? ⟨T, 1, none⟩ = some (.int .i64 size)
  nodes : w.cell? ⟨T, 2, none⟩ = some (.slice (some ⟨N, 0, none⟩) (2 * size) (2 * size))
  low_ : ∀ k, k < 2 * size → w.cell? ⟨N, k * 2, none⟩ = some (.int .i32 (low k))
  add_ : ∀ k, k < 2 * size → w.cell? ⟨N, k * 2 + 1, none⟩ = some (.int .i32 (add k))
  loose : ∀ i, w.frozen? ⟨N, i, none⟩ = false
  apart : T ≠ N

theorem At.drewN {w : World} {T N size : Nat} {n : Int} {low add : Nat → Int} (h : At w T N n size low add) (k : Nat) : At (w.drewN k) T N n size low add :=
  ⟨h.n_, h.size_, h.nodes, h.low_, h.add_, h.loose, h.apart⟩
theorem At.drew {w : World} {T N size : Nat} {n : Int} {low add : Nat → Int} (h : At w T N n size low add) : At w.drew T N n size low add :=
  ⟨h.n_, h.size_, h.nodes, h.low_, h.add_, h.loose, h.apart⟩
theorem far {w : World} {T N i j : Nat} (v : Value) (h : T ≠ N) : (w.setCell ⟨N, i, none⟩ v).cell? ⟨T, j, none⟩ = w.cell? ⟨T, j, none⟩ :=
  World.cell?_setCell_other _ _ _ _ (by intro e; injection e with e1; exact h e1.symm)
theorem off_ne {N i j : Nat} (h : i ≠ j) : (⟨N, i, none⟩ : Addr) ≠ ⟨N, j, none⟩ := by intro e; injection e with _ e1; exact h e1
theorem At.setLow {w : World} {T N size : Nat} {n : Int} {low add : Nat → Int} (h : At w T N n size low add) (i : Nat) (v : Int) :
    At (w.setCell ⟨N, i * 2, none⟩ (.int .i32 v)) T N n size (upd low i v) add := by
  refine ⟨by rw [far _ h.apart]; exact h.n_, by rw [far _ h.apart]; exact h.size_, by rw [far _ h.apart]; exact h.nodes, fun k hk => ?_, fun k hk => ?_, fun j => ?_, h.apart⟩
  · by_cases e : k = i
    · subst e; rw [World.cell?_setCell_same _ _ _ (h.low_ k hk), upd, if_pos rfl]
    · rw [World.cell?_setCell_other _ _ _ _ (off_ne (by omega)), h.low_ k hk, upd, if_neg e]
  · rw [World.cell?_setCell_other _ _ _ _ (off_ne (by omega)), h.add_ k hk]
  · rw [World.frozen?_setCell]; exact h.loose j
theorem At.setAdd {w : World} {T N size : Nat} {n : Int} {low add : Nat → Int} (h : At w T N n size low add) (i : Nat) (v : Int) :
    At (w.setCell ⟨N, i * 2 + 1, none⟩ (.int .i32 v)) T N n size low (upd add i v) := by
  refine ⟨by rw [far _ h.apart]; exact h.n_, by rw [far _ h.apart]; exact h.size_, by rw [far _ h.apart]; exact h.nodes, fun k hk => ?_, fun k hk => ?_, fun j => ?_, h.apart⟩
  · rw [World.cell?_setCell_other _ _ _ _ (off_ne (by omega)), h.low_ k hk]
  · by_cases e : k = i
    · subst e; rw [World.cell?_setCell_same _ _ _ (h.add_ k hk), upd, if_pos rfl]
    · rw [World.cell?_setCell_other _ _ _ _ (off_ne (by omega)), h.add_ k hk, upd, if_neg e]
  · rw [World.frozen?_setCell]; exact h.loose j

/-- the call returned nothing; only the nodes' block turned; the tree reads as low, add say -/
def Wrote (T N : Nat) (n : Int) (size : Nat) (low add : Nat → Int) (w : World) (e : Ending) (w' : World) : Prop :=
  e = .returned (.tuple #[]) ∧ Only N w w' ∧ At w' T N n size low add

set_option maxHeartbeats 1000000 in
theorem mend_c (T N size i : Nat) (n : Int) (low add : Nat → Int) (w : World) (h : At w T N n size low add) (hi : 2 * i + 1 < 2 * size) (hs : size ≤ 65536) :
    Calls Try.prog 38 #[.pointer (some ⟨T, 0, none⟩), .int .i64 i] w (Wrote T N n size (mended low add i) add w) := by
  have g0 := h.nodes
  have g1 := h.low_ i (by omega)
  have g2 := h.add_ i (by omega)
  have g3 := h.low_ (2 * i) (by omega)
  have g4 := h.low_ (2 * i + 1) (by omega)
  have g5 := h.loose (i * 2)
  have HA : Hid (At w T N n size low add) := h
  clear h
  go_enter Try.func38, Try.ntmps38
  go_wp2_with fail
  go_region
  go_end0
  exact ⟨rfl, ((Only.refl _ _).setCell _ _).drew, (HA.out.setLow i _).drew⟩

theorem wraps62 (n : Int) (h0 : 0 ≤ n) (h1 : n < 2 ^ 62) : IntKind.i64.wrap n = n := by
  have e : (2 : Int) ^ 62 = 4611686018427387904 := by decide
  rw [e] at h1
  simp [IntKind.wrap, IntKind.bits, IntKind.signed]
  omega
theorem and_one (x : Nat) (h : x < 1073741824) : bits BinOp.and IntKind.i64 (x : Int) 1 = ((x % 2 : Nat) : Int) := by
  have := (bits_nat .i64 62 (by decide) wraps62 x 1 (by omega) (by omega)).1
  rw [Nat.and_one_is_mod] at this
  exact this

theorem At.bump {w : World} {T N size : Nat} {n : Int} {low add : Nat → Int} (h : At w T N n size low add) (i : Nat) (d : Int) {v u : Int} (hv : v = wrap32 (low i + d)) (hu : u = wrap32 (add i + d)) :
    At ((w.setCell ⟨N, i * 2, none⟩ (.int .i32 v)).setCell ⟨N, i * 2 + 1, none⟩ (.int .i32 u)) T N n size (bumpL low i d) (bumpL add i d) := by
  subst hv hu; exact (h.setLow i _).setAdd i _

def Ran (T N : Nat) (n : Int) (a L H : Nat) (d : Int) (low add : Nat → Int) (w : World) (e : Ending) (w' : World) : Prop :=
  ∃ low' add', Wrote T N n (2 ^ a) low' add' w e w' ∧
    (∀ l, 2 ^ a ≤ l → l < 2 * 2 ^ a → ((L ≤ l ∧ l < H) → val low' add' l % 4294967296 = (val low add l + d) % 4294967296) ∧ (¬ (L ≤ l ∧ l < H) → val low' add' l % 4294967296 = val low add l % 4294967296)) ∧
    ((∀ m, m ≠ 0 → m < 2 ^ a → Least low add m) → ∀ m, m ≠ 0 → m < 2 ^ a → Least low' add' m) ∧ ((∀ k, R (low k)) → ∀ k, R (low' k))

set_option maxHeartbeats 1000000 in
theorem addRun_c (T N a from_ to_ : Nat) (n d : Int) (low add : Nat → Int) (w : World) (h : At w T N n (2 ^ a) low add) (hs : 2 ^ a ≤ 65536) (hf : from_ < 2 ^ a) (ht : to_ ≤ 2 ^ a) :
    Calls Try.prog 35 #[.pointer (some ⟨T, 0, none⟩), .int .i64 from_, .int .i64 to_, .int .i32 d] w (Ran T N n a (from_ + 2 ^ a) (to_ + 2 ^ a) d low add w) := by
  obtain ⟨size, hsz⟩ : ∃ size : Nat, size = 2 ^ a := ⟨_, rfl⟩
  have HZ : Hid (size = 2 ^ a) := hsz
  rw [← hsz] at h hs hf ht
  clear hsz
  have g0 := h.nodes
  have g1 := h.size_
  have HA : Hid (At w T N n size low add) := h
  clear h
  go_enter Try.func35, Try.ntmps35
  go_wp2_with fail
  go_quiet (fail)
  go_wp2_with fail
  go_loopw [9, 10] (fun lv hv wr => ∃ (k lo hi : Nat) (low' add' : Nat → Int), lv = .int .i64 lo ∧ hv = .int .i64 hi ∧ lo ≤ 2 * size ∧ hi ≤ 2 * size ∧
    Hid (Climb a (from_ + size) (to_ + size) k lo hi) ∧ Hid (lo ≤ hi ∨ (k = 0 ∧ lo = from_ + size ∧ hi = to_ + size)) ∧ Hid (Cov low add a (from_ + size) (to_ + size) k lo hi d low' add') ∧
    Hid ((∀ m, m ≠ 0 → m < size → Least low add m) → Good size low' add' ((from_ + size) / 2) ((to_ + size - 1) / 2)) ∧ Hid ((∀ k, R (low k)) → ∀ k, R (low' k)) ∧ Hid (Only N w wr) ∧ Hid (At wr T N n size low' add')) (fun _ hv _ => (intOf hv).toNat)
  case atStart =>
    have hz := HZ.out
    exact ⟨0, from_ + size, to_ + size, low, add, by go_num, by go_num, by omega, by omega, Climb.start (by omega) (by omega) (by omega), .inr ⟨rfl, rfl, rfl⟩, Cov.start _ _ _ _ _ _,
      fun h m h1 h2 _ _ => h m h1 h2, fun h => h, (Only.refl _ _).drewN _, HA.out.drewN _⟩
  case round =>
    obtain ⟨k, lo, hi, low', add', rfl, rfl, hlo, hhi, hcl, hor, hcov, hgood, hR, honly, hat⟩ := hrel
    by_cases hlt : lo < hi
    · by_cases o1 : lo % 2 = 1
      · by_cases o2 : hi % 2 = 1
        · have p1 : (bits BinOp.and IntKind.i64 (lo : Int) 1 == 1) = true := by rw [and_one lo (by omega)]; simp; omega
          have p2 : (bits BinOp.and IntKind.i64 (hi : Int) 1 == 1) = true := by rw [and_one hi (by omega)]; simp; omega
          have q1 := hat.out.low_ lo (by omega)
          have q2 := hat.out.add_ lo (by omega)
          have q3 := hat.out.loose (lo * 2)
          have q4 := hat.out.loose (lo * 2 + 1)
          have r1 := hat.out.low_ (hi - 1) (by omega)
          have r2 := hat.out.add_ (hi - 1) (by omega)
          have r3 := hat.out.loose ((hi - 1) * 2)
          have r4 := hat.out.loose ((hi - 1) * 2 + 1)
          clear g0 g1
          go_wp2_with fail
          go_roundw
          case rel =>
            have cl := hcl.out
            have cov1 := hcov.out.lo cl hlt
            have good1 := fun h0 => (hgood.out h0).bump lo d (.inr (.inl (by have := cl.ancLo (q := lo / 2) (by omega); exact this)))
            have at1 := hat.out.bump lo d rfl rfl
            obtain ⟨Q, hQ, hs2, hq1, hq2⟩ := cl.level hlt
            have hh := cl.h1
            rw [show hi = hi - 1 + 1 from by omega] at cov1 hh
            have cov2 := cov1.hi Q hQ hs2 (by omega) (by omega) hh (by omega)
            have good2 := fun h0 => (good1 h0).bump (hi - 1) d (.inr (.inr (by have := cl.ancHi (q := hi / 2) (by omega); rw [show (hi - 1) / 2 = hi / 2 from by omega]; exact this)))
            have at2 := at1.bump (hi - 1) d (v := wrap32 (low' (hi - 1) + d)) (u := wrap32 (add' (hi - 1) + d)) (by rw [bumpL, upd_ne _ _ _ _ (by omega)]) (by rw [bumpL, upd_ne _ _ _ _ (by omega)])
            have hcl2 := cl.next (lo' := (lo + 1) / 2) (hi' := hi / 2) (by omega) (by omega)
            exact ⟨k + 1, (lo + 1) / 2, hi / 2, _, _, by go_num, by go_num, by omega, by omega, hcl2, .inl (by omega), cov2.next2 (by omega) (by omega), good2, (fun h => R_upd (R_upd (hR.out h) _ _) _ _), ((((honly.out).setCell _ _).setCell _ _).setCell _ _).setCell _ _, at2⟩
          case measure => simp [intOf]; omega

        · have p1 : (bits BinOp.and IntKind.i64 (lo : Int) 1 == 1) = true := by rw [and_one lo (by omega)]; simp; omega
          have p2 : (bits BinOp.and IntKind.i64 (hi : Int) 1 == 1) = false := by rw [and_one hi (by omega)]; simp; omega
          have q1 := hat.out.low_ lo (by omega)
          have q2 := hat.out.add_ lo (by omega)
          have q3 := hat.out.loose (lo * 2)
          have q4 := hat.out.loose (lo * 2 + 1)
          clear g0 g1
          go_wp2_with fail
          go_roundw
          case rel =>
            have cl := hcl.out
            have cov1 := hcov.out.lo cl hlt
            have good1 := fun h0 => (hgood.out h0).bump lo d (.inr (.inl (by have := cl.ancLo (q := lo / 2) (by omega); exact this)))
            have at1 := hat.out.bump lo d rfl rfl
            have hcl2 := cl.next (lo' := (lo + 1) / 2) (hi' := hi / 2) (by omega) (by omega)
            exact ⟨k + 1, (lo + 1) / 2, hi / 2, _, _, by go_num, by go_num, by omega, by omega, hcl2, .inl (by omega), cov1.next2 (by omega) (by omega), good1, (fun h => R_upd (hR.out h) _ _), ((honly.out).setCell _ _).setCell _ _, at1⟩
          case measure => simp [intOf]; omega

      · by_cases o2 : hi % 2 = 1
        · have p1 : (bits BinOp.and IntKind.i64 (lo : Int) 1 == 1) = false := by rw [and_one lo (by omega)]; simp; omega
          have p2 : (bits BinOp.and IntKind.i64 (hi : Int) 1 == 1) = true := by rw [and_one hi (by omega)]; simp; omega
          have r1 := hat.out.low_ (hi - 1) (by omega)
          have r2 := hat.out.add_ (hi - 1) (by omega)
          have r3 := hat.out.loose ((hi - 1) * 2)
          have r4 := hat.out.loose ((hi - 1) * 2 + 1)
          clear g0 g1
          go_wp2_with fail
          go_roundw
          case rel =>
            have cl := hcl.out
            have cov1 := hcov.out
            have good1 := hgood.out
            have at1 := hat.out
            obtain ⟨Q, hQ, hs2, hq1, hq2⟩ := cl.level hlt
            have hh := cl.h1
            rw [show hi = hi - 1 + 1 from by omega] at cov1 hh
            have cov2 := cov1.hi Q hQ hs2 (by omega) (by omega) hh (by omega)
            have good2 := fun h0 => (good1 h0).bump (hi - 1) d (.inr (.inr (by have := cl.ancHi (q := hi / 2) (by omega); rw [show (hi - 1) / 2 = hi / 2 from by omega]; exact this)))
            have at2 := at1.bump (hi - 1) d (v := wrap32 (low' (hi - 1) + d)) (u := wrap32 (add' (hi - 1) + d)) rfl rfl
            have hcl2 := cl.next (lo' := lo / 2) (hi' := hi / 2) (by omega) (by omega)
            exact ⟨k + 1, lo / 2, hi / 2, _, _, by go_num, by go_num, by omega, by omega, hcl2, .inl (by omega), cov2.next2 (by omega) (by omega), good2, (fun h => R_upd (hR.out h) _ _), ((honly.out).setCell _ _).setCell _ _, at2⟩
          case measure => simp [intOf]; omega

        · have p1 : (bits BinOp.and IntKind.i64 (lo : Int) 1 == 1) = false := by rw [and_one lo (by omega)]; simp; omega
          have p2 : (bits BinOp.and IntKind.i64 (hi : Int) 1 == 1) = false := by rw [and_one hi (by omega)]; simp; omega
          clear g0 g1
          go_wp2_with fail
          go_roundw
          case rel =>
            have cl := hcl.out
            have cov1 := hcov.out
            have good1 := hgood.out
            have at1 := hat.out
            have hcl2 := cl.next (lo' := lo / 2) (hi' := hi / 2) (by omega) (by omega)
            exact ⟨k + 1, lo / 2, hi / 2, _, _, by go_num, by go_num, by omega, by omega, hcl2, .inl (by omega), cov1.next2 (by omega) (by omega), good1, hR, honly.out, at1⟩
          case measure => simp [intOf]; omega

    · have cl := hcl.out
      have hz := HZ.out
      have HD : Hid (∀ l, size ≤ l → l < 2 * size → ((from_ + size ≤ l ∧ l < to_ + size) → val low' add' l % 4294967296 = (val low add l + d) % 4294967296) ∧ (¬ (from_ + size ≤ l ∧ l < to_ + size) → val low' add' l % 4294967296 = val low add l % 4294967296)) :=
        fun l h1 h2 => hcov.out.done cl (by omega) hor.out l (by omega) (by omega)
      have HU : Hid (Up ((from_ + size) / 2) ((to_ + size - 1) / 2)) := Up.start (a := a) (by omega) (by omega) (by omega)
      have q0 := hat.out.nodes
      have q1 := hat.out.size_
      clear cl hz hcl hor hcov g0 g1
      go_wp2_with fail
      go_quiet (fail)
      go_wp2_with fail
      go_loopw [11, 12] (fun iv jv wq => ∃ (i j : Nat) (low2 : Nat → Int), iv = .int .i64 i ∧ jv = .int .i64 j ∧ i < size ∧ j < size ∧ Hid (Up i j) ∧ Hid (∀ l, size ≤ l → val low2 add' l = val low' add' l) ∧
        Hid ((∀ m, m ≠ 0 → m < size → Least low add m) → Good size low2 add' i j) ∧ Hid ((∀ k, R (low k)) → ∀ k, R (low2 k)) ∧ Hid (Only N w wq) ∧ Hid (At wq T N n size low2 add')) (fun iv _ _ => (intOf iv).toNat)
      case atStart =>
        exact ⟨(from_ + size) / 2, (to_ + size - 1) / 2, low', by go_num, by go_num, by omega, by omega, HU, fun _ _ => rfl, hgood, hR, honly.out.drewN _, hat.out.drewN _⟩
      case round =>
        obtain ⟨i, j, low2, rfl, rfl, hi1, hj1, hup, hval, hgood2, hR2, honly2, hat2⟩ := hrel
        by_cases hi0 : 0 < i
        · go_wp2_with fail
          refine (mend_c T N size i n low2 add' _ hat2.out (by omega) hs).mono ?_
          rintro e w1 ⟨rfl, ho1, ha1⟩
          have HO1 : Hid (Only N w w1) := honly2.out.trans ho1
          have HA1 : Hid (At w1 T N n size (mended low2 add' i) add') := ha1
          clear ho1 ha1 q0 q1
          by_cases hji : j = i
          · subst hji
            go_wp2_with fail
            go_roundw
            case rel =>
              exact ⟨j / 2, j / 2, _, by go_num, by go_num, by omega, by omega, hup.out.next (by omega), fun l hl => (val_mended _ _ _ _ (by omega)).trans (hval.out l hl), fun h0 => (hgood2.out h0).same (by omega), fun h => R_upd (hR2.out h) _ _, HO1, HA1⟩
            case measure => simp [intOf]; omega
          · have hne : ((j : Int) != (i : Int)) = true := by simp; omega
            go_wp2_with fail
            refine (mend_c T N size j n _ add' _ HA1.out (by omega) hs).mono ?_
            rintro e w2 ⟨rfl, ho2, ha2⟩
            have HO2 : Hid (Only N w w2) := HO1.out.trans ho2
            have HA2 : Hid (At w2 T N n size (mended (mended low2 add' i) add' j) add') := ha2
            clear ho2 ha2
            go_wp2_with fail
            go_roundw
            case rel =>
              exact ⟨i / 2, j / 2, _, by go_num, by go_num, by omega, by omega, hup.out.next (by omega), fun l hl => (val_mended _ _ _ _ (by omega)).trans ((val_mended _ _ _ _ (by omega)).trans (hval.out l hl)), fun h0 => ((hgood2.out h0).one (by omega)).two, fun h => R_upd (R_upd (hR2.out h) _ _) _ _, HO2, HA2⟩
            case measure => simp [intOf]; omega
        · obtain rfl : i = 0 := by omega
          have hj0 := hup.out.zero rfl
          go_wp2_with fail
          go_end0
          have hz := HZ.out
          subst hz
          subst hj0
          refine ⟨low2, add', ⟨rfl, honly2, hat2⟩, fun l h1 h2 => ?_, fun h0 => (hgood2.out h0).done, hR2⟩
          rw [hval.out l h1]
          exact HD l h1 h2
end Go.Proofs.Qxb6601508a.Tree
