/-
  The walk of finderDomain: where it answers true, the domain holds.
-/
import Derived.Test.Qxb6601408aFinMsort
namespace Go.Proofs.Qxb6601408a.Fin
open Go.RowKit
set_option linter.unusedVariables false

/-- an array value of m ints, whatever they are -/
structure IntsI (a : Array Value) (m : Nat) (A : Nat → Int) : Prop where
  size : a.size = m
  get : ∀ i, i < m → a[i]? = some (.int .i64 (A i))
/-- one stretch of the domain, over ints -/
def Okay (s x c : Nat → Int) (d : Nat → Int) (b : Nat) : Prop := s b ≤ x b ∧ x b ≤ s (b + 1) ∧ s b ≤ c b ∧ c b ≤ x b ∧ ∀ i : Nat, s b < i → (i : Int) < c b → d (i - 1) ≤ d i
structure DomI (s x c : Nat → Int) (n : Nat) (d : Nat → Int) : Prop where
  zero : 0 ≤ s 0
  mono : ∀ b, b < 256 → s b ≤ s (b + 1)
  top : s 256 ≤ n
  okay : ∀ b, b < 256 → Okay s x c d b
theorem mono_ge {s : Nat → Int} (h0 : 0 ≤ s 0) (hm : ∀ b, b < 256 → s b ≤ s (b + 1)) : ∀ b, b ≤ 256 → 0 ≤ s b := by
  intro b
  induction b with
  | zero => intro _; exact h0
  | succ b ih => intro hb; have h1 := ih (by omega); have h2 := hm b (by omega); omega
theorem mono_le {s : Nat → Int} {n : Int} (ht : s 256 ≤ n) (hm : ∀ b, b < 256 → s b ≤ s (b + 1)) : ∀ k b, b + k = 256 → s b ≤ n := by
  intro k
  induction k with
  | zero => intro b hb; have : b = 256 := by omega
            subst this; exact ht
  | succ k ih => intro b hb; have h1 := ih (b + 1) (by omega); have h2 := hm b (by omega); omega

theorem DomI.dom {s x c : Nat → Int} {n : Nat} {d : Nat → Int} (h : DomI s x c n d) : Dom (fun b => (s b).toNat) (fun b => (x b).toNat) (fun b => (c b).toNat) n d := by
  have g0 := mono_ge h.zero h.mono
  refine ⟨fun b hb => ?_, fun b hb => ?_, fun b hb => ?_, fun b hb => ?_, ?_, fun b hb => ?_⟩
  · have h1 := h.okay b hb; have h2 := g0 b (by omega); obtain ⟨a1, a2, a3, a4, a5⟩ := h1; show (s b).toNat ≤ (x b).toNat; omega
  · have h1 := h.okay b hb; have h2 := g0 b (by omega); obtain ⟨a1, a2, a3, a4, a5⟩ := h1; show (x b).toNat ≤ (s (b + 1)).toNat; omega
  · have h1 := h.okay b hb; have h2 := g0 b (by omega); obtain ⟨a1, a2, a3, a4, a5⟩ := h1; show (s b).toNat ≤ (c b).toNat; omega
  · have h1 := h.okay b hb; have h2 := g0 b (by omega); obtain ⟨a1, a2, a3, a4, a5⟩ := h1; show (c b).toNat ≤ (x b).toNat; omega
  · have := h.top; show (s 256).toNat ≤ n; omega
  · have h1 := h.okay b hb; have h2 := g0 b (by omega); obtain ⟨a1, a2, a3, a4, a5⟩ := h1
    -- neighbours suffice
    have key : ∀ k i, (s b).toNat ≤ i → i + k < (c b).toNat → d i ≤ d (i + k) := by
      intro k
      induction k with
      | zero => intro i _ _; exact Int.le_refl _
      | succ k ih =>
        intro i g1 g2
        have e1 := ih i g1 (by omega)
        have e2 := a5 (i + (k + 1)) (by omega) (by omega)
        rw [show i + (k + 1) - 1 = i + k from by omega] at e2
        omega
    intro i j g1 g2 g3
    have := key (j - i) i g1 (by omega)
    rw [show i + (j - i) = j from by omega] at this
    exact this

/-- the answer of finderDomain -/
def DomAns (s x c : Nat → Int) (n : Nat) (d : Nat → Int) (w : World) (e : Ending) (w' : World) : Prop :=
  ∃ r : Bool, e = .returned (.bool r) ∧ RowKit.Below w.heap.size w w' ∧ (r = true → DomI s x c n d)

theorem _root_.Go.RowKit.Below.down {B B' : Nat} {u w : World} (h : RowKit.Below B u w) (hb : B' ≤ B) : RowKit.Below B' u w := ⟨h.os, h.tape, h.output, h.size, fun k hk => h.block k (by omega)⟩
theorem below_drewN {B : Nat} {u w : World} (h : RowKit.Below B u w) (k : Nat) : RowKit.Below B u (w.drewN k) := h.trans ⟨rfl, rfl, rfl, Nat.le_refl _, fun _ _ => rfl⟩

theorem boxed3 (w : World) (sa xa ca : Array Value) : ∃ w1, w1 = ((w.alloc (Obj.cells sa 34)).alloc (Obj.cells xa 35)).alloc (Obj.cells ca 35) ∧ (∀ i, w1.cell? ⟨w.heap.size, i, none⟩ = sa[i]?) ∧ (∀ i, w1.cell? ⟨w.heap.size + 1, i, none⟩ = xa[i]?) ∧ (∀ i, w1.cell? ⟨w.heap.size + 1 + 1, i, none⟩ = ca[i]?) ∧
    RowKit.Below w.heap.size w w1 ∧ w1.heap.size = w.heap.size + 1 + 1 + 1 := by
  have z1 : (w.alloc (Obj.cells sa 34)).heap.size = w.heap.size + 1 := size_alloc' _ _
  have z2 : ((w.alloc (Obj.cells sa 34)).alloc (Obj.cells xa 35)).heap.size = w.heap.size + 1 + 1 := by rw [size_alloc', z1]
  have z3 : (((w.alloc (Obj.cells sa 34)).alloc (Obj.cells xa 35)).alloc (Obj.cells ca 35)).heap.size = w.heap.size + 1 + 1 + 1 := by rw [size_alloc', z2]
  refine ⟨_, rfl, fun i => ?_, fun i => ?_, fun i => ?_, (((RowKit.Below.refl _ _).alloc (Nat.le_refl _) _).alloc (by omega) _).alloc (by omega) _, z3⟩
  · rw [World.cell?_alloc_lt _ _ _ (by show w.heap.size < _; omega), World.cell?_alloc_lt _ _ _ (by show w.heap.size < _; omega), World.cell?_alloc_new]
  · rw [World.cell?_alloc_lt _ _ _ (by show w.heap.size + 1 < _; omega), ← z1, World.cell?_alloc_new]
  · rw [← z2, World.cell?_alloc_new]

set_option maxRecDepth 100000 in
set_option maxHeartbeats 4000000 in
theorem dom_c (A : Option Addr) (n cap : Nat) (s x c : Nat → Int) (sa xa ca : Array Value) (d : Nat → Int) (w : World) (hn : n ≤ 65536)
    (hA : 0 < n → ∃ b off, A = some ⟨b, off, none⟩ ∧ b < w.heap.size ∧ ∀ j, j < n → w.cell? ⟨b, off + j, none⟩ = some (.int .u64 (d j)))
    (hs : IntsI sa 257 s) (hx : IntsI xa 256 x) (hc : IntsI ca 256 c) :
    Calls Try.prog 15 #[.slice A n cap, .agg sa, .agg xa, .agg ca] w (DomAns s x c n d w) := by
  have HA : Hid (0 < n → ∃ b off, A = some ⟨b, off, none⟩ ∧ b < w.heap.size ∧ ∀ j, j < n → w.cell? ⟨b, off + j, none⟩ = some (.int .u64 (d j))) := hA
  have HS : Hid (IntsI sa 257 s) := hs
  have HX : Hid (IntsI xa 256 x) := hx
  have HC : Hid (IntsI ca 256 c) := hc
  clear hA hs hx hc
  go_enter Try.func15, Try.ntmps15
  go_upto_region 1 with fail
  obtain ⟨w1, hw1, hb1, hb2, hb3, hb4, hb5⟩ := boxed3 w sa xa ca
  rw [← hw1]
  have HB1 : Hid (RowKit.Below w.heap.size w w1) := hb4
  obtain ⟨h, hh⟩ : ∃ h, h = w.heap.size := ⟨_, rfl⟩
  obtain ⟨H3, hH3⟩ : ∃ H3, H3 = w1.heap.size := ⟨_, rfl⟩
  rw [← hh] at hb1 hb2 hb3 HB1 hb5 ⊢
  have HS1 : Hid (∀ i, w1.cell? ⟨h, i, none⟩ = sa[i]?) := hb1
  have HX1 : Hid (∀ i, w1.cell? ⟨h + 1, i, none⟩ = xa[i]?) := hb2
  have HC1 : Hid (∀ i, w1.cell? ⟨h + 1 + 1, i, none⟩ = ca[i]?) := hb3
  have HH : Hid (h = w.heap.size) := hh
  have hz1 : H3 ≤ h + 1 + 1 + 1 := by omega
  have hz2 : h + 1 + 1 + 1 ≤ H3 := by omega
  have H3R : Hid (RowKit.Below H3 w1 w1) := RowKit.Below.refl _ _
  clear hw1 hb1 hb2 hb3 hb4 hb5 hh hH3
  obtain ⟨s0, hs0⟩ : ∃ v, v = s 0 := ⟨_, rfl⟩
  have cs0 : w1.cell? ⟨h, 0, none⟩ = some (.int .i64 s0) := by rw [HS1.out, hs0]; exact HS.out.get 0 (by omega)
  have ES0 : Hid (s0 = s 0) := hs0
  clear hs0
  by_cases hs00 : s0 < 0
  · have t0 : decide (s0 < 0) = true := decide_eq_true hs00
    go_wp2_with fail
    go_ret
    exact ⟨false, rfl, by rw [← HH.out]; exact HB1, fun e => absurd e (by decide)⟩
  · have t0 : decide (s0 < 0) = false := decide_eq_false hs00
    have HZ : Hid (0 ≤ s 0) := by rw [← ES0.out]; exact Int.not_lt.1 hs00
    go_wp2_with fail
    go_loopw [9] (fun bv wq => ∃ b : Nat, bv = .int .i64 b ∧ b ≤ 256 ∧ Hid (RowKit.Below H3 w1 wq) ∧ Hid (∀ k, k < b → s k ≤ s (k + 1))) (fun bv _ => 256 - (intOf bv).toNat)
    case atStart => exact ⟨0, rfl, by omega, H3R, fun k hk => absurd hk (Nat.not_lt_zero _)⟩
    case round =>
      obtain ⟨b, rfl, hb256, hB, hM⟩ := hrel
      by_cases hb : b < 256
      · have db : decide ((b : Int) < 256) = true := decide_eq_true (by omega)
        have db' : decide (b < 256) = true := decide_eq_true hb
        have nb1 : (b : Int) + 1 < 257 := by omega
        have nb2 : (b : Int) < 257 := by omega
        obtain ⟨u, hu⟩ : ∃ v, v = s (b + 1) := ⟨_, rfl⟩
        have cu : wr.cell? ⟨h, b + 1, none⟩ = some (.int .i64 u) := by rw [hu, hB.out.cell (by exact (by omega : h < H3)), HS1.out]; exact HS.out.get (b + 1) (by omega)
        have Eu : Hid (u = s (b + 1)) := hu
        clear hu
        obtain ⟨v, hv⟩ : ∃ v, v = s (b) := ⟨_, rfl⟩
        have cv : wr.cell? ⟨h, b, none⟩ = some (.int .i64 v) := by rw [hv, hB.out.cell (by exact (by omega : h < H3)), HS1.out]; exact HS.out.get (b) (by omega)
        have Ev : Hid (v = s (b)) := hv
        clear hv
        by_cases hl : u < v
        · have t1 : decide (u < v) = true := decide_eq_true hl
          go_wp2_with fail
          go_quiet (fail)
          go_wp2_with fail
          go_ret
          exact ⟨false, rfl, (by rw [← HH.out]; exact HB1.out.trans ((below_drewN hB.out _).down (by omega))), fun e => absurd e (by decide)⟩

        · have t1 : decide (u < v) = false := decide_eq_false hl
          have HM2 : Hid (∀ k, k < b + 1 → s k ≤ s (k + 1)) := fun k hk => by
            by_cases e : k = b
            · subst e; rw [← Eu.out, ← Ev.out]; exact Int.not_lt.1 hl
            · exact hM.out k (by omega)
          go_wp2_with fail
          go_quiet (fail)
          go_wp2_with fail
          go_roundw
          case rel => exact ⟨b + 1, by go_num, by omega, below_drewN hB.out _, HM2⟩
          case measure => simp [intOf] <;> omega
      · obtain rfl : b = 256 := by omega
        clear H3R
        obtain ⟨top, htop⟩ : ∃ v, v = s (256) := ⟨_, rfl⟩
        have ctop : wr.cell? ⟨h, 256, none⟩ = some (.int .i64 top) := by rw [htop, hB.out.cell (by exact (by omega : h < H3)), HS1.out]; exact HS.out.get (256) (by omega)
        have Etop : Hid (top = s (256)) := htop
        clear htop
        by_cases htop : (n : Int) < top
        · have t1 : decide ((n : Int) < top) = true := decide_eq_true htop
          go_wp2_with fail
          go_ret
          exact ⟨false, rfl, (by rw [← HH.out]; exact HB1.out.trans (hB.out.down (by omega))), fun e => absurd e (by decide)⟩
        · have t1 : decide ((n : Int) < top) = false := decide_eq_false htop
          have HTOP : Hid (s 256 ≤ n) := by rw [← Etop.out]; exact Int.not_lt.1 htop
          have HGE : Hid (∀ b, b ≤ 256 → 0 ≤ s b) := mono_ge HZ.out hM.out
          have HLE : Hid (∀ b, b ≤ 256 → s b ≤ n) := fun b hb => mono_le HTOP.out hM.out (256 - b) b (by omega)
          have HB0 := hB
          clear hb256
          go_wp2_with fail
          go_loopw [10] (fun bv wq => ∃ b : Nat, bv = .int .i64 b ∧ b ≤ 256 ∧ Hid (RowKit.Below H3 w1 wq) ∧ Hid (∀ k, k < b → Okay s x c d k)) (fun bv _ => 256 - (intOf bv).toNat)
          case atStart => exact ⟨0, rfl, by omega, HB0, fun k hk => absurd hk (Nat.not_lt_zero _)⟩
          case round =>
            obtain ⟨b, rfl, hb256, hB, hO⟩ := hrel
            clear HB0 ctop
            by_cases hb : b < 256
            · have db : decide ((b : Int) < 256) = true := decide_eq_true (by omega)
              have db' : decide (b < 256) = true := decide_eq_true hb
              have nb1 : (b : Int) + 1 < 257 := by omega
              have nb2 : (b : Int) < 257 := by omega
              have nb3 : (b : Int) < 256 := by omega
              obtain ⟨sb, hsb⟩ := Int.eq_ofNat_of_zero_le (HGE.out b hb256)
              obtain ⟨s1, hs1⟩ := Int.eq_ofNat_of_zero_le (HGE.out (b + 1) (by omega))
              have ESB : Hid ((sb : Int) = s b) := hsb.symm
              have ES1 : Hid ((s1 : Int) = s (b + 1)) := hs1.symm
              have hsn : sb ≤ n := by have := HLE.out b hb256; omega
              have hs1n : s1 ≤ n := by have := HLE.out (b + 1) (by omega); omega
              have cS : wr.cell? ⟨h, b, none⟩ = some (.int .i64 sb) := by rw [ESB.out, hB.out.cell (by exact (by omega : h < H3)), HS1.out]; exact HS.out.get b (by omega)
              have cS1 : wr.cell? ⟨h, b + 1, none⟩ = some (.int .i64 s1) := by rw [ES1.out, hB.out.cell (by exact (by omega : h < H3)), HS1.out]; exact HS.out.get (b + 1) (by omega)
              clear hsb hs1
              obtain ⟨xb, hxb⟩ : ∃ v, v = x b := ⟨_, rfl⟩
              obtain ⟨cb, hcb⟩ : ∃ v, v = c b := ⟨_, rfl⟩
              have cX : wr.cell? ⟨h + 1, b, none⟩ = some (.int .i64 xb) := by rw [hxb, hB.out.cell (by exact (by omega : h + 1 < H3)), HX1.out]; exact HX.out.get b hb
              have cC : wr.cell? ⟨h + 1 + 1, b, none⟩ = some (.int .i64 cb) := by rw [hcb, hB.out.cell (by exact (by omega : h + 1 + 1 < H3)), HC1.out]; exact HC.out.get b hb
              have EXB : Hid (xb = x b) := hxb
              have ECB : Hid (cb = c b) := hcb
              clear hxb hcb
              by_cases b1 : xb < sb
              · have t1 : decide (xb < (sb : Int)) = true := decide_eq_true b1
                go_wp2_with fail
                go_quiet (fail)
                go_wp2_with fail
                go_ret
                exact ⟨false, rfl, (by rw [← HH.out]; exact HB1.out.trans ((below_drewN hB.out _).down (by omega))), fun e => absurd e (by decide)⟩

              · by_cases b2 : (s1 : Int) < xb
                · have t1 : decide (xb < (sb : Int)) = false := decide_eq_false b1
                  have t2 : decide ((s1 : Int) < xb) = true := decide_eq_true b2
                  go_wp2_with fail
                  go_quiet (fail)
                  go_wp2_with fail
                  go_ret
                  exact ⟨false, rfl, (by rw [← HH.out]; exact HB1.out.trans ((below_drewN hB.out _).down (by omega))), fun e => absurd e (by decide)⟩

                · by_cases b3 : cb < sb
                  · have t1 : decide (xb < (sb : Int)) = false := decide_eq_false b1
                    have t2 : decide ((s1 : Int) < xb) = false := decide_eq_false b2
                    have t3 : decide (cb < (sb : Int)) = true := decide_eq_true b3
                    go_wp2_with fail
                    go_quiet (fail)
                    go_wp2_with fail
                    go_quiet (fail)
                    go_wp2_with fail
                    go_ret
                    exact ⟨false, rfl, (by rw [← HH.out]; exact HB1.out.trans ((below_drewN (below_drewN hB.out _) _).down (by omega))), fun e => absurd e (by decide)⟩

                  · by_cases b4 : xb < cb
                    · have t1 : decide (xb < (sb : Int)) = false := decide_eq_false b1
                      have t2 : decide ((s1 : Int) < xb) = false := decide_eq_false b2
                      have t3 : decide (cb < (sb : Int)) = false := decide_eq_false b3
                      have t4 : decide (xb < cb) = true := decide_eq_true b4
                      go_wp2_with fail
                      go_quiet (fail)
                      go_wp2_with fail
                      go_quiet (fail)
                      go_wp2_with fail
                      go_ret
                      exact ⟨false, rfl, (by rw [← HH.out]; exact HB1.out.trans ((below_drewN (below_drewN hB.out _) _).down (by omega))), fun e => absurd e (by decide)⟩

                    · obtain ⟨xb, rfl⟩ := Int.eq_ofNat_of_zero_le (by omega : 0 ≤ xb)
                      obtain ⟨cb, rfl⟩ := Int.eq_ofNat_of_zero_le (by omega : 0 ≤ cb)
                      have g1 : sb ≤ xb := by omega
                      have g2 : xb ≤ s1 := by omega
                      have g3 : sb ≤ cb := by omega
                      have g4 : cb ≤ xb := by omega
                      have t1 : decide (xb < sb) = false := decide_eq_false (by omega)
                      have t2 : decide (s1 < xb) = false := decide_eq_false (by omega)
                      have t3 : decide (cb < sb) = false := decide_eq_false (by omega)
                      have t4 : decide (xb < cb) = false := decide_eq_false (by omega)
                      clear b1 b2 b3 b4
                      go_wp2_with fail
                      go_quiet (fail)
                      go_wp2_with fail
                      go_quiet (fail)
                      go_wp2_with fail
                      have hBo := hB
                      clear hB cS cS1 cX cC
                      go_loopw [11] (fun iv wq => ∃ i : Nat, iv = .int .i64 i ∧ sb < i ∧ i ≤ n + 1 ∧ Hid (RowKit.Below H3 w1 wq) ∧ Hid (∀ k : Nat, sb < k → k < i → d (k - 1) ≤ d k)) (fun iv _ => n + 1 - (intOf iv).toNat)
                      case atStart => exact ⟨sb + 1, by go_num, by omega, by omega, below_drewN hBo.out _, fun k h1 h2 => by omega⟩
                      case round =>
                        obtain ⟨i, rfl, hi1, hi2, hB, hI⟩ := hrel
                        clear hBo
                        have cC : wr.cell? ⟨h + 1 + 1, b, none⟩ = some (.int .i64 cb) := by rw [hB.out.cell (by exact (by omega : h + 1 + 1 < H3)), HC1.out, ECB.out]; exact HC.out.get b hb
                        by_cases hic : i < cb
                        · have dic : decide (i < cb) = true := decide_eq_true hic
                          obtain ⟨eb, eo, rfl, hebl, hcells⟩ := HA.out (by omega)
                          obtain ⟨u, hu⟩ : ∃ v, v = d (i - 1) := ⟨_, rfl⟩
                          obtain ⟨v, hv⟩ : ∃ v, v = d i := ⟨_, rfl⟩
                          have cu : wr.cell? ⟨eb, eo + (i - 1), none⟩ = some (.int .u64 u) := by rw [hu, hB.out.cell (by exact (by have := HH.out; omega : eb < H3)), HB1.out.cell (by show eb < h; have := HH.out; omega)]; exact hcells (i - 1) (by omega)
                          have cv : wr.cell? ⟨eb, eo + i, none⟩ = some (.int .u64 v) := by rw [hv, hB.out.cell (by exact (by have := HH.out; omega : eb < H3)), HB1.out.cell (by show eb < h; have := HH.out; omega)]; exact hcells i (by omega)
                          have EU : Hid (u = d (i - 1)) := hu
                          have EV : Hid (v = d i) := hv
                          have ni1 : (i : Int) - 1 < n := by omega
                          have ni2 : (i : Int) < n := by omega
                          clear hu hv hcells
                          by_cases hl : v < u
                          · have t1 : decide (v < u) = true := decide_eq_true hl
                            go_wp2_with fail
                            go_quiet (fail)
                            go_wp2_with fail
                            go_ret
                            exact ⟨false, rfl, (by rw [← HH.out]; exact HB1.out.trans ((below_drewN hB.out _).down (by omega))), fun e => absurd e (by decide)⟩

                          · have t1 : decide (v < u) = false := decide_eq_false hl
                            have HI2 : Hid (∀ k : Nat, sb < k → k < i + 1 → d (k - 1) ≤ d k) := fun k h1 h2 => by
                              by_cases e : k = i
                              · subst e; rw [← EU.out, ← EV.out]; exact Int.not_lt.1 hl
                              · exact hI.out k h1 (by omega)
                            go_wp2_with fail
                            go_quiet (fail)
                            go_wp2_with fail
                            go_roundw
                            case rel => exact ⟨i + 1, by go_num, by omega, by omega, below_drewN hB.out _, HI2⟩
                            case measure => simp [intOf] <;> omega
                        · have dic : decide (i < cb) = false := decide_eq_false hic
                          have HOK : Hid (∀ k, k < b + 1 → Okay s x c d k) := fun k hk => by
                            by_cases e : k = b
                            · subst e
                              refine ⟨by rw [← ESB.out, ← EXB.out]; omega, by rw [← EXB.out, ← ES1.out]; omega, by rw [← ESB.out, ← ECB.out]; omega, by rw [← ECB.out, ← EXB.out]; omega, fun i' g1 g2 => ?_⟩
                              rw [← ESB.out] at g1
                              rw [← ECB.out] at g2
                              exact hI.out i' (by omega) (by omega)
                            · exact hO.out k (by omega)
                          go_wp2_with fail
                          go_roundw
                          case rel => exact ⟨b + 1, by go_num, by omega, hB, HOK⟩
                          case measure => simp [intOf] <;> omega

            · obtain rfl : b = 256 := by omega
              go_wp2_with fail
              go_ret
              exact ⟨true, rfl, (by rw [← HH.out]; exact HB1.out.trans (hB.out.down (by omega))), fun _ => ⟨HZ.out, hM.out, HTOP.out, hO.out⟩⟩
end Go.Proofs.Qxb6601408a.Fin
