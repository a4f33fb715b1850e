/-
  The walk of mergeSortU64 (bottom-up merging).
-/
import Derived.Test.Qxb6601408aFinClone
namespace Go.Proofs.Qxb6601408a.Fin
open Go.RowKit
set_option linter.unusedVariables false

/-- the pieces of width 2g below lo are merged into q -/
structure Piece (g n lo a0 : Nat) (d q : Nat → Int) : Prop where
  at_ : lo = 2 * g * a0
  runs : ∀ a, a < a0 → Sorted (2 * g * a) (min (2 * g * a + 2 * g) n) q
  cnt : ∀ v, cnt q 0 v (min lo n) = cnt d 0 v (min lo n)
theorem Piece.start (g n : Nat) (d q : Nat → Int) : Piece g n 0 0 d q := ⟨by rw [Nat.mul_zero], fun a h => absurd h (Nat.not_lt_zero _), fun v => by rw [Nat.zero_min]; rfl⟩
theorem Piece.left {g n lo a0 : Nat} {d q : Nat → Int} (h : Piece g n lo a0 d q) (hr : Runs g n d) {mid : Nat} (h1 : mid ≤ lo + g) (h2 : mid ≤ n) : Sorted lo mid d := by
  have e : g * (2 * a0) = lo := by rw [h.at_, ← Nat.mul_assoc, Nat.mul_comm g 2]
  have := hr (2 * a0)
  rw [e] at this
  exact this.sub (Nat.le_refl _) (by omega)
theorem Piece.right {g n lo a0 : Nat} {d q : Nat → Int} (h : Piece g n lo a0 d q) (hr : Runs g n d) {mid hi : Nat} (h1 : mid = n ∨ mid = lo + g) (h2 : hi ≤ n) (h3 : hi ≤ lo + 2 * g) : Sorted mid hi d := by
  rcases h1 with e1 | e1
  · intro i j a b c; omega
  · have e : g * (2 * a0 + 1) = lo + g := by rw [Nat.mul_add, h.at_, ← Nat.mul_assoc, Nat.mul_comm g 2, Nat.mul_one]
    have := hr (2 * a0 + 1)
    rw [e] at this
    rw [e1]
    exact this.sub (Nat.le_refl _) (by omega)
theorem Piece.next {g n lo a0 hi : Nat} {d q q' : Nat → Int} (h : Piece g n lo a0 d q) (hlt : lo < n) (hhi : hi = min (lo + 2 * g) n) (hout : ∀ p, p < lo → q' p = q p) (hc : ∀ v, Fin.cnt q' lo v (hi - lo) = Fin.cnt d lo v (hi - lo)) (hs : Sorted lo hi q') : Piece g n (lo + 2 * g) (a0 + 1) d q' := by
  have e := h.at_
  refine ⟨by rw [Nat.mul_add, Nat.mul_one, e], fun a ha => ?_, fun v => ?_⟩
  · by_cases c : a = a0
    · subst c; rw [← e, ← hhi]; exact hs
    · have hle : 2 * g * (a + 1) ≤ 2 * g * a0 := Nat.mul_le_mul_left _ (by omega)
      rw [Nat.mul_add, Nat.mul_one, ← e] at hle
      exact (h.runs a (by omega)).congr fun i _ g2 => hout i (by omega)
  · have hcv := h.cnt v
    rw [show min lo n = lo from by omega] at hcv
    rw [show min (lo + 2 * g) n = lo + (hi - lo) from by omega, cnt_add, cnt_add, Nat.zero_add, hc v, ← hcv, cnt_congr v lo fun i _ g2 => hout i (by omega)]
theorem Piece.done {g n lo a0 : Nat} {d q : Nat → Int} (h : Piece g n lo a0 d q) (hge : n ≤ lo) : Runs (2 * g) n q ∧ ∀ v, Fin.cnt q 0 v n = Fin.cnt d 0 v n := by
  refine ⟨fun a => ?_, fun v => by have := h.cnt v; rw [show min lo n = n from by omega] at this; exact this⟩
  by_cases c : a < a0
  · exact h.runs a c
  · have hle : 2 * g * a0 ≤ 2 * g * a := Nat.mul_le_mul_left _ (by omega)
    rw [← h.at_] at hle
    intro i j g1 g2 g3; omega

theorem made_zero (n : Nat) : ∀ j, j < n → (madeCells (Value.int .u64 0).cells (n * 1)).toList[j]? = some (.int .u64 0) := by
  intro j hj
  show (madeCells #[Value.int .u64 0] (n * 1)).toList[j]? = _
  rw [toList_madeCells_one, List.getElem?_replicate, if_pos (by omega)]
theorem hold_made {w : World} {g n : Nat} (h : w.ownsRow g 26 1 (.slice (some ⟨g, 0, none⟩) n n) n (madeCells (Value.int .u64 0).cells (n * 1)).toList) : Hold w g 0 n (fun _ => 0) :=
  ⟨fun t ht => by rw [Nat.zero_add, h.cellAt t (by omega)]; exact made_zero n t ht, fun t ht => by rw [Nat.zero_add]; exact h.frozenAt t⟩
theorem buf_set {w : World} {bb n k : Nat} {q : Nat → Int} (h : Hold w bb 0 n q) (hk : k < n) (v : Int) : Hold (w.setCell ⟨bb, k, none⟩ (.int .u64 v)) bb 0 n (upd q k v) ∧ Keep bb 0 n w (w.setCell ⟨bb, k, none⟩ (.int .u64 v)) := by
  have h1 := h.set k hk v
  have h2 := (Keep.refl bb 0 n w).setCell k hk (.int .u64 v)
  rw [Nat.zero_add] at h1 h2
  exact ⟨h1, h2⟩

set_option maxRecDepth 100000 in
set_option maxHeartbeats 4000000 in
theorem msort_c (blk off n cap : Nat) (d : Nat → Int) (w : World) (h : Hold w blk off n d) (hn : n ≤ 65536) :
    Calls Try.prog 17 #[.slice (some ⟨blk, off, none⟩) n cap] w (Did blk off n (fun d' => Perm 0 n d d' ∧ Sorted 0 n d') w) := by
  have H0 : Hid (Hold w blk off n d) := h
  by_cases h2 : n < 2
  · have d2 : decide ((n : Int) < 2) = true := decide_eq_true (by omega)
    have d2' : decide (n < 2) = true := decide_eq_true h2
    clear h
    go_enter Try.func17, Try.ntmps17
    go_wp2_with fail
    go_end0
    exact ⟨rfl, Keep.refl _ _ _ _, d, H0, Perm.refl _ _ _, fun i j a b c => by omega⟩
  · have d2 : decide ((n : Int) < 2) = false := decide_eq_false (by omega)
    have d2' : decide (n < 2) = false := decide_eq_false h2
    have hlt := h.lt (by omega)
    clear h
    obtain ⟨i0, hi, hz0, hz1, hz2⟩ := info_parts info26
    go_enter Try.func17, Try.ntmps17
    go_wp2_with (at_make; refine wpList_make_full _ rfl (.tmp 15) (.tmp 15) 33 rfl w.heap.size 26 i0 (.int .u64 0) 1 Try.underlying33 hi hz0 hz1 .i64 .i64 _ _ n rfl rfl rfl rfl (by rw [hz2]; omega) (by unfold maxLen; omega) (Nat.le_refl _) ?_; intro w1 hown hgrow; have HO : Hid (w1.ownsRow w.heap.size 26 1 (.slice (some ⟨w.heap.size, 0, none⟩) n n) n (madeCells (Value.int .u64 0).cells (n * 1)).toList) := hown; have HG : Hid (w.grownBy w1 none) := hgrow; clear hown hgrow)
    have HB0 : Hid (Hold w1 w.heap.size 0 n (fun _ => 0)) := hold_made HO.out
    have K0 : Hid (Keep blk off n w w1) := ⟨HG.out.os, HG.out.tape, HG.out.output, HG.out.size, fun k hk _ => HG.out.block k hk (by intro e; cases e), fun i _ => World.cell?_of_block (HG.out.block blk hlt (by intro e; cases e)), fun i => World.frozen?_of_block (HG.out.block blk hlt (by intro e; cases e))⟩
    have H1 : Hid (Hold w1 blk off n d) := H0.out.grown HG.out hlt (by intro e; cases e)
    obtain ⟨bb, hbb⟩ : ∃ bb, bb = w.heap.size := ⟨_, rfl⟩
    rw [← hbb] at HB0 ⊢
    have HRB : Hid (w.heap.size ≤ bb) := by rw [hbb]; exact Nat.le_refl _
    have HLT : Hid (blk < w.heap.size) := hlt
    have HNE : Hid (blk ≠ bb) := by rw [hbb]; exact Nat.ne_of_lt hlt
    clear HO HG hbb hlt H0
    go_loopw [4] (fun gv wq => ∃ (g : Nat) (d1 q : Nat → Int), gv = .int .i64 g ∧ 1 ≤ g ∧ g ≤ 131072 ∧ Hid (Keep blk off n w wq) ∧ Hid (Hold wq blk off n d1) ∧ Hid (Hold wq bb 0 n q) ∧ Hid (Perm 0 n d d1) ∧ Hid (Runs g n d1)) (fun gv _ => 131073 - (intOf gv).toNat)
    case atStart => exact ⟨1, d, _, rfl, by omega, by omega, K0, H1, HB0, Perm.refl _ _ _, Runs.one n d⟩
    case round =>
      obtain ⟨g, d1, q, rfl, hg1, hg2, hk, hh, hq, hp, hr⟩ := hrel
      clear K0 H1 HB0
      by_cases hgn : g < n
      · have dg : decide (g < n) = true := decide_eq_true hgn
        go_wp2_with fail
        go_loopw [5] (fun lv wq => ∃ (lo a0 : Nat) (q1 : Nat → Int), lv = .int .i64 lo ∧ lo ≤ 400000 ∧ Hid (Keep blk off n w wq) ∧ Hid (Hold wq blk off n d1) ∧ Hid (Hold wq bb 0 n q1) ∧ Hid (Piece g n lo a0 d1 q1)) (fun lv _ => 400001 - (intOf lv).toNat)
        case atStart => exact ⟨0, 0, q, rfl, by omega, hk, hh, hq, Piece.start g n d1 q⟩
        case round =>
          obtain ⟨lo, a0, q1, rfl, hlo4, hk1, hh1, hq1, hP⟩ := hrel
          clear hk hh hq
          by_cases hlo : lo < n
          · have dlo : decide (lo < n) = true := decide_eq_true hlo
            go_upto_if 34 with fail
            go_cut [6] from 22 to 88 (fun mv wx => ∃ mid : Nat, mv = .int .i64 mid ∧ mid ≤ n ∧ mid ≤ lo + g ∧ lo ≤ mid ∧ Hid (mid = n ∨ mid = lo + g) ∧ wr = wx)
            case first =>
              by_cases hc : n < lo + g
              · go_wp2_with fail
                go_meet
                exact ⟨n, rfl, by omega, by omega, by omega, .inl rfl, rfl⟩
              · go_wp2_with fail
                go_meet
                exact ⟨lo + g, by go_num, by omega, by omega, by omega, .inr rfl, rfl⟩
            case rest =>
              obtain ⟨mid, rfl, hm1, hm2, hm3, HMD, rfl⟩ := hcut
              go_upto_if 42 with fail
              go_cut [7] from 22 to 88 (fun hv wx => ∃ hi : Nat, hv = .int .i64 hi ∧ hi ≤ n ∧ hi ≤ lo + 2 * g ∧ mid ≤ hi ∧ Hid (hi = min (lo + 2 * g) n) ∧ wr = wx)
              case first =>
                by_cases hc : n < lo + 2 * g
                · go_wp2_with fail
                  go_meet
                  exact ⟨n, rfl, by omega, by omega, by omega, by show n = min (lo + 2 * g) n; omega, rfl⟩
                · go_wp2_with fail
                  go_meet
                  exact ⟨lo + 2 * g, by go_num, by omega, by omega, by have := HMD.out; omega, by show lo + 2 * g = min (lo + 2 * g) n; omega, rfl⟩
              case rest =>
                obtain ⟨hi, rfl, hi1, hi2, hi3, HHI, rfl⟩ := hcut
                have SL : Hid (Sorted lo mid d1) := hP.out.left hr.out hm2 hm1
                have SR : Hid (Sorted mid hi d1) := hP.out.right hr.out HMD.out hi1 hi2
                go_wp2_with fail
                go_loopw [8, 9, 10] (fun iv jv kv wq => ∃ (i j k : Nat) (q2 : Nat → Int), iv = .int .i64 i ∧ jv = .int .i64 j ∧ kv = .int .i64 k ∧ k + mid ≤ i + j ∧ i + j ≤ k + mid ∧ lo ≤ i ∧ i ≤ mid ∧ mid ≤ j ∧ j ≤ hi ∧
                  Hid (Keep blk off n w wq) ∧ Hid (Hold wq blk off n d1) ∧ Hid (Hold wq bb 0 n q2) ∧ Hid (Fwd lo mid hi i j d1 q2) ∧ Hid (∀ p, p < lo → q2 p = q1 p)) (fun _ _ kv _ => hi - (intOf kv).toNat)
                case atStart => exact ⟨lo, mid, lo, q1, rfl, rfl, rfl, by omega, by omega, by omega, by omega, by omega, by omega, hk1, hh1, hq1, Fwd.start d1 q1 (by omega) (by omega), fun _ _ => rfl⟩
                case round =>
                  obtain ⟨i, j, k, q2, rfl, rfl, rfl, e1, e2, e3, e4, e5, e6, hk2, hh2, hq2, hF, hO2⟩ := hrel
                  clear hk1 hh1 hq1
                  by_cases hkh : k < hi
                  · have hkn : k < n := by omega
                    have ck : wr.cell? ⟨bb, k, none⟩ = some (.int .u64 (q2 k)) := by have := hq2.out.cell k hkn; rw [Nat.zero_add] at this; exact this
                    have fk : wr.frozen? ⟨bb, k, none⟩ = false := by have := hq2.out.loose k hkn; rw [Nat.zero_add] at this; exact this
                    have nk : (k : Int) < n := by omega
                    by_cases hjh : hi ≤ j
                    · have dj : decide (hi ≤ j) = true := decide_eq_true hjh
                      obtain ⟨x, hx⟩ : ∃ x, x = d1 i := ⟨_, rfl⟩
                      have cx : wr.cell? ⟨blk, off + i, none⟩ = some (.int .u64 x) := by rw [hx]; exact hh2.out.cell i (by omega)
                      have Ex : Hid (x = d1 i) := hx
                      have nx : (i : Int) < n := by omega
                      clear hx
                      go_wp2_with fail
                      go_quiet (fail)
                      go_wp2_with fail
                      go_roundw
                      case rel =>
                        have hb2 := buf_set (w := wr.drewN nq) (hq2.out.drewN nq) hkn x
                        refine ⟨i + 1, j, k + 1, upd q2 k x, by go_num, rfl, by go_num, by omega, by omega, by omega, by omega, by omega, by omega, (hk2.out.drewN nq).other hb2.2 HRB.out HLT.out, (hh2.out.drewN nq).other hb2.2 HNE.out (by have := hk2.out.size; have := HLT.out; exact Nat.lt_of_lt_of_le HLT.out hk2.out.size), hb2.1, ?_, ?_⟩
                        · show Fwd lo mid hi (i + 1) j d1 (upd q2 k x)
                          rw [Ex.out, show k = i + j - mid from by omega]
                          exact hF.out.left SL.out SR.out (by omega) (.inl (by omega))
                        · show ∀ p, p < lo → upd q2 k x p = q1 p
                          intro p hp
                          rw [upd_ne _ _ _ _ (by omega)]; exact hO2.out p hp
                      case measure => simp [intOf] <;> omega

                    · have dj : decide (hi ≤ j) = false := decide_eq_false hjh
                      obtain ⟨y, hy⟩ : ∃ x, x = d1 j := ⟨_, rfl⟩
                      have cy : wr.cell? ⟨blk, off + j, none⟩ = some (.int .u64 y) := by rw [hy]; exact hh2.out.cell j (by omega)
                      have Ey : Hid (y = d1 j) := hy
                      have ny : (j : Int) < n := by omega
                      clear hy
                      by_cases him : i < mid
                      · have di : decide (i < mid) = true := decide_eq_true him
                        obtain ⟨x, hx⟩ : ∃ x, x = d1 i := ⟨_, rfl⟩
                        have cx : wr.cell? ⟨blk, off + i, none⟩ = some (.int .u64 x) := by rw [hx]; exact hh2.out.cell i (by omega)
                        have Ex : Hid (x = d1 i) := hx
                        have nx : (i : Int) < n := by omega
                        clear hx
                        by_cases hxy : x ≤ y
                        · have t1 : decide (x ≤ y) = true := decide_eq_true hxy
                          have HLE : Hid (d1 i ≤ d1 j) := by rw [← Ex.out, ← Ey.out]; exact hxy
                          go_wp2_with fail
                          go_quiet (fail)
                          go_wp2_with fail
                          go_roundw
                          case rel =>
                            have hb2 := buf_set (w := wr.drewN nq) (hq2.out.drewN nq) hkn x
                            refine ⟨i + 1, j, k + 1, upd q2 k x, by go_num, rfl, by go_num, by omega, by omega, by omega, by omega, by omega, by omega, (hk2.out.drewN nq).other hb2.2 HRB.out HLT.out, (hh2.out.drewN nq).other hb2.2 HNE.out (by have := hk2.out.size; have := HLT.out; exact Nat.lt_of_lt_of_le HLT.out hk2.out.size), hb2.1, ?_, ?_⟩
                            · show Fwd lo mid hi (i + 1) j d1 (upd q2 k x)
                              rw [Ex.out, show k = i + j - mid from by omega]
                              exact hF.out.left SL.out SR.out (by omega) (.inr HLE.out)
                            · show ∀ p, p < lo → upd q2 k x p = q1 p
                              intro p hp
                              rw [upd_ne _ _ _ _ (by omega)]; exact hO2.out p hp
                          case measure => simp [intOf] <;> omega

                        · have t1 : decide (x ≤ y) = false := decide_eq_false hxy
                          have HLE : Hid (d1 j ≤ d1 i) := by rw [← Ex.out, ← Ey.out]; exact Int.le_of_lt (Int.not_le.1 hxy)
                          go_wp2_with fail
                          go_quiet (fail)
                          go_wp2_with fail
                          go_roundw
                          case rel =>
                            have hb2 := buf_set (w := wr.drewN nq) (hq2.out.drewN nq) hkn y
                            refine ⟨i, j + 1, k + 1, upd q2 k y, rfl, by go_num, by go_num, by omega, by omega, by omega, by omega, by omega, by omega, (hk2.out.drewN nq).other hb2.2 HRB.out HLT.out, (hh2.out.drewN nq).other hb2.2 HNE.out (by have := hk2.out.size; have := HLT.out; exact Nat.lt_of_lt_of_le HLT.out hk2.out.size), hb2.1, ?_, ?_⟩
                            · show Fwd lo mid hi i (j + 1) d1 (upd q2 k y)
                              rw [Ey.out, show k = i + j - mid from by omega]
                              exact hF.out.right SL.out SR.out (by omega) (.inr HLE.out)
                            · show ∀ p, p < lo → upd q2 k y p = q1 p
                              intro p hp
                              rw [upd_ne _ _ _ _ (by omega)]; exact hO2.out p hp
                          case measure => simp [intOf] <;> omega

                      · have di : decide (i < mid) = false := decide_eq_false him
                        go_wp2_with fail
                        go_quiet (fail)
                        go_wp2_with fail
                        go_roundw
                        case rel =>
                          have hb2 := buf_set (w := wr.drewN nq) (hq2.out.drewN nq) hkn y
                          refine ⟨i, j + 1, k + 1, upd q2 k y, rfl, by go_num, by go_num, by omega, by omega, by omega, by omega, by omega, by omega, (hk2.out.drewN nq).other hb2.2 HRB.out HLT.out, (hh2.out.drewN nq).other hb2.2 HNE.out (by have := hk2.out.size; have := HLT.out; exact Nat.lt_of_lt_of_le HLT.out hk2.out.size), hb2.1, ?_, ?_⟩
                          · show Fwd lo mid hi i (j + 1) d1 (upd q2 k y)
                            rw [Ey.out, show k = i + j - mid from by omega]
                            exact hF.out.right SL.out SR.out (by omega) (.inl (by omega))
                          · show ∀ p, p < lo → upd q2 k y p = q1 p
                            intro p hp
                            rw [upd_ne _ _ _ _ (by omega)]; exact hO2.out p hp
                        case measure => simp [intOf] <;> omega

                  · have hD := hF.out.done (by omega)
                    have HPN : Hid (Piece g n (lo + 2 * g) (a0 + 1) d1 q2) := hP.out.next hlo HHI.out hO2.out hD.1 hD.2
                    clear hD
                    go_wp2_with fail
                    go_roundw
                    case rel => exact ⟨lo + 2 * g, a0 + 1, q2, by go_num, by omega, hk2, hh2, hq2, HPN⟩
                    case measure => simp [intOf] <;> omega

          · have dlo : decide (lo < n) = false := decide_eq_false hlo
            have hD := hP.out.done (by omega)
            have HR2 : Hid (Runs (2 * g) n q1) := hD.1
            have HC2 : Hid (∀ v, Fin.cnt q1 0 v n = Fin.cnt d1 0 v n) := hD.2
            clear hD
            go_wp2_with (refine wpList_copy_hold rfl (.tmp 89) (.tmp 90) rfl (some ⟨blk, off, none⟩) (some ⟨bb, 0, none⟩) n cap n n rfl rfl blk off n q1 (Nat.min_self n).symm (fun _ => rfl) (fun h0 => ⟨_, rfl, fun j hj => by rw [Addr.add_lit]; exact hq1.out.cell j hj⟩) (fun j hj => by rw [hh1.out.cell j hj]; rfl) (fun j hj => hh1.out.loose j hj) ?_; intro w2 HK2 HH2)
            go_roundw
            case rel =>
              have hHF : Hold w2 blk off n (Fin.join d1 0 n q1) := HH2.out.congr fun t ht => by have := join_in d1 0 n q1 t ht; rw [Nat.zero_add] at this; exact this
              refine ⟨2 * g, Fin.join d1 0 n q1, q1, by go_num, by omega, by omega, hk1.out.trans HK2.out, hHF, hq1.out.other HK2.out HNE.out.symm (hq1.out.lt (by omega)), ?_, ?_⟩
              · refine hp.out.trans ⟨fun i hi => join_out _ _ _ _ _ (by omega), fun v => ?_⟩
                rw [Nat.sub_zero, cnt_congr (d' := Fin.join d1 0 n q1) (d := q1) v n fun i _ hi => by have := join_in d1 0 n q1 i (by omega); rw [Nat.zero_add] at this; exact this]
                exact HC2.out v
              · intro a
                exact (HR2.out a).congr fun i _ hi => by have := join_in d1 0 n q1 i (by omega); rw [Nat.zero_add] at this; exact this
            case measure => simp [intOf] <;> omega
      · have dg : decide (g < n) = false := decide_eq_false hgn
        go_wp2_with fail
        go_end0
        exact ⟨rfl, hk, d1, hh, hp, hr.out.all (by omega)⟩
end Go.Proofs.Qxb6601408a.Fin
