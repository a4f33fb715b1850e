/-
  The walk of mergeInPlace.
-/
import Derived.Test.Qxb6601408aSortPdq
import Derived.Test.Qxb6601408aFinPlain
import Derived.Deep.AppendLies
import Derived.Deep.RegionLaw
import Derived.OwnWalk
namespace Go.Proofs.Qxb6601408a.Fin
open Go.RowKit
set_option linter.unusedVariables false

/-- w' is w below block base, but for the n cells at (blk, off) -/
structure Kept (base blk off n : Nat) (w w' : World) : Prop where
  os : w'.os = w.os
  tape : w'.tape = w.tape
  output : w'.output = w.output
  size : w.heap.size ≤ w'.heap.size
  block : ∀ k, k < base → k ≠ blk → w'.heap[k]? = w.heap[k]?
  cell : ∀ i, (i < off ∨ off + n ≤ i) → w'.cell? ⟨blk, i, none⟩ = w.cell? ⟨blk, i, none⟩
  frozen : ∀ i, w'.frozen? ⟨blk, i, none⟩ = w.frozen? ⟨blk, i, none⟩
theorem Keep.kept {base blk off n : Nat} {w w' : World} (h : Keep blk off n w w') (hb : base ≤ w.heap.size) : Kept base blk off n w w' :=
  ⟨h.os, h.tape, h.output, h.size, fun k hk hne => h.block k (by omega) hne, h.cell, h.frozen⟩
theorem Kept.trans {base blk off n : Nat} {u v w : World} (h : Kept base blk off n u v) (k : Kept base blk off n v w) : Kept base blk off n u w :=
  ⟨k.os.trans h.os, k.tape.trans h.tape, k.output.trans h.output, Nat.le_trans h.size k.size, fun i hi hb => (k.block i hi hb).trans (h.block i hi hb), fun i hi => (k.cell i hi).trans (h.cell i hi), fun i => (k.frozen i).trans (h.frozen i)⟩
theorem Kept.refl (base blk off n : Nat) (w : World) : Kept base blk off n w w := ⟨rfl, rfl, rfl, Nat.le_refl _, fun _ _ _ => rfl, fun _ _ => rfl, fun _ => rfl⟩
theorem Kept.drewN {base blk off n : Nat} {u w : World} (h : Kept base blk off n u w) (k : Nat) : Kept base blk off n u (w.drewN k) := ⟨h.os, h.tape, h.output, h.size, h.block, h.cell, h.frozen⟩
theorem Kept.drew {base blk off n : Nat} {u w : World} (h : Kept base blk off n u w) : Kept base blk off n u w.drew := ⟨h.os, h.tape, h.output, h.size, h.block, h.cell, h.frozen⟩
theorem Kept.setCell {base blk off n : Nat} {u w : World} (h : Kept base blk off n u w) (i : Nat) (hi : i < n) (v : Value) : Kept base blk off n u (w.setCell ⟨blk, off + i, none⟩ v) :=
  h.trans ⟨rfl, rfl, rfl, by simp [World.setCell], fun k _ hb => Below.heap_setCell _ _ _ _ hb, fun k hk => World.cell?_setCell_other _ _ _ _ (by intro e; injection e with _ e1; omega), fun k => World.frozen?_setCell _ _ _ _⟩
theorem Kept.mono {base blk off n off' n' : Nat} {w w' : World} (h : Kept base blk off' n' w w') (h1 : off ≤ off') (h2 : off' + n' ≤ off + n) : Kept base blk off n w w' :=
  ⟨h.os, h.tape, h.output, h.size, h.block, fun i hi => h.cell i (by omega), h.frozen⟩
theorem Kept.grown {base blk off n : Nat} {u w w' : World} {row : Option Nat} (h : Kept base blk off n u w) (hg : w.grownBy w' row) (hrow : ∀ k, row = some k → base ≤ k) (hb : blk < base) (hs : base ≤ w.heap.size) : Kept base blk off n u w' := by
  have e : ∀ k, k < base → w'.heap[k]? = w.heap[k]? := fun k hk => hg.block k (by omega) (fun e => by have := hrow k e.symm; omega)
  exact ⟨hg.os.trans h.os, hg.tape.trans h.tape, hg.output.trans h.output, Nat.le_trans h.size hg.size, fun k hk hne => (e k hk).trans (h.block k hk hne),
    fun i hi => (World.cell?_of_block (e blk hb)).trans (h.cell i hi), fun i => (World.frozen?_of_block (e blk hb)).trans (h.frozen i)⟩
theorem Hold.grown {blk off n : Nat} {d : Nat → Int} {w w' : World} {row : Option Nat} (h : Hold w blk off n d) (hg : w.grownBy w' row) (hb : blk < w.heap.size) (hrow : some blk ≠ row) : Hold w' blk off n d :=
  ⟨fun t ht => (World.cell?_of_block (hg.block blk hb hrow)).trans (h.cell t ht), fun t ht => (World.frozen?_of_block (hg.block blk hb hrow)).trans (h.loose t ht)⟩

theorem info26 : (Try.prog.info? 26).map (fun i => (i.zero, i.size, i.bytes)) = some (some (.int .u64 0), 1, 8) := by kernel_rfl

/-- n numbers as cells -/
def ints (d : Nat → Int) (n : Nat) : List Value := (List.range n).map fun t => .int .u64 (d t)
theorem ints_len (d : Nat → Int) (n : Nat) : (ints d n).length = n := by unfold ints; simp
theorem ints_get (d : Nat → Int) (n j : Nat) (h : j < n) : (ints d n)[j]? = some (.int .u64 (d j)) := by unfold ints; simp [h]
theorem ints_some {d : Nat → Int} {n j : Nat} {u : Value} (h : (ints d n)[j]? = some u) : j < n ∧ u = .int .u64 (d j) := by
  by_cases c : j < n
  · rw [ints_get d n j c] at h; exact ⟨c, (Option.some.inj h).symm⟩
  · rw [List.getElem?_eq_none (by rw [ints_len]; omega)] at h; cases h
theorem ints_one (d : Nat → Int) (n : Nat) : ∀ u ∈ ints d n, u.oneCell' = true := by
  intro u hu
  obtain ⟨x, _, rfl⟩ := List.mem_map.1 hu
  rfl
theorem Hold.news {w : World} {blk off n : Nat} {d : Nat → Int} (h : Hold w blk off n d) : ∀ j u, (ints d n)[j]? = some u → w.cell? ((⟨blk, off, none⟩ : Addr).add j) = some u := by
  intro j u hj
  obtain ⟨h1, rfl⟩ := ints_some hj
  rw [Addr.add_lit]
  exact h.cell j h1

/-- a slice that the call owns, from block base on -/
def Sp (base : Nat) (w : World) (v : Value) : Prop := ∃ len xs, w.ownsRow base 26 1 v len xs
theorem Sp.cases {base : Nat} {w : World} {v : Value} (h : Sp base w v) : v = .slice none 0 0 ∨ ∃ g len cap, v = .slice (some ⟨g, 0, none⟩) len cap ∧ base ≤ g ∧ len ≤ cap ∧ cap ≤ maxLen ∧ w.ownsRow base 26 1 (.slice (some ⟨g, 0, none⟩) 0 cap) 0 [] := by
  obtain ⟨len, xs, h1, h2 | ⟨g, cap, cur, rfl, hb, hg, hn, hm, hc, ht⟩⟩ := h
  · exact .inl h2.1
  · exact .inr ⟨g, len, cap, rfl, hb, hn, hm, by simp, .inr ⟨g, cap, cur, rfl, hb, hg, Nat.zero_le _, hm, hc, by simp⟩⟩
theorem ownsRow_nil (base : Nat) (w : World) : w.ownsRow base 26 1 (.slice none 0 0) 0 [] := ⟨rfl, .inl ⟨rfl, rfl⟩⟩
/-- a row that holds numbers reads as such -/
theorem hold_of_owns {w : World} {base g m cap : Nat} {d : Nat → Int} (h : w.ownsRow base 26 1 (.slice (some ⟨g, 0, none⟩) m cap) m (ints d m)) : Hold w g 0 m d := by
  obtain ⟨h1, h2 | ⟨g', cap', cur, hv, hb, hg, hn, hm, hc, ht⟩⟩ := h
  · cases h2.1
  · injection hv with e1 e2 e3
    injection e1 with e1
    injection e1 with e1
    subst e1
    refine ⟨fun t ht' => ?_, fun t ht' => ?_⟩
    · rw [Nat.zero_add]
      have e : cur[t]? = some (.int .u64 (d t)) := by
        have := ints_get d m t ht'
        rw [← ht, List.getElem?_take_of_lt (by omega)] at this
        simpa using this
      simp [World.cell?, hg, e]
    · simp [World.frozen?, hg]

theorem owns_block {w w' : World} {base g m c : Nat} {xs : List Value} (h : w.ownsRow base 26 1 (.slice (some ⟨g, 0, none⟩) m c) m xs) (hb : w'.heap[g]? = w.heap[g]?) : w'.ownsRow base 26 1 (.slice (some ⟨g, 0, none⟩) m c) m xs := by
  obtain ⟨h1, h2 | ⟨g', cap', cur, hv, hbb, hg, hn, hm, hc, ht⟩⟩ := h
  · cases h2.1
  · injection hv with e1 e2 e3
    injection e1 with e1
    injection e1 with e1
    subst e1
    subst e3
    exact ⟨h1, .inr ⟨g, c, cur, rfl, hbb, hb.trans hg, hn, hm, hc, ht⟩⟩

/-- the answer of mergeInPlace -/
def Merged (base blk off n : Nat) (d : Nat → Int) (w : World) (e : Ending) (w' : World) : Prop :=
  ∃ v, e = .returned v ∧ Sp base w' v ∧ Kept base blk off n w w' ∧ ∃ d', Hold w' blk off n d' ∧ Perm 0 n d d' ∧ Sorted 0 n d'

set_option maxRecDepth 100000 in
set_option maxHeartbeats 2000000 in
theorem merge_c (base blk off n cap mid : Nat) (v0 : Value) (d : Nat → Int) (w : World) (h : Hold w blk off n d) (hs : Sp base w v0) (hb : blk < base) (hbs : base ≤ w.heap.size) (hm0 : 0 < mid) (hmn : mid < n) (hnc : n ≤ cap) (hn : n ≤ 65536) (hcap : cap ≤ 65536)
    (s1 : Sorted 0 mid d) (s2 : Sorted mid n d) :
    Calls Try.prog 24 #[.slice (some ⟨blk, off, none⟩) n cap, .int .i64 mid, v0] w (Merged base blk off n d w) := by
  have H0 : Hid (Hold w blk off n d) := h
  have S1 : Hid (Sorted 0 mid d) := s1
  have S2 : Hid (Sorted mid n d) := s2
  have HSP : Hid (Sp base w v0) := hs
  have HBS : Hid (base ≤ w.heap.size) := hbs
  clear h s1 s2 hbs hs
  obtain ⟨i0, hi0, hz0, hz1, hz2⟩ := info_parts info26
  have HN : Hid (∀ j u, (ints (fun t => d (mid + t)) (n - mid))[j]? = some u → w.drew.cell? ((⟨blk, off + mid, none⟩ : Addr).add j) = some u) := by
    intro j u hj
    obtain ⟨h1, rfl⟩ := ints_some hj
    rw [Addr.add_lit, Nat.add_assoc]
    exact H0.out.cell (mid + j) (by omega)
  have hnc' : ¬ cap = mid := by omega
  have hmn' : mid ≤ n := by omega
  have hcm : ¬ (cap : Int) = mid := by omega
  go_enter Try.func24, Try.ntmps24
  go_upto_region 1 with fail
  go_cut [2] from 10 to 15 (fun v wc => ∃ g c, v = .slice (some ⟨g, 0, none⟩) (n - mid) c ∧ base ≤ g ∧ g < wc.heap.size ∧ Hid (wc.ownsRow base 26 1 v (n - mid) (ints (fun t => d (mid + t)) (n - mid))) ∧ Hid (Kept base blk off n w wc) ∧ Hid (Hold wc blk off n d))
  case first =>
    rcases HSP.out.cases with rfl | ⟨g0, len0, cap0, rfl, hg0, hlc, hcm0, hown⟩
    · go_region_law (refine step_append_lies _ rfl (.tmp 11) (.tmp 14) 33 rfl base 26 i0 (.int .u64 0) 1 8 Try.underlying33 hi0 hz0 hz1 hz2 rfl (by omega) (.slice none 0 0) 0 [] (by simp [Act.eval, Act.put]) (ownsRow_nil _ _) ⟨blk, off + mid, none⟩ (n - mid) (cap - mid) (ints (fun t => d (mid + t)) (n - mid)) (by simp [Act.eval, Act.put]) (by rw [ints_len]; omega) HN.out (ints_one _ _) (by omega) (by unfold maxLen; omega) (by omega) HBS.out _ rfl ?_; intro g c w1 ho hg hat hlt; have HO : Hid (w1.ownsRow base 26 1 (.slice (some ⟨g, 0, none⟩) (0 + (n - mid)) c) (0 + (n - mid)) ([] ++ ints (fun t => d (mid + t)) (n - mid))) := ho; have HG : Hid (w.drew.grownBy w1 (Value.ownBlock (.slice none 0 0))) := hg; have HT : Hid (Value.ownBlock (.slice none 0 0) = some g ∨ g = w.drew.heap.size) := hat; have HL : Hid (g < w1.heap.size) := hlt; clear ho hg hat hlt)
      go_wp2_with fail
      go_meet
      have ho := HO.out
      rw [Nat.zero_add, List.nil_append] at ho
      have hge : base ≤ g := by
        rcases HT.out with e | e
        · cases e
        · have : w.drew.heap.size = w.heap.size := rfl
          have := HBS.out; omega
      refine ⟨g, c, rfl, hge, HL.out, ho, ((Kept.refl base blk off n w).drew).grown HG.out (fun k e => by cases e) hb HBS.out, ?_⟩
      exact Hold.grown (w := w.drew) (H0.out.drew) HG.out (by have := HBS.out; show blk < w.heap.size; omega) (by intro e; cases e)
    · have HOW : Hid (w.drew.ownsRow base 26 1 (.slice (some ⟨g0, 0, none⟩) 0 cap0) 0 []) := hown
      clear hown
      go_region_law (refine step_append_lies _ rfl (.tmp 11) (.tmp 14) 33 rfl base 26 i0 (.int .u64 0) 1 8 Try.underlying33 hi0 hz0 hz1 hz2 rfl (by omega) (.slice (some ⟨g0, 0, none⟩) 0 cap0) 0 [] (by simp [Act.eval, Act.put]) HOW.out ⟨blk, off + mid, none⟩ (n - mid) (cap - mid) (ints (fun t => d (mid + t)) (n - mid)) (by simp [Act.eval, Act.put]) (by rw [ints_len]; omega) HN.out (ints_one _ _) (by omega) (by unfold maxLen; omega) (by omega) HBS.out _ rfl ?_; intro g c w1 ho hg hat hlt; have HO : Hid (w1.ownsRow base 26 1 (.slice (some ⟨g, 0, none⟩) (0 + (n - mid)) c) (0 + (n - mid)) ([] ++ ints (fun t => d (mid + t)) (n - mid))) := ho; have HG : Hid (w.drew.grownBy w1 (Value.ownBlock (.slice (some ⟨g0, 0, none⟩) 0 cap0))) := hg; have HT : Hid (Value.ownBlock (.slice (some ⟨g0, 0, none⟩) 0 cap0) = some g ∨ g = w.drew.heap.size) := hat; have HL : Hid (g < w1.heap.size) := hlt; clear ho hg hat hlt)
      go_wp2_with fail
      go_meet
      have ho := HO.out
      rw [Nat.zero_add, List.nil_append] at ho
      have hge : base ≤ g := by
        rcases HT.out with e | e
        · have : g0 = g := by simpa [Value.ownBlock] using e
          omega
        · have : w.drew.heap.size = w.heap.size := rfl
          have := HBS.out; omega
      refine ⟨g, c, rfl, hge, HL.out, ho, ((Kept.refl base blk off n w).drew).grown HG.out (fun k e => by have : g0 = k := by simpa [Value.ownBlock] using e
                                                                                                          omega) hb HBS.out, ?_⟩
      exact Hold.grown (w := w.drew) (H0.out.drew) HG.out (by have := HBS.out; show blk < w.heap.size; omega) (by intro e; have : blk = g0 := by simpa [Value.ownBlock] using e
                                                                                                                  omega)
  case rest =>
    obtain ⟨g, c, rfl, hbg, hgl, HO, HK, HH⟩ := hcut
    have HGS : Hid (Hold wc g 0 (n - mid) (fun t => d (mid + t))) := hold_of_owns HO.out
    have HNE : Hid (blk ≠ g) := by show blk ≠ g; omega
    have HBC : Hid (base ≤ wc.heap.size) := Nat.le_trans HBS.out HK.out.size
    obtain ⟨m, hm⟩ : ∃ m, m = n - mid := ⟨_, rfl⟩
    rw [← hm] at HGS HO ⊢
    have hm1 : m + mid ≤ n := by omega
    have hm2 : n ≤ m + mid := by omega
    clear HN hm
    have HW : Hid (wc.ownsRow base 26 1 (.slice (some ⟨g, 0, none⟩) m c) m (ints (fun t => d (mid + t)) m)) := HO
    clear HO H0 HSP
    go_wp2_with fail
    go_loopw [7, 8, 9] (fun iv jv kv wq => ∃ (I J : Nat) (d1 : Nat → Int), iv = .int .i64 ((I : Int) - 1) ∧ jv = .int .i64 ((J : Int) - 1) ∧ kv = .int .i64 ((I : Int) + J - 1) ∧ I ≤ mid ∧ J ≤ m ∧
      Hid (Keep blk off n wc wq) ∧ Hid (Hold wq blk off n d1) ∧ Hid (Mrg mid n I J d d1)) (fun iv jv _ _ => (intOf iv + 1).toNat + (intOf jv + 1).toNat)
    case atStart => exact ⟨mid, m, d, rfl, rfl, by congr 1 <;> omega, Nat.le_refl _, Nat.le_refl _, Keep.refl _ _ _ _, HH, by show Mrg mid n mid m d d; rw [show m = n - mid from by omega]; exact Mrg.start d (by omega)⟩
    case round =>
      obtain ⟨I, J, d1, rfl, rfl, rfl, hI, hJ, hk, hh, hM⟩ := hrel
      clear HH
      rcases Nat.eq_zero_or_pos J with hJ0 | hJ0
      · subst hJ0
        go_wp2_with fail
        go_ret
        have hD := hM.out.done S1.out
        exact ⟨_, rfl, ⟨m, _, owns_block HW.out (hk.out.block g hgl HNE.out.symm)⟩, HK.out.trans (hk.out.kept HBC.out), d1, hh, hD⟩
      · obtain ⟨J, rfl⟩ : ∃ j, J = j + 1 := ⟨J - 1, by omega⟩
        obtain ⟨K, hK⟩ : ∃ K, K = I + J := ⟨_, rfl⟩
        have hK1 : K ≤ I + J := by omega
        have hK2 : I + J ≤ K := by omega
        clear hK
        rw [show ((J + 1 : Nat) : Int) - 1 = (J : Int) from by omega, show (I : Int) + ((J + 1 : Nat) : Int) - 1 = (K : Int) from by omega]
        have hGW : Hold wr g 0 m (fun t => d (mid + t)) := HGS.out.other hk.out HNE.out.symm hgl
        obtain ⟨y, hy⟩ : ∃ y, y = d (mid + J) := ⟨_, rfl⟩
        have cy : wr.cell? ⟨g, J, none⟩ = some (.int .u64 y) := by rw [hy]; have := hGW.cell J (by omega); rw [Nat.zero_add] at this; exact this
        have EY : Hid (y = d (mid + J)) := hy
        have ck : wr.cell? ⟨blk, off + K, none⟩ = some (.int .u64 (d1 K)) := hh.out.cell K (by omega)
        have fk : wr.frozen? ⟨blk, off + K, none⟩ = false := hh.out.loose K (by omega)
        have nj : (J : Int) < m := by omega
        have nk : (K : Int) < n := by omega
        clear hy hGW
        rcases Nat.eq_zero_or_pos I with hI0 | hI0
        · subst hI0
          have ez : ((0 : Nat) : Int) - 1 = -1 := by omega
          rw [ez]
          have dz : decide ((0 : Int) ≤ -1) = false := by decide
          go_wp2_with fail
          go_quiet (fail)
          go_wp2_with fail
          go_roundw
          case rel =>
            exact ⟨0, J, upd d1 K (d (mid + J)), rfl, by congr 1 <;> omega, by congr 1 <;> omega, by omega, by omega, (hk.out.drewN _).setCell K (by omega) _, by rw [← EY.out]; exact (hh.out.drewN _).set K (by omega) _, by rw [show K = 0 + J from by omega]; exact hM.out.stepR S1.out S2.out (.inl rfl)⟩
          case measure => simp [intOf] <;> omega

        · obtain ⟨I, rfl⟩ : ∃ i, I = i + 1 := ⟨I - 1, by omega⟩
          rw [show ((I + 1 : Nat) : Int) - 1 = (I : Int) from by omega]
          obtain ⟨x, hx⟩ : ∃ x, x = d1 I := ⟨_, rfl⟩
          have cx : wr.cell? ⟨blk, off + I, none⟩ = some (.int .u64 x) := by rw [hx]; exact hh.out.cell I (by omega)
          have EX : Hid (x = d I) := by rw [hx]; exact hM.out.left I (by omega)
          have di : decide ((0 : Int) ≤ I) = true := decide_eq_true (by omega)
          have ni : (I : Int) < n := by omega
          clear hx
          by_cases hl : y < x
          · have t1 : decide (y < x) = true := decide_eq_true hl
            have hgt : d (mid + J) < d I := by rw [← EX.out, ← EY.out]; exact hl
            have HGT : Hid (d (mid + J) < d I) := hgt
            clear hgt
            go_wp2_with fail
            go_quiet (fail)
            go_wp2_with fail
            go_roundw
            case rel =>
              exact ⟨I, J + 1, upd d1 K (d I), by congr 1, by congr 1 <;> omega, by congr 1 <;> omega, by omega, by omega, (hk.out.drewN _).setCell K (by omega) _, by rw [← EX.out]; exact (hh.out.drewN _).set K (by omega) _, by rw [show K = I + J + 1 from by omega]; exact hM.out.stepL S1.out S2.out HGT.out⟩
            case measure => simp [intOf] <;> omega
          · have t1 : decide (y < x) = false := decide_eq_false hl
            have HLE : Hid (d I ≤ d (mid + J)) := by rw [← EX.out, ← EY.out]; exact Int.not_lt.1 hl
            go_wp2_with fail
            go_quiet (fail)
            go_wp2_with fail
            go_roundw
            case rel =>
              exact ⟨(I + 1), J, upd d1 K (d (mid + J)), (by congr 1 <;> omega), by congr 1 <;> omega, by congr 1 <;> omega, by omega, by omega, (hk.out.drewN _).setCell K (by omega) _, by rw [← EY.out]; exact (hh.out.drewN _).set K (by omega) _, by rw [show K = (I + 1) + J from by omega]; exact hM.out.stepR S1.out S2.out (.inr HLE.out)⟩
            case measure => simp [intOf] <;> omega

end Go.Proofs.Qxb6601408a.Fin
