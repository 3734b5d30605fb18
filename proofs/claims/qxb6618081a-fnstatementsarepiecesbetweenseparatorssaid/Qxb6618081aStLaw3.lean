/-
  FnStatementsArePiecesBetweenSeparators, walked.
-/
import Derived.Test.Qxb6618081aStCopy
namespace Go.Proofs.Qxb6618081a.St
open Go.ChangeShapes Go.WideShapes Go.ChangeAt Go.RowKit
set_option linter.unusedVariables false

set_option maxRecDepth 100000 in
set_option maxHeartbeats 4000000 in
theorem law3_core (a0 a1 a2 a3 : Option Addr) (l0 l1 l2 l3 c0 c1 c2 c3 : Nat) (ts : Nat → Tok) (ss : List ByteArray) (w : World)
    (m0 : l0 ≤ 9223372036854775807) (m1 : l1 ≤ 9223372036854775807) (m2 : l2 ≤ 9223372036854775807) (m3 : l3 ≤ 9223372036854775807)
    (n0 : a0 = none → l0 = 0) (n1 : a1 = none → l1 = 0) (n2 : a2 = none → l2 = 0) (n3 : a3 = none → l3 = 0) (hr : StrRow w a1 l1 ss)
    (C0 : CellsAt w a0 l0 fun i => .int .u8 (ts i).k) (C1 : CellsAt w a1 l1 fun i => .string (ts i).t) (C2 : CellsAt w a2 l2 fun i => .int .i64 (ts i).l) (C3 : CellsAt w a3 l3 fun i => .bool (ts i).b) :
    Calls Try.prog 5 #[.slice a0 l0 c0, .slice a1 l1 c1, .slice a2 l2 c2, .slice a3 l3 c3] w fun e w' => e = .returned (.bool true) ∧ Below w.heap.size w w' := by
  go_enter Try.func5, Try.ntmps5
  replace n0 := hide n0
  replace n1 := hide n1
  replace n2 := hide n2
  replace n3 := hide n3
  have N0 := fun W => run_neq_slice_nil_any (P := Try.prog) W 26 5 a0 l0 c0 0 0 Try.underlying26
  have N1 := fun W => run_neq_slice_nil_any (P := Try.prog) W 27 9 a1 l1 c1 0 0 Try.underlying27
  have N2 := fun W => run_neq_slice_nil_any (P := Try.prog) W 28 3 a2 l2 c2 0 0 Try.underlying28
  have N3 := fun W => run_neq_slice_nil_any (P := Try.prog) W 29 4 a3 l3 c3 0 0 Try.underlying29
  go_wp2_with fail
  refine (bytes12_any a0 a1 a2 a3 l0 l1 l2 l3 c0 c1 c2 c3 ss _ m0 m1 m2 m3 hr).mono ?_
  rintro e w' ⟨⟨bz, rfl, hbz⟩, rfl⟩
  cases bz with
  | false =>
    go_wp2_with fail
    go_ret
    exact ⟨rfl, Below.refl _ _⟩
  | true =>
  obtain ⟨L0, L1, L2, L3⟩ := hbz rfl
  clear hbz
  go_wp2_with fail
  refine (over_any a0 a1 a2 a3 l0 l1 l2 l3 c0 c1 c2 c3 ss w L0 L1 L2 L3 hr).mono ?_
  rintro e w' ⟨⟨bz, rfl⟩, rfl⟩
  cases bz with
  | true =>
    go_wp2_with fail
    go_ret
    exact ⟨rfl, Below.refl _ _⟩
  | false =>
  clear hr
  go_upto_if 37 with fail
  go_cut [0] from 25 to 209 (fun v wx => ∃ a' c', v = .slice a' l0 c' ∧ CellsAt wx a' l0 (fun i => .int .u8 (ts i).k) ∧ Below w.heap.size w wx)
  case first =>
    as_aux_lemma =>
      cases a0 with
      | none =>
        obtain rfl : l0 = 0 := n0.out rfl
        go_wp2_with fail
        go_meet
        exact ⟨none, c0, rfl, CellsAt.none, Below.refl _ _⟩
      | some x =>
        obtain ⟨iE, hi, hz0, hz1, hz2⟩ := info_parts info5
        go_wp2_with (first
          | (at_make; refine wpList_make_full _ rfl _ _ 26 rfl w.heap.size 5 iE (.int .u8 0) 1 Try.underlying26 hi hz0 hz1 .i64 .i64 _ _ l0 rfl rfl (by omega) (by omega) (by rw [hz2]; omega) (by unfold maxLen; omega) (Nat.le_refl _) ?_; intro wm hown1 hgrow1; obtain ⟨cur, hcur, hcl⟩ := row_of_owns hown1; have hbm : Below w.heap.size w wm := (Below.refl w.heap.size w).grown hgrow1 (Nat.le_refl _) (by simp); clear hown1 hgrow1)
          | (have _t := hcur; refine wpList_copy_splice rfl (.tmp 41) (.tmp 42) 26 26 rfl 5 Try.underlying26 (by rw [hi]; simp [hz1]) _ _ _ _ _ _ rfl rfl w.heap.size 0 cur 5 hcur (firstC l0 fun i => .int .u8 (ts i).k) (by rw [firstC_len]; exact (Nat.min_self _).symm) (fun _ => ⟨rfl, x, rfl, src_of C0 hbm⟩) (by rw [firstC_len]; omega) (firstC_one fun i => rfl) w.heap.size w hbm (Nat.le_refl _) ?_; intro wn hg2 hbn))
        go_meet
        exact ⟨_, _, rfl, heap_of_splice hg2 hcl, hbn⟩
  case rest =>
  obtain ⟨b0, d0, rfl, D0, hb0⟩ := hcut
  obtain ⟨w1, hw⟩ : ∃ w1, w1 = wc := ⟨_, rfl⟩
  subst hw
  have hs0 := hb0.size
  clear C0 n0 m0 N0
  replace C1 := C1.later hb0
  replace C2 := C2.later hb0
  replace C3 := C3.later hb0
  go_upto_if 46 with fail
  go_cut [1] from 25 to 209 (fun v wx => ∃ a' c', v = .slice a' l1 c' ∧ CellsAt wx a' l1 (fun i => .string (ts i).t) ∧ Below w1.heap.size w1 wx)
  case first =>
    as_aux_lemma =>
      cases a1 with
      | none =>
        obtain rfl : l1 = 0 := n1.out rfl
        go_wp2_with fail
        go_meet
        exact ⟨none, c1, rfl, CellsAt.none, Below.refl _ _⟩
      | some x =>
        obtain ⟨iE, hi, hz0, hz1, hz2⟩ := info_parts info9
        go_wp2_with (first
          | (at_make; refine wpList_make_full _ rfl _ _ 27 rfl w1.heap.size 9 iE (.string ByteArray.empty) 1 Try.underlying27 hi hz0 hz1 .i64 .i64 _ _ l1 rfl rfl (by omega) (by omega) (by rw [hz2]; omega) (by unfold maxLen; omega) (Nat.le_refl _) ?_; intro wm hown1 hgrow1; obtain ⟨cur, hcur, hcl⟩ := row_of_owns hown1; have hbm : Below w1.heap.size w1 wm := (Below.refl w1.heap.size w1).grown hgrow1 (Nat.le_refl _) (by simp); clear hown1 hgrow1)
          | (have _t := hcur; refine wpList_copy_splice rfl (.tmp 50) (.tmp 51) 27 27 rfl 9 Try.underlying27 (by rw [hi]; simp [hz1]) _ _ _ _ _ _ rfl rfl w1.heap.size 0 cur 9 hcur (firstC l1 fun i => .string (ts i).t) (by rw [firstC_len]; exact (Nat.min_self _).symm) (fun _ => ⟨rfl, x, rfl, src_of C1 hbm⟩) (by rw [firstC_len]; omega) (firstC_one fun i => rfl) w1.heap.size w1 hbm (Nat.le_refl _) ?_; intro wn hg2 hbn))
        go_meet
        exact ⟨_, _, rfl, heap_of_splice hg2 hcl, hbn⟩
  case rest =>
  obtain ⟨b1, d1, rfl, D1, hb1⟩ := hcut
  obtain ⟨w2, hw⟩ : ∃ w2, w2 = wc := ⟨_, rfl⟩
  subst hw
  have hs1 := hb1.size
  clear C1 n1 m1 N1
  replace C2 := C2.later hb1
  replace C3 := C3.later hb1
  replace D0 := D0.later hb1
  go_upto_if 55 with fail
  go_cut [2] from 25 to 209 (fun v wx => ∃ a' c', v = .slice a' l2 c' ∧ CellsAt wx a' l2 (fun i => .int .i64 (ts i).l) ∧ Below w2.heap.size w2 wx)
  case first =>
    as_aux_lemma =>
      cases a2 with
      | none =>
        obtain rfl : l2 = 0 := n2.out rfl
        go_wp2_with fail
        go_meet
        exact ⟨none, c2, rfl, CellsAt.none, Below.refl _ _⟩
      | some x =>
        obtain ⟨iE, hi, hz0, hz1, hz2⟩ := info_parts info3
        go_wp2_with (first
          | (at_make; refine wpList_make_full _ rfl _ _ 28 rfl w2.heap.size 3 iE (.int .i64 0) 1 Try.underlying28 hi hz0 hz1 .i64 .i64 _ _ l2 rfl rfl (by omega) (by omega) (by rw [hz2]; omega) (by unfold maxLen; omega) (Nat.le_refl _) ?_; intro wm hown1 hgrow1; obtain ⟨cur, hcur, hcl⟩ := row_of_owns hown1; have hbm : Below w2.heap.size w2 wm := (Below.refl w2.heap.size w2).grown hgrow1 (Nat.le_refl _) (by simp); clear hown1 hgrow1)
          | (have _t := hcur; refine wpList_copy_splice rfl (.tmp 59) (.tmp 60) 28 28 rfl 3 Try.underlying28 (by rw [hi]; simp [hz1]) _ _ _ _ _ _ rfl rfl w2.heap.size 0 cur 3 hcur (firstC l2 fun i => .int .i64 (ts i).l) (by rw [firstC_len]; exact (Nat.min_self _).symm) (fun _ => ⟨rfl, x, rfl, src_of C2 hbm⟩) (by rw [firstC_len]; omega) (firstC_one fun i => rfl) w2.heap.size w2 hbm (Nat.le_refl _) ?_; intro wn hg2 hbn))
        go_meet
        exact ⟨_, _, rfl, heap_of_splice hg2 hcl, hbn⟩
  case rest =>
  obtain ⟨b2, d2, rfl, D2, hb2⟩ := hcut
  obtain ⟨w3, hw⟩ : ∃ w3, w3 = wc := ⟨_, rfl⟩
  subst hw
  have hs2 := hb2.size
  clear C2 n2 m2 N2
  replace C3 := C3.later hb2
  replace D0 := D0.later hb2
  replace D1 := D1.later hb2
  go_upto_if 64 with fail
  go_cut [3] from 25 to 209 (fun v wx => ∃ a' c', v = .slice a' l3 c' ∧ CellsAt wx a' l3 (fun i => .bool (ts i).b) ∧ Below w3.heap.size w3 wx)
  case first =>
    as_aux_lemma =>
      cases a3 with
      | none =>
        obtain rfl : l3 = 0 := n3.out rfl
        go_wp2_with fail
        go_meet
        exact ⟨none, c3, rfl, CellsAt.none, Below.refl _ _⟩
      | some x =>
        obtain ⟨iE, hi, hz0, hz1, hz2⟩ := info_parts info4
        go_wp2_with (first
          | (at_make; refine wpList_make_full _ rfl _ _ 29 rfl w3.heap.size 4 iE (.bool false) 1 Try.underlying29 hi hz0 hz1 .i64 .i64 _ _ l3 rfl rfl (by omega) (by omega) (by rw [hz2]; omega) (by unfold maxLen; omega) (Nat.le_refl _) ?_; intro wm hown1 hgrow1; obtain ⟨cur, hcur, hcl⟩ := row_of_owns hown1; have hbm : Below w3.heap.size w3 wm := (Below.refl w3.heap.size w3).grown hgrow1 (Nat.le_refl _) (by simp); clear hown1 hgrow1)
          | (have _t := hcur; refine wpList_copy_splice rfl (.tmp 68) (.tmp 69) 29 29 rfl 4 Try.underlying29 (by rw [hi]; simp [hz1]) _ _ _ _ _ _ rfl rfl w3.heap.size 0 cur 4 hcur (firstC l3 fun i => .bool (ts i).b) (by rw [firstC_len]; exact (Nat.min_self _).symm) (fun _ => ⟨rfl, x, rfl, src_of C3 hbm⟩) (by rw [firstC_len]; omega) (firstC_one fun i => rfl) w3.heap.size w3 hbm (Nat.le_refl _) ?_; intro wn hg2 hbn))
        go_meet
        exact ⟨_, _, rfl, heap_of_splice hg2 hcl, hbn⟩
  case rest =>
  obtain ⟨b3, d3, rfl, D3, hb3⟩ := hcut
  obtain ⟨w4, hw⟩ : ∃ w4, w4 = wc := ⟨_, rfl⟩
  subst hw
  have hs3 := hb3.size
  clear C3 n3 m3 N3
  replace D0 := D0.later hb3
  replace D1 := D1.later hb3
  replace D2 := D2.later hb3

  have hB4 : Below w.heap.size w w4 := ((hb0.trans (hb1.mono hs0)).trans (hb2.mono (by omega))).trans (hb3.mono (by omega))
  by_cases e1 : l0 = l1
  case neg =>
   as_aux_lemma =>
    have t1 : ((l1 : Int) != (l0 : Int)) = true := by rw [bne_iff_ne]; omega
    go_wp2_with fail
    go_ret
    exact ⟨rfl, hB4⟩
  by_cases e2 : l0 = l2
  case neg =>
   as_aux_lemma =>
    have t1 : ((l1 : Int) != (l0 : Int)) = false := by rw [bne_eq_false_iff_eq]; omega
    have t2 : ((l2 : Int) != (l0 : Int)) = true := by rw [bne_iff_ne]; omega
    clear e1
    go_wp2_with fail
    go_ret
    exact ⟨rfl, hB4⟩
  by_cases e3 : l0 = l3
  case neg =>
   as_aux_lemma =>
    have t1 : ((l1 : Int) != (l0 : Int)) = false := by rw [bne_eq_false_iff_eq]; omega
    have t2 : ((l2 : Int) != (l0 : Int)) = false := by rw [bne_eq_false_iff_eq]; omega
    have t3 : ((l3 : Int) != (l0 : Int)) = true := by rw [bne_iff_ne]; omega
    clear e1 e2
    go_wp2_with fail
    go_ret
    exact ⟨rfl, hB4⟩
  subst e1
  subst e2
  subst e3
  go_wp2_with fail
  refine (tokens_any b0 b1 b2 b3 l0 d0 d1 d2 d3 ts w4 L0 D0 D1 D2 D3).mono ?_
  rintro e w5 ⟨rfl, hT5, hb5, hg5⟩
  have hs5 := hb5.size
  replace D0 := D0.later hb5
  replace D1 := D1.later hb5
  replace D2 := D2.later hb5
  replace D3 := D3.later hb5
  have HT5 := hide hT5
  clear hT5
  go_wp2_with fail
  refine (zzstatements_any (some ⟨w4.heap.size, 0, none⟩) w4.heap.size 0 l0 l0 l0 ts w5 (by omega) L0 hg5 (fun _ => ⟨rfl, by omega⟩) (fun i hi => by rw [Nat.zero_add]; exact HT5.out i hi)).mono ?_
  rintro e w6 ⟨v, rfl, ho6, hb6⟩
  have hs6 := hb6.size
  have hPl := pc_len (sepT ts) none 0 l0
  obtain ⟨P, hP⟩ : ∃ P, P = pc (sepT ts) none 0 l0 := ⟨_, rfl⟩
  rw [← hP] at ho6 hPl
  obtain ⟨ao, cp, rfl, D6⟩ := owns_pieces ho6
  have HP := hide hP
  clear ho6 hP
  replace D0 := hide (D0.later hb6)
  replace D1 := hide (D1.later hb6)
  replace D2 := hide (D2.later hb6)
  replace D3 := hide (D3.later hb6)
  have HT6 : Hid (∀ i, i < l0 → TokAt w6 w4.heap.size i (ts i)) := hide fun i hi => (HT5.out i hi).later hb6 hg5
  replace D6 := hide D6
  have hB6 : Below w.heap.size w w6 := (hB4.trans (hb5.mono (by have := hB4.size; omega))).trans (hb6.mono (by have := hB4.size; omega))
  clear HT5 hb0 hb1 hb2 hb3 hb5 hb6 hB4
  obtain ⟨g, hg⟩ : ∃ g, g = w4.heap.size := ⟨_, rfl⟩
  have hg6 : g < w6.heap.size := by omega
  rw [← hg] at HT6 D6
  clear hg
  obtain ⟨x0, hx0⟩ := fix_at D0.out
  obtain ⟨x1, hx1⟩ := fix_at D1.out
  obtain ⟨x2, hx2⟩ := fix_at D2.out
  obtain ⟨x3, hx3⟩ := fix_at D3.out
  replace hx0 := hide hx0
  replace hx1 := hide hx1
  replace hx2 := hide hx2
  replace hx3 := hide hx3
  clear D0 D1 D2 D3 hs0 hs1 hs2 hs3 hs5 hs6 L1 L2 L3
  go_wp2_with fail
  go_loopw [16, 17] (fun pp kk wr => ∃ k p : Nat, k ≤ P.length ∧ p ≤ l0 ∧ pp = .int .i64 p ∧ kk = .int .i64 k ∧ Hid (P.drop k = pc (sepT ts) none p (l0 - p)) ∧ Hid (0 < k → p = l0 ∨ sepT ts p = true) ∧ Below w6.heap.size w6 wr) (fun _ kk _ => P.length - (intOf kk).toNat)
  case atStart => exact ⟨0, 0, by omega, by omega, rfl, rfl, hide (by rw [HP.out]; rfl), hide (fun h => (by omega)), Below.refl _ _⟩
  case round =>
    obtain ⟨k, p, hk, hp, rfl, rfl, hdrop, hfirst, hbel⟩ := hrel
    have hsz := hbel.size
    by_cases hkP : k < P.length
    · obtain ⟨xs, rfl, hcp⟩ := D6.out k hkP
      obtain ⟨s, hs⟩ : ∃ s, s = (P.getD k (0, 0)).1 := ⟨_, rfl⟩
      obtain ⟨e, he⟩ : ∃ e, e = (P.getD k (0, 0)).2 := ⟨_, rfl⟩
      have hdp := drop_piece hkP
      rw [← hs, ← he] at hdp
      obtain ⟨q1, q2, q3, q4, q5, q6, q7⟩ := pc_cons (hdrop.out.symm.trans hdp)
      obtain ⟨m, hm⟩ : ∃ m, e = s + m := ⟨e - s, by omega⟩
      have hpv : pieceV g l0 (P.getD k (0, 0)) = .slice (some ⟨g, s * 4, none⟩) m (l0 - s) := by
        unfold pieceV; rw [← hs, ← he, hm, show s + m - s = m from by omega]
      have hcp1 : w6.cell? (xs.add k) = some (.slice (some ⟨g, s * 4, none⟩) m (l0 - s)) := hcp.trans (congrArg some hpv)
      have hcp2 := cell_below hcp1 hbel
      have hm1 : 1 ≤ m := by omega
      have hsm : s + m ≤ l0 := by omega
      have hmb : ((m : Int) == 0) = false := beq_eq_false_iff_ne.2 (by omega)
      have Q4 := hide q4
      have Q5 : Hid (∀ i, s ≤ i → i < s + m → sepT ts i = false) := hide (by rw [← hm]; exact q5)
      have Q6 : Hid (s + m = l0 ∨ sepT ts (s + m) = true) := hide (by rw [← hm]; exact q6.elim (fun h => .inl (by omega)) .inr)
      have Q7 : Hid (P.drop (k + 1) = pc (sepT ts) none (s + m) (l0 - (s + m))) := hide (by rw [q7, hm]; congr 1; omega)
      clear hcp hcp1 hdp q2 q3 q4 q5 q6 q7 hpv hs he hm hdrop D6
      have z0 := (hx0.out 0 (by omega)).1
      have z1 := (hx1.out 0 (by omega)).1
      have z2 := (hx2.out 0 (by omega)).1
      have z3 := (hx3.out 0 (by omega)).1
      subst z0
      subst z1
      subst z2
      subst z3
      have hkl : (k : Int) < (P.length : Int) := by omega
      go_wp2_with fail
      go_loopw [16, 19] (fun pp jj wi => ∃ j p' : Nat, j ≤ m ∧ jj = .int .i64 j ∧ pp = .int .i64 p' ∧ p' ≤ s + j ∧ Hid (0 < j → p' = s + j) ∧ Hid (j = 0 → p' = p) ∧ Hid (∀ i, p' ≤ i → i < s + j → sepT ts i = true) ∧ Below w6.heap.size w6 wi) (fun _ jj _ => m - (intOf jj).toNat)
      case atStart => exact ⟨0, p, by omega, rfl, rfl, by omega, hide (fun h => (by omega)), hide (fun _ => rfl), hide (fun i a b => Q4.out i a (by omega)), hbel⟩
      case round =>
        obtain ⟨j, p', hj, rfl, rfl, hp's, hpos, hzero, hskip, hbi⟩ := hrel
        have hszi := hbi.size
        by_cases hjm : j < m
        · have hjl : (j : Int) < (m : Int) := by omega
          go_wp2_with fail
          go_loopw [16, 20] (fun pp ss wi => ∃ r sk nq : Nat, p' + sk ≤ r ∧ r ≤ p' + sk ∧ r ≤ s + j ∧ pp = .int .i64 r ∧ ss = .int .i64 sk ∧ Below w6.heap.size w6 wi) (fun pp _ _ => s + j - (intOf pp).toNat)
          case atStart => exact ⟨p', 0, 0, by omega, by omega, by omega, rfl, rfl, hbi⟩
          case round =>
            obtain ⟨r, sk, nq, hr1, hr2, hr3, rfl, rfl, hbj⟩ := hrel
            have hrl : r < l0 := by omega
            have hrl2 : (r : Int) < (l0 : Int) := by omega
            have y0 := cell_below (hx0.out r hrl).2 hbj
            have y1 := cell_below (hx1.out r hrl).2 hbj
            by_cases hrq : r < s + j
            · have hS : sepB (ts r).k (ts r).t = true := hskip.out r (by omega) hrq
              as_aux_lemma =>
                go_wp2_with fail
                go_quiet ((go_at_call 16; exact Calls.quiet_of_same (isSep_q _ _ _)))
                go_wp2_with fail
                go_roundw
                case rel => exact ⟨r + 1, sk + 1, 0, by omega, by omega, by omega, by go_num, by go_num, below_drewN hbj _⟩
                case measure => simp [intOf]; omega
            · have hS : sepB (ts r).k (ts r).t = false := Q5.out r (by omega) (by omega)
              obtain ⟨t0, t1, t2, t3⟩ := (HT6.out r hrl).later hbj hg6
              have er : r * 4 = s * 4 + j * 4 := by omega
              rw [er] at t0 t1 t2 t3
              have y2 := cell_below (hx2.out r hrl).2 hbj
              have y3 := cell_below (hx3.out r hrl).2 hbj
              have hcase : (0 < j ∧ sk ≤ 0 ∧ ((j : Int) == 0) = false) ∨ (j ≤ 0 ∧ 0 < k ∧ 1 ≤ sk ∧ ((j : Int) == 0) = true ∧ ((sk : Int) == 0) = false) ∨ (j ≤ 0 ∧ k ≤ 0 ∧ ((j : Int) == 0) = true) := by
                by_cases hj0 : 0 < j
                · have := hpos.out hj0
                  exact .inl ⟨hj0, by omega, beq_eq_false_iff_ne.2 (by omega)⟩
                · by_cases hk0 : 0 < k
                  · have e1 := hzero.out (by omega)
                    have e2 : p < s := by
                      rcases hfirst.out hk0 with h | h
                      · omega
                      · rcases Nat.lt_or_ge p s with h' | h'
                        · exact h'
                        · have e3 : p = s := by omega
                          have e4 := Q5.out s (by omega) (by omega)
                          rw [e3, e4] at h
                          cases h
                    exact .inr (.inl ⟨by omega, hk0, by omega, by rw [beq_iff_eq]; omega, beq_eq_false_iff_ne.2 (by omega)⟩)
                  · exact .inr (.inr ⟨by omega, by omega, by rw [beq_iff_eq]; omega⟩)
              obtain ⟨x, hx⟩ : ∃ x, x = ts r := ⟨_, rfl⟩
              rw [← hx] at hS y0 y1 y2 y3 t0 t1 t2 t3
              have hrs : s + j ≤ r := by omega
              clear hx er hrq
              rcases hcase with ⟨c1, c2, c3⟩ | ⟨c1, c2, c3, c4, c5⟩ | ⟨c1, c2, c3⟩
              all_goals
                as_aux_lemma =>
                  go_wp2_with fail
                  go_quiet ((go_at_call 16; exact Calls.quiet_of_same (isSep_q _ _ _)))
                  go_wp2_with fail
                  refine (fields_any x.k x.t x.l x.b _).mono ?_
                  rintro e w7 ⟨rfl, hb7⟩
                  replace hb7 := below_undrew hb7
                  have y0' := cell_below y0 hb7
                  have y1' := cell_below y1 hb7
                  have y2' := cell_below y2 hb7
                  have y3' := cell_below y3 hb7
                  have hszj := hbj.size
                  have hb8 : Below w6.heap.size w6 w7 := hbj.trans (hb7.mono hszj)
                  clear y0 y1 y2 y3 t0 t1 t2 t3
                  go_wp2_with fail
                  go_roundw
                  case rel => exact ⟨j + 1, r + 1, by omega, by go_num, by go_num, by omega, hide (fun _ => (by omega)), hide (fun h => (by omega)), hide (fun i a b => (by omega)), hb8⟩
                  case measure => simp [intOf]; omega
        · have hpe : p' = s + m := by
            have := hpos.out (by omega)
            omega
          have HR1 : Hid (P.drop (k + 1) = pc (sepT ts) none p' (l0 - p')) := hide (by rw [hpe]; exact Q7.out)
          have HR2 : Hid (0 < k + 1 → p' = l0 ∨ sepT ts p' = true) := hide (fun _ => by rw [hpe]; exact Q6.out)
          have hpl : p' ≤ l0 := by omega
          clear hpe
          as_aux_lemma =>
            go_wp2_with fail
            go_roundw
            case rel => exact ⟨k + 1, p', by omega, hpl, rfl, by go_num, HR1, HR2, hbi⟩
            case measure => simp [intOf]; omega
    · have hall := pc_nil (hdrop.out.symm.trans (List.drop_eq_nil_of_le (by omega)))
      have Hall : Hid (∀ i, p ≤ i → i < l0 → sepT ts i = true) := hide (fun i a b => hall i a (by omega))
      clear hall hdrop D6 hfirst
      have hkl : ¬ (k : Int) < (P.length : Int) := by omega
      as_aux_lemma =>
        go_wp2_with fail
        go_loopw [16] (fun pp wi => ∃ r : Nat, p ≤ r ∧ r ≤ l0 ∧ pp = .int .i64 r ∧ Below w6.heap.size w6 wi) (fun pp _ => l0 - (intOf pp).toNat)
        case atStart => exact ⟨p, by omega, hp, rfl, hbel⟩
        case round =>
          obtain ⟨r, hr1, hr2, rfl, hbj⟩ := hrel
          by_cases hrl : r < l0
          · have hrl2 : (r : Int) < (l0 : Int) := by omega
            obtain ⟨rfl, v0⟩ := hx0.out r hrl
            obtain ⟨rfl, v1⟩ := hx1.out r hrl
            have y0 := cell_below v0 hbj
            have y1 := cell_below v1 hbj
            have hS : sepB (ts r).k (ts r).t = true := Hall.out r hr1 hrl
            clear v0 v1
            go_wp2_with fail
            go_quiet ((go_at_call 16; exact Calls.quiet_of_same (isSep_q _ _ _)))
            go_wp2_with fail
            go_roundw
            case rel => exact ⟨r + 1, by omega, by omega, by go_num, below_drewN hbj _⟩
            case measure => simp [intOf]; omega
          · have hrl2 : ¬ (r : Int) < (l0 : Int) := by omega
            go_wp2_with fail
            go_ret
            exact ⟨rfl, hB6.trans (hbj.mono hB6.size)⟩
end Go.Proofs.Qxb6618081a.St
