/-
  FnStatementsCutAnywhere, walked.
-/
import Derived.Test.Qxb6618081aStSame
namespace Go.Proofs.Qxb6618081a.St
open Go.ChangeShapes Go.WideShapes Go.ChangeAt Go.RowKit
set_option linter.unusedVariables false

set_option maxRecDepth 100000 in
set_option maxHeartbeats 8000000 in
theorem law4_core (a0 a1 a2 a3 : Option Addr) (l0 l1 l2 l3 c0 c1 c2 c3 : Nat) (iv : Int) (ts : Nat → Tok) (ss : List ByteArray) (w : World)
    (m0 : l0 ≤ 9223372036854775807) (m1 : l1 ≤ 9223372036854775807) (m2 : l2 ≤ 9223372036854775807) (m3 : l3 ≤ 9223372036854775807)
    (n0 : a0 = none → l0 = 0) (n1 : a1 = none → l1 = 0) (n2 : a2 = none → l2 = 0) (n3 : a3 = none → l3 = 0) (hr : StrRow w a1 l1 ss)
    (C0 : CellsAt w a0 l0 fun i => .int .u8 (ts i).k) (C1 : CellsAt w a1 l1 fun i => .string (ts i).t) (C2 : CellsAt w a2 l2 fun i => .int .i64 (ts i).l) (C3 : CellsAt w a3 l3 fun i => .bool (ts i).b)
    (hiv0 : -9223372036854775808 ≤ iv) (hiv1 : iv ≤ 9223372036854775807) :
    Calls Try.prog 6 #[.slice a0 l0 c0, .slice a1 l1 c1, .slice a2 l2 c2, .slice a3 l3 c3, .int .i64 iv] w fun e w' => e = .returned (.bool true) ∧ Below w.heap.size w w' := by
  go_enter Try.func6, Try.ntmps6
  replace n0 := hide n0
  replace n1 := hide n1
  replace n2 := hide n2
  replace n3 := hide n3
  have N0 := fun W => run_neq_slice_nil_any (P := Try.prog) W 26 5 a0 l0 c0 0 0 Try.underlying26
  have N1 := fun W => run_neq_slice_nil_any (P := Try.prog) W 27 9 a1 l1 c1 0 0 Try.underlying27
  have N2 := fun W => run_neq_slice_nil_any (P := Try.prog) W 28 3 a2 l2 c2 0 0 Try.underlying28
  have N3 := fun W => run_neq_slice_nil_any (P := Try.prog) W 29 4 a3 l3 c3 0 0 Try.underlying29
  go_wp2_with fail
  refine (bytes18_any a0 a1 a2 a3 l0 l1 l2 l3 c0 c1 c2 c3 iv ss _ m0 m1 m2 m3 hr).mono ?_
  rintro e w' ⟨⟨bz, rfl, hbz⟩, rfl⟩
  cases bz with
  | false =>
    go_wp2_with fail
    go_ret
    exact ⟨rfl, Below.refl _ _⟩
  | true =>
  obtain ⟨L0, L1, L2, L3⟩ := hbz rfl
  clear hbz
  go_wp2_with fail
  refine (over_any a0 a1 a2 a3 l0 l1 l2 l3 c0 c1 c2 c3 ss w L0 L1 L2 L3 hr).mono ?_
  rintro e w' ⟨⟨bz, rfl⟩, rfl⟩
  cases bz with
  | true =>
    go_wp2_with fail
    go_ret
    exact ⟨rfl, Below.refl _ _⟩
  | false =>
  clear hr
  go_upto_if 44 with fail
  go_cut [0] from 31 to 51 (fun v wx => ∃ a' c', v = .slice a' l0 c' ∧ CellsAt wx a' l0 (fun i => .int .u8 (ts i).k) ∧ Below w.heap.size w wx)
  case first =>
    as_aux_lemma =>
      cases a0 with
      | none =>
        obtain rfl : l0 = 0 := n0.out rfl
        go_wp2_with fail
        go_meet
        exact ⟨none, c0, rfl, CellsAt.none, Below.refl _ _⟩
      | some x =>
        obtain ⟨iE, hi, hz0, hz1, hz2⟩ := info_parts info5
        go_wp2_with (first
          | (at_make; refine wpList_make_full _ rfl _ _ 26 rfl w.heap.size 5 iE (.int .u8 0) 1 Try.underlying26 hi hz0 hz1 .i64 .i64 _ _ l0 rfl rfl (by omega) (by omega) (by rw [hz2]; omega) (by unfold maxLen; omega) (Nat.le_refl _) ?_; intro wm hown1 hgrow1; obtain ⟨cur, hcur, hcl⟩ := row_of_owns hown1; have hbm : Below w.heap.size w wm := (Below.refl w.heap.size w).grown hgrow1 (Nat.le_refl _) (by simp); clear hown1 hgrow1)
          | (have _t := hcur; refine wpList_copy_splice rfl (.tmp 48) (.tmp 49) 26 26 rfl 5 Try.underlying26 (by rw [hi]; simp [hz1]) _ _ _ _ _ _ rfl rfl w.heap.size 0 cur 5 hcur (firstC l0 fun i => .int .u8 (ts i).k) (by rw [firstC_len]; exact (Nat.min_self _).symm) (fun _ => ⟨rfl, x, rfl, src_of C0 hbm⟩) (by rw [firstC_len]; omega) (firstC_one fun i => rfl) w.heap.size w hbm (Nat.le_refl _) ?_; intro wn hg2 hbn))
        go_meet
        exact ⟨_, _, rfl, heap_of_splice hg2 hcl, hbn⟩
  case rest =>
  as_aux_lemma =>
    obtain ⟨b0, d0, rfl, D0, hb0⟩ := hcut
    obtain ⟨w1, hw⟩ : ∃ w1, w1 = wc := ⟨_, rfl⟩
    subst hw
    have hs0 := hb0.size
    clear C0 n0 m0 N0
    replace C1 := C1.later hb0
    replace C2 := C2.later hb0
    replace C3 := C3.later hb0
    go_upto_if 53 with fail
    go_cut [1] from 52 to 60 (fun v wx => ∃ a' c', v = .slice a' l1 c' ∧ CellsAt wx a' l1 (fun i => .string (ts i).t) ∧ Below w1.heap.size w1 wx)
    case first =>
      as_aux_lemma =>
        cases a1 with
        | none =>
          obtain rfl : l1 = 0 := n1.out rfl
          go_wp2_with fail
          go_meet
          exact ⟨none, c1, rfl, CellsAt.none, Below.refl _ _⟩
        | some x =>
          obtain ⟨iE, hi, hz0, hz1, hz2⟩ := info_parts info9
          go_wp2_with (first
            | (at_make; refine wpList_make_full _ rfl _ _ 27 rfl w1.heap.size 9 iE (.string ByteArray.empty) 1 Try.underlying27 hi hz0 hz1 .i64 .i64 _ _ l1 rfl rfl (by omega) (by omega) (by rw [hz2]; omega) (by unfold maxLen; omega) (Nat.le_refl _) ?_; intro wm hown1 hgrow1; obtain ⟨cur, hcur, hcl⟩ := row_of_owns hown1; have hbm : Below w1.heap.size w1 wm := (Below.refl w1.heap.size w1).grown hgrow1 (Nat.le_refl _) (by simp); clear hown1 hgrow1)
            | (have _t := hcur; refine wpList_copy_splice rfl (.tmp 57) (.tmp 58) 27 27 rfl 9 Try.underlying27 (by rw [hi]; simp [hz1]) _ _ _ _ _ _ rfl rfl w1.heap.size 0 cur 9 hcur (firstC l1 fun i => .string (ts i).t) (by rw [firstC_len]; exact (Nat.min_self _).symm) (fun _ => ⟨rfl, x, rfl, src_of C1 hbm⟩) (by rw [firstC_len]; omega) (firstC_one fun i => rfl) w1.heap.size w1 hbm (Nat.le_refl _) ?_; intro wn hg2 hbn))
          go_meet
          exact ⟨_, _, rfl, heap_of_splice hg2 hcl, hbn⟩
    case rest =>
    as_aux_lemma =>
      obtain ⟨b1, d1, rfl, D1, hb1⟩ := hcut
      obtain ⟨w2, hw⟩ : ∃ w2, w2 = wc := ⟨_, rfl⟩
      subst hw
      have hs1 := hb1.size
      clear C1 n1 m1 N1
      replace C2 := C2.later hb1
      replace C3 := C3.later hb1
      replace D0 := D0.later hb1
      go_upto_if 62 with fail
      go_cut [2] from 61 to 69 (fun v wx => ∃ a' c', v = .slice a' l2 c' ∧ CellsAt wx a' l2 (fun i => .int .i64 (ts i).l) ∧ Below w2.heap.size w2 wx)
      case first =>
        as_aux_lemma =>
          cases a2 with
          | none =>
            obtain rfl : l2 = 0 := n2.out rfl
            go_wp2_with fail
            go_meet
            exact ⟨none, c2, rfl, CellsAt.none, Below.refl _ _⟩
          | some x =>
            obtain ⟨iE, hi, hz0, hz1, hz2⟩ := info_parts info3
            go_wp2_with (first
              | (at_make; refine wpList_make_full _ rfl _ _ 28 rfl w2.heap.size 3 iE (.int .i64 0) 1 Try.underlying28 hi hz0 hz1 .i64 .i64 _ _ l2 rfl rfl (by omega) (by omega) (by rw [hz2]; omega) (by unfold maxLen; omega) (Nat.le_refl _) ?_; intro wm hown1 hgrow1; obtain ⟨cur, hcur, hcl⟩ := row_of_owns hown1; have hbm : Below w2.heap.size w2 wm := (Below.refl w2.heap.size w2).grown hgrow1 (Nat.le_refl _) (by simp); clear hown1 hgrow1)
              | (have _t := hcur; refine wpList_copy_splice rfl (.tmp 66) (.tmp 67) 28 28 rfl 3 Try.underlying28 (by rw [hi]; simp [hz1]) _ _ _ _ _ _ rfl rfl w2.heap.size 0 cur 3 hcur (firstC l2 fun i => .int .i64 (ts i).l) (by rw [firstC_len]; exact (Nat.min_self _).symm) (fun _ => ⟨rfl, x, rfl, src_of C2 hbm⟩) (by rw [firstC_len]; omega) (firstC_one fun i => rfl) w2.heap.size w2 hbm (Nat.le_refl _) ?_; intro wn hg2 hbn))
            go_meet
            exact ⟨_, _, rfl, heap_of_splice hg2 hcl, hbn⟩
      case rest =>
      as_aux_lemma =>
        obtain ⟨b2, d2, rfl, D2, hb2⟩ := hcut
        obtain ⟨w3, hw⟩ : ∃ w3, w3 = wc := ⟨_, rfl⟩
        subst hw
        have hs2 := hb2.size
        clear C2 n2 m2 N2
        replace C3 := C3.later hb2
        replace D0 := D0.later hb2
        replace D1 := D1.later hb2
        go_upto_if 71 with fail
        go_cut [3] from 70 to 78 (fun v wx => ∃ a' c', v = .slice a' l3 c' ∧ CellsAt wx a' l3 (fun i => .bool (ts i).b) ∧ Below w3.heap.size w3 wx)
        case first =>
          as_aux_lemma =>
            cases a3 with
            | none =>
              obtain rfl : l3 = 0 := n3.out rfl
              go_wp2_with fail
              go_meet
              exact ⟨none, c3, rfl, CellsAt.none, Below.refl _ _⟩
            | some x =>
              obtain ⟨iE, hi, hz0, hz1, hz2⟩ := info_parts info4
              go_wp2_with (first
                | (at_make; refine wpList_make_full _ rfl _ _ 29 rfl w3.heap.size 4 iE (.bool false) 1 Try.underlying29 hi hz0 hz1 .i64 .i64 _ _ l3 rfl rfl (by omega) (by omega) (by rw [hz2]; omega) (by unfold maxLen; omega) (Nat.le_refl _) ?_; intro wm hown1 hgrow1; obtain ⟨cur, hcur, hcl⟩ := row_of_owns hown1; have hbm : Below w3.heap.size w3 wm := (Below.refl w3.heap.size w3).grown hgrow1 (Nat.le_refl _) (by simp); clear hown1 hgrow1)
                | (have _t := hcur; refine wpList_copy_splice rfl (.tmp 75) (.tmp 76) 29 29 rfl 4 Try.underlying29 (by rw [hi]; simp [hz1]) _ _ _ _ _ _ rfl rfl w3.heap.size 0 cur 4 hcur (firstC l3 fun i => .bool (ts i).b) (by rw [firstC_len]; exact (Nat.min_self _).symm) (fun _ => ⟨rfl, x, rfl, src_of C3 hbm⟩) (by rw [firstC_len]; omega) (firstC_one fun i => rfl) w3.heap.size w3 hbm (Nat.le_refl _) ?_; intro wn hg2 hbn))
              go_meet
              exact ⟨_, _, rfl, heap_of_splice hg2 hcl, hbn⟩
        case rest =>
        as_aux_lemma =>
          obtain ⟨b3, d3, rfl, D3, hb3⟩ := hcut
          obtain ⟨w4, hw⟩ : ∃ w4, w4 = wc := ⟨_, rfl⟩
          subst hw
          have hs3 := hb3.size
          clear C3 n3 m3 N3
          replace D0 := D0.later hb3
          replace D1 := D1.later hb3
          replace D2 := D2.later hb3

          have hB4 : Below w.heap.size w w4 := ((hb0.trans (hb1.mono hs0)).trans (hb2.mono (by omega))).trans (hb3.mono (by omega))
          by_cases e1 : l0 = l1
          case neg =>
           as_aux_lemma =>
            have t1 : ((l1 : Int) != (l0 : Int)) = true := by rw [bne_iff_ne]; omega
            go_wp2_with fail
            go_ret
            exact ⟨rfl, hB4⟩
          by_cases e2 : l0 = l2
          case neg =>
           as_aux_lemma =>
            have t1 : ((l1 : Int) != (l0 : Int)) = false := by rw [bne_eq_false_iff_eq]; omega
            have t2 : ((l2 : Int) != (l0 : Int)) = true := by rw [bne_iff_ne]; omega
            clear e1
            go_wp2_with fail
            go_ret
            exact ⟨rfl, hB4⟩
          by_cases e3 : l0 = l3
          case neg =>
           as_aux_lemma =>
            have t1 : ((l1 : Int) != (l0 : Int)) = false := by rw [bne_eq_false_iff_eq]; omega
            have t2 : ((l2 : Int) != (l0 : Int)) = false := by rw [bne_eq_false_iff_eq]; omega
            have t3 : ((l3 : Int) != (l0 : Int)) = true := by rw [bne_iff_ne]; omega
            clear e1 e2
            go_wp2_with fail
            go_ret
            exact ⟨rfl, hB4⟩
          subst e1
          subst e2
          subst e3
          by_cases hi0 : 0 ≤ iv
          case neg =>
           as_aux_lemma =>
            go_wp2_with fail
            go_ret
            exact ⟨rfl, hB4⟩
          by_cases hil : iv ≤ l0
          case neg =>
           as_aux_lemma =>
            go_wp2_with fail
            go_ret
            exact ⟨rfl, hB4⟩
          as_aux_lemma =>
            obtain ⟨i, rfl⟩ := Int.eq_ofNat_of_zero_le hi0
            have hin : i ≤ l0 := by omega
            clear hi0 hil
            go_wp2_with fail
            refine (tokens_any b0 b1 b2 b3 l0 d0 d1 d2 d3 ts w4 L0 D0 D1 D2 D3).mono ?_
            rintro e w5 ⟨rfl, hT5, hb5, hg5⟩
            have hs5 := hb5.size
            replace D0 := D0.later hb5
            replace D1 := D1.later hb5
            have HT5 := hide hT5
            clear hT5 D2 D3
            go_wp2_with fail
            refine (zzstatements_any (some ⟨w4.heap.size, 0, none⟩) w4.heap.size 0 l0 l0 l0 ts w5 (by omega) L0 hg5 (fun _ => ⟨rfl, by omega⟩) (fun i hi => by rw [Nat.zero_add]; exact HT5.out i hi)).mono ?_
            rintro e w6 ⟨v, rfl, ho6, hb6⟩
            have hs6 := hb6.size
            have hPl := pc_len (sepT ts) none 0 l0
            obtain ⟨P, hP⟩ : ∃ P, P = pc (sepT ts) none 0 l0 := ⟨_, rfl⟩
            rw [← hP] at ho6 hPl
            obtain ⟨aP, cP, gP, rfl, D6⟩ := owns_at ho6
            have HP := hide hP
            clear ho6 hP
            replace D0 := D0.later hb6
            replace D1 := D1.later hb6
            replace D6 := hide D6
            have HT6 : Hid (∀ i, i < l0 → TokAt w6 w4.heap.size i (ts i)) := hide fun i hi => (HT5.out i hi).later hb6 hg5
            have hg6 : w4.heap.size < w6.heap.size := by omega
            clear HT5
            go_wp2_with fail
            refine (zzstatements_any (some ⟨w4.heap.size, 0, none⟩) w4.heap.size 0 i l0 l0 ts w6 (by omega) L0 hg6 (fun _ => ⟨rfl, by omega⟩) (fun j hj => by rw [Nat.zero_add]; exact HT6.out j (by omega))).mono ?_
            rintro e w7 ⟨v, rfl, ho7, hb7⟩
            have hs7 := hb7.size
            have hFl := pc_len (sepT ts) none 0 i
            obtain ⟨F, hF⟩ : ∃ F, F = pc (sepT ts) none 0 i := ⟨_, rfl⟩
            rw [← hF] at ho7 hFl
            obtain ⟨aF, cF, gF, rfl, D7⟩ := owns_at ho7
            have HF := hide hF
            clear ho7 hF
            replace D0 := D0.later hb7
            replace D1 := D1.later hb7
            replace D7 := hide D7
            have HT7 : Hid (∀ i, i < l0 → TokAt w7 w4.heap.size i (ts i)) := hide fun i hi => (HT6.out i hi).later hb7 hg6
            have hg7 : w4.heap.size < w7.heap.size := by omega
            have hB7 : Below w.heap.size w w7 := ((hB4.trans (hb5.mono (by have := hB4.size; omega))).trans (hb6.mono (by have := hB4.size; omega))).trans (hb7.mono (by have := hB4.size; omega))
            have D67 : Hid (∀ k, k < P.length → aP = some ⟨gP, 0, none⟩ ∧ w7.cell? ⟨gP, k, none⟩ = some (pieceV w4.heap.size l0 (P.getD k (0, 0)))) := hide fun k hk => ⟨(D6.out k hk).1, cell_below (D6.out k hk).2 hb7⟩
            clear HT6 D6 hb0 hb1 hb2 hb3 hb5 hb6 hb7 hB4
            obtain ⟨R, hR⟩ : ∃ R, R = pc (sepT ts) none i (l0 - i) := ⟨_, rfl⟩
            have hRl := pc_len (sepT ts) none i (l0 - i)
            rw [← hR] at hRl
            replace hR := hide hR
            replace D0 := hide D0
            replace D1 := hide D1
            as_aux_lemma =>
              go_upto_region 29 with fail
              go_cut [19] from 79 to 118 (fun v wx => ∃ aR cR gR, v = .slice aR R.length cR ∧ Hid (∀ k, k < R.length → aR = some ⟨gR, 0, none⟩ ∧ wx.cell? ⟨gR, k, none⟩ = some (pieceV w4.heap.size l0 (R.getD k (0, 0)))) ∧ Below w7.heap.size w7 wx)
              case first =>
                as_aux_lemma =>
                  rcases Nat.lt_or_ge i l0 with hlt | hge
                  · go_wp2_with fail
                    refine (zzstatements_any (some ⟨w4.heap.size, i * 4, none⟩) w4.heap.size i (l0 - i) l0 (l0 - i) ts w7 (by omega) L0 hg7 (fun _ => ⟨rfl, rfl⟩) (fun j hj => HT7.out (i + j) (by omega))).mono ?_
                    rintro e w8 ⟨v, rfl, ho8, hb8⟩
                    rw [← hR.out] at ho8
                    obtain ⟨aR, cR, gR, rfl, D8⟩ := owns_at ho8
                    replace D8 := hide D8
                    clear ho8
                    go_wp2_with fail
                    go_meet
                    exact ⟨aR, cR, gR, rfl, D8, hb8⟩
                  · obtain rfl : i = l0 := by omega
                    go_wp2_with fail
                    refine (zzstatements_any (some ⟨w4.heap.size, 0, none⟩) w4.heap.size i 0 i 0 ts w7 (by omega) L0 hg7 (fun h => (by omega)) (fun j hj => (by omega))).mono ?_
                    rintro e w8 ⟨v, rfl, ho8, hb8⟩
                    have e0 : pc (sepT ts) none i 0 = R := by rw [hR.out, Nat.sub_self]
                    rw [e0] at ho8
                    obtain ⟨aR, cR, gR, rfl, D8⟩ := owns_at ho8
                    replace D8 := hide D8
                    clear ho8 e0
                    go_wp2_with fail
                    go_meet
                    exact ⟨aR, cR, gR, rfl, D8, hb8⟩
              case rest =>
              as_aux_lemma =>
                obtain ⟨aR, cR, gR, rfl, D8, hb8⟩ := hcut
                obtain ⟨w8, hw⟩ : ∃ w8, w8 = wc := ⟨_, rfl⟩
                subst hw
                have hs8 := hb8.size
                have HT8 : Hid (∀ i, i < l0 → TokAt w8 w4.heap.size i (ts i)) := hide fun i hi => (HT7.out i hi).later hb8 hg7
                have DP : Hid (∀ k, k < P.length → aP = some ⟨gP, 0, none⟩ ∧ w8.cell? ⟨gP, k, none⟩ = some (pieceV w4.heap.size l0 (P.getD k (0, 0)))) := hide fun k hk => ⟨(D67.out k hk).1, cell_below (D67.out k hk).2 hb8⟩
                have DF : Hid (∀ k, k < F.length → aF = some ⟨gF, 0, none⟩ ∧ w8.cell? ⟨gF, k, none⟩ = some (pieceV w4.heap.size l0 (F.getD k (0, 0)))) := hide fun k hk => ⟨(D7.out k hk).1, cell_below (D7.out k hk).2 hb8⟩
                obtain ⟨x0, hx0⟩ := fix_at (D0.out.later hb8)
                obtain ⟨x1, hx1⟩ := fix_at (D1.out.later hb8)
                replace hx0 := hide hx0
                replace hx1 := hide hx1
                have hB8 : Below w.heap.size w w8 := hB7.trans (hb8.mono hB7.size)
                obtain ⟨g, hg⟩ : ∃ g, g = w4.heap.size := ⟨_, rfl⟩
                have hg8 : g < w8.heap.size := by omega
                rw [← hg] at HT8 D8 DP DF
                clear hg D0 D1 D67 D7 HT7 hb8 hB7 hs0 hs1 hs2 hs3 hs5 hs6 hs7 hs8 hg5 hg6 hg7 L1 L2 L3

                go_wp2_with fail
                go_loopw [20, 21] (fun rr jj wr => ∃ j c : Nat, j ≤ l0 ∧ c ≤ j ∧ rr = .int .i64 c ∧ jj = .int .i64 j ∧ Hid (c + (pc (sepT ts) (oj (sepT ts) j) j (l0 - j)).length = P.length + (oj (sepT ts) j).isSome.toNat) ∧ Below w8.heap.size w8 wr) (fun _ jj _ => l0 - (intOf jj).toNat)
                case atStart => exact ⟨0, 0, by omega, by omega, rfl, rfl, hide (by rw [HP.out]; simp [oj]), Below.refl _ _⟩
                case round =>
                  obtain ⟨j, c, hj, hcj, rfl, rfl, hcnt, hbel⟩ := hrel
                  have hsz := hbel.size
                  by_cases hjl : j < l0
                  · have hjl2 : (j : Int) < (l0 : Int) := by omega
                    have z0 := (hx0.out j hjl).1
                    have z1 := (hx1.out j hjl).1
                    subst z0
                    subst z1
                    have y0 := cell_below (hx0.out j hjl).2 hbel
                    have y1 := cell_below (hx1.out j hjl).2 hbel
                    have hstep := runs_step hjl hcnt.out
                    cases hS : sepB (ts j).k (ts j).t with
                    | true =>
                      have hS' : sepT ts j = true := hS
                      rw [hS', if_pos rfl, Nat.add_zero] at hstep
                      replace hstep := hide hstep
                      clear hS'
                      as_aux_lemma =>
                        go_wp2_with fail
                        go_quiet ((go_at_call 16; exact Calls.quiet_of_same (isSep_q _ _ _)))
                        go_wp2_with fail
                        go_roundw
                        case rel => exact ⟨j + 1, c, by omega, by omega, rfl, by go_num, hstep, below_drewN hbel _⟩
                        case measure => simp [intOf]; omega
                    | false =>
                      have hS' : sepT ts j = false := hS
                      by_cases hj0 : j = 0
                      · have hjb : ((j : Int) == 0) = true := by rw [beq_iff_eq]; omega
                        have ho : oj (sepT ts) j = none := by unfold oj; rw [if_pos hj0]
                        rw [hS', ho] at hstep
                        simp only [Bool.false_eq_true, if_false, Option.isSome_none] at hstep
                        replace hstep := hide hstep
                        clear hS' hj0 ho hcnt
                        as_aux_lemma =>
                          go_wp2_with fail
                          go_quiet ((go_at_call 16; exact Calls.quiet_of_same (isSep_q _ _ _)))
                          go_wp2_with fail
                          go_roundw
                          case rel => exact ⟨j + 1, c + 1, by omega, by omega, by go_num, by go_num, hstep, below_drewN hbel _⟩
                          case measure => simp [intOf]; omega
                      · have hjb : ((j : Int) == 0) = false := beq_eq_false_iff_ne.2 (by omega)
                        have hj1 : 1 ≤ j := by omega
                        have hjm : (j : Int) - 1 < (l0 : Int) := by omega
                        have y2 := cell_below (hx0.out (j - 1) (by omega)).2 hbel
                        have y3 := cell_below (hx1.out (j - 1) (by omega)).2 hbel
                        cases hT : sepB (ts (j - 1)).k (ts (j - 1)).t with
                        | true =>
                          have hT' : sepT ts (j - 1) = true := hT
                          have ho : oj (sepT ts) j = none := by unfold oj; rw [if_neg hj0, if_pos hT']
                          rw [hS', ho] at hstep
                          simp only [Bool.false_eq_true, if_false, Option.isSome_none] at hstep
                          replace hstep := hide hstep
                          clear hS' hT' hj0 ho hcnt
                          as_aux_lemma =>
                            go_wp2_with fail
                            go_quiet ((go_at_call 16; exact Calls.quiet_of_same (isSep_q _ _ _)))
                            go_wp2_with fail
                            go_roundw
                            case rel => exact ⟨j + 1, c + 1, by omega, by omega, by go_num, by go_num, hstep, below_drewN hbel _⟩
                            case measure => simp [intOf]; omega
                        | false =>
                          have hT' : sepT ts (j - 1) = false := hT
                          have ho : oj (sepT ts) j = some 0 := by unfold oj; rw [if_neg hj0, hT']; rfl
                          rw [hS', ho] at hstep
                          simp only [Bool.false_eq_true, if_false, Option.isSome_some, if_true, Nat.add_zero] at hstep
                          replace hstep := hide hstep
                          clear hS' hT' hj0 ho hcnt
                          as_aux_lemma =>
                            go_wp2_with fail
                            go_quiet ((go_at_call 16; exact Calls.quiet_of_same (isSep_q _ _ _)))
                            go_wp2_with fail
                            go_roundw
                            case rel => exact ⟨j + 1, c, by omega, by omega, rfl, by go_num, hstep, below_drewN hbel _⟩
                            case measure => simp [intOf]; omega
                  · have hje : j = l0 := by omega
                    have hcP : c = P.length := by
                      have h := hcnt.out
                      rw [hje] at h
                      exact runs_end h
                    have hlenb : ((P.length : Int) != (c : Int)) = false := by rw [bne_eq_false_iff_eq, hcP]
                    clear hje hcP hcnt
                    have hjl2 : ¬ (j : Int) < (l0 : Int) := by omega
                    as_aux_lemma =>

                      obtain ⟨G, hG⟩ : ∃ G : Bool, G = decide (0 < i ∧ i < l0 ∧ sepT ts (i - 1) = false ∧ sepT ts i = false) := ⟨_, rfl⟩
                      replace hG := hide hG
                      go_upto_region 38 with fail
                      go_cut [22] from 119 to 189 (fun v wx => v = .bool G ∧ Below w8.heap.size w8 wx)
                      case first =>
                        as_aux_lemma =>
                          by_cases g0 : 0 < i
                          · by_cases g1 : i < l0
                            · have z0 := (hx0.out i g1).1
                              have z1 := (hx1.out i g1).1
                              subst z0
                              subst z1
                              have y0 := cell_below (hx0.out (i - 1) (by omega)).2 hbel
                              have y1 := cell_below (hx1.out (i - 1) (by omega)).2 hbel
                              have y2 := cell_below (hx0.out i g1).2 hbel
                              have y3 := cell_below (hx1.out i g1).2 hbel
                              have g0' : (0 : Int) < (i : Int) := by omega
                              have g1' : (i : Int) < (l0 : Int) := by omega
                              have g2' : (i : Int) - 1 < (l0 : Int) := by omega
                              cases hS1 : sepB (ts (i - 1)).k (ts (i - 1)).t with
                              | true =>
                                have hGv : G = false := by rw [hG.out]; exact decide_eq_false (fun h => by have h2 : sepT ts (i - 1) = true := hS1; rw [h2] at h; exact absurd h.2.2.1 (by simp))
                                replace hGv := hide hGv
                                go_quiet ((go_at_call 16; exact Calls.quiet_of_same (isSep_q _ _ _)))
                                go_wp2
                                go_meet
                                exact ⟨by rw [hGv.out], below_drewN hbel _⟩
                              | false =>
                                cases hS2 : sepB (ts i).k (ts i).t with
                                | true =>
                                  have hGv : G = false := by rw [hG.out]; exact decide_eq_false (fun h => by have h2 : sepT ts i = true := hS2; rw [h2] at h; exact absurd h.2.2.2 (by simp))
                                  replace hGv := hide hGv
                                  go_quiet ((go_at_call 16; exact Calls.quiet_of_same (isSep_q _ _ _)))
                                  go_wp2
                                  go_meet
                                  exact ⟨by rw [hGv.out], below_drewN hbel _⟩
                                | false =>
                                  have hGv : G = true := by rw [hG.out]; exact decide_eq_true ⟨g0, g1, hS1, hS2⟩
                                  replace hGv := hide hGv
                                  go_quiet ((go_at_call 16; exact Calls.quiet_of_same (isSep_q _ _ _)))
                                  go_wp2
                                  go_meet
                                  exact ⟨by rw [hGv.out], below_drewN hbel _⟩
                            · have g0' : (0 : Int) < (i : Int) := by omega
                              have g1' : decide ((i : Int) < (l0 : Int)) = false := decide_eq_false (by omega)
                              have hGv : G = false := by rw [hG.out]; exact decide_eq_false (fun h => g1 h.2.1)
                              replace hGv := hide hGv
                              go_quiet ((go_at_call 16; exact Calls.quiet_of_same (isSep_q _ _ _)))
                              go_wp2
                              go_meet
                              exact ⟨by rw [hGv.out], below_drewN hbel _⟩
                          · have g0' : decide ((0 : Int) < (i : Int)) = false := decide_eq_false (by omega)
                            have hGv : G = false := by rw [hG.out]; exact decide_eq_false (fun h => g0 h.1)
                            replace hGv := hide hGv
                            go_quiet ((go_at_call 16; exact Calls.quiet_of_same (isSep_q _ _ _)))
                            go_wp2
                            go_meet
                            exact ⟨by rw [hGv.out], below_drewN hbel _⟩
                      case rest =>
                      as_aux_lemma =>
                        obtain ⟨rfl, hbc⟩ := hcut
                        cases G with
                        | false =>
                          have hfree : P = F ++ R := by
                            rw [HP.out, HF.out, hR.out]
                            refine cut_free hin (fun h => ?_)
                            have h2 := hG.out
                            rw [decide_eq_true h] at h2
                            cases h2
                          have hlen : P.length = F.length + R.length := by rw [hfree, List.length_append]
                          have hlb : ((P.length : Int) != (F.length : Int) + (R.length : Int)) = false := by rw [bne_eq_false_iff_eq]; omega
                          have hle1 : P.length ≤ F.length + R.length := by omega
                          have hle2 : F.length + R.length ≤ P.length := by omega
                          have Hfree := hide hfree
                          clear hfree hlen hG
                          as_aux_lemma =>
                            go_wp2_with fail
                            go_loopw [23] (fun kk wi => ∃ k : Nat, 0 ≤ k ∧ k ≤ F.length ∧ kk = .int .i64 k ∧ Below w8.heap.size w8 wi) (fun kk _ => F.length - (intOf kk).toNat)
                            case atStart => exact ⟨0, by omega, by omega, rfl, hbc⟩
                            case round =>
                              as_aux_lemma =>
                                obtain ⟨k, hk0, hk, rfl, hbk⟩ := hrel
                                by_cases hkq : k < F.length
                                · as_aux_lemma =>
                                    obtain ⟨rfl, e1⟩ := DP.out (k) (by omega)
                                    obtain ⟨rfl, e2⟩ := DF.out k (by omega)
                                    have hpe : P.getD (k) (0, 0) = F.getD k (0, 0) := (by rw [Hfree.out]; exact getD_left hkq)
                                    have hmem : F.getD k (0, 0) ∈ F := getD_mem (by omega)
                                    have hin' : (F.getD k (0, 0)).1 < (F.getD k (0, 0)).2 ∧ (F.getD k (0, 0)).2 ≤ l0 := by
                                      generalize F.getD k (0, 0) = pp at hmem
                                      rw [HF.out] at hmem
                                      have := pc_in (sepT ts) i 0 pp hmem
                                      omega
                                    obtain ⟨o, mm, cc, hpv, hmm, htk⟩ := piece_view (n := l0) HT8.out hin'.1 hin'.2
                                    rw [hpe, hpv] at e1
                                    rw [hpv] at e2
                                    have y1 := cell_below e1 hbk
                                    have y2 := cell_below e2 hbk
                                    have htk2 := hide (htk.later hbk hg8)
                                    have hszk := hbk.size
                                    have hgk : g < wr.heap.size := by omega
                                    have hmm2 : mm ≤ 1048576 := by omega
                                    clear e1 e2 hpe hmem hin' hpv htk DP DF
                                    have hkp2 : (k : Int) < (P.length : Int) := by omega
                                    have hkp3 : k < P.length := by omega
                                    have hkq2 : (k : Int) < (F.length : Int) := by omega
                                    go_wp2_with fail
                                    go_region_held3 (fun w' => w'.cell? ⟨gP, k, none⟩ = some (.slice (some ⟨g, o, none⟩) mm cc) ∧ w'.cell? ⟨gF, k, none⟩ = some (.slice (some ⟨g, o, none⟩) mm cc)) (first | exact ⟨y1, y2⟩ | exact ⟨z1, z2⟩) (first | (go_at_call 19; refine (same_off g o mm cc cc wr.drew hmm2 hgk htk2.out.drew).mono ?_; rintro e w10 ⟨rfl, hb10⟩; have z1 := cell_below y1 (below_undrew1 hb10); have z2 := cell_below y2 (below_undrew1 hb10)))
                                    all_goals
                                      have hb11 : Below w8.heap.size w8 w10 := hbk.trans ((below_undrew1 hb10).mono hszk)
                                      go_wp2_with fail
                                      go_roundw
                                      case rel => exact ⟨k + 1, by omega, by omega, by go_num, hb11⟩
                                      case measure => simp [intOf]; omega
                                · have hkq2 : ¬ (k : Int) < (F.length : Int) := by omega
                                  go_wp2_with fail
                                  go_loopw [24] (fun kk wi => ∃ k : Nat, 0 ≤ k ∧ k ≤ R.length ∧ kk = .int .i64 k ∧ Below w8.heap.size w8 wi) (fun kk _ => R.length - (intOf kk).toNat)
                                  case atStart => exact ⟨0, by omega, by omega, rfl, hbk⟩
                                  case round =>
                                    as_aux_lemma =>
                                      obtain ⟨k, hk0, hk, rfl, hbk⟩ := hrel
                                      by_cases hkq : k < R.length
                                      · as_aux_lemma =>
                                          obtain ⟨rfl, e1⟩ := DP.out (F.length + k) (by omega)
                                          obtain ⟨rfl, e2⟩ := D8.out k (by omega)
                                          have hpe : P.getD (F.length + k) (0, 0) = R.getD k (0, 0) := (by rw [Hfree.out]; exact getD_right)
                                          have hmem : R.getD k (0, 0) ∈ R := getD_mem (by omega)
                                          have hin' : (R.getD k (0, 0)).1 < (R.getD k (0, 0)).2 ∧ (R.getD k (0, 0)).2 ≤ l0 := by
                                            generalize R.getD k (0, 0) = pp at hmem
                                            rw [hR.out] at hmem
                                            have := pc_in (sepT ts) (l0 - i) i pp hmem
                                            omega
                                          obtain ⟨o, mm, cc, hpv, hmm, htk⟩ := piece_view (n := l0) HT8.out hin'.1 hin'.2
                                          rw [hpe, hpv] at e1
                                          rw [hpv] at e2
                                          have y1 := cell_below e1 hbk
                                          have y2 := cell_below e2 hbk
                                          have htk2 := hide (htk.later hbk hg8)
                                          have hszk := hbk.size
                                          have hgk : g < wr.heap.size := by omega
                                          have hmm2 : mm ≤ 1048576 := by omega
                                          clear e1 e2 hpe hmem hin' hpv htk DP D8
                                          have hkp2 : (F.length : Int) + (k : Int) < (P.length : Int) := by omega
                                          have hkp3 : F.length + k < P.length := by omega
                                          have hkq2 : (k : Int) < (R.length : Int) := by omega
                                          have hRb : R.length ≤ 1048577 := by omega
                                          have hFb : F.length ≤ 1048577 := by omega
                                          have htn : ((F.length : Int) + (k : Int)).toNat = F.length + k := by omega
                                          have hnn : (0 : Int) ≤ (F.length : Int) + (k : Int) := by omega
                                          have hbd : (F.length : Int) + (k : Int) ≤ 9223372036854775807 := by omega
                                          have hwr2 : wrap64 ((F.length : Int) + (k : Int)) = (F.length : Int) + (k : Int) := IntWalk.wrap64_in _ ⟨by omega, hbd⟩
                                          clear hbd
                                          have hwr : IntKind.i64.wrap ((F.length : Int) + (k : Int)) = (F.length : Int) + (k : Int) := (IntWalk.i64_left _).trans hwr2
                                          go_wp2_with fail
                                          go_region_held3 (fun w' => w'.cell? ⟨gP, F.length + k, none⟩ = some (.slice (some ⟨g, o, none⟩) mm cc) ∧ w'.cell? ⟨gR, k, none⟩ = some (.slice (some ⟨g, o, none⟩) mm cc)) (first | exact ⟨y1, y2⟩ | exact ⟨z1, z2⟩) (first | (go_at_call 19; refine (same_off g o mm cc cc wr.drew hmm2 hgk htk2.out.drew).mono ?_; rintro e w10 ⟨rfl, hb10⟩; have z1 := cell_below y1 (below_undrew1 hb10); have z2 := cell_below y2 (below_undrew1 hb10)))
                                          all_goals
                                            clear hwr hwr2 htn hnn
                                            have hb11 : Below w8.heap.size w8 w10 := hbk.trans ((below_undrew1 hb10).mono hszk)
                                            go_wp2_with fail
                                            go_roundw
                                            case rel => exact ⟨k + 1, by omega, by omega, by go_num, hb11⟩
                                            case measure => simp [intOf]; omega
                                      · have hkq2 : ¬ (k : Int) < (R.length : Int) := by omega
                                        as_aux_lemma =>
                                          go_wp2_with fail
                                          go_ret
                                          exact ⟨rfl, hB8.trans (hbk.mono hB8.size)⟩
                        | true =>
                          have hgl := of_decide_eq_true hG.out.symm
                          obtain ⟨A, s, e, B, k1, k2, k3⟩ := cut_glued hgl.1 hgl.2.1 hgl.2.2.1 hgl.2.2.2
                          have q1 := pc_in (sepT ts) i 0 (s, i) (by rw [k1]; simp)
                          have q2 := pc_in (sepT ts) (l0 - i) i (i, e) (by rw [k2]; simp)
                          simp only at q1 q2
                          obtain ⟨⟨g1a, g1b, g1c⟩, g2, g3, g4, g5, g6⟩ := glued_places (HF.out.trans k1) (hR.out.trans k2) (HP.out.trans k3)
                          obtain ⟨u, hu⟩ : ∃ u, i = s + u := ⟨i - s, by omega⟩
                          obtain ⟨t, ht'⟩ : ∃ t, e = i + t := ⟨e - i, by omega⟩
                          have hu1 : 1 ≤ u := by omega
                          have ht1 : 1 ≤ t := by omega
                          have hel : s + u + t ≤ l0 := by omega
                          have hF0 : ((F.length : Int) == 0) = false := beq_eq_false_iff_ne.2 (by omega)
                          have hR00 : ((R.length : Int) == 0) = false := beq_eq_false_iff_ne.2 (by omega)
                          have hlb : ((P.length : Int) != (F.length : Int) + (R.length : Int) - 1) = false := by rw [bne_eq_false_iff_eq]; omega
                          have hle1 : P.length + 1 ≤ F.length + R.length := by omega
                          have hle2 : F.length + R.length ≤ P.length + 1 := by omega
                          replace hu := hide hu
                          replace ht' := hide ht'
                          replace g2 := hide g2
                          replace g3 := hide g3
                          replace g4 := hide g4
                          replace g5 := hide g5
                          replace g6 := hide g6
                          clear hgl k1 k2 k3 q1 q2 g1c hG
                          as_aux_lemma =>
                            go_wp2_with fail
                            go_loopw [26] (fun kk wi => ∃ k : Nat, 0 ≤ k ∧ k + 1 ≤ F.length ∧ kk = .int .i64 k ∧ Below w8.heap.size w8 wi) (fun kk _ => F.length - (intOf kk).toNat)
                            case atStart => exact ⟨0, by omega, by omega, rfl, hbc⟩
                            case round =>
                              as_aux_lemma =>
                                obtain ⟨k, hk0, hk, rfl, hbk⟩ := hrel
                                by_cases hkq : k + 1 < F.length
                                · as_aux_lemma =>
                                    obtain ⟨rfl, e1⟩ := DP.out (k) (by omega)
                                    obtain ⟨rfl, e2⟩ := DF.out k (by omega)
                                    have hpe : P.getD (k) (0, 0) = F.getD k (0, 0) := (g2.out k (by omega))
                                    have hmem : F.getD k (0, 0) ∈ F := getD_mem (by omega)
                                    have hin' : (F.getD k (0, 0)).1 < (F.getD k (0, 0)).2 ∧ (F.getD k (0, 0)).2 ≤ l0 := by
                                      generalize F.getD k (0, 0) = pp at hmem
                                      rw [HF.out] at hmem
                                      have := pc_in (sepT ts) i 0 pp hmem
                                      omega
                                    obtain ⟨o, mm, cc, hpv, hmm, htk⟩ := piece_view (n := l0) HT8.out hin'.1 hin'.2
                                    rw [hpe, hpv] at e1
                                    rw [hpv] at e2
                                    have y1 := cell_below e1 hbk
                                    have y2 := cell_below e2 hbk
                                    have htk2 := hide (htk.later hbk hg8)
                                    have hszk := hbk.size
                                    have hgk : g < wr.heap.size := by omega
                                    have hmm2 : mm ≤ 1048576 := by omega
                                    clear e1 e2 hpe hmem hin' hpv htk DP DF
                                    have hkp2 : (k : Int) < (P.length : Int) := by omega
                                    have hkp3 : k < P.length := by omega
                                    have hkq2 : (k : Int) < (F.length : Int) - 1 := by omega
                                    have hkq3 : (k : Int) < (F.length : Int) := by omega
                                    go_wp2_with fail
                                    go_region_held3 (fun w' => w'.cell? ⟨gP, k, none⟩ = some (.slice (some ⟨g, o, none⟩) mm cc) ∧ w'.cell? ⟨gF, k, none⟩ = some (.slice (some ⟨g, o, none⟩) mm cc)) (first | exact ⟨y1, y2⟩ | exact ⟨z1, z2⟩) (first | (go_at_call 19; refine (same_off g o mm cc cc wr.drew hmm2 hgk htk2.out.drew).mono ?_; rintro e w10 ⟨rfl, hb10⟩; have z1 := cell_below y1 (below_undrew1 hb10); have z2 := cell_below y2 (below_undrew1 hb10)))
                                    all_goals
                                      have hb11 : Below w8.heap.size w8 w10 := hbk.trans ((below_undrew1 hb10).mono hszk)
                                      go_wp2_with fail
                                      go_roundw
                                      case rel => exact ⟨k + 1, by omega, by omega, by go_num, hb11⟩
                                      case measure => simp [intOf]; omega
                                · have hkq2 : ¬ (k : Int) < (F.length : Int) - 1 := by omega
                                  obtain ⟨rfl, e1⟩ := DP.out (F.length - 1) (by omega)
                                  obtain ⟨rfl, e2⟩ := DF.out (F.length - 1) (by omega)
                                  obtain ⟨rfl, e3⟩ := D8.out 0 (by omega)
                                  have hu2 := hu.out
                                  have ht2 := ht'.out
                                  have v1 : pieceV g l0 (P.getD (F.length - 1) (0, 0)) = .slice (some ⟨g, s * 4, none⟩) (u + t) (l0 - s) := by
                                    rw [g3.out, piece_val, show e - s = u + t from by omega]
                                  have v2 : pieceV g l0 (F.getD (F.length - 1) (0, 0)) = .slice (some ⟨g, s * 4, none⟩) u (l0 - s) := by
                                    rw [g4.out, piece_val, show i - s = u from by omega]
                                  have v3 : pieceV g l0 (R.getD 0 (0, 0)) = .slice (some ⟨g, s * 4 + u * 4, none⟩) t (l0 - i) := by
                                    rw [g5.out, piece_val, show i * 4 = s * 4 + u * 4 from by omega, show e - i = t from by omega]
                                  rw [v1] at e1
                                  rw [v2] at e2
                                  rw [v3] at e3
                                  have y1 := cell_below e1 hbk
                                  have y2 := cell_below e2 hbk
                                  have y3 := cell_below e3 hbk
                                  have tkA := hide ((toks_off HT8.out (show s + u ≤ l0 by omega)).later hbk hg8)
                                  have tkB0 := (toks_off HT8.out (show (s + u) + t ≤ l0 by omega)).later hbk hg8
                                  rw [show (s + u) * 4 = s * 4 + u * 4 from by omega] at tkB0
                                  have tkB := hide tkB0
                                  have hszk := hbk.size
                                  have hgk : g < wr.heap.size := by omega
                                  have hii : s + u ≤ i := by omega
                                  have hij : i ≤ s + u := by omega
                                  have hF1 : (F.length : Int) - 1 < (P.length : Int) := by omega
                                  have hF2 : (F.length : Int) - 1 < (F.length : Int) := by omega
                                  have hR0 : (0 : Int) < (R.length : Int) := by omega
                                  clear e1 e2 e3 v1 v2 v3 tkB0 g2 g3 g4 g5 hu ht' hu2 ht2
                                  go_wp2_with fail
                                  refine (same_off g (s * 4) u (l0 - s) (l0 - s) _ (by omega) hgk tkA.out).mono ?_
                                  rintro e w13 ⟨rfl, hb13⟩
                                  have hs13 := hb13.size
                                  have tkB2 := hide (tkB.out.later hb13 hgk)
                                  have hb13' : Below w8.heap.size w8 w13 := hbk.trans (hb13.mono hszk)
                                  clear y1 y2 y3 tkA tkB
                                  go_wp2_with fail
                                  refine (same_off g (s * 4 + u * 4) t _ _ _ (by omega) (by omega) tkB2.out).mono ?_
                                  rintro e w14 ⟨rfl, hb14'⟩
                                  have hb14 : Below w8.heap.size w8 w14 := hb13'.trans (hb14'.mono (by omega))
                                  clear hb13 hb13' hb14' tkB2 hbk
                                  as_aux_lemma =>
                                    go_wp2_with fail
                                    go_loopw [30] (fun kk wi => ∃ k : Nat, 1 ≤ k ∧ k ≤ R.length ∧ kk = .int .i64 k ∧ Below w8.heap.size w8 wi) (fun kk _ => R.length - (intOf kk).toNat)
                                    case atStart => exact ⟨1, by omega, by omega, rfl, hb14⟩
                                    case round =>
                                      as_aux_lemma =>
                                        obtain ⟨k, hk0, hk, rfl, hbk⟩ := hrel
                                        by_cases hkq : k < R.length
                                        · as_aux_lemma =>
                                            obtain ⟨_, e1⟩ := DP.out (F.length - 1 + k) (by omega)
                                            obtain ⟨_, e2⟩ := D8.out k (by omega)
                                            have hpe : P.getD (F.length - 1 + k) (0, 0) = R.getD k (0, 0) := (g6.out k (by omega) (by omega))
                                            have hmem : R.getD k (0, 0) ∈ R := getD_mem (by omega)
                                            have hin' : (R.getD k (0, 0)).1 < (R.getD k (0, 0)).2 ∧ (R.getD k (0, 0)).2 ≤ l0 := by
                                              generalize R.getD k (0, 0) = pp at hmem
                                              rw [hR.out] at hmem
                                              have := pc_in (sepT ts) (l0 - i) i pp hmem
                                              omega
                                            obtain ⟨o, mm, cc, hpv, hmm, htk⟩ := piece_view (n := l0) HT8.out hin'.1 hin'.2
                                            rw [hpe, hpv] at e1
                                            rw [hpv] at e2
                                            have y1 := cell_below e1 hbk
                                            have y2 := cell_below e2 hbk
                                            have htk2 := hide (htk.later hbk hg8)
                                            have hszk := hbk.size
                                            have hgk : g < wr.heap.size := by omega
                                            have hmm2 : mm ≤ 1048576 := by omega
                                            clear e1 e2 hpe hmem hin' hpv htk DP D8
                                            have hkp2 : (F.length : Int) - 1 + (k : Int) < (P.length : Int) := by omega
                                            have hkp3 : F.length - 1 + k < P.length := by omega
                                            have hkq2 : (k : Int) < (R.length : Int) := by omega
                                            have hRb : R.length ≤ 1048577 := by omega
                                            have hFb : F.length ≤ 1048577 := by omega
                                            have htn : ((F.length : Int) - 1 + (k : Int)).toNat = F.length - 1 + k := by omega
                                            have hnn : (0 : Int) ≤ (F.length : Int) - 1 + (k : Int) := by omega
                                            have hbd : (F.length : Int) - 1 + (k : Int) ≤ 9223372036854775807 := by omega
                                            have hwr2 : wrap64 ((F.length : Int) - 1 + (k : Int)) = (F.length : Int) - 1 + (k : Int) := IntWalk.wrap64_in _ ⟨by omega, hbd⟩
                                            clear hbd
                                            have hwr : IntKind.i64.wrap ((F.length : Int) - 1 + (k : Int)) = (F.length : Int) - 1 + (k : Int) := (IntWalk.i64_left _).trans hwr2
                                            go_wp2_with fail
                                            go_region_held3 (fun w' => w'.cell? ⟨gP, F.length - 1 + k, none⟩ = some (.slice (some ⟨g, o, none⟩) mm cc) ∧ w'.cell? ⟨gR, k, none⟩ = some (.slice (some ⟨g, o, none⟩) mm cc)) (first | exact ⟨y1, y2⟩ | exact ⟨z1, z2⟩) (first | (go_at_call 19; refine (same_off g o mm cc cc wr.drew hmm2 hgk htk2.out.drew).mono ?_; rintro e w10 ⟨rfl, hb10⟩; have z1 := cell_below y1 (below_undrew1 hb10); have z2 := cell_below y2 (below_undrew1 hb10)))
                                            all_goals
                                              clear hwr hwr2 htn hnn
                                              have hb11 : Below w8.heap.size w8 w10 := hbk.trans ((below_undrew1 hb10).mono hszk)
                                              go_wp2_with fail
                                              go_roundw
                                              case rel => exact ⟨k + 1, by omega, by omega, by go_num, hb11⟩
                                              case measure => simp [intOf]; omega
                                        · have hkq2 : ¬ (k : Int) < (R.length : Int) := by omega
                                          as_aux_lemma =>
                                            go_wp2_with fail
                                            go_ret
                                            exact ⟨rfl, hB8.trans (hbk.mono hB8.size)⟩

end Go.Proofs.Qxb6618081a.St
