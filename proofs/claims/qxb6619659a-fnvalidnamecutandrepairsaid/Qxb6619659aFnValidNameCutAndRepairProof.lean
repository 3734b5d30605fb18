/-
  'Rows.FnValidNameCutAndRepairSaid', proved. The frame is the given shell's, its world's word turned to 'Below'; the walk is filled in.
-/
import Derived.Test.Qxb6619659aRows
import Derived.WalkKit
import Derived.ProofKit
import Derived.OpenShut
import Derived.ShutString
import Derived.Below
import Derived.Test.Qxb6619659aRepair
namespace Go.Proofs.Qxb6619659a.fnValidNameCutAndRepair
open Go.ChangeShapes Go.WideShapes Go.ChangeAt Go.RowKit
open Go.ChangeMaps (open_string shut_string)
set_option linter.unusedVariables false      -- a walk need not use every 'w<i>' (that an integer argument fits its kind)

theorem own : ownKnob Try.prog.godebug = none := by kernel_rfl

/-! ### STEP 1: THE WALK -/
theorem zz_head (s : ByteArray) (i : Nat) (hs : s.size ≤ 65536) (w : World) :
    Calls Try.prog 11 #[.string (s.extract 0 i)] w fun e w' => e = .returned (.bool (Nm.valid (s.data.toList.take i))) ∧ w = w' := by
  have e1 : (s.extract 0 i).data.toList = s.data.toList.take i := by simp
  refine (Nm.zzvalid_any _ w (by simp; omega)).mono ?_
  rintro e w' ⟨rfl, rfl⟩
  rw [e1]
  exact ⟨rfl, rfl⟩
theorem zz_tail (s : ByteArray) (i : Nat) (hs : s.size ≤ 65536) (w : World) :
    Calls Try.prog 11 #[.string ({ data := #[48] } ++ s.extract i s.size)] w fun e w' => e = .returned (.bool (Nm.okTail (s.data.toList.drop i))) ∧ w = w' := by
  have e1 : ({ data := #[48] } ++ s.extract i s.size : ByteArray).data.toList = 48 :: s.data.toList.drop i := by
    simp
    apply List.take_of_length_le
    simp
  have e2 : ({ data := #[48] } ++ s.extract i s.size : ByteArray).size ≤ 65537 := by
    rw [← ByteArray.size_data, ← Array.length_toList, e1]; simp; omega
  refine (Nm.zzvalid_any _ w (by omega)).mono ?_
  rintro e w' ⟨rfl, rfl⟩
  rw [e1, Nm.valid_zero]
  exact ⟨rfl, rfl⟩
theorem zz_fixed (r : ByteArray) (l : List UInt8) (hr : r.size ≤ 65537) (h : r.data.toList = 48 :: l.map Nm.fix) (w : World) :
    Calls Try.prog 11 #[.string r] w fun e w' => e = .returned (.bool true) ∧ w = w' := by
  refine (Nm.zzvalid_any _ w (by omega)).mono ?_
  rintro e w' ⟨rfl, rfl⟩
  rw [h, Nm.valid_zero, Nm.okTail_fix]
  exact ⟨rfl, rfl⟩
theorem zz_whole (s : ByteArray) (hs : s.size ≤ 65536) (w : World) :
    Calls Try.prog 11 #[.string s] w fun e w' => e = .returned (.bool (Nm.valid s.data.toList)) ∧ w = w' := by
  refine (Nm.zzvalid_any _ w (by omega)).mono ?_
  rintro e w' ⟨rfl, rfl⟩
  exact ⟨rfl, rfl⟩

set_option maxHeartbeats 2000000 in
theorem walk (a0 : ByteArray) (a1 : Int) (w0 : a0.size ≤ maxLen) (w1 : (Lit.int .i64 a1).wf = true) (w : World) :
    Calls Try.prog 5 #[.string a0, .int .i64 a1] w fun e w' => e = .returned (.bool true) ∧ Below w.heap.size w w' := by
  obtain ⟨hi1, hi2⟩ := bounds_i64 w1
  unfold maxLen at w0
  by_cases hlen : a0.size ≤ 1048576
  · by_cases hlen2 : a0.size ≤ 65536
    · by_cases hz : a0.size = 0
      · have hv : Nm.valid a0.data.toList = false := by
          have : a0.data.toList = [] := by apply List.eq_nil_of_length_eq_zero; simpa using hz
          rw [this]; rfl
        have hzb : ((a0.size : Int) == 0) = true := by simp [hz]
        clear hz
        go_enter Try.func5, Try.ntmps5
        go_wp2_with (first | (go_at_call 13; go_in) | fail)
        refine (zz_whole a0 hlen2 _).mono ?_
        rintro e w' ⟨rfl, rfl⟩
        go_wp2_with fail
        refine (Nm.repair_any a0 _ hlen2).mono ?_
        rintro e w2 ⟨r, rfl, hr, hrl, hb⟩
        have Hrl := Nm.hide hrl
        have hr2 : r.size ≤ 65537 := by omega
        have Hr := Nm.hide hr
        clear hrl hr
        go_wp2_with fail
        refine (zz_fixed r _ hr2 Hrl.out _).mono ?_
        rintro e w' ⟨rfl, rfl⟩
        go_wp2
        go_ret
        exact ⟨rfl, hb⟩
      · have hzb : ((a0.size : Int) == 0) = false := beq_eq_false_iff_ne.2 (by omega)
        by_cases h0 : 1 ≤ a1
        · by_cases h1 : a1 ≤ a0.size
          · obtain ⟨i, rfl⟩ := Int.eq_ofNat_of_zero_le (show 0 ≤ a1 by omega)
            have hcut : Nm.valid a0.data.toList = (Nm.valid (a0.data.toList.take i) && Nm.okTail (a0.data.toList.drop i)) :=
              Nm.valid_cut _ _ (by omega) (by simp; omega)
            cases hH : Nm.valid (a0.data.toList.take i) with
            | false =>
              have hV : Nm.valid a0.data.toList = false := by rw [hcut, hH]; rfl
              clear hcut
              go_enter Try.func5, Try.ntmps5
              go_wp2_with (first | (go_at_call 13; go_in) | fail)
              refine (zz_whole a0 hlen2 _).mono ?_
              rintro e w' ⟨rfl, rfl⟩
              go_wp2_with fail
              refine (Nm.repair_any a0 _ hlen2).mono ?_
              rintro e w2 ⟨r, rfl, hr, hrl, hb⟩
              have Hrl := Nm.hide hrl
              have hr2 : r.size ≤ 65537 := by omega
              have Hr := Nm.hide hr
              clear hrl hr
              go_wp2_with fail
              refine (zz_head a0 i hlen2 _).mono ?_
              rintro e w' ⟨rfl, rfl⟩
              go_wp2_with fail
              refine (zz_fixed r _ hr2 Hrl.out _).mono ?_
              rintro e w' ⟨rfl, rfl⟩
              go_wp2
              go_ret
              exact ⟨rfl, hb⟩
            | true =>
              have hV : Nm.valid a0.data.toList = Nm.okTail (a0.data.toList.drop i) := by rw [hcut, hH]; rfl
              clear hcut
              by_cases hil : i = a0.size
              · have hilb : ((i : Int) == (a0.size : Int)) = true := by simp [hil]
                have hV2 : Nm.valid a0.data.toList = true := by
                  rw [hV, List.drop_eq_nil_of_le (by simp [hil])]; rfl
                clear hV hil
                go_enter Try.func5, Try.ntmps5
                go_wp2_with (first | (go_at_call 13; go_in) | fail)
                refine (zz_whole a0 hlen2 _).mono ?_
                rintro e w' ⟨rfl, rfl⟩
                go_wp2_with fail
                refine (Nm.repair_any a0 _ hlen2).mono ?_
                rintro e w2 ⟨r, rfl, hr, hrl, hb⟩
                have Hrl := Nm.hide hrl
                have hr2 : r.size ≤ 65537 := by omega
                have Hr := Nm.hide hr
                clear hrl hr
                go_wp2_with fail
                refine (zz_head a0 i hlen2 _).mono ?_
                rintro e w' ⟨rfl, rfl⟩
                go_wp2_with fail
                refine (zz_fixed r _ hr2 Hrl.out _).mono ?_
                rintro e w' ⟨rfl, rfl⟩
                go_wp2
                go_ret
                exact ⟨rfl, hb⟩
              · have hilb : ((i : Int) == (a0.size : Int)) = false := by simp; omega
                clear hil
                cases hT : Nm.okTail (a0.data.toList.drop i) with
                | true =>
                  rw [hT] at hV
                  go_enter Try.func5, Try.ntmps5
                  go_wp2_with (first | (go_at_call 13; go_in) | fail)
                  refine (zz_whole a0 hlen2 _).mono ?_
                  rintro e w' ⟨rfl, rfl⟩
                  go_wp2_with fail
                  refine (Nm.repair_any a0 _ hlen2).mono ?_
                  rintro e w2 ⟨r, rfl, hr, hrl, hb⟩
                  have Hrl := Nm.hide hrl
                  have hr2 : r.size ≤ 65537 := by omega
                  have Hr := Nm.hide hr
                  clear hrl hr
                  go_wp2_with fail
                  refine (zz_head a0 i hlen2 _).mono ?_
                  rintro e w' ⟨rfl, rfl⟩
                  go_wp2_with fail
                  refine (zz_tail a0 i hlen2 _).mono ?_
                  rintro e w' ⟨rfl, rfl⟩
                  go_wp2_with fail
                  refine (zz_fixed r _ hr2 Hrl.out _).mono ?_
                  rintro e w' ⟨rfl, rfl⟩
                  go_wp2
                  go_ret
                  exact ⟨rfl, hb⟩
                | false =>
                  rw [hT] at hV
                  go_enter Try.func5, Try.ntmps5
                  go_wp2_with (first | (go_at_call 13; go_in) | fail)
                  refine (zz_whole a0 hlen2 _).mono ?_
                  rintro e w' ⟨rfl, rfl⟩
                  go_wp2_with fail
                  refine (Nm.repair_any a0 _ hlen2).mono ?_
                  rintro e w2 ⟨r, rfl, hr, hrl, hb⟩
                  have Hrl := Nm.hide hrl
                  have hr2 : r.size ≤ 65537 := by omega
                  have Hr := Nm.hide hr
                  clear hrl hr
                  go_wp2_with fail
                  refine (zz_head a0 i hlen2 _).mono ?_
                  rintro e w' ⟨rfl, rfl⟩
                  go_wp2_with fail
                  refine (zz_tail a0 i hlen2 _).mono ?_
                  rintro e w' ⟨rfl, rfl⟩
                  go_wp2_with fail
                  refine (zz_fixed r _ hr2 Hrl.out _).mono ?_
                  rintro e w' ⟨rfl, rfl⟩
                  go_wp2
                  go_ret
                  exact ⟨rfl, hb⟩
          · clear hz
            go_enter Try.func5, Try.ntmps5
            go_wp2_with (first | (go_at_call 13; go_in) | fail)
            refine (zz_whole a0 hlen2 _).mono ?_
            rintro e w' ⟨rfl, rfl⟩
            go_wp2_with fail
            refine (Nm.repair_any a0 _ hlen2).mono ?_
            rintro e w2 ⟨r, rfl, hr, hrl, hb⟩
            have Hrl := Nm.hide hrl
            have hr2 : r.size ≤ 65537 := by omega
            have Hr := Nm.hide hr
            clear hrl hr
            go_wp2
            go_ret
            exact ⟨rfl, hb⟩
        · clear hz
          go_enter Try.func5, Try.ntmps5
          go_wp2_with (first | (go_at_call 13; go_in) | fail)
          refine (zz_whole a0 hlen2 _).mono ?_
          rintro e w' ⟨rfl, rfl⟩
          go_wp2_with fail
          refine (Nm.repair_any a0 _ hlen2).mono ?_
          rintro e w2 ⟨r, rfl, hr, hrl, hb⟩
          have Hrl := Nm.hide hrl
          have hr2 : r.size ≤ 65537 := by omega
          have Hr := Nm.hide hr
          clear hrl hr
          go_wp2
          go_ret
          exact ⟨rfl, hb⟩
    · go_enter Try.func5, Try.ntmps5
      go_wp2
      go_ret
      exact ⟨rfl, Below.refl _ _⟩
  · go_enter Try.func5, Try.ntmps5
    go_wp2
    go_ret
    exact ⟨rfl, Below.refl _ _⟩

/-! ### THE ROW's STEP: WRITTEN OUT: LEAVE IT -/
set_option maxRecDepth 100000 in
theorem lifted (os : Os) (started : os.Started) (H : Type) (enc : TypeId × Value → H) :
    ReturnsInHanded {} Try.checked os 5 .any (Rows.fnValidNameCutAndRepairSpec.pre6 enc Try.prog Try.f5 Rows.fnValidNameCutAndRepairRow.domain false) (Rows.fnValidNameCutAndRepairSpec.post enc Try.prog Try.f5 false true false false) := by
  refine returnsInHanded_of_change (C := Try.checked) own started (by kernel_rfl) Try.func5
    (ChangeSpec.witness6 (enc := enc) (C := Try.checked) false ⟨#[], #[.string ByteArray.empty, .int .i64 0], []⟩ 8 (by kernel_rfl) (by kernel_rfl) (by kernel_rfl) (by kernel_rfl)) ?_
  intro W base args ds gs before hval0 hW hcnd _
  have hval : ∀ (j : Nat) t v, Try.f5.params[j]? = some t → args[j]? = some v → Value.okWide Try.prog W .any base t v := hval0
  have hW' := hW
  obtain ⟨p, q, hA0, hV, rfl, hfz, hnd⟩ := hW
  have hA : DataW.TrodAll enc Try.prog W 0 (fun _ => true) true Try.f5.params.toList args.toList ds p := hA0
  rw [Try.params5] at hA hval
  obtain ⟨v0, vs0, d0, ds0, p0, q0, hargs, rfl, rfl, h0, r0⟩ := trodAll_cons hA
  obtain ⟨v1, vs1, d1, ds1, p1, q1, rfl, rfl, rfl, h1, r1⟩ := trodAll_cons r0
  obtain ⟨rfl, rfl, rfl⟩ := trodAll_nil r1
  obtain rfl : args = #[v0, v1] := by cases args; simp_all
  obtain ⟨rfl, rfl⟩ := trodVars_none hV
  obtain ⟨a0, rfl, rfl, rfl, w0⟩ := open_string Try.underlying9 (hval 0 9 v0 rfl rfl) h0
  obtain ⟨a1, rfl, rfl, rfl, w1⟩ := open_int Try.underlying3 (hval 1 3 v1 rfl rfl) h1
  clear hA0 hval0
  simp only [List.append_nil] at hW'
  refine (walk a0 a1 w0 w1 W).mono fun e W' ⟨he, bel⟩ => ?_
  subst he
  exact ⟨_, rfl, _, _, _, [], _, [], hW', trodAll_mk1 (shut_bool Try.underlying4 _), (trodAll_cons_mk (shut_string Try.underlying9 w0) (trodAll_cons_mk (shut_int Try.underlying3 w1) trodAll_mk0)), rfl, bel.frame _, fun h => by cases h⟩

theorem over : Rows.fnValidNameCutAndRepairRow.holds Try.pinned (OpenSpec.ofChange Rows.fnValidNameCutAndRepairSpec) :=
  OpenClaim.holds_of_wide 5 Try.f5 rfl rfl rfl rfl rfl rfl rfl ⟨rfl, rfl, rfl, rfl, rfl⟩ rfl rfl rfl rfl rfl (by kernel_rfl) Try.func5 (by kernel_rfl)
    (of_decide_eq_true (by kernel_rfl)) (by unfold Func.isWrapper; first | (rw [if_pos (by decide +kernel)]; kernel_rfl) | (rw [if_neg (by decide +kernel)]; exact ⟨rfl, rfl⟩))
    (fun os started H enc _ => lifted os started H enc)

/-- ████ THE STATEMENT ████ -/
theorem proved : Rows.FnValidNameCutAndRepairSaid :=
  over
#print axioms proved
end Go.Proofs.Qxb6619659a.fnValidNameCutAndRepair
