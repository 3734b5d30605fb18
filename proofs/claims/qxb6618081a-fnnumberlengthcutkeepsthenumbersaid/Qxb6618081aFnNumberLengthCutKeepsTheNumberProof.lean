/-
  'Rows.FnNumberLengthCutKeepsTheNumberSaid', proved. The frame is the given shell's; the walk is filled in.
-/
import Derived.Test.Qxb6618081aRows
import Derived.WalkKit
import Derived.ProofKit
import Derived.OpenShut
import Derived.ShutString
import Derived.Test.Qxb6618081aNumWalk
namespace Go.Proofs.Qxb6618081a.fnNumberLengthCutKeepsTheNumber
open Go.ChangeShapes Go.WideShapes Go.ChangeAt Go.RowKit
open Go.ChangeMaps (open_string shut_string)
set_option linter.unusedVariables false      -- a walk need not use every 'w<i>' (that an integer argument fits its kind)

theorem own : ownKnob Try.prog.godebug = none := by kernel_rfl

theorem Num.digs_ge {s : ByteArray} {k : Nat} (hk : k ≤ s.size) (h : ∀ j, 0 ≤ j → j < k → Num.D s j) : k ≤ Num.digs s.data.toList := by
  have key : ∀ m n, n + m = k → m ≤ Num.digs (s.data.toList.drop n) := by
    intro m
    induction m with
    | zero => intro n _; omega
    | succ m ih =>
      intro n hn
      have hl : n < s.size := by omega
      rw [Num.drop_cons s n hl]
      have hd := (Num.D_isD hl).1 (h n (Nat.zero_le _) (by omega))
      have := ih (n + 1) (by omega)
      simp only [Num.digs, hd, if_true]
      omega
  simpa using key k 0 (by omega)

/-! ### STEP 1: THE WALK: the Go text returns true. 'Grown w w'': the world has at most new blocks (Derived/RowKit3.lean). Part the cases AHEAD of 'go_enter' where a test parts the walk; take each callee by a contract of your own. -/
set_option maxHeartbeats 2000000 in
theorem walk (a0 : ByteArray) (a1 : Int) (w0 : a0.size ≤ maxLen) (w1 : (Lit.int .i64 a1).wf = true) (w : World) :
    Calls Try.prog 4 #[.string a0, .int .i64 a1] w fun e w' => e = .returned (.bool true) ∧ Grown w w' := by
  have hi : -9223372036854775808 ≤ a1 ∧ a1 ≤ 9223372036854775807 := bounds_i64 w1
  obtain ⟨hi1, hi2⟩ := hi
  unfold maxLen at w0
  by_cases hlen : a0.size ≤ 1048576
  · by_cases h0 : 0 ≤ a1
    · by_cases h1 : a1 ≤ a0.size
      · obtain ⟨i, rfl⟩ := Int.eq_ofNat_of_zero_le h0
        have hnl : Num.numLen a0.data.toList ≤ a0.size := by simpa using Num.numLen_le a0.data.toList
        have hes : (a0.extract 0 i).size = i := by simp; omega
        have hcl : Num.numLen (List.take i a0.data.toList) ≤ i := by
          have := Num.numLen_le (List.take i a0.data.toList)
          simp only [List.length_take] at this
          omega
        have Hcut : Hid (Num.numLen a0.data.toList ≤ i → Num.numLen (List.take i a0.data.toList) = Num.numLen a0.data.toList) := Num.hide (Num.numLen_take _ _)
        have HS : Hid ((a0.extract 0 i).size = i) := Num.hide hes
        clear hes
        go_enter Try.func4, Try.ntmps4
        go_wp2_with (first | (go_at_call 9; refine (Num.zznumber_any a0 _ hlen).mono ?_; rintro e w' ⟨rfl, rfl⟩) | go_in)
        go_loop [6] (fun d => ∃ k : Nat, k ≤ a0.size ∧ d = .int .i64 k ∧ k ≤ Num.numLen a0.data.toList ∧ Hid (∀ j, 0 ≤ j → j < k → Num.D a0 j)) (fun d => a0.size - (intOf d).toNat)
        case atStart => exact ⟨0, Nat.zero_le _, rfl, Nat.zero_le _, Num.hide (fun j a b => by omega)⟩
        case round =>
          obtain ⟨k, hk, rfl, hkr, hd⟩ := hrel
          by_cases hlt : k < a0.size
          · by_cases hd1 : 48 ≤ (a0[k].toNat : Int)
            · by_cases hd2 : (a0[k].toNat : Int) ≤ 57
              · have hon := Num.Stop.more hd.out hlt hd1 hd2
                have hge := Nat.le_trans (Num.digs_ge (by omega) hon) (Num.digs_le_numLen a0.data.toList)
                have Hon : Hid (∀ j, 0 ≤ j → j < k + 1 → Num.D a0 j) := Num.hide hon
                clear hon
                go_wp2
                go_round
                case rel => exact ⟨k + 1, by omega, by go_num, hge, Hon⟩
                case measure => simp [intOf]; omega
              · by_cases hir : Num.numLen a0.data.toList ≤ i
                · have hb : ((Num.numLen (List.take i a0.data.toList) : Int) == (Num.numLen a0.data.toList : Int)) = true := by rw [Hcut.out hir]; simp
                  go_wp2_with (go_at_call 9; refine (Num.zznumber_any (a0.extract 0 i) _ (by rw [HS.out]; omega)).mono ?_; rintro e w' ⟨rfl, rfl⟩)
                  go_ret
                  exact ⟨rfl, Grown.refl _⟩
                · have hc2 : Num.numLen (List.take i a0.data.toList) ≤ Num.numLen a0.data.toList := by omega
                  go_wp2_with (go_at_call 9; refine (Num.zznumber_any (a0.extract 0 i) _ (by rw [HS.out]; omega)).mono ?_; rintro e w' ⟨rfl, rfl⟩)
                  go_ret
                  exact ⟨rfl, Grown.refl _⟩
            · by_cases hir : Num.numLen a0.data.toList ≤ i
              · have hb : ((Num.numLen (List.take i a0.data.toList) : Int) == (Num.numLen a0.data.toList : Int)) = true := by rw [Hcut.out hir]; simp
                go_wp2_with (go_at_call 9; refine (Num.zznumber_any (a0.extract 0 i) _ (by rw [HS.out]; omega)).mono ?_; rintro e w' ⟨rfl, rfl⟩)
                go_ret
                exact ⟨rfl, Grown.refl _⟩
              · have hc2 : Num.numLen (List.take i a0.data.toList) ≤ Num.numLen a0.data.toList := by omega
                go_wp2_with (go_at_call 9; refine (Num.zznumber_any (a0.extract 0 i) _ (by rw [HS.out]; omega)).mono ?_; rintro e w' ⟨rfl, rfl⟩)
                go_ret
                exact ⟨rfl, Grown.refl _⟩
          · by_cases hir : Num.numLen a0.data.toList ≤ i
            · have hb : ((Num.numLen (List.take i a0.data.toList) : Int) == (Num.numLen a0.data.toList : Int)) = true := by rw [Hcut.out hir]; simp
              go_wp2_with (go_at_call 9; refine (Num.zznumber_any (a0.extract 0 i) _ (by rw [HS.out]; omega)).mono ?_; rintro e w' ⟨rfl, rfl⟩)
              go_ret
              exact ⟨rfl, Grown.refl _⟩
            · have hc2 : Num.numLen (List.take i a0.data.toList) ≤ Num.numLen a0.data.toList := by omega
              go_wp2_with (go_at_call 9; refine (Num.zznumber_any (a0.extract 0 i) _ (by rw [HS.out]; omega)).mono ?_; rintro e w' ⟨rfl, rfl⟩)
              go_ret
              exact ⟨rfl, Grown.refl _⟩
      · go_enter Try.func4, Try.ntmps4
        go_wp2
        go_ret
        exact ⟨rfl, by repeat (first | exact Grown.refl _ | apply Grown.drew | apply Grown.alloc)⟩
    · go_enter Try.func4, Try.ntmps4
      go_wp2
      go_ret
      exact ⟨rfl, by repeat (first | exact Grown.refl _ | apply Grown.drew | apply Grown.alloc)⟩
  · go_enter Try.func4, Try.ntmps4
    go_wp2
    go_ret
    exact ⟨rfl, by repeat (first | exact Grown.refl _ | apply Grown.drew | apply Grown.alloc)⟩

/-! ### THE ROW's STEP: WRITTEN OUT: LEAVE IT -/
set_option maxRecDepth 100000 in
theorem lifted (os : Os) (started : os.Started) (H : Type) (enc : TypeId × Value → H) :
    ReturnsInHanded {} Try.checked os 4 .any (Rows.fnNumberLengthCutKeepsTheNumberSpec.pre6 enc Try.prog Try.f4 Rows.fnNumberLengthCutKeepsTheNumberRow.domain false) (Rows.fnNumberLengthCutKeepsTheNumberSpec.post enc Try.prog Try.f4 false true false false) := by
  refine returnsInHanded_of_change (C := Try.checked) own started (by kernel_rfl) Try.func4
    (ChangeSpec.witness6 (enc := enc) (C := Try.checked) false ⟨#[], #[.string ByteArray.empty, .int .i64 0], []⟩ 8 (by kernel_rfl) (by kernel_rfl) (by kernel_rfl) (by kernel_rfl)) ?_
  intro W base args ds gs before hval0 hW hcnd _
  have hval : ∀ (j : Nat) t v, Try.f4.params[j]? = some t → args[j]? = some v → Value.okWide Try.prog W .any base t v := hval0
  have hW' := hW
  obtain ⟨p, q, hA0, hV, rfl, hfz, hnd⟩ := hW
  have hA : DataW.TrodAll enc Try.prog W 0 (fun _ => true) true Try.f4.params.toList args.toList ds p := hA0
  rw [Try.params4] at hA hval
  obtain ⟨v0, vs0, d0, ds0, p0, q0, hargs, rfl, rfl, h0, r0⟩ := trodAll_cons hA
  obtain ⟨v1, vs1, d1, ds1, p1, q1, rfl, rfl, rfl, h1, r1⟩ := trodAll_cons r0
  obtain ⟨rfl, rfl, rfl⟩ := trodAll_nil r1
  obtain rfl : args = #[v0, v1] := by cases args; simp_all
  obtain ⟨rfl, rfl⟩ := trodVars_none hV
  obtain ⟨a0, rfl, rfl, rfl, w0⟩ := open_string Try.underlying9 (hval 0 9 v0 rfl rfl) h0
  obtain ⟨a1, rfl, rfl, rfl, w1⟩ := open_int Try.underlying3 (hval 1 3 v1 rfl rfl) h1
  clear hA0 hval0
  simp only [List.append_nil] at hW'
  refine (walk a0 a1 w0 w1 W).mono fun e W' ⟨he, hg⟩ => ?_
  subst he
  exact ⟨_, rfl, post_of_same (pa := []) (pv := []) hW' (fun _ _ _ => (trodAll_cons_mk (shut_bool Try.underlying4 _) trodAll_mk0)) (fun sp _ => (trodAll_cons_mk (shut_string Try.underlying9 w0) (trodAll_cons_mk (shut_int Try.underlying3 w1) trodAll_mk0))) (fun _ _ => rfl) rfl
    (hg.frame _) hg.2.1 (ok_one (by kernel_rfl) rfl (okWide_bool_mk Try.underlying4 _))⟩

theorem over : Rows.fnNumberLengthCutKeepsTheNumberRow.holds Try.pinned (OpenSpec.ofChange Rows.fnNumberLengthCutKeepsTheNumberSpec) :=
  OpenClaim.holds_of_wide 4 Try.f4 rfl rfl rfl rfl rfl rfl rfl ⟨rfl, rfl, rfl, rfl, rfl⟩ rfl rfl rfl rfl rfl (by kernel_rfl) Try.func4 (by kernel_rfl)
    (of_decide_eq_true (by kernel_rfl)) (by unfold Func.isWrapper; first | (rw [if_pos (by decide +kernel)]; kernel_rfl) | (rw [if_neg (by decide +kernel)]; exact ⟨rfl, rfl⟩))
    (fun os started H enc _ => lifted os started H enc)

/-- ████ THE STATEMENT ████ -/
theorem proved : Rows.FnNumberLengthCutKeepsTheNumberSaid :=
  over
#print axioms proved
end Go.Proofs.Qxb6618081a.fnNumberLengthCutKeepsTheNumber
