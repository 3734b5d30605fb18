/-
  'Rows.FnNumberLengthIsLongestNumericPrefixSaid', proved. The frame is the given shell's; the walk is filled in.
-/
import Derived.Test.Qxb6618081aRows
import Derived.WalkKit
import Derived.ProofKit
import Derived.OpenShut
import Derived.ShutString
import Derived.Test.Qxb6618081aNumWalk
namespace Go.Proofs.Qxb6618081a.fnNumberLengthIsLongestNumericPrefix
open Go.ChangeShapes Go.WideShapes Go.ChangeAt Go.RowKit
open Go.ChangeMaps (open_string shut_string)
set_option linter.unusedVariables false      -- a walk need not use every 'w<i>' (that an integer argument fits its kind)

theorem own : ownKnob Try.prog.godebug = none := by kernel_rfl

/-! ### STEP 1: THE WALK -/
/-- numStep, as the walk sees it -/
def stepI (st : Int) (c : Int) : Int :=
  if st = 0 then (if 48 ≤ c ∧ c ≤ 57 then 0 else if c = 46 then 1 else if c = 101 ∨ c = 69 then 2 else 5)
  else if st = 1 then (if 48 ≤ c ∧ c ≤ 57 then 1 else if c = 101 ∨ c = 69 then 2 else 5)
  else if st = 2 then (if 48 ≤ c ∧ c ≤ 57 then 4 else if c = 43 ∨ c = 45 then 3 else 5)
  else if st = 3 then (if 48 ≤ c ∧ c ≤ 57 then 4 else 5)
  else if st = 4 then (if 48 ≤ c ∧ c ≤ 57 then 4 else 5)
  else 5

set_option maxHeartbeats 2000000 in
theorem step_any (st c : Int) (h0 : 0 ≤ st) (h4 : st ≤ 4) (w : World) :
    Calls Try.prog 10 #[.int .i64 st, .int .u8 c] w fun e w' => e = .returned (.int .i64 (stepI st c)) ∧ w = w' := by
  have hc : c = 43 ∨ c = 45 ∨ c = 46 ∨ c = 69 ∨ c = 101 ∨ ((c ≠ 43 ∧ c ≠ 45 ∧ c ≠ 46 ∧ c ≠ 69 ∧ c ≠ 101) ∧ (c < 48 ∨ (48 ≤ c ∧ c ≤ 57) ∨ 57 < c)) := by omega
  have hst : st = 0 ∨ st = 1 ∨ st = 2 ∨ st = 3 ∨ st = 4 := by omega
  clear h0 h4
  rcases hst with rfl | rfl | rfl | rfl | rfl
  all_goals
    rcases hc with rfl | rfl | rfl | rfl | rfl | ⟨⟨e43, e45, e46, e69, e101⟩, hr⟩
    case inr.inr.inr.inr.inr =>
      have b43 : (c == 43) = false := beq_eq_false_iff_ne.2 e43
      have b45 : (c == 45) = false := beq_eq_false_iff_ne.2 e45
      have b46 : (c == 46) = false := beq_eq_false_iff_ne.2 e46
      have b69 : (c == 69) = false := beq_eq_false_iff_ne.2 e69
      have b101 : (c == 101) = false := beq_eq_false_iff_ne.2 e101
      have HE : Hid (c ≠ 43 ∧ c ≠ 45 ∧ c ≠ 46 ∧ c ≠ 69 ∧ c ≠ 101) := Num.hide ⟨e43, e45, e46, e69, e101⟩
      clear e43 e45 e46 e69 e101
      rcases hr with hr | ⟨hr, hr'⟩ | hr
      all_goals
        go_enter Try.func10, Try.ntmps10
        go_wp2
        go_ret
        refine ⟨Num.ret_int ?_, rfl⟩
        have he := HE.out
        unfold stepI
        repeat' split
        all_goals omega
    all_goals
      go_enter Try.func10, Try.ntmps10
      go_wp2
      go_ret
      exact ⟨rfl, rfl⟩

theorem isD_int (c : UInt8) : (Num.isD c = true) = (48 ≤ (c.toNat : Int) ∧ (c.toNat : Int) ≤ 57) := propext (Num.isD_iff c)
theorem beq_int (c : UInt8) (n : Nat) (hn : n < 256) : (c = UInt8.ofNat n) = ((c.toNat : Int) = n) := by
  apply propext
  constructor
  · intro h
    rw [h, UInt8.toNat_ofNat', Nat.mod_eq_of_lt (by omega)]
  · exact Num.byte_eq hn
theorem step_eq (st : Nat) (c : UInt8) : (Num.step st c : Int) = stepI st c.toNat := by
  have e46 : (c = 46) = ((c.toNat : Int) = 46) := beq_int c 46 (by omega)
  have e101 : (c = 101) = ((c.toNat : Int) = 101) := beq_int c 101 (by omega)
  have e69 : (c = 69) = ((c.toNat : Int) = 69) := beq_int c 69 (by omega)
  have e43 : (c = 43) = ((c.toNat : Int) = 43) := beq_int c 43 (by omega)
  have e45 : (c = 45) = ((c.toNat : Int) = 45) := beq_int c 45 (by omega)
  unfold Num.step stepI
  simp only [isD_int, e46, e101, e69, e43, e45]
  repeat' split
  all_goals first | rfl | omega
theorem step_le (st : Nat) (c : UInt8) : Num.step st c ≤ 5 := by
  unfold Num.step
  repeat' split
  all_goals omega
theorem step_u (st : Nat) (c : UInt8) (h4 : st ≤ 4) (w : World) :
    Calls Try.prog 10 #[.int .i64 st, .int .u8 c.toNat] w fun e w' => e = .returned (.int .i64 (Num.step st c : Nat)) ∧ w = w' := by
  refine (step_any st c.toNat (by omega) (by omega) w).mono ?_
  rintro e w' ⟨rfl, rfl⟩
  rw [step_eq]
  exact ⟨rfl, rfl⟩

theorem scan_round (s : ByteArray) (st k last v : Nat) (hk : k < s.size) (h5 : st ≤ 4) (hv : Num.step st s[k] = v) (L : Nat) (h : Num.scan st k last (s.data.toList.drop k) = L) :
    Num.scan v (k + 1) (if Num.acc v then k + 1 else last) (s.data.toList.drop (k + 1)) = L := by
  rw [Num.drop_cons s k hk] at h
  simp only [Num.scan] at h
  rw [if_neg (by omega), hv] at h
  exact h

set_option maxHeartbeats 2000000 in
theorem walk (a0 : ByteArray) (w0 : a0.size ≤ maxLen) (w : World) :
    Calls Try.prog 3 #[.string a0] w fun e w' => e = .returned (.bool true) ∧ Grown w w' := by
  unfold maxLen at w0
  by_cases hlen : a0.size ≤ 1048576
  · have HL : Hid (Num.scan 0 0 0 (a0.data.toList.drop 0) = Num.numLen a0.data.toList) := Num.hide (Num.scan_numLen _)
    go_enter Try.func3, Try.ntmps3
    go_wp2_with (first | (go_at_call 9; refine (Num.zznumber_any a0 _ hlen).mono ?_; rintro e w' ⟨rfl, rfl⟩) | (go_at_call 8; go_in))
    go_loop [4, 5, 6] (fun s la i => ∃ k st last : Nat, k ≤ a0.size ∧ st ≤ 5 ∧ last ≤ k ∧ s = .int .i64 st ∧ la = .int .i64 last ∧ i = .int .i64 k ∧ Hid (Num.scan st k last (a0.data.toList.drop k) = Num.numLen a0.data.toList)) (fun _ _ i => a0.size - (intOf i).toNat)
    case atStart => exact ⟨0, 0, 0, by omega, by omega, by omega, rfl, rfl, rfl, HL⟩
    case round =>
      obtain ⟨k, st, last, hk, hst, hla, rfl, rfl, rfl, hsc⟩ := hrel
      clear HL
      by_cases hlt : k < a0.size
      · by_cases h5 : st = 5
        · have hb5 : ((st : Int) != 5) = false := by simp [h5]
          have hb : ((Num.numLen a0.data.toList : Int) == (last : Int)) = true := by
            have := hsc.out
            rw [h5, Num.scan5] at this
            simp [this]
          clear h5 hsc
          go_wp2
          go_ret
          exact ⟨rfl, Grown.refl _⟩
        · have hb5 : ((st : Int) != 5) = true := by rw [bne_iff_ne]; omega
          have hst4 : st ≤ 4 := by omega
          clear h5
          obtain ⟨v, hv⟩ : ∃ v, Num.step st a0[k] = v := ⟨_, rfl⟩
          have hv5 : v ≤ 5 := by have := step_le st a0[k]; omega
          have HR := Num.hide (scan_round a0 st k last v hlt hst4 hv _ hsc.out)
          clear hsc
          have hvv : v = 0 ∨ v = 1 ∨ v = 2 ∨ v = 3 ∨ v = 4 ∨ v = 5 := by omega
          rcases hvv with rfl | rfl | rfl | rfl | rfl | rfl
          all_goals
            go_wp2_with (go_at_call 10; refine (step_u st a0[k] hst4 _).mono ?_; rintro e w' ⟨rfl, rfl⟩)
            go_round
            case rel => exact ⟨k + 1, _, _, by omega, by omega, by first | omega | (split <;> omega), by go_num, by go_num, by go_num, HR⟩
            case measure => simp [intOf]; omega
      · have hb : ((Num.numLen a0.data.toList : Int) == (last : Int)) = true := by
          have := hsc.out
          rw [Num.drop_nil a0 k (by omega)] at this
          simp only [Num.scan] at this
          simp [this]
        clear hsc
        go_wp2
        go_ret
        exact ⟨rfl, Grown.refl _⟩
  · go_enter Try.func3, Try.ntmps3
    go_wp2
    go_ret
    exact ⟨rfl, Grown.refl _⟩

/-! ### THE ROW's STEP: WRITTEN OUT: LEAVE IT -/
set_option maxRecDepth 100000 in
theorem lifted (os : Os) (started : os.Started) (H : Type) (enc : TypeId × Value → H) :
    ReturnsInHanded {} Try.checked os 3 .any (Rows.fnNumberLengthIsLongestNumericPrefixSpec.pre6 enc Try.prog Try.f3 Rows.fnNumberLengthIsLongestNumericPrefixRow.domain false) (Rows.fnNumberLengthIsLongestNumericPrefixSpec.post enc Try.prog Try.f3 false true false false) := by
  refine returnsInHanded_of_change (C := Try.checked) own started (by kernel_rfl) Try.func3
    (ChangeSpec.witness6 (enc := enc) (C := Try.checked) false ⟨#[], #[.string ByteArray.empty], []⟩ 8 (by kernel_rfl) (by kernel_rfl) (by kernel_rfl) (by kernel_rfl)) ?_
  intro W base args ds gs before hval0 hW hcnd _
  have hval : ∀ (j : Nat) t v, Try.f3.params[j]? = some t → args[j]? = some v → Value.okWide Try.prog W .any base t v := hval0
  have hW' := hW
  obtain ⟨p, q, hA0, hV, rfl, hfz, hnd⟩ := hW
  have hA : DataW.TrodAll enc Try.prog W 0 (fun _ => true) true Try.f3.params.toList args.toList ds p := hA0
  rw [Try.params3] at hA hval
  obtain ⟨v0, vs0, d0, ds0, p0, q0, hargs, rfl, rfl, h0, r0⟩ := trodAll_cons hA
  obtain ⟨rfl, rfl, rfl⟩ := trodAll_nil r0
  obtain rfl : args = #[v0] := by cases args; simp_all
  obtain ⟨rfl, rfl⟩ := trodVars_none hV
  obtain ⟨a0, rfl, rfl, rfl, w0⟩ := open_string Try.underlying9 (hval 0 9 v0 rfl rfl) h0
  clear hA0 hval0
  simp only [List.append_nil] at hW'
  refine (walk a0 w0 W).mono fun e W' ⟨he, hg⟩ => ?_
  subst he
  exact ⟨_, rfl, post_of_same (pa := []) (pv := []) hW' (fun _ _ _ => (trodAll_cons_mk (shut_bool Try.underlying4 _) trodAll_mk0)) (fun sp _ => (trodAll_cons_mk (shut_string Try.underlying9 w0) trodAll_mk0)) (fun _ _ => rfl) rfl
    (hg.frame _) hg.2.1 (ok_one (by kernel_rfl) rfl (okWide_bool_mk Try.underlying4 _))⟩

theorem over : Rows.fnNumberLengthIsLongestNumericPrefixRow.holds Try.pinned (OpenSpec.ofChange Rows.fnNumberLengthIsLongestNumericPrefixSpec) :=
  OpenClaim.holds_of_wide 3 Try.f3 rfl rfl rfl rfl rfl rfl rfl ⟨rfl, rfl, rfl, rfl, rfl⟩ rfl rfl rfl rfl rfl (by kernel_rfl) Try.func3 (by kernel_rfl)
    (of_decide_eq_true (by kernel_rfl)) (by unfold Func.isWrapper; first | (rw [if_pos (by decide +kernel)]; kernel_rfl) | (rw [if_neg (by decide +kernel)]; exact ⟨rfl, rfl⟩))
    (fun os started H enc _ => lifted os started H enc)

/-- ████ THE STATEMENT ████ -/
theorem proved : Rows.FnNumberLengthIsLongestNumericPrefixSaid :=
  over
#print axioms proved
end Go.Proofs.Qxb6618081a.fnNumberLengthIsLongestNumericPrefix
