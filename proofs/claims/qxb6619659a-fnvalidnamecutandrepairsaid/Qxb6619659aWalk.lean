/-
  validName, walked: it computes Nm.valid.
-/
import Derived.Test.Qxb6619659aRows
import Derived.WalkKit
import Derived.ProofKit
import Derived.Test.Qxb6619659aPlain
namespace Go.Proofs.Qxb6619659a.Nm
open Go.ChangeShapes Go.WideShapes Go.ChangeAt Go.RowKit
set_option linter.unusedVariables false

theorem hide {p : Prop} (h : p) : Hid p := h
theorem ret_bool {a b : Bool} (h : a = b) : Ending.returned (.bool a) = .returned (.bool b) := by rw [h]
theorem drop_cons (s : ByteArray) (n : Nat) (h : n < s.size) : s.data.toList.drop n = s[n] :: s.data.toList.drop (n + 1) := by
  rw [List.drop_eq_getElem_cons (by simpa using h)]; rfl
theorem drop_nil (s : ByteArray) (n : Nat) (h : s.size ≤ n) : s.data.toList.drop n = [] :=
  List.drop_eq_nil_of_le (by simpa using h)

theorem isAlnum_any (c : Int) (w : World) :
    Calls Try.prog 17 #[.int .u8 c] w fun e w' => e = .returned (.bool (alB c)) ∧ w' = w := by
  have h : alB c = decide ((97 ≤ c ∧ c ≤ 122) ∨ (65 ≤ c ∧ c ≤ 90) ∨ (48 ≤ c ∧ c ≤ 57)) := rfl
  rw [h]
  clear h
  have e7 : (122 < c) ∨ (97 ≤ c ∧ c ≤ 122) ∨ (90 < c ∧ c < 97) ∨ (65 ≤ c ∧ c ≤ 90) ∨ (57 < c ∧ c < 65) ∨ (48 ≤ c ∧ c ≤ 57) ∨ c < 48 := by omega
  rcases e7 with h | ⟨h, h'⟩ | ⟨h, h'⟩ | ⟨h, h'⟩ | ⟨h, h'⟩ | ⟨h, h'⟩ | h
  all_goals
    go_enter Try.func17, Try.ntmps17
    go_wp2
    go_ret
    refine ⟨ret_bool ?_, rfl⟩
    first | rfl | (symm; apply decide_eq_true; omega) | (symm; apply decide_eq_false; omega) | (rw [Bool.eq_iff_iff]; simp; omega)

theorem valid_first {s : ByteArray} (h : 0 < s.size) : valid s.data.toList = (alB (s[0].toNat : Int) && okTail (s.data.toList.drop 1)) := by
  have := drop_cons s 0 h
  rw [List.drop_zero] at this
  rw [this]; rfl
theorem okTail_at {s : ByteArray} {k : Nat} (h : k < s.size) : okTail (s.data.toList.drop k) = (inB (s[k].toNat : Int) && okTail (s.data.toList.drop (k + 1))) := by
  rw [drop_cons s k h]; rfl

set_option maxHeartbeats 1000000 in
theorem valid_any (s : ByteArray) (w : World) (hs : s.size ≤ 1048576) :
    Calls Try.prog 15 #[.string s] w fun e w' => e = .returned (.bool (valid s.data.toList)) ∧ w' = w := by
  by_cases h0 : s.size = 0
  · have e : s = ByteArray.empty := by
      apply ByteArray.ext
      apply Array.eq_empty_of_size_eq_zero h0
    subst e
    go_enter Try.func15, Try.ntmps15
    go_wp2
    go_ret
    exact ⟨rfl, rfl⟩
  · have hp : 0 < s.size := by omega
    have hne : s.toList.isEmpty = false := by
      rw [← decide_eq_emptyBytes]
      apply decide_eq_false
      intro e
      subst e
      exact h0 rfl
    cases ha : alB (s[0].toNat : Int) with
    | false =>
      have HV : Hid (valid s.data.toList = false) := hide (by rw [valid_first hp, ha]; rfl)
      go_enter Try.func15, Try.ntmps15
      go_wp2_with (go_at_call 17; refine (isAlnum_any _ _).mono ?_; rintro e w' ⟨rfl, rfl⟩)
      go_ret
      exact ⟨ret_bool HV.out.symm, rfl⟩
    | true =>
      have HV : Hid (valid s.data.toList = okTail (s.data.toList.drop 1)) := hide (by rw [valid_first hp, ha]; rfl)
      go_enter Try.func15, Try.ntmps15
      go_wp2_with (go_at_call 17; refine (isAlnum_any _ _).mono ?_; rintro e w' ⟨rfl, rfl⟩)
      go_loop [3, 4] (fun i c => ∃ k : Nat, 1 ≤ k ∧ k ≤ s.size ∧ i = .int .i64 k ∧ Hid (valid s.data.toList = okTail (s.data.toList.drop k))) (fun i _ => s.size - (intOf i).toNat)
      case atStart => exact ⟨1, by omega, by omega, rfl, HV⟩
      case round =>
        obtain ⟨k, hk1, hk, rfl, hv⟩ := hrel
        clear ha HV
        by_cases hlt : k < s.size
        · have HT : Hid (okTail (s.data.toList.drop k) = (inB (s[k].toNat : Int) && okTail (s.data.toList.drop (k + 1)))) := hide (okTail_at hlt)
          cases ha : alB (s[k].toNat : Int) with
          | true =>
            go_wp2_with (go_at_call 17; refine (isAlnum_any _ _).mono ?_; rintro e w' ⟨rfl, rfl⟩)
            go_round
            case rel => exact ⟨k + 1, by omega, by omega, by go_num, hide (by rw [hv.out, HT.out]; simp [inB, ha])⟩
            case measure => simp [intOf]; omega
          | false =>
            by_cases h95 : (s[k].toNat : Int) = 95
            · have hb : ((s[k].toNat : Int) != 95) = false := by simp [h95]
              have HI : Hid (inB (s[k].toNat : Int) = true) := hide (by simp [inB, h95])
              clear h95
              go_wp2_with (go_at_call 17; refine (isAlnum_any _ _).mono ?_; rintro e w' ⟨rfl, rfl⟩)
              go_round
              case rel => exact ⟨k + 1, by omega, by omega, by go_num, hide (by rw [hv.out, HT.out, HI.out]; rfl)⟩
              case measure => simp [intOf]; omega
            · have hb : ((s[k].toNat : Int) != 95) = true := by simp [h95]
              by_cases h46 : (s[k].toNat : Int) = 46
              · have hb2 : ((s[k].toNat : Int) != 46) = false := by simp [h46]
                have HI : Hid (inB (s[k].toNat : Int) = true) := hide (by simp [inB, h46])
                clear h95 h46
                go_wp2_with (go_at_call 17; refine (isAlnum_any _ _).mono ?_; rintro e w' ⟨rfl, rfl⟩)
                go_round
                case rel => exact ⟨k + 1, by omega, by omega, by go_num, hide (by rw [hv.out, HT.out, HI.out]; rfl)⟩
                case measure => simp [intOf]; omega
              · have hb2 : ((s[k].toNat : Int) != 46) = true := by simp [h46]
                by_cases h45 : (s[k].toNat : Int) = 45
                · have hb3 : ((s[k].toNat : Int) != 45) = false := by simp [h45]
                  have HI : Hid (inB (s[k].toNat : Int) = true) := hide (by simp [inB, h45])
                  clear h95 h46 h45
                  go_wp2_with (go_at_call 17; refine (isAlnum_any _ _).mono ?_; rintro e w' ⟨rfl, rfl⟩)
                  go_round
                  case rel => exact ⟨k + 1, by omega, by omega, by go_num, hide (by rw [hv.out, HT.out, HI.out]; rfl)⟩
                  case measure => simp [intOf]; omega
                · have hb3 : ((s[k].toNat : Int) != 45) = true := by simp [h45]
                  have HI : Hid (inB (s[k].toNat : Int) = false) := hide (by simp [inB, h45, h46, h95, ha])
                  clear h95 h46 h45
                  go_wp2_with (go_at_call 17; refine (isAlnum_any _ _).mono ?_; rintro e w' ⟨rfl, rfl⟩)
                  go_ret
                  exact ⟨ret_bool (by rw [hv.out, HT.out, HI.out]; rfl), rfl⟩
        · go_wp2
          go_ret
          exact ⟨ret_bool (by rw [hv.out, drop_nil s k (by omega)]; rfl), rfl⟩

theorem zzvalid_any (s : ByteArray) (w : World) (hs : s.size ≤ 1048576) :
    Calls Try.prog 11 #[.string s] w fun e w' => e = .returned (.bool (valid s.data.toList)) ∧ w' = w := by
  go_enter Try.func11, Try.ntmps11
  go_wp2_with (go_at_call 15; refine (valid_any _ _ hs).mono ?_; rintro e w' ⟨rfl, rfl⟩)
  go_ret
  exact ⟨rfl, rfl⟩
end Go.Proofs.Qxb6619659a.Nm
