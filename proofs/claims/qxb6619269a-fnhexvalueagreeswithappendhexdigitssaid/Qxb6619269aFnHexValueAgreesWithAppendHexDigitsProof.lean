/-
  'Rows.FnHexValueAgreesWithAppendHexDigitsSaid', proved. The frame is the given shell's, its world's word turned to 'Below'; the walk is filled in.
-/
import Derived.Test.Qxb6619269aRows
import Derived.WalkKit
import Derived.ProofKit
import Derived.OpenShut
import Derived.ShutString
import Derived.Below
import Derived.Test.Qxb6619269aWalk
namespace Go.Proofs.Qxb6619269a.fnHexValueAgreesWithAppendHexDigits
open Go.ChangeShapes Go.WideShapes Go.ChangeAt Go.RowKit
open Go.ChangeMaps (open_string shut_string)
set_option linter.unusedVariables false      -- a walk need not use every 'w<i>' (that an integer argument fits its kind)

theorem own : ownKnob Try.prog.godebug = none := by kernel_rfl

/-! ### STEP 1: THE WALK -/
theorem owns_one {w : World} {base : Nat} {v : Value} {x : Value} (h : w.ownsRow base 5 1 v 1 [x]) : ∃ g cap, v = .slice (some ⟨g, 0, none⟩) 1 cap ∧ w.cell? ⟨g, 0, none⟩ = some x := by
  rcases h.2 with ⟨_, h'⟩ | ⟨g, cap, cur, rfl, _⟩
  · omega
  · exact ⟨g, cap, rfl, by rw [h.cellAt 0 (by omega)]; rfl⟩
theorem zz_one (k : Nat) (hk : k < 16) (w : World) :
    Calls Try.prog 21 #[.slice none 0 0, .int .u64 k] w fun e w' => ∃ g cap, e = .returned (.slice (some ⟨g, 0, none⟩) 1 cap) ∧ w'.cell? ⟨g, 0, none⟩ = some (.int .u8 ((Hx.hexc k : Nat) : Int)) ∧ Below w.heap.size w w' := by
  refine (Hx.zzappend_any (.slice none 0 0) 0 [] k w.heap.size w (World.ownsRow_nil _ _ _ _) (by omega) (by omega) (Nat.le_refl _)).mono ?_
  rintro e w' ⟨v', L, hL, rfl, ho, hg⟩
  have h1 : L = 1 := hL.unique ⟨by omega, by omega, by omega, .inl rfl⟩
  subst h1
  have e1 : ([] : List Value) ++ Hx.cellsOf (Hx.lowD k 1) = [.int .u8 ((Hx.hexc k : Nat) : Int)] := by
    simp [Hx.cellsOf, Hx.lowD, Nat.mod_eq_of_lt hk]
  rw [e1] at ho
  obtain ⟨g, cap, rfl, hc⟩ := owns_one ho
  exact ⟨g, cap, rfl, hc, (Below.refl w.heap.size w).grown hg (Nat.le_refl _) (by simp [Value.ownBlock])⟩

/-- what 'want' holds behind k rounds -/
def wantI (h : Int) (k : Nat) : Int := if 0 ≤ h ∧ h < k then h else -1
theorem wantI_bd (h : Int) (k : Nat) (hk : k ≤ 16) : -1 ≤ wantI h k ∧ wantI h k ≤ 15 := by unfold wantI; split <;> omega
theorem hexV_eq (c : Int) (k : Nat) (hk : k < 16) : Hx.hexV c = k ↔ (c = Hx.hexc k ∨ (97 ≤ (Hx.hexc k : Int) ∧ c = (Hx.hexc k : Int) - 32)) := by
  unfold Hx.hexV Hx.hexc
  repeat' split
  all_goals omega

set_option maxHeartbeats 2000000 in
theorem walk (a0 : Int) (w0 : (Lit.int .u8 a0).wf = true) (w : World) :
    Calls Try.prog 7 #[.int .u8 a0] w fun e w' => e = .returned (.bool true) ∧ Below w.heap.size w w' := by
  obtain ⟨hc0, hc1⟩ := bounds_u8 w0
  have hV : -1 ≤ Hx.hexV a0 ∧ Hx.hexV a0 ≤ 15 := by unfold Hx.hexV; repeat' split
                                                    all_goals omega
  obtain ⟨hV0, hV1⟩ := hV
  go_enter Try.func7, Try.ntmps7
  go_wp2
  go_loopw [3, 4] (fun wt v wr => ∃ k : Nat, k ≤ 16 ∧ v = .int .i64 k ∧ wt = .int .i64 (wantI (Hx.hexV a0) k) ∧ Below w.heap.size w wr) (fun _ v _ => 16 - (intOf v).toNat)
  case atStart => exact ⟨0, by omega, rfl, by unfold wantI; rw [if_neg (by omega)], Below.refl _ _⟩
  case round =>
    obtain ⟨k, hk, rfl, rfl, hbel⟩ := hrel
    have hsz := hbel.size
    by_cases hk16 : k < 16
    · obtain ⟨x, hx⟩ : ∃ x : Int, x = (Hx.hexc k : Nat) := ⟨_, rfl⟩
      have hxb : 48 ≤ x ∧ x ≤ 102 := by have := Hx.hexc_bd k hk16; omega
      obtain ⟨hx1, hx2⟩ := hxb
      have heq := hexV_eq a0 k hk16
      rw [← hx] at heq
      obtain ⟨t, ht⟩ : ∃ t, t = wantI (Hx.hexV a0) k := ⟨_, rfl⟩
      rw [← ht]
      have htb : -1 ≤ t ∧ t ≤ 15 := by rw [ht]; exact wantI_bd _ _ (by omega)
      obtain ⟨ht1, ht2⟩ := htb
      have HX := Hx.hide hx
      clear hx
      by_cases hm : Hx.hexV a0 = k
      · have hor := heq.1 hm
        have HR : Hid ((k : Int) = wantI (Hx.hexV a0) (k + 1)) := Hx.hide (by unfold wantI; rw [if_pos (by omega), hm])
        have ht0 : t < 0 := by rw [ht]; unfold wantI; rw [if_neg (by omega)]; omega
        clear heq ht hm
        rcases hor with hor | ⟨h97, hor⟩
        · have hb : (a0 == x) = true := by rw [beq_iff_eq]; exact hor
          clear hor
          go_wp2_with (go_at_call 21; refine (zz_one k hk16 _).mono ?_; rintro e w2 ⟨g, cap, rfl, hcell, hb2⟩; rw [← HX.out] at hcell)
          go_roundw
          case rel => exact ⟨k + 1, by omega, by go_num, congrArg (Value.int .i64) HR.out, hbel.trans (hb2.mono hsz)⟩
          case measure => simp [intOf]; omega
        · have hb : (a0 == x) = false := beq_eq_false_iff_ne.2 (by omega)
          have hb2 : (a0 == x - 32) = true := by rw [beq_iff_eq]; exact hor
          clear hor
          go_wp2_with (go_at_call 21; refine (zz_one k hk16 _).mono ?_; rintro e w2 ⟨g, cap, rfl, hcell, hb2⟩; rw [← HX.out] at hcell)
          go_roundw
          case rel => exact ⟨k + 1, by omega, by go_num, congrArg (Value.int .i64) HR.out, hbel.trans (hb2.mono hsz)⟩
          case measure => simp [intOf]; omega
      · have hne : ¬ (a0 = x ∨ (97 ≤ x ∧ a0 = x - 32)) := fun h => hm (heq.2 h)
        have HR : Hid (t = wantI (Hx.hexV a0) (k + 1)) := Hx.hide (by rw [ht]; unfold wantI; split <;> split <;> omega)
        clear heq ht hm
        have hb : (a0 == x) = false := beq_eq_false_iff_ne.2 (by omega)
        by_cases h97 : 97 ≤ x
        · have hb2 : (a0 == x - 32) = false := beq_eq_false_iff_ne.2 (by omega)
          clear hne
          go_wp2_with (go_at_call 21; refine (zz_one k hk16 _).mono ?_; rintro e w2 ⟨g, cap, rfl, hcell, hb2⟩; rw [← HX.out] at hcell)
          go_roundw
          case rel => exact ⟨k + 1, by omega, by go_num, congrArg (Value.int .i64) HR.out, hbel.trans (hb2.mono hsz)⟩
          case measure => simp [intOf]; omega
        · clear hne
          go_wp2_with (go_at_call 21; refine (zz_one k hk16 _).mono ?_; rintro e w2 ⟨g, cap, rfl, hcell, hb2⟩; rw [← HX.out] at hcell)
          go_roundw
          case rel => exact ⟨k + 1, by omega, by go_num, congrArg (Value.int .i64) HR.out, hbel.trans (hb2.mono hsz)⟩
          case measure => simp [intOf]; omega
    · have hke : k = 16 := by omega
      have hwv : wantI (Hx.hexV a0) k = Hx.hexV a0 := by
        unfold wantI; split <;> omega
      have hbe : (Hx.hexV a0 == wantI (Hx.hexV a0) k) = true := by rw [hwv]; simp
      clear hke hwv
      go_wp2_with (go_at_call 23; refine (Hx.zzhexValue_any a0 hc0 hc1 _).mono ?_; rintro e w' ⟨rfl, rfl⟩)
      go_ret
      exact ⟨rfl, hbel⟩

/-! ### THE ROW's STEP: WRITTEN OUT: LEAVE IT -/
set_option maxRecDepth 100000 in
theorem lifted (os : Os) (started : os.Started) (H : Type) (enc : TypeId × Value → H) :
    ReturnsInHanded {} Try.checked os 7 .any (Rows.fnHexValueAgreesWithAppendHexDigitsSpec.pre6 enc Try.prog Try.f7 Rows.fnHexValueAgreesWithAppendHexDigitsRow.domain false) (Rows.fnHexValueAgreesWithAppendHexDigitsSpec.post enc Try.prog Try.f7 false true false false) := by
  refine returnsInHanded_of_change (C := Try.checked) own started (by kernel_rfl) Try.func7
    (ChangeSpec.witness6 (enc := enc) (C := Try.checked) false ⟨#[], #[.int .u8 0], []⟩ 8 (by kernel_rfl) (by kernel_rfl) (by kernel_rfl) (by kernel_rfl)) ?_
  intro W base args ds gs before hval0 hW hcnd _
  have hval : ∀ (j : Nat) t v, Try.f7.params[j]? = some t → args[j]? = some v → Value.okWide Try.prog W .any base t v := hval0
  have hW' := hW
  obtain ⟨p, q, hA0, hV, rfl, hfz, hnd⟩ := hW
  have hA : DataW.TrodAll enc Try.prog W 0 (fun _ => true) true Try.f7.params.toList args.toList ds p := hA0
  rw [Try.params7] at hA hval
  obtain ⟨v0, vs0, d0, ds0, p0, q0, hargs, rfl, rfl, h0, r0⟩ := trodAll_cons hA
  obtain ⟨rfl, rfl, rfl⟩ := trodAll_nil r0
  obtain rfl : args = #[v0] := by cases args; simp_all
  obtain ⟨rfl, rfl⟩ := trodVars_none hV
  obtain ⟨a0, rfl, rfl, rfl, w0⟩ := open_int Try.underlying5 (hval 0 5 v0 rfl rfl) h0
  clear hA0 hval0
  simp only [List.append_nil] at hW'
  refine (walk a0 w0 W).mono fun e W' ⟨he, bel⟩ => ?_
  subst he
  exact ⟨_, rfl, _, _, _, [], _, [], hW', trodAll_mk1 (shut_bool Try.underlying4 _), (trodAll_cons_mk (shut_int Try.underlying5 w0) trodAll_mk0), rfl, bel.frame _, fun h => by cases h⟩

theorem over : Rows.fnHexValueAgreesWithAppendHexDigitsRow.holds Try.pinned (OpenSpec.ofChange Rows.fnHexValueAgreesWithAppendHexDigitsSpec) :=
  OpenClaim.holds_of_wide 7 Try.f7 rfl rfl rfl rfl rfl rfl rfl ⟨rfl, rfl, rfl, rfl, rfl⟩ rfl rfl rfl rfl rfl (by kernel_rfl) Try.func7 (by kernel_rfl)
    (of_decide_eq_true (by kernel_rfl)) (by unfold Func.isWrapper; first | (rw [if_pos (by decide +kernel)]; kernel_rfl) | (rw [if_neg (by decide +kernel)]; exact ⟨rfl, rfl⟩))
    (fun os started H enc _ => lifted os started H enc)

/-- ████ THE STATEMENT ████ -/
theorem proved : Rows.FnHexValueAgreesWithAppendHexDigitsSaid :=
  over
#print axioms proved
end Go.Proofs.Qxb6619269a.fnHexValueAgreesWithAppendHexDigits
