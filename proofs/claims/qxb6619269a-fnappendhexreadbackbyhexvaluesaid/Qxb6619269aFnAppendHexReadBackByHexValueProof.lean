/-
  'Rows.FnAppendHexReadBackByHexValueSaid', proved. The frame is the given shell's; the walk is filled in.
-/
import Derived.Test.Qxb6619269aRows
import Derived.WalkKit
import Derived.ProofKit
import Derived.OpenShut
import Derived.ShutString
import Derived.ChangeOld
import Derived.Below
import Derived.Deep.QuietTactic
import Derived.BigQuiet
import Derived.Test.Qxb6619269aClone
namespace Go.Proofs.Qxb6619269a.fnAppendHexReadBackByHexValue
open Go.ChangeShapes Go.WideShapes Go.ChangeAt Go.RowKit
open Go.ChangeMaps (open_string shut_string)
set_option linter.unusedVariables false

theorem own : ownKnob Try.prog.godebug = none := by kernel_rfl
theorem laidOut : laidOutB Try.prog = true := by kernel_rfl

/-- WHAT THE WALK IS TOLD OF A SLICE OF INTEGERS THAT CAME IN: it is nil; or it leads to a row of 'cap' cells, the numbers 'zs' (the first 'len' are its elements, the rest its spare room), each fitting its kind. -/
def IsRow (k : IntKind) (w : World) (a : Option Addr) (len cap : Nat) (zs : List Int) : Prop :=
  (a = none ∧ len = 0 ∧ cap = 0 ∧ zs = []) ∨
  ∃ x, a = some x ∧ len ≤ cap ∧ cap ≤ maxLen ∧ zs.length = cap ∧ (∀ i, i < zs.length → w.cell? (x.add i) = some (.int k (zs.getD i 0))) ∧ ∀ n ∈ zs, (Lit.int k n).wf = true

/-! ### STEP 1: THE WALK -/
set_option maxHeartbeats 4000000 in
theorem walk_core (a0 : Option Addr) (len0 cap0 : Nat) (cs : List Value) (n : Nat) (w : World) (hcl : cs.length = len0) (hlen : len0 ≤ 1048576) (hnil : a0 = none → len0 = 0)
    (hsrc : ∀ x, a0 = some x → ∀ j v, cs[j]? = some v → w.cell? (x.add j) = some v) (hone : ∀ v ∈ cs, v.oneCell' = true) (hints : ∀ i, i < len0 → ∃ z, cs[i]? = some (.int .u8 z)) (hn64 : n < 18446744073709551616) :
    Calls Try.prog 6 #[.slice a0 len0 cap0, .int .u64 n] w fun e w' => e = .returned (.bool true) ∧ Below w.heap.size w w' := by
  go_enter Try.func6, Try.ntmps6
  go_wp2_with (first | (go_at_call 22; go_in) | fail)
  refine (Hx.clone_any a0 len0 cap0 cs w hcl hlen hnil hsrc hone).mono ?_
  rintro e w1 ⟨a1, rfl, ho1, hb1⟩
  have Ho1 := Hx.hide ho1
  clear ho1
  go_wp2_with fail
  refine (Hx.clone_any a1 len0 len0 cs w1 hcl hlen (Hx.owns_src Ho1.out).1 (Hx.owns_src Ho1.out).2 hone).mono ?_
  rintro e w2 ⟨a2, rfl, ho2, hb2⟩
  have Ho2 := Hx.hide ho2
  clear ho2
  go_wp2_with fail
  have hs1 := hb1.size
  have hs2 := hb2.size
  refine (Hx.zzappend_any (.slice a1 len0 len0) len0 cs n w.heap.size w2 (Hx.owns_later Ho1.out hb2) hlen hn64 (by omega)).mono ?_
  rintro e w3 ⟨v', L, hL, rfl, ho3, hg3⟩
  have hwant := Hx.hide (Hx.want_kept Ho1.out hb1 Ho2.out hg3)
  have hb3 : Below w.heap.size w w3 := Hx.below3 Ho1.out hb1 hb2 hg3
  obtain ⟨g, cap, rfl, hgB, hgl, hgc, hcells⟩ := Hx.owns_pos ho3 (by have := hL.1; omega)
  have Hcells := Hx.hide hcells
  have HL := Hx.hide hL
  have hL1 : 1 ≤ L := hL.1
  have hL16 : L ≤ 16 := hL.2.1
  clear ho3 hg3 Ho1 Ho2 hcells hL
  have hLi : (L : Int) ≤ 16 := by omega
  have hLi1 : (1 : Int) ≤ (L : Int) := by omega
  go_wp2_with fail
  go_loopw [7] (fun t wr => ∃ k nq : Nat, k ≤ len0 ∧ t = .int .i64 k ∧ wr = w3.drewN nq) (fun t _ => len0 - (intOf t).toNat)
  case atStart => exact ⟨0, 0, by omega, rfl, rfl⟩
  case round =>
    obtain ⟨k, nq, hk, rfl, rfl⟩ := hrel
    by_cases hkl : k < len0
    · obtain ⟨g2, rfl, hc2⟩ := Hx.owns_cells hwant.out (by omega)
      obtain ⟨z, hz⟩ := hints k hkl
      have hca : w3.cell? ⟨g2, k, none⟩ = some (.int .u8 z) := (hc2 k hkl).trans hz
      have hcb : w3.cell? ⟨g, k, none⟩ = some (.int .u8 z) := by rw [Hcells.out k (by omega), List.getElem?_append_left (by omega)]; exact hz
      have hkl1 : (k : Int) < (len0 : Int) := by omega
      have hkl2 : (k : Int) < (len0 : Int) + (L : Int) := by omega
      clear hc2 hz
      go_wp2_with fail
      go_quiet (fail)
      go_wp2
      go_roundw
      case rel => exact ⟨k + 1, _, by omega, by go_num, rfl⟩
      case measure => simp [intOf]; omega
    · have htop : w3.cell? ⟨g, len0, none⟩ = some (.int .u8 ((Hx.hexc (n / 16 ^ (L - 1) % 16) : Nat) : Int)) := by
        have := Hcells.out (len0 + 0) (by omega)
        rw [Hx.digit_cell hcl (by omega)] at this
        simpa using this
      obtain ⟨tp, htp⟩ : ∃ tp : Int, tp = ((Hx.hexc (n / 16 ^ (L - 1) % 16) : Nat) : Int) := ⟨_, rfl⟩
      rw [← htp] at htop
      have hcase : (1 < L ∧ (tp == 48) = false) ∨ L ≤ 1 := by
        by_cases hL2 : 1 < L
        · exact .inl ⟨hL2, by rw [htp]; exact beq_eq_false_iff_ne.2 (Hx.top_digit HL.out hL2)⟩
        · exact .inr (by omega)
      clear htp
      rcases hcase with ⟨hL2, htb⟩ | hL2
      all_goals
        go_wp2_with fail
        go_loop [9, 10] (fun v t => ∃ i x : Nat, i ≤ L ∧ Hid (x = n / 16 ^ (L - i)) ∧ v = .int .u64 x ∧ t = .int .i64 i) (fun _ t => L - (intOf t).toNat)
        case atStart => exact ⟨0, 0, by omega, Hx.hide (by have := HL.out.2.2.1; rw [Nat.sub_zero, Nat.div_eq_of_lt this]), rfl, rfl⟩
        case round =>
          obtain ⟨i, x, hiL, hx, rfl, rfl⟩ := hrel
          by_cases hil : i < L
          · obtain ⟨d, hd⟩ : ∃ d, d = n / 16 ^ (L - 1 - i) % 16 := ⟨_, rfl⟩
            have hd16 : d < 16 := by rw [hd]; exact Nat.mod_lt _ (by omega)
            have hcd : w3.cell? ⟨g, len0 + i, none⟩ = some (.int .u8 ((Hx.hexc d : Nat) : Int)) := by
              rw [Hcells.out (len0 + i) (by omega), hd]
              exact Hx.digit_cell hcl hil
            have hxs : x * 16 < 18446744073709551616 := by rw [hx.out]; exact Hx.val_small n L i hil hn64
            have horv := Hx.or_digit hxs hd16
            have HX : Hid (x * 16 + d = n / 16 ^ (L - (i + 1))) := Hx.hide (by rw [hx.out, hd]; exact Hx.next_val n L i hil)
            clear hd
            have hcb := Hx.hexc_ranges d hd16
            rcases hcb with ⟨hc1, hc2⟩ | ⟨hc1, hc2⟩
            all_goals
              go_wp2_with (go_at_call 23; refine (Hx.zz_digit d hd16 _).mono ?_; rintro e w' ⟨rfl, rfl⟩)
              go_round
              case rel => exact ⟨i + 1, x * 16 + d, by omega, HX, by go_num, by go_num⟩
              case measure => simp [intOf]; omega
          · have hxe : x = n := by rw [hx.out, show L - i = 0 from by omega]; simp
            have hxb : ((x : Int) == (n : Int)) = true := by rw [hxe]; simp
            clear hxe
            go_wp2_with fail
            go_ret
            exact ⟨rfl, below_drewN hb3 _⟩

theorem walk (a0 : Option Addr) (len0 cap0 : Nat) (z0 : List Int) (a1 : Int) (w : World) (w0 : IsRow .u8 w a0 len0 cap0 z0) (w1 : (Lit.int .u64 a1).wf = true) :
    Calls Try.prog 6 #[.slice a0 len0 cap0, .int .u64 a1] w fun e w' => e = .returned (.bool true) ∧ Below w.heap.size w w' := by
  obtain ⟨hn0, hn1⟩ := bounds_u64 w1
  obtain ⟨n, rfl⟩ := Int.eq_ofNat_of_zero_le hn0
  by_cases hlen : len0 ≤ 1048576
  · rcases w0 with ⟨rfl, rfl, rfl, rfl⟩ | ⟨x, rfl, hlc, hcm, hzl, hcell, hwf⟩
    · exact walk_core none 0 0 [] n w rfl hlen (fun _ => rfl) (fun x hx => (by cases hx)) (fun v hv => (by cases hv)) (fun i hi => (by omega)) (by omega)
    · refine walk_core (some x) len0 cap0 ((z0.take len0).map (Value.int .u8)) n w (by simp; omega) hlen (fun h => (by cases h)) ?_ (ints_oneCell _ _) ?_ (by omega)
      · intro y hy j v hj
        simp only [Option.some.injEq] at hy
        subst hy
        have hjl : j < len0 := by
          rcases Nat.lt_or_ge j len0 with h | h
          · exact h
          · rw [List.getElem?_eq_none (by simp; omega)] at hj; cases hj
        rw [hcell j (by omega)]
        rw [List.getElem?_map, List.getElem?_take, if_pos hjl, List.getElem?_eq_getElem (by omega)] at hj
        simp only [Option.map_some, Option.some.injEq] at hj
        rw [← hj]
        simp [List.getElem?_eq_getElem (show j < z0.length by omega)]
      · intro i hi
        exact ⟨z0[i]'(by omega), by rw [List.getElem?_map, List.getElem?_take, if_pos hi, List.getElem?_eq_getElem (by omega)]; rfl⟩
  · have hlc : ¬ (len0 : Int) ≤ 1048576 := by omega
    have hm : len0 ≤ 9223372036854775807 := by
      rcases w0 with ⟨_, h, _⟩ | ⟨x, _, hlc, hcm, _⟩
      · omega
      · unfold maxLen at hcm; omega
    go_enter Try.func6, Try.ntmps6
    go_wp2
    go_ret
    exact ⟨rfl, Below.refl _ _⟩

/-! ### THE ROW's STEP: WRITTEN OUT: LEAVE IT -/
set_option maxRecDepth 100000 in
theorem lifted (os : Os) (started : os.Started) (H : Type) (enc : TypeId × Value → H) :
    ReturnsInHanded {} Try.checked os 6 .any (Rows.fnAppendHexReadBackByHexValueSpec.pre6 enc Try.prog Try.f6 Rows.fnAppendHexReadBackByHexValueRow.domain false) (Rows.fnAppendHexReadBackByHexValueSpec.post enc Try.prog Try.f6 false true false false) := by
  refine returnsInHanded_of_change (C := Try.checked) own started (by kernel_rfl) Try.func6
    (ChangeSpec.witness6 (enc := enc) (C := Try.checked) false ⟨#[], #[.slice none 0 0, .int .u64 0], []⟩ 8 (by kernel_rfl) (by kernel_rfl) (by kernel_rfl) (by kernel_rfl)) ?_
  intro W base args ds gs before hval0 hW hcnd _
  have hval : ∀ (j : Nat) t v, Try.f6.params[j]? = some t → args[j]? = some v → Value.okWide Try.prog W .any base t v := hval0
  have hW' := hW
  obtain ⟨p, q, hA0, hV, rfl, hfz, hnd⟩ := hW
  have hA : DataW.TrodAll enc Try.prog W 0 (fun _ => true) true Try.f6.params.toList args.toList ds p := hA0
  rw [Try.params6] at hA hval
  obtain ⟨v0, vs0, d0, ds0, p0, q0, hargs, rfl, rfl, h0, r0⟩ := trodAll_cons hA
  obtain ⟨v1, vs1, d1, ds1, p1, q1, rfl, rfl, rfl, h1, r1⟩ := trodAll_cons r0
  obtain ⟨rfl, rfl, rfl⟩ := trodAll_nil r1
  obtain rfl : args = #[v0, v1] := by cases args; simp_all
  obtain ⟨rfl, rfl⟩ := trodVars_none hV
  obtain ⟨a0, len0, cap0, rfl⟩ := okWide_slice Try.underlying22 (hval 0 22 v0 rfl rfl)
  have k0 := h0
  have lt0 : ∀ x ∈ p0, x.block < W.heap.size := by obtain ⟨m, hm⟩ := k0; exact DataW.trod_lt m _ _ _ hm
  obtain ⟨z0, w0⟩ : ∃ zs, IsRow .u8 W a0 len0 cap0 zs := by
    obtain ⟨fuel, hf⟩ := h0
    rcases open_ints Try.underlying22 Try.underlying5 (by kernel_rfl) hf with ⟨hcs, _⟩ | ⟨x, l, c, zs, hcs, _, hl, hm, hz, _, hcell, hwz⟩
    · simp [Value.cells] at hcs
      obtain ⟨rfl, rfl, rfl⟩ := hcs
      exact ⟨[], .inl ⟨rfl, rfl, rfl, rfl⟩⟩
    · simp [Value.cells] at hcs
      obtain ⟨rfl, rfl, rfl⟩ := hcs
      exact ⟨zs, .inr ⟨_, rfl, hl, hm, by simpa using hz, hcell, hwz⟩⟩
  obtain ⟨a1, rfl, rfl, rfl, w1⟩ := open_int Try.underlying38 (hval 1 38 v1 rfl rfl) h1
  clear hA0 hval0
  refine (walk a0 len0 cap0 z0 a1 W w0 w1).mono fun e W' ⟨he, bel⟩ => ?_
  subst he
  exact ⟨_, rfl, _, _, _, [], _, [], hW', trodAll_mk1 (shut_bool Try.underlying4 _), (trodAll_cons_mk (Below.trod laidOut (by kernel_rfl) (of_decide_eq_true (by kernel_rfl)) k0 bel lt0) (trodAll_cons_mk (shut_int Try.underlying38 w1) trodAll_mk0)), rfl, bel.frame _, fun h => by cases h⟩

theorem over : Rows.fnAppendHexReadBackByHexValueRow.holds Try.pinned (OpenSpec.ofChange Rows.fnAppendHexReadBackByHexValueSpec) :=
  OpenClaim.holds_of_wide 6 Try.f6 rfl rfl rfl rfl rfl rfl rfl ⟨rfl, rfl, rfl, rfl, rfl⟩ rfl rfl rfl rfl rfl (by kernel_rfl) Try.func6 (by kernel_rfl)
    (of_decide_eq_true (by kernel_rfl)) (by unfold Func.isWrapper; first | (rw [if_pos (by decide +kernel)]; kernel_rfl) | (rw [if_neg (by decide +kernel)]; exact ⟨rfl, rfl⟩))
    (fun os started H enc _ => lifted os started H enc)

/-- ████ THE STATEMENT ████ -/
theorem proved : Rows.FnAppendHexReadBackByHexValueSaid := over
#print axioms proved
end Go.Proofs.Qxb6619269a.fnAppendHexReadBackByHexValue
