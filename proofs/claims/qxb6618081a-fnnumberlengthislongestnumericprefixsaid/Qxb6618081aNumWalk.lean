/-
  numberLength, walked: it computes Num.numLen.
-/
import Derived.Test.Qxb6618081aRows
import Derived.WalkKit
import Derived.ProofKit
import Derived.Test.Qxb6618081aNumPlain
namespace Go.Proofs.Qxb6618081a.Num
open Go.ChangeShapes Go.WideShapes Go.ChangeAt Go.RowKit
set_option linter.unusedVariables false

/-- place j holds a digit -/
def D (s : ByteArray) (j : Nat) : Prop := ∃ h : j < s.size, 48 ≤ (s[j].toNat : Int) ∧ (s[j].toNat : Int) ≤ 57
/-- the digits from place n on end at place k -/
def Stop (s : ByteArray) (n k : Nat) : Prop := n ≤ k ∧ k ≤ s.size ∧ (∀ j, n ≤ j → j < k → D s j) ∧ ¬ D s k

theorem drop_cons (s : ByteArray) (n : Nat) (h : n < s.size) : s.data.toList.drop n = s[n] :: s.data.toList.drop (n + 1) := by
  rw [List.drop_eq_getElem_cons (by simpa using h)]; rfl
theorem drop_nil (s : ByteArray) (n : Nat) (h : s.size ≤ n) : s.data.toList.drop n = [] :=
  List.drop_eq_nil_of_le (by simpa using h)

theorem isD_iff (c : UInt8) : isD c = true ↔ 48 ≤ (c.toNat : Int) ∧ (c.toNat : Int) ≤ 57 := by
  unfold isD; simp; omega

theorem D_isD {s : ByteArray} {j : Nat} (h : j < s.size) : D s j ↔ isD s[j] = true := by
  rw [isD_iff]; exact ⟨fun ⟨_, h⟩ => h, fun h' => ⟨h, h'⟩⟩

theorem digs_stop {s : ByteArray} {n k : Nat} (h : Stop s n k) : digs (s.data.toList.drop n) = k - n := by
  obtain ⟨h1, h2, h3, h4⟩ := h
  obtain ⟨m, rfl⟩ : ∃ m, k = n + m := ⟨k - n, by omega⟩
  clear h1
  induction m generalizing n with
  | zero =>
    by_cases hl : n < s.size
    · rw [drop_cons s n hl]
      have : isD s[n] = false := by
        cases hc : isD s[n] with
        | false => rfl
        | true => exact absurd ((D_isD hl).2 hc) h4
      simp [digs, this]
    · rw [drop_nil s n (by omega)]; simp [digs]
  | succ m ih =>
    have hl : n < s.size := by omega
    rw [drop_cons s n hl]
    have hd : isD s[n] = true := (D_isD hl).1 (h3 n (Nat.le_refl _) (by omega))
    have := ih (n := n + 1) (by omega) (fun j a b => h3 j (by omega) (by omega)) (by rw [show n + 1 + m = n + (m + 1) from by omega]; exact h4)
    simp only [digs, hd, if_true, this]
    omega

theorem numLen_dot {s : ByteArray} {k n : Nat} (h1 : Stop s 0 k) (hk : k < s.size) (hd : (s[k].toNat : Int) = 46) (h2 : Stop s (k + 1) n) :
    numLen s.data.toList = n + expo (s.data.toList.drop n) := by
  have e1 := digs_stop h1
  have e2 := digs_stop h2
  have hc : s[k] = 46 := by apply UInt8.toNat_inj.1; exact_mod_cast hd
  simp only [List.drop_zero, Nat.sub_zero] at e1
  unfold numLen
  rw [e1, drop_cons s k hk]
  simp only [frac, hc, if_true, e2, List.drop_drop]
  have h3 : k + 1 ≤ n := h2.1
  rw [show k + 1 + (n - (k + 1)) = n from by omega]
  omega

theorem numLen_plain {s : ByteArray} {k : Nat} (h1 : Stop s 0 k) (hd : ∀ hk : k < s.size, (s[k].toNat : Int) ≠ 46) :
    numLen s.data.toList = k + expo (s.data.toList.drop k) := by
  have e1 := digs_stop h1
  simp only [List.drop_zero, Nat.sub_zero] at e1
  unfold numLen
  rw [e1]
  by_cases hk : k < s.size
  · have hc : s[k] ≠ 46 := by intro h; exact hd hk (by rw [h]; rfl)
    rw [drop_cons s k hk]
    simp only [frac, hc, if_false]
  · rw [drop_nil s k (by omega)]; simp [frac, expo]

theorem expo_short {s : ByteArray} {n : Nat} (h : s.size ≤ n + 1) : expo (s.data.toList.drop n) = 0 := by
  by_cases hl : n < s.size
  · rw [drop_cons s n hl, drop_nil s (n + 1) h]; rfl
  · rw [drop_nil s n (by omega)]; rfl
theorem expo_other {s : ByteArray} {n : Nat} (h : n < s.size) (h1 : (s[n].toNat : Int) ≠ 101) (h2 : (s[n].toNat : Int) ≠ 69) : expo (s.data.toList.drop n) = 0 := by
  rw [drop_cons s n h]
  refine expo_ne _ _ ?_
  rintro (h | h)
  · exact h1 (by rw [h]; rfl)
  · exact h2 (by rw [h]; rfl)
theorem byte_eq {c : UInt8} {m : Nat} (hm : m < 256) (h : (c.toNat : Int) = m) : c = UInt8.ofNat m := by
  apply UInt8.toNat_inj.1
  rw [UInt8.toNat_ofNat', Nat.mod_eq_of_lt (by omega)]
  exact_mod_cast h
theorem eE_of {c : UInt8} (h : (c.toNat : Int) = 101 ∨ (c.toNat : Int) = 69) : c = 101 ∨ c = 69 := by
  rcases h with h | h
  · exact .inl (byte_eq (m := 101) (by omega) h)
  · exact .inr (byte_eq (m := 69) (by omega) h)
theorem pm_iff {c : UInt8} : ((c.toNat : Int) = 43 ∨ (c.toNat : Int) = 45) ↔ (c = 43 ∨ c = 45) := by
  constructor
  · rintro (h | h)
    · exact .inl (byte_eq (m := 43) (by omega) h)
    · exact .inr (byte_eq (m := 45) (by omega) h)
  · rintro (h | h) <;> subst h <;> decide

/-- with a sign -/
theorem expo_sign {s : ByteArray} {n k : Nat} (h : n + 1 < s.size) (he : (s[n].toNat : Int) = 101 ∨ (s[n].toNat : Int) = 69)
    (hs : (s[n + 1].toNat : Int) = 43 ∨ (s[n + 1].toNat : Int) = 45) (hk : Stop s (n + 2) k) :
    expo (s.data.toList.drop n) = if k = n + 2 then 0 else k - n := by
  rw [drop_cons s n (by omega), drop_cons s (n + 1) h]
  have e := digs_stop hk
  have := hk.1
  rw [expo, if_pos (eE_of he), if_pos (pm_iff.1 hs), e]
  split <;> split <;> omega
theorem expo_bare {s : ByteArray} {n k : Nat} (h : n + 1 < s.size) (he : (s[n].toNat : Int) = 101 ∨ (s[n].toNat : Int) = 69)
    (hs : ¬ ((s[n + 1].toNat : Int) = 43 ∨ (s[n + 1].toNat : Int) = 45)) (hk : Stop s (n + 1) k) :
    expo (s.data.toList.drop n) = if k = n + 1 then 0 else k - n := by
  have e := digs_stop hk
  have := hk.1
  rw [drop_cons s n (by omega)]
  rw [drop_cons s (n + 1) h] at e ⊢
  rw [expo, if_pos (eE_of he), if_neg (fun hh => hs (pm_iff.2 hh)), e]
  split <;> split <;> omega

theorem Stop.none {s : ByteArray} {n : Nat} (hn : n ≤ s.size) (h : ¬ D s n) : Stop s n n := ⟨Nat.le_refl _, hn, fun j a b => by omega, h⟩
theorem hide {p : Prop} (h : p) : Hid p := h
theorem ret_int {k : IntKind} {a b : Int} (h : a = b) : Ending.returned (.int k a) = .returned (.int k b) := by rw [h]

theorem Stop.more {s : ByteArray} {n k : Nat} (a : ∀ j, n ≤ j → j < k → D s j) (h : k < s.size) (b : 48 ≤ (s[k].toNat : Int)) (c : (s[k].toNat : Int) ≤ 57) : ∀ j, n ≤ j → j < k + 1 → D s j := by
  intro j hj hk
  by_cases e : j = k
  · subst e; exact ⟨h, b, c⟩
  · exact a j hj (by omega)

/-- the number ends at n + e -/
theorem fin_of {s : ByteArray} {n e r : Nat} (h1 : numLen s.data.toList = n + expo (s.data.toList.drop n)) (h2 : expo (s.data.toList.drop n) = e) (h3 : n + e = r) :
    (r : Int) = (numLen s.data.toList : Int) := by
  rw [h1, h2, h3]

/-- isDigit, as the walk sees it -/
def digB (c : Int) : Bool := decide (48 ≤ c ∧ c ≤ 57)
theorem digB_true {s : ByteArray} {j : Nat} (h : j < s.size) (hd : digB (s[j].toNat : Int) = true) : D s j := by
  unfold digB at hd; exact ⟨h, by simpa using hd⟩
theorem digB_false {s : ByteArray} {j : Nat} (h : j < s.size) (hd : digB (s[j].toNat : Int) = false) : ¬ D s j := by
  rintro ⟨_, h'⟩; unfold digB at hd; simp at hd; omega
theorem Stop.on {s : ByteArray} {n k : Nat} (a : ∀ j, n ≤ j → j < k → D s j) (h : k < s.size) (b : digB (s[k].toNat : Int) = true) : ∀ j, n ≤ j → j < k + 1 → D s j := by
  have hd := digB_true h b
  exact Stop.more a h hd.2.1 hd.2.2

theorem isDigit_any (c : Int) (w : World) :
    Calls Try.prog 33 #[.int .u8 c] w fun e w' => e = .returned (.bool (digB c)) ∧ w' = w := by
  unfold digB
  by_cases h1 : 48 ≤ c
  · by_cases h2 : c ≤ 57
    · go_enter Try.func33, Try.ntmps33
      go_wp2
      go_ret
      exact ⟨by simp [h1, h2], rfl⟩
    · go_enter Try.func33, Try.ntmps33
      go_wp2
      go_ret
      exact ⟨by simp [h2], rfl⟩
  · go_enter Try.func33, Try.ntmps33
    go_wp2
    go_ret
    exact ⟨by simp; omega, rfl⟩

set_option maxHeartbeats 4000000 in
theorem number_any (s : ByteArray) (w : World) (hs : s.size ≤ 1048576) :
    Calls Try.prog 27 #[.string s] w fun e w' => e = .returned (.int .i64 (numLen s.data.toList)) ∧ w' = w := by
  go_enter Try.func27, Try.ntmps27
  go_wp2
  go_loop [3] (fun i => ∃ k : Nat, k ≤ s.size ∧ i = .int .i64 k ∧ Hid (∀ j, 0 ≤ j → j < k → D s j)) (fun i => s.size - (intOf i).toNat)
  case atStart => exact ⟨0, Nat.zero_le _, rfl, hide (fun j a b => by omega)⟩
  case round =>
    obtain ⟨k, hk, rfl, hd⟩ := hrel
    by_cases hlt : k < s.size
    · cases hdig : digB (s[k].toNat : Int) with
      | true =>
        go_wp2_with (go_at_call 33; refine (isDigit_any _ _).mono ?_; rintro e w' ⟨rfl, rfl⟩)
        go_round
        case rel => exact ⟨k + 1, by omega, by go_num, hide (Stop.on hd.out hlt hdig)⟩
        case measure => simp [intOf]; omega
      | false =>
        have hst : Hid (Stop s 0 k) := hide ⟨Nat.zero_le _, hk, hd.out, digB_false hlt hdig⟩
        clear hd
        by_cases hdot : (s[k].toNat : Int) = 46
        · have HD : Hid ((s[k].toNat : Int) = 46) := hide hdot
          have hdotb : ((s[k].toNat : Int) == 46) = true := by simp [hdot]
          clear hdot
          go_wp2_with (go_at_call 33; refine (isDigit_any _ _).mono ?_; rintro e w' ⟨rfl, rfl⟩)
          go_loop [3] (fun i => ∃ n : Nat, k + 1 ≤ n ∧ n ≤ s.size ∧ i = .int .i64 n ∧ Hid (∀ j, k + 1 ≤ j → j < n → D s j)) (fun i => s.size - (intOf i).toNat)
          case atStart => exact ⟨k + 1, by omega, by omega, by go_num, hide (fun j a b => by omega)⟩
          case round =>
            obtain ⟨n, hn0, hn, rfl, hd⟩ := hrel
            by_cases hnl : n < s.size
            · cases hdign : digB (s[n].toNat : Int) with
              | true =>
                go_wp2_with (go_at_call 33; refine (isDigit_any _ _).mono ?_; rintro e w' ⟨rfl, rfl⟩)
                go_round
                case rel => exact ⟨n + 1, by omega, by omega, by go_num, hide (Stop.on hd.out hnl hdign)⟩
                case measure => simp [intOf]; omega
              | false =>
                have HN : Hid (numLen s.data.toList = n + expo (s.data.toList.drop n)) := hide (numLen_dot hst.out hlt HD.out ⟨hn0, hn, hd.out, digB_false hnl hdign⟩)
                clear hd
                by_cases hn1 : n + 1 < s.size
                · by_cases he : (s[n].toNat : Int) = 101
                  · have HE : Hid ((s[n].toNat : Int) = 101) := hide he
                    have heb : ((s[n].toNat : Int) == 101) = true := by simp [he]
                    clear he
                    by_cases hp : (s[n + 1].toNat : Int) = 43
                    · have HP : Hid ((s[n + 1].toNat : Int) = 43) := hide hp
                      have hpb : ((s[n + 1].toNat : Int) == 43) = true := by simp [hp]
                      clear hp
                      by_cases hm : n + 1 + 1 < s.size
                      · cases hdm : digB (s[n + 1 + 1].toNat : Int) with
                        | true =>
                          go_wp2_with (go_at_call 33; refine (isDigit_any _ _).mono ?_; rintro e w' ⟨rfl, rfl⟩)
                          go_loop [3] (fun i => ∃ j : Nat, n + 1 + 1 ≤ j ∧ j ≤ s.size ∧ i = .int .i64 j ∧ Hid (∀ x, n + 1 + 1 ≤ x → x < j → D s x)) (fun i => s.size - (intOf i).toNat)
                          case atStart => exact ⟨n + 1 + 1, by omega, by omega, by go_num, hide (fun x a b => by omega)⟩
                          case round =>
                            obtain ⟨j, hj1, hj, rfl, hdj⟩ := hrel
                            by_cases hjl : j < s.size
                            · cases hdig3 : digB (s[j].toNat : Int) with
                              | true =>
                                go_wp2_with (go_at_call 33; refine (isDigit_any _ _).mono ?_; rintro e w' ⟨rfl, rfl⟩)
                                go_round
                                case rel => exact ⟨j + 1, by omega, by omega, by go_num, hide (Stop.on hdj.out hjl hdig3)⟩
                                case measure => simp [intOf]; omega
                              | false =>
                                have hst3 : Hid (Stop s (n + 1 + 1) j) := hide ⟨by omega, hj, hdj.out, digB_false hjl hdig3⟩
                                have hne : Hid (j ≠ n + 1 + 1) := hide (by rintro rfl; rw [hdm] at hdig3; cases hdig3)
                                go_wp2_with (go_at_call 33; refine (isDigit_any _ _).mono ?_; rintro e w' ⟨rfl, rfl⟩)
                                go_ret
                                exact ⟨ret_int (fin_of HN.out (expo_sign hn1 (.inl HE.out) (.inl HP.out) hst3.out) (by have := hst3.out.1; have := hne.out; rw [if_neg (by omega)]; omega)), rfl⟩
                            · have hst3 : Hid (Stop s (n + 1 + 1) j) := hide ⟨by omega, hj, hdj.out, fun ⟨h, _⟩ => hjl h⟩
                              have hne : Hid (j ≠ n + 1 + 1) := hide (by omega)
                              go_wp2_with (go_at_call 33; refine (isDigit_any _ _).mono ?_; rintro e w' ⟨rfl, rfl⟩)
                              go_ret
                              exact ⟨ret_int (fin_of HN.out (expo_sign hn1 (.inl HE.out) (.inl HP.out) hst3.out) (by have := hst3.out.1; have := hne.out; rw [if_neg (by omega)]; omega)), rfl⟩
                        | false =>
                          have hst3 : Hid (Stop s (n + 1 + 1) (n + 1 + 1)) := hide (Stop.none (by omega) (digB_false hm hdm))
                          go_wp2_with (go_at_call 33; refine (isDigit_any _ _).mono ?_; rintro e w' ⟨rfl, rfl⟩)
                          go_ret
                          exact ⟨ret_int (fin_of HN.out (expo_sign hn1 (.inl HE.out) (.inl HP.out) hst3.out) (by rw [if_pos rfl]; rfl)), rfl⟩
                      · have hst3 : Hid (Stop s (n + 1 + 1) (n + 1 + 1)) := hide (Stop.none (by omega) (fun ⟨h, _⟩ => hm h))
                        go_wp2_with (go_at_call 33; refine (isDigit_any _ _).mono ?_; rintro e w' ⟨rfl, rfl⟩)
                        go_ret
                        exact ⟨ret_int (fin_of HN.out (expo_sign hn1 (.inl HE.out) (.inl HP.out) hst3.out) (by rw [if_pos rfl]; rfl)), rfl⟩
                    · by_cases hq : (s[n + 1].toNat : Int) = 45
                      · have HP : Hid ((s[n + 1].toNat : Int) = 45) := hide hq
                        have hpb : ((s[n + 1].toNat : Int) == 43) = false := by simp [hp]
                        have hqb : ((s[n + 1].toNat : Int) == 45) = true := by simp [hq]
                        clear hp hq
                        by_cases hm : n + 1 + 1 < s.size
                        · cases hdm : digB (s[n + 1 + 1].toNat : Int) with
                          | true =>
                            go_wp2_with (go_at_call 33; refine (isDigit_any _ _).mono ?_; rintro e w' ⟨rfl, rfl⟩)
                            go_loop [3] (fun i => ∃ j : Nat, n + 1 + 1 ≤ j ∧ j ≤ s.size ∧ i = .int .i64 j ∧ Hid (∀ x, n + 1 + 1 ≤ x → x < j → D s x)) (fun i => s.size - (intOf i).toNat)
                            case atStart => exact ⟨n + 1 + 1, by omega, by omega, by go_num, hide (fun x a b => by omega)⟩
                            case round =>
                              obtain ⟨j, hj1, hj, rfl, hdj⟩ := hrel
                              by_cases hjl : j < s.size
                              · cases hdig3 : digB (s[j].toNat : Int) with
                                | true =>
                                  go_wp2_with (go_at_call 33; refine (isDigit_any _ _).mono ?_; rintro e w' ⟨rfl, rfl⟩)
                                  go_round
                                  case rel => exact ⟨j + 1, by omega, by omega, by go_num, hide (Stop.on hdj.out hjl hdig3)⟩
                                  case measure => simp [intOf]; omega
                                | false =>
                                  have hst3 : Hid (Stop s (n + 1 + 1) j) := hide ⟨by omega, hj, hdj.out, digB_false hjl hdig3⟩
                                  have hne : Hid (j ≠ n + 1 + 1) := hide (by rintro rfl; rw [hdm] at hdig3; cases hdig3)
                                  go_wp2_with (go_at_call 33; refine (isDigit_any _ _).mono ?_; rintro e w' ⟨rfl, rfl⟩)
                                  go_ret
                                  exact ⟨ret_int (fin_of HN.out (expo_sign hn1 (.inl HE.out) (.inr HP.out) hst3.out) (by have := hst3.out.1; have := hne.out; rw [if_neg (by omega)]; omega)), rfl⟩
                              · have hst3 : Hid (Stop s (n + 1 + 1) j) := hide ⟨by omega, hj, hdj.out, fun ⟨h, _⟩ => hjl h⟩
                                have hne : Hid (j ≠ n + 1 + 1) := hide (by omega)
                                go_wp2_with (go_at_call 33; refine (isDigit_any _ _).mono ?_; rintro e w' ⟨rfl, rfl⟩)
                                go_ret
                                exact ⟨ret_int (fin_of HN.out (expo_sign hn1 (.inl HE.out) (.inr HP.out) hst3.out) (by have := hst3.out.1; have := hne.out; rw [if_neg (by omega)]; omega)), rfl⟩
                          | false =>
                            have hst3 : Hid (Stop s (n + 1 + 1) (n + 1 + 1)) := hide (Stop.none (by omega) (digB_false hm hdm))
                            go_wp2_with (go_at_call 33; refine (isDigit_any _ _).mono ?_; rintro e w' ⟨rfl, rfl⟩)
                            go_ret
                            exact ⟨ret_int (fin_of HN.out (expo_sign hn1 (.inl HE.out) (.inr HP.out) hst3.out) (by rw [if_pos rfl]; rfl)), rfl⟩
                        · have hst3 : Hid (Stop s (n + 1 + 1) (n + 1 + 1)) := hide (Stop.none (by omega) (fun ⟨h, _⟩ => hm h))
                          go_wp2_with (go_at_call 33; refine (isDigit_any _ _).mono ?_; rintro e w' ⟨rfl, rfl⟩)
                          go_ret
                          exact ⟨ret_int (fin_of HN.out (expo_sign hn1 (.inl HE.out) (.inr HP.out) hst3.out) (by rw [if_pos rfl]; rfl)), rfl⟩
                      · have HP : Hid (¬ ((s[n + 1].toNat : Int) = 43 ∨ (s[n + 1].toNat : Int) = 45)) := hide (fun h => h.elim hp hq)
                        have hpb : ((s[n + 1].toNat : Int) == 43) = false := by simp [hp]
                        have hqb : ((s[n + 1].toNat : Int) == 45) = false := by simp [hq]
                        clear hp hq
                        by_cases hm : n + 1 < s.size
                        · cases hdm : digB (s[n + 1].toNat : Int) with
                          | true =>
                            go_wp2_with (go_at_call 33; refine (isDigit_any _ _).mono ?_; rintro e w' ⟨rfl, rfl⟩)
                            go_loop [3] (fun i => ∃ j : Nat, n + 1 ≤ j ∧ j ≤ s.size ∧ i = .int .i64 j ∧ Hid (∀ x, n + 1 ≤ x → x < j → D s x)) (fun i => s.size - (intOf i).toNat)
                            case atStart => exact ⟨n + 1, by omega, by omega, by go_num, hide (fun x a b => by omega)⟩
                            case round =>
                              obtain ⟨j, hj1, hj, rfl, hdj⟩ := hrel
                              by_cases hjl : j < s.size
                              · cases hdig3 : digB (s[j].toNat : Int) with
                                | true =>
                                  go_wp2_with (go_at_call 33; refine (isDigit_any _ _).mono ?_; rintro e w' ⟨rfl, rfl⟩)
                                  go_round
                                  case rel => exact ⟨j + 1, by omega, by omega, by go_num, hide (Stop.on hdj.out hjl hdig3)⟩
                                  case measure => simp [intOf]; omega
                                | false =>
                                  have hst3 : Hid (Stop s (n + 1) j) := hide ⟨by omega, hj, hdj.out, digB_false hjl hdig3⟩
                                  have hne : Hid (j ≠ n + 1) := hide (by rintro rfl; rw [hdm] at hdig3; cases hdig3)
                                  go_wp2_with (go_at_call 33; refine (isDigit_any _ _).mono ?_; rintro e w' ⟨rfl, rfl⟩)
                                  go_ret
                                  exact ⟨ret_int (fin_of HN.out (expo_bare hn1 (.inl HE.out) HP.out hst3.out) (by have := hst3.out.1; have := hne.out; rw [if_neg (by omega)]; omega)), rfl⟩
                              · have hst3 : Hid (Stop s (n + 1) j) := hide ⟨by omega, hj, hdj.out, fun ⟨h, _⟩ => hjl h⟩
                                have hne : Hid (j ≠ n + 1) := hide (by omega)
                                go_wp2_with (go_at_call 33; refine (isDigit_any _ _).mono ?_; rintro e w' ⟨rfl, rfl⟩)
                                go_ret
                                exact ⟨ret_int (fin_of HN.out (expo_bare hn1 (.inl HE.out) HP.out hst3.out) (by have := hst3.out.1; have := hne.out; rw [if_neg (by omega)]; omega)), rfl⟩
                          | false =>
                            have hst3 : Hid (Stop s (n + 1) (n + 1)) := hide (Stop.none (by omega) (digB_false hm hdm))
                            go_wp2_with (go_at_call 33; refine (isDigit_any _ _).mono ?_; rintro e w' ⟨rfl, rfl⟩)
                            go_ret
                            exact ⟨ret_int (fin_of HN.out (expo_bare hn1 (.inl HE.out) HP.out hst3.out) (by rw [if_pos rfl]; rfl)), rfl⟩
                        · omega
                  · by_cases he2 : (s[n].toNat : Int) = 69
                    · have HE : Hid ((s[n].toNat : Int) = 69) := hide he2
                      have heb : ((s[n].toNat : Int) == 101) = false := by simp [he]
                      have heb2 : ((s[n].toNat : Int) == 69) = true := by simp [he2]
                      clear he he2
                      by_cases hp : (s[n + 1].toNat : Int) = 43
                      · have HP : Hid ((s[n + 1].toNat : Int) = 43) := hide hp
                        have hpb : ((s[n + 1].toNat : Int) == 43) = true := by simp [hp]
                        clear hp
                        by_cases hm : n + 1 + 1 < s.size
                        · cases hdm : digB (s[n + 1 + 1].toNat : Int) with
                          | true =>
                            go_wp2_with (go_at_call 33; refine (isDigit_any _ _).mono ?_; rintro e w' ⟨rfl, rfl⟩)
                            go_loop [3] (fun i => ∃ j : Nat, n + 1 + 1 ≤ j ∧ j ≤ s.size ∧ i = .int .i64 j ∧ Hid (∀ x, n + 1 + 1 ≤ x → x < j → D s x)) (fun i => s.size - (intOf i).toNat)
                            case atStart => exact ⟨n + 1 + 1, by omega, by omega, by go_num, hide (fun x a b => by omega)⟩
                            case round =>
                              obtain ⟨j, hj1, hj, rfl, hdj⟩ := hrel
                              by_cases hjl : j < s.size
                              · cases hdig3 : digB (s[j].toNat : Int) with
                                | true =>
                                  go_wp2_with (go_at_call 33; refine (isDigit_any _ _).mono ?_; rintro e w' ⟨rfl, rfl⟩)
                                  go_round
                                  case rel => exact ⟨j + 1, by omega, by omega, by go_num, hide (Stop.on hdj.out hjl hdig3)⟩
                                  case measure => simp [intOf]; omega
                                | false =>
                                  have hst3 : Hid (Stop s (n + 1 + 1) j) := hide ⟨by omega, hj, hdj.out, digB_false hjl hdig3⟩
                                  have hne : Hid (j ≠ n + 1 + 1) := hide (by rintro rfl; rw [hdm] at hdig3; cases hdig3)
                                  go_wp2_with (go_at_call 33; refine (isDigit_any _ _).mono ?_; rintro e w' ⟨rfl, rfl⟩)
                                  go_ret
                                  exact ⟨ret_int (fin_of HN.out (expo_sign hn1 (.inr HE.out) (.inl HP.out) hst3.out) (by have := hst3.out.1; have := hne.out; rw [if_neg (by omega)]; omega)), rfl⟩
                              · have hst3 : Hid (Stop s (n + 1 + 1) j) := hide ⟨by omega, hj, hdj.out, fun ⟨h, _⟩ => hjl h⟩
                                have hne : Hid (j ≠ n + 1 + 1) := hide (by omega)
                                go_wp2_with (go_at_call 33; refine (isDigit_any _ _).mono ?_; rintro e w' ⟨rfl, rfl⟩)
                                go_ret
                                exact ⟨ret_int (fin_of HN.out (expo_sign hn1 (.inr HE.out) (.inl HP.out) hst3.out) (by have := hst3.out.1; have := hne.out; rw [if_neg (by omega)]; omega)), rfl⟩
                          | false =>
                            have hst3 : Hid (Stop s (n + 1 + 1) (n + 1 + 1)) := hide (Stop.none (by omega) (digB_false hm hdm))
                            go_wp2_with (go_at_call 33; refine (isDigit_any _ _).mono ?_; rintro e w' ⟨rfl, rfl⟩)
                            go_ret
                            exact ⟨ret_int (fin_of HN.out (expo_sign hn1 (.inr HE.out) (.inl HP.out) hst3.out) (by rw [if_pos rfl]; rfl)), rfl⟩
                        · have hst3 : Hid (Stop s (n + 1 + 1) (n + 1 + 1)) := hide (Stop.none (by omega) (fun ⟨h, _⟩ => hm h))
                          go_wp2_with (go_at_call 33; refine (isDigit_any _ _).mono ?_; rintro e w' ⟨rfl, rfl⟩)
                          go_ret
                          exact ⟨ret_int (fin_of HN.out (expo_sign hn1 (.inr HE.out) (.inl HP.out) hst3.out) (by rw [if_pos rfl]; rfl)), rfl⟩
                      · by_cases hq : (s[n + 1].toNat : Int) = 45
                        · have HP : Hid ((s[n + 1].toNat : Int) = 45) := hide hq
                          have hpb : ((s[n + 1].toNat : Int) == 43) = false := by simp [hp]
                          have hqb : ((s[n + 1].toNat : Int) == 45) = true := by simp [hq]
                          clear hp hq
                          by_cases hm : n + 1 + 1 < s.size
                          · cases hdm : digB (s[n + 1 + 1].toNat : Int) with
                            | true =>
                              go_wp2_with (go_at_call 33; refine (isDigit_any _ _).mono ?_; rintro e w' ⟨rfl, rfl⟩)
                              go_loop [3] (fun i => ∃ j : Nat, n + 1 + 1 ≤ j ∧ j ≤ s.size ∧ i = .int .i64 j ∧ Hid (∀ x, n + 1 + 1 ≤ x → x < j → D s x)) (fun i => s.size - (intOf i).toNat)
                              case atStart => exact ⟨n + 1 + 1, by omega, by omega, by go_num, hide (fun x a b => by omega)⟩
                              case round =>
                                obtain ⟨j, hj1, hj, rfl, hdj⟩ := hrel
                                by_cases hjl : j < s.size
                                · cases hdig3 : digB (s[j].toNat : Int) with
                                  | true =>
                                    go_wp2_with (go_at_call 33; refine (isDigit_any _ _).mono ?_; rintro e w' ⟨rfl, rfl⟩)
                                    go_round
                                    case rel => exact ⟨j + 1, by omega, by omega, by go_num, hide (Stop.on hdj.out hjl hdig3)⟩
                                    case measure => simp [intOf]; omega
                                  | false =>
                                    have hst3 : Hid (Stop s (n + 1 + 1) j) := hide ⟨by omega, hj, hdj.out, digB_false hjl hdig3⟩
                                    have hne : Hid (j ≠ n + 1 + 1) := hide (by rintro rfl; rw [hdm] at hdig3; cases hdig3)
                                    go_wp2_with (go_at_call 33; refine (isDigit_any _ _).mono ?_; rintro e w' ⟨rfl, rfl⟩)
                                    go_ret
                                    exact ⟨ret_int (fin_of HN.out (expo_sign hn1 (.inr HE.out) (.inr HP.out) hst3.out) (by have := hst3.out.1; have := hne.out; rw [if_neg (by omega)]; omega)), rfl⟩
                                · have hst3 : Hid (Stop s (n + 1 + 1) j) := hide ⟨by omega, hj, hdj.out, fun ⟨h, _⟩ => hjl h⟩
                                  have hne : Hid (j ≠ n + 1 + 1) := hide (by omega)
                                  go_wp2_with (go_at_call 33; refine (isDigit_any _ _).mono ?_; rintro e w' ⟨rfl, rfl⟩)
                                  go_ret
                                  exact ⟨ret_int (fin_of HN.out (expo_sign hn1 (.inr HE.out) (.inr HP.out) hst3.out) (by have := hst3.out.1; have := hne.out; rw [if_neg (by omega)]; omega)), rfl⟩
                            | false =>
                              have hst3 : Hid (Stop s (n + 1 + 1) (n + 1 + 1)) := hide (Stop.none (by omega) (digB_false hm hdm))
                              go_wp2_with (go_at_call 33; refine (isDigit_any _ _).mono ?_; rintro e w' ⟨rfl, rfl⟩)
                              go_ret
                              exact ⟨ret_int (fin_of HN.out (expo_sign hn1 (.inr HE.out) (.inr HP.out) hst3.out) (by rw [if_pos rfl]; rfl)), rfl⟩
                          · have hst3 : Hid (Stop s (n + 1 + 1) (n + 1 + 1)) := hide (Stop.none (by omega) (fun ⟨h, _⟩ => hm h))
                            go_wp2_with (go_at_call 33; refine (isDigit_any _ _).mono ?_; rintro e w' ⟨rfl, rfl⟩)
                            go_ret
                            exact ⟨ret_int (fin_of HN.out (expo_sign hn1 (.inr HE.out) (.inr HP.out) hst3.out) (by rw [if_pos rfl]; rfl)), rfl⟩
                        · have HP : Hid (¬ ((s[n + 1].toNat : Int) = 43 ∨ (s[n + 1].toNat : Int) = 45)) := hide (fun h => h.elim hp hq)
                          have hpb : ((s[n + 1].toNat : Int) == 43) = false := by simp [hp]
                          have hqb : ((s[n + 1].toNat : Int) == 45) = false := by simp [hq]
                          clear hp hq
                          by_cases hm : n + 1 < s.size
                          · cases hdm : digB (s[n + 1].toNat : Int) with
                            | true =>
                              go_wp2_with (go_at_call 33; refine (isDigit_any _ _).mono ?_; rintro e w' ⟨rfl, rfl⟩)
                              go_loop [3] (fun i => ∃ j : Nat, n + 1 ≤ j ∧ j ≤ s.size ∧ i = .int .i64 j ∧ Hid (∀ x, n + 1 ≤ x → x < j → D s x)) (fun i => s.size - (intOf i).toNat)
                              case atStart => exact ⟨n + 1, by omega, by omega, by go_num, hide (fun x a b => by omega)⟩
                              case round =>
                                obtain ⟨j, hj1, hj, rfl, hdj⟩ := hrel
                                by_cases hjl : j < s.size
                                · cases hdig3 : digB (s[j].toNat : Int) with
                                  | true =>
                                    go_wp2_with (go_at_call 33; refine (isDigit_any _ _).mono ?_; rintro e w' ⟨rfl, rfl⟩)
                                    go_round
                                    case rel => exact ⟨j + 1, by omega, by omega, by go_num, hide (Stop.on hdj.out hjl hdig3)⟩
                                    case measure => simp [intOf]; omega
                                  | false =>
                                    have hst3 : Hid (Stop s (n + 1) j) := hide ⟨by omega, hj, hdj.out, digB_false hjl hdig3⟩
                                    have hne : Hid (j ≠ n + 1) := hide (by rintro rfl; rw [hdm] at hdig3; cases hdig3)
                                    go_wp2_with (go_at_call 33; refine (isDigit_any _ _).mono ?_; rintro e w' ⟨rfl, rfl⟩)
                                    go_ret
                                    exact ⟨ret_int (fin_of HN.out (expo_bare hn1 (.inr HE.out) HP.out hst3.out) (by have := hst3.out.1; have := hne.out; rw [if_neg (by omega)]; omega)), rfl⟩
                                · have hst3 : Hid (Stop s (n + 1) j) := hide ⟨by omega, hj, hdj.out, fun ⟨h, _⟩ => hjl h⟩
                                  have hne : Hid (j ≠ n + 1) := hide (by omega)
                                  go_wp2_with (go_at_call 33; refine (isDigit_any _ _).mono ?_; rintro e w' ⟨rfl, rfl⟩)
                                  go_ret
                                  exact ⟨ret_int (fin_of HN.out (expo_bare hn1 (.inr HE.out) HP.out hst3.out) (by have := hst3.out.1; have := hne.out; rw [if_neg (by omega)]; omega)), rfl⟩
                            | false =>
                              have hst3 : Hid (Stop s (n + 1) (n + 1)) := hide (Stop.none (by omega) (digB_false hm hdm))
                              go_wp2_with (go_at_call 33; refine (isDigit_any _ _).mono ?_; rintro e w' ⟨rfl, rfl⟩)
                              go_ret
                              exact ⟨ret_int (fin_of HN.out (expo_bare hn1 (.inr HE.out) HP.out hst3.out) (by rw [if_pos rfl]; rfl)), rfl⟩
                          · omega
                    · have HE : Hid (expo (s.data.toList.drop n) = 0) := hide (expo_other (by omega) he he2)
                      have heb : ((s[n].toNat : Int) == 101) = false := by simp [he]
                      have heb2 : ((s[n].toNat : Int) == 69) = false := by simp [he2]
                      clear he he2
                      go_wp2_with (go_at_call 33; refine (isDigit_any _ _).mono ?_; rintro e w' ⟨rfl, rfl⟩)
                      go_ret
                      exact ⟨ret_int (fin_of HN.out HE.out rfl), rfl⟩
                · have HE : Hid (expo (s.data.toList.drop n) = 0) := hide (expo_short (by omega))
                  go_wp2_with (go_at_call 33; refine (isDigit_any _ _).mono ?_; rintro e w' ⟨rfl, rfl⟩)
                  go_ret
                  exact ⟨ret_int (fin_of HN.out HE.out rfl), rfl⟩
            · have HN : Hid (numLen s.data.toList = n + expo (s.data.toList.drop n)) := hide (numLen_dot hst.out hlt HD.out ⟨hn0, hn, hd.out, fun ⟨h, _⟩ => hnl h⟩)
              have HE : Hid (expo (s.data.toList.drop n) = 0) := hide (expo_short (by omega))
              go_wp2_with (go_at_call 33; refine (isDigit_any _ _).mono ?_; rintro e w' ⟨rfl, rfl⟩)
              go_ret
              exact ⟨ret_int (fin_of HN.out HE.out rfl), rfl⟩
        · have HN : Hid (numLen s.data.toList = k + expo (s.data.toList.drop k)) := hide (numLen_plain hst.out (fun _ => hdot))
          have hdotb : ((s[k].toNat : Int) == 46) = false := by simp [hdot]
          clear hdot
          by_cases hn1 : k + 1 < s.size
          · by_cases he : (s[k].toNat : Int) = 101
            · have HE : Hid ((s[k].toNat : Int) = 101) := hide he
              have heb : ((s[k].toNat : Int) == 101) = true := by simp [he]
              clear he
              by_cases hp : (s[k + 1].toNat : Int) = 43
              · have HP : Hid ((s[k + 1].toNat : Int) = 43) := hide hp
                have hpb : ((s[k + 1].toNat : Int) == 43) = true := by simp [hp]
                clear hp
                by_cases hm : k + 1 + 1 < s.size
                · cases hdm : digB (s[k + 1 + 1].toNat : Int) with
                  | true =>
                    go_wp2_with (go_at_call 33; refine (isDigit_any _ _).mono ?_; rintro e w' ⟨rfl, rfl⟩)
                    go_loop [3] (fun i => ∃ j : Nat, k + 1 + 1 ≤ j ∧ j ≤ s.size ∧ i = .int .i64 j ∧ Hid (∀ x, k + 1 + 1 ≤ x → x < j → D s x)) (fun i => s.size - (intOf i).toNat)
                    case atStart => exact ⟨k + 1 + 1, by omega, by omega, by go_num, hide (fun x a b => by omega)⟩
                    case round =>
                      obtain ⟨j, hj1, hj, rfl, hdj⟩ := hrel
                      by_cases hjl : j < s.size
                      · cases hdig3 : digB (s[j].toNat : Int) with
                        | true =>
                          go_wp2_with (go_at_call 33; refine (isDigit_any _ _).mono ?_; rintro e w' ⟨rfl, rfl⟩)
                          go_round
                          case rel => exact ⟨j + 1, by omega, by omega, by go_num, hide (Stop.on hdj.out hjl hdig3)⟩
                          case measure => simp [intOf]; omega
                        | false =>
                          have hst3 : Hid (Stop s (k + 1 + 1) j) := hide ⟨by omega, hj, hdj.out, digB_false hjl hdig3⟩
                          have hne : Hid (j ≠ k + 1 + 1) := hide (by rintro rfl; rw [hdm] at hdig3; cases hdig3)
                          go_wp2_with (go_at_call 33; refine (isDigit_any _ _).mono ?_; rintro e w' ⟨rfl, rfl⟩)
                          go_ret
                          exact ⟨ret_int (fin_of HN.out (expo_sign hn1 (.inl HE.out) (.inl HP.out) hst3.out) (by have := hst3.out.1; have := hne.out; rw [if_neg (by omega)]; omega)), rfl⟩
                      · have hst3 : Hid (Stop s (k + 1 + 1) j) := hide ⟨by omega, hj, hdj.out, fun ⟨h, _⟩ => hjl h⟩
                        have hne : Hid (j ≠ k + 1 + 1) := hide (by omega)
                        go_wp2_with (go_at_call 33; refine (isDigit_any _ _).mono ?_; rintro e w' ⟨rfl, rfl⟩)
                        go_ret
                        exact ⟨ret_int (fin_of HN.out (expo_sign hn1 (.inl HE.out) (.inl HP.out) hst3.out) (by have := hst3.out.1; have := hne.out; rw [if_neg (by omega)]; omega)), rfl⟩
                  | false =>
                    have hst3 : Hid (Stop s (k + 1 + 1) (k + 1 + 1)) := hide (Stop.none (by omega) (digB_false hm hdm))
                    go_wp2_with (go_at_call 33; refine (isDigit_any _ _).mono ?_; rintro e w' ⟨rfl, rfl⟩)
                    go_ret
                    exact ⟨ret_int (fin_of HN.out (expo_sign hn1 (.inl HE.out) (.inl HP.out) hst3.out) (by rw [if_pos rfl]; rfl)), rfl⟩
                · have hst3 : Hid (Stop s (k + 1 + 1) (k + 1 + 1)) := hide (Stop.none (by omega) (fun ⟨h, _⟩ => hm h))
                  go_wp2_with (go_at_call 33; refine (isDigit_any _ _).mono ?_; rintro e w' ⟨rfl, rfl⟩)
                  go_ret
                  exact ⟨ret_int (fin_of HN.out (expo_sign hn1 (.inl HE.out) (.inl HP.out) hst3.out) (by rw [if_pos rfl]; rfl)), rfl⟩
              · by_cases hq : (s[k + 1].toNat : Int) = 45
                · have HP : Hid ((s[k + 1].toNat : Int) = 45) := hide hq
                  have hpb : ((s[k + 1].toNat : Int) == 43) = false := by simp [hp]
                  have hqb : ((s[k + 1].toNat : Int) == 45) = true := by simp [hq]
                  clear hp hq
                  by_cases hm : k + 1 + 1 < s.size
                  · cases hdm : digB (s[k + 1 + 1].toNat : Int) with
                    | true =>
                      go_wp2_with (go_at_call 33; refine (isDigit_any _ _).mono ?_; rintro e w' ⟨rfl, rfl⟩)
                      go_loop [3] (fun i => ∃ j : Nat, k + 1 + 1 ≤ j ∧ j ≤ s.size ∧ i = .int .i64 j ∧ Hid (∀ x, k + 1 + 1 ≤ x → x < j → D s x)) (fun i => s.size - (intOf i).toNat)
                      case atStart => exact ⟨k + 1 + 1, by omega, by omega, by go_num, hide (fun x a b => by omega)⟩
                      case round =>
                        obtain ⟨j, hj1, hj, rfl, hdj⟩ := hrel
                        by_cases hjl : j < s.size
                        · cases hdig3 : digB (s[j].toNat : Int) with
                          | true =>
                            go_wp2_with (go_at_call 33; refine (isDigit_any _ _).mono ?_; rintro e w' ⟨rfl, rfl⟩)
                            go_round
                            case rel => exact ⟨j + 1, by omega, by omega, by go_num, hide (Stop.on hdj.out hjl hdig3)⟩
                            case measure => simp [intOf]; omega
                          | false =>
                            have hst3 : Hid (Stop s (k + 1 + 1) j) := hide ⟨by omega, hj, hdj.out, digB_false hjl hdig3⟩
                            have hne : Hid (j ≠ k + 1 + 1) := hide (by rintro rfl; rw [hdm] at hdig3; cases hdig3)
                            go_wp2_with (go_at_call 33; refine (isDigit_any _ _).mono ?_; rintro e w' ⟨rfl, rfl⟩)
                            go_ret
                            exact ⟨ret_int (fin_of HN.out (expo_sign hn1 (.inl HE.out) (.inr HP.out) hst3.out) (by have := hst3.out.1; have := hne.out; rw [if_neg (by omega)]; omega)), rfl⟩
                        · have hst3 : Hid (Stop s (k + 1 + 1) j) := hide ⟨by omega, hj, hdj.out, fun ⟨h, _⟩ => hjl h⟩
                          have hne : Hid (j ≠ k + 1 + 1) := hide (by omega)
                          go_wp2_with (go_at_call 33; refine (isDigit_any _ _).mono ?_; rintro e w' ⟨rfl, rfl⟩)
                          go_ret
                          exact ⟨ret_int (fin_of HN.out (expo_sign hn1 (.inl HE.out) (.inr HP.out) hst3.out) (by have := hst3.out.1; have := hne.out; rw [if_neg (by omega)]; omega)), rfl⟩
                    | false =>
                      have hst3 : Hid (Stop s (k + 1 + 1) (k + 1 + 1)) := hide (Stop.none (by omega) (digB_false hm hdm))
                      go_wp2_with (go_at_call 33; refine (isDigit_any _ _).mono ?_; rintro e w' ⟨rfl, rfl⟩)
                      go_ret
                      exact ⟨ret_int (fin_of HN.out (expo_sign hn1 (.inl HE.out) (.inr HP.out) hst3.out) (by rw [if_pos rfl]; rfl)), rfl⟩
                  · have hst3 : Hid (Stop s (k + 1 + 1) (k + 1 + 1)) := hide (Stop.none (by omega) (fun ⟨h, _⟩ => hm h))
                    go_wp2_with (go_at_call 33; refine (isDigit_any _ _).mono ?_; rintro e w' ⟨rfl, rfl⟩)
                    go_ret
                    exact ⟨ret_int (fin_of HN.out (expo_sign hn1 (.inl HE.out) (.inr HP.out) hst3.out) (by rw [if_pos rfl]; rfl)), rfl⟩
                · have HP : Hid (¬ ((s[k + 1].toNat : Int) = 43 ∨ (s[k + 1].toNat : Int) = 45)) := hide (fun h => h.elim hp hq)
                  have hpb : ((s[k + 1].toNat : Int) == 43) = false := by simp [hp]
                  have hqb : ((s[k + 1].toNat : Int) == 45) = false := by simp [hq]
                  clear hp hq
                  by_cases hm : k + 1 < s.size
                  · cases hdm : digB (s[k + 1].toNat : Int) with
                    | true =>
                      go_wp2_with (go_at_call 33; refine (isDigit_any _ _).mono ?_; rintro e w' ⟨rfl, rfl⟩)
                      go_loop [3] (fun i => ∃ j : Nat, k + 1 ≤ j ∧ j ≤ s.size ∧ i = .int .i64 j ∧ Hid (∀ x, k + 1 ≤ x → x < j → D s x)) (fun i => s.size - (intOf i).toNat)
                      case atStart => exact ⟨k + 1, by omega, by omega, by go_num, hide (fun x a b => by omega)⟩
                      case round =>
                        obtain ⟨j, hj1, hj, rfl, hdj⟩ := hrel
                        by_cases hjl : j < s.size
                        · cases hdig3 : digB (s[j].toNat : Int) with
                          | true =>
                            go_wp2_with (go_at_call 33; refine (isDigit_any _ _).mono ?_; rintro e w' ⟨rfl, rfl⟩)
                            go_round
                            case rel => exact ⟨j + 1, by omega, by omega, by go_num, hide (Stop.on hdj.out hjl hdig3)⟩
                            case measure => simp [intOf]; omega
                          | false =>
                            have hst3 : Hid (Stop s (k + 1) j) := hide ⟨by omega, hj, hdj.out, digB_false hjl hdig3⟩
                            have hne : Hid (j ≠ k + 1) := hide (by rintro rfl; rw [hdm] at hdig3; cases hdig3)
                            go_wp2_with (go_at_call 33; refine (isDigit_any _ _).mono ?_; rintro e w' ⟨rfl, rfl⟩)
                            go_ret
                            exact ⟨ret_int (fin_of HN.out (expo_bare hn1 (.inl HE.out) HP.out hst3.out) (by have := hst3.out.1; have := hne.out; rw [if_neg (by omega)]; omega)), rfl⟩
                        · have hst3 : Hid (Stop s (k + 1) j) := hide ⟨by omega, hj, hdj.out, fun ⟨h, _⟩ => hjl h⟩
                          have hne : Hid (j ≠ k + 1) := hide (by omega)
                          go_wp2_with (go_at_call 33; refine (isDigit_any _ _).mono ?_; rintro e w' ⟨rfl, rfl⟩)
                          go_ret
                          exact ⟨ret_int (fin_of HN.out (expo_bare hn1 (.inl HE.out) HP.out hst3.out) (by have := hst3.out.1; have := hne.out; rw [if_neg (by omega)]; omega)), rfl⟩
                    | false =>
                      have hst3 : Hid (Stop s (k + 1) (k + 1)) := hide (Stop.none (by omega) (digB_false hm hdm))
                      go_wp2_with (go_at_call 33; refine (isDigit_any _ _).mono ?_; rintro e w' ⟨rfl, rfl⟩)
                      go_ret
                      exact ⟨ret_int (fin_of HN.out (expo_bare hn1 (.inl HE.out) HP.out hst3.out) (by rw [if_pos rfl]; rfl)), rfl⟩
                  · omega
            · by_cases he2 : (s[k].toNat : Int) = 69
              · have HE : Hid ((s[k].toNat : Int) = 69) := hide he2
                have heb : ((s[k].toNat : Int) == 101) = false := by simp [he]
                have heb2 : ((s[k].toNat : Int) == 69) = true := by simp [he2]
                clear he he2
                by_cases hp : (s[k + 1].toNat : Int) = 43
                · have HP : Hid ((s[k + 1].toNat : Int) = 43) := hide hp
                  have hpb : ((s[k + 1].toNat : Int) == 43) = true := by simp [hp]
                  clear hp
                  by_cases hm : k + 1 + 1 < s.size
                  · cases hdm : digB (s[k + 1 + 1].toNat : Int) with
                    | true =>
                      go_wp2_with (go_at_call 33; refine (isDigit_any _ _).mono ?_; rintro e w' ⟨rfl, rfl⟩)
                      go_loop [3] (fun i => ∃ j : Nat, k + 1 + 1 ≤ j ∧ j ≤ s.size ∧ i = .int .i64 j ∧ Hid (∀ x, k + 1 + 1 ≤ x → x < j → D s x)) (fun i => s.size - (intOf i).toNat)
                      case atStart => exact ⟨k + 1 + 1, by omega, by omega, by go_num, hide (fun x a b => by omega)⟩
                      case round =>
                        obtain ⟨j, hj1, hj, rfl, hdj⟩ := hrel
                        by_cases hjl : j < s.size
                        · cases hdig3 : digB (s[j].toNat : Int) with
                          | true =>
                            go_wp2_with (go_at_call 33; refine (isDigit_any _ _).mono ?_; rintro e w' ⟨rfl, rfl⟩)
                            go_round
                            case rel => exact ⟨j + 1, by omega, by omega, by go_num, hide (Stop.on hdj.out hjl hdig3)⟩
                            case measure => simp [intOf]; omega
                          | false =>
                            have hst3 : Hid (Stop s (k + 1 + 1) j) := hide ⟨by omega, hj, hdj.out, digB_false hjl hdig3⟩
                            have hne : Hid (j ≠ k + 1 + 1) := hide (by rintro rfl; rw [hdm] at hdig3; cases hdig3)
                            go_wp2_with (go_at_call 33; refine (isDigit_any _ _).mono ?_; rintro e w' ⟨rfl, rfl⟩)
                            go_ret
                            exact ⟨ret_int (fin_of HN.out (expo_sign hn1 (.inr HE.out) (.inl HP.out) hst3.out) (by have := hst3.out.1; have := hne.out; rw [if_neg (by omega)]; omega)), rfl⟩
                        · have hst3 : Hid (Stop s (k + 1 + 1) j) := hide ⟨by omega, hj, hdj.out, fun ⟨h, _⟩ => hjl h⟩
                          have hne : Hid (j ≠ k + 1 + 1) := hide (by omega)
                          go_wp2_with (go_at_call 33; refine (isDigit_any _ _).mono ?_; rintro e w' ⟨rfl, rfl⟩)
                          go_ret
                          exact ⟨ret_int (fin_of HN.out (expo_sign hn1 (.inr HE.out) (.inl HP.out) hst3.out) (by have := hst3.out.1; have := hne.out; rw [if_neg (by omega)]; omega)), rfl⟩
                    | false =>
                      have hst3 : Hid (Stop s (k + 1 + 1) (k + 1 + 1)) := hide (Stop.none (by omega) (digB_false hm hdm))
                      go_wp2_with (go_at_call 33; refine (isDigit_any _ _).mono ?_; rintro e w' ⟨rfl, rfl⟩)
                      go_ret
                      exact ⟨ret_int (fin_of HN.out (expo_sign hn1 (.inr HE.out) (.inl HP.out) hst3.out) (by rw [if_pos rfl]; rfl)), rfl⟩
                  · have hst3 : Hid (Stop s (k + 1 + 1) (k + 1 + 1)) := hide (Stop.none (by omega) (fun ⟨h, _⟩ => hm h))
                    go_wp2_with (go_at_call 33; refine (isDigit_any _ _).mono ?_; rintro e w' ⟨rfl, rfl⟩)
                    go_ret
                    exact ⟨ret_int (fin_of HN.out (expo_sign hn1 (.inr HE.out) (.inl HP.out) hst3.out) (by rw [if_pos rfl]; rfl)), rfl⟩
                · by_cases hq : (s[k + 1].toNat : Int) = 45
                  · have HP : Hid ((s[k + 1].toNat : Int) = 45) := hide hq
                    have hpb : ((s[k + 1].toNat : Int) == 43) = false := by simp [hp]
                    have hqb : ((s[k + 1].toNat : Int) == 45) = true := by simp [hq]
                    clear hp hq
                    by_cases hm : k + 1 + 1 < s.size
                    · cases hdm : digB (s[k + 1 + 1].toNat : Int) with
                      | true =>
                        go_wp2_with (go_at_call 33; refine (isDigit_any _ _).mono ?_; rintro e w' ⟨rfl, rfl⟩)
                        go_loop [3] (fun i => ∃ j : Nat, k + 1 + 1 ≤ j ∧ j ≤ s.size ∧ i = .int .i64 j ∧ Hid (∀ x, k + 1 + 1 ≤ x → x < j → D s x)) (fun i => s.size - (intOf i).toNat)
                        case atStart => exact ⟨k + 1 + 1, by omega, by omega, by go_num, hide (fun x a b => by omega)⟩
                        case round =>
                          obtain ⟨j, hj1, hj, rfl, hdj⟩ := hrel
                          by_cases hjl : j < s.size
                          · cases hdig3 : digB (s[j].toNat : Int) with
                            | true =>
                              go_wp2_with (go_at_call 33; refine (isDigit_any _ _).mono ?_; rintro e w' ⟨rfl, rfl⟩)
                              go_round
                              case rel => exact ⟨j + 1, by omega, by omega, by go_num, hide (Stop.on hdj.out hjl hdig3)⟩
                              case measure => simp [intOf]; omega
                            | false =>
                              have hst3 : Hid (Stop s (k + 1 + 1) j) := hide ⟨by omega, hj, hdj.out, digB_false hjl hdig3⟩
                              have hne : Hid (j ≠ k + 1 + 1) := hide (by rintro rfl; rw [hdm] at hdig3; cases hdig3)
                              go_wp2_with (go_at_call 33; refine (isDigit_any _ _).mono ?_; rintro e w' ⟨rfl, rfl⟩)
                              go_ret
                              exact ⟨ret_int (fin_of HN.out (expo_sign hn1 (.inr HE.out) (.inr HP.out) hst3.out) (by have := hst3.out.1; have := hne.out; rw [if_neg (by omega)]; omega)), rfl⟩
                          · have hst3 : Hid (Stop s (k + 1 + 1) j) := hide ⟨by omega, hj, hdj.out, fun ⟨h, _⟩ => hjl h⟩
                            have hne : Hid (j ≠ k + 1 + 1) := hide (by omega)
                            go_wp2_with (go_at_call 33; refine (isDigit_any _ _).mono ?_; rintro e w' ⟨rfl, rfl⟩)
                            go_ret
                            exact ⟨ret_int (fin_of HN.out (expo_sign hn1 (.inr HE.out) (.inr HP.out) hst3.out) (by have := hst3.out.1; have := hne.out; rw [if_neg (by omega)]; omega)), rfl⟩
                      | false =>
                        have hst3 : Hid (Stop s (k + 1 + 1) (k + 1 + 1)) := hide (Stop.none (by omega) (digB_false hm hdm))
                        go_wp2_with (go_at_call 33; refine (isDigit_any _ _).mono ?_; rintro e w' ⟨rfl, rfl⟩)
                        go_ret
                        exact ⟨ret_int (fin_of HN.out (expo_sign hn1 (.inr HE.out) (.inr HP.out) hst3.out) (by rw [if_pos rfl]; rfl)), rfl⟩
                    · have hst3 : Hid (Stop s (k + 1 + 1) (k + 1 + 1)) := hide (Stop.none (by omega) (fun ⟨h, _⟩ => hm h))
                      go_wp2_with (go_at_call 33; refine (isDigit_any _ _).mono ?_; rintro e w' ⟨rfl, rfl⟩)
                      go_ret
                      exact ⟨ret_int (fin_of HN.out (expo_sign hn1 (.inr HE.out) (.inr HP.out) hst3.out) (by rw [if_pos rfl]; rfl)), rfl⟩
                  · have HP : Hid (¬ ((s[k + 1].toNat : Int) = 43 ∨ (s[k + 1].toNat : Int) = 45)) := hide (fun h => h.elim hp hq)
                    have hpb : ((s[k + 1].toNat : Int) == 43) = false := by simp [hp]
                    have hqb : ((s[k + 1].toNat : Int) == 45) = false := by simp [hq]
                    clear hp hq
                    by_cases hm : k + 1 < s.size
                    · cases hdm : digB (s[k + 1].toNat : Int) with
                      | true =>
                        go_wp2_with (go_at_call 33; refine (isDigit_any _ _).mono ?_; rintro e w' ⟨rfl, rfl⟩)
                        go_loop [3] (fun i => ∃ j : Nat, k + 1 ≤ j ∧ j ≤ s.size ∧ i = .int .i64 j ∧ Hid (∀ x, k + 1 ≤ x → x < j → D s x)) (fun i => s.size - (intOf i).toNat)
                        case atStart => exact ⟨k + 1, by omega, by omega, by go_num, hide (fun x a b => by omega)⟩
                        case round =>
                          obtain ⟨j, hj1, hj, rfl, hdj⟩ := hrel
                          by_cases hjl : j < s.size
                          · cases hdig3 : digB (s[j].toNat : Int) with
                            | true =>
                              go_wp2_with (go_at_call 33; refine (isDigit_any _ _).mono ?_; rintro e w' ⟨rfl, rfl⟩)
                              go_round
                              case rel => exact ⟨j + 1, by omega, by omega, by go_num, hide (Stop.on hdj.out hjl hdig3)⟩
                              case measure => simp [intOf]; omega
                            | false =>
                              have hst3 : Hid (Stop s (k + 1) j) := hide ⟨by omega, hj, hdj.out, digB_false hjl hdig3⟩
                              have hne : Hid (j ≠ k + 1) := hide (by rintro rfl; rw [hdm] at hdig3; cases hdig3)
                              go_wp2_with (go_at_call 33; refine (isDigit_any _ _).mono ?_; rintro e w' ⟨rfl, rfl⟩)
                              go_ret
                              exact ⟨ret_int (fin_of HN.out (expo_bare hn1 (.inr HE.out) HP.out hst3.out) (by have := hst3.out.1; have := hne.out; rw [if_neg (by omega)]; omega)), rfl⟩
                          · have hst3 : Hid (Stop s (k + 1) j) := hide ⟨by omega, hj, hdj.out, fun ⟨h, _⟩ => hjl h⟩
                            have hne : Hid (j ≠ k + 1) := hide (by omega)
                            go_wp2_with (go_at_call 33; refine (isDigit_any _ _).mono ?_; rintro e w' ⟨rfl, rfl⟩)
                            go_ret
                            exact ⟨ret_int (fin_of HN.out (expo_bare hn1 (.inr HE.out) HP.out hst3.out) (by have := hst3.out.1; have := hne.out; rw [if_neg (by omega)]; omega)), rfl⟩
                      | false =>
                        have hst3 : Hid (Stop s (k + 1) (k + 1)) := hide (Stop.none (by omega) (digB_false hm hdm))
                        go_wp2_with (go_at_call 33; refine (isDigit_any _ _).mono ?_; rintro e w' ⟨rfl, rfl⟩)
                        go_ret
                        exact ⟨ret_int (fin_of HN.out (expo_bare hn1 (.inr HE.out) HP.out hst3.out) (by rw [if_pos rfl]; rfl)), rfl⟩
                    · omega
              · have HE : Hid (expo (s.data.toList.drop k) = 0) := hide (expo_other (by omega) he he2)
                have heb : ((s[k].toNat : Int) == 101) = false := by simp [he]
                have heb2 : ((s[k].toNat : Int) == 69) = false := by simp [he2]
                clear he he2
                go_wp2_with (go_at_call 33; refine (isDigit_any _ _).mono ?_; rintro e w' ⟨rfl, rfl⟩)
                go_ret
                exact ⟨ret_int (fin_of HN.out HE.out rfl), rfl⟩
          · have HE : Hid (expo (s.data.toList.drop k) = 0) := hide (expo_short (by omega))
            go_wp2_with (go_at_call 33; refine (isDigit_any _ _).mono ?_; rintro e w' ⟨rfl, rfl⟩)
            go_ret
            exact ⟨ret_int (fin_of HN.out HE.out rfl), rfl⟩
    · have hst : Hid (Stop s 0 k) := hide ⟨Nat.zero_le _, hk, hd.out, fun ⟨h, _⟩ => hlt h⟩
      have HN : Hid (numLen s.data.toList = k + expo (s.data.toList.drop k)) := hide (numLen_plain hst.out (fun h => absurd h hlt))
      have HE : Hid (expo (s.data.toList.drop k) = 0) := hide (expo_short (by omega))
      go_wp2_with (go_at_call 33; refine (isDigit_any _ _).mono ?_; rintro e w' ⟨rfl, rfl⟩)
      go_ret
      exact ⟨ret_int (fin_of HN.out HE.out rfl), rfl⟩

theorem zznumber_any (s : ByteArray) (w : World) (hs : s.size ≤ 1048576) :
    Calls Try.prog 9 #[.string s] w fun e w' => e = .returned (.int .i64 (numLen s.data.toList)) ∧ w' = w := by
  go_enter Try.func9, Try.ntmps9
  go_wp2_with (go_at_call 27; refine (number_any _ _ hs).mono ?_; rintro e w' ⟨rfl, rfl⟩)
  go_ret
  exact ⟨rfl, rfl⟩
end Go.Proofs.Qxb6618081a.Num
