/-
  The small functions on the road of statements, walked.
-/
import Derived.Test.Qxb6618081aRows
import Derived.WalkKit
import Derived.ProofKit
import Derived.OpenShut
import Derived.WalkSpells
import Derived.WalkLawsBesides
import Derived.Deep.QuietTactic
import Derived.BigQuiet
import Derived.Test.Qxb6618081aStPlain
namespace Go.Proofs.Qxb6618081a.St
open Go.ChangeShapes Go.WideShapes Go.ChangeAt Go.RowKit
set_option linter.unusedVariables false

theorem hide {p : Prop} (h : p) : Hid p := h
theorem ret_bool {a b : Bool} (h : a = b) : Ending.returned (.bool a) = .returned (.bool b) := by rw [h]
/-- is the text the one byte ';'? -/
def semB (t : ByteArray) : Bool := t.toList == [59]
/-- a separator: a line of psql (kind 7) or the symbol ';' (kind 6) -/
def sepB (k : Int) (t : ByteArray) : Bool := (k == 7) || ((k == 6) && semB t)

theorem isSep_any (k : Int) (t : ByteArray) (w : World) :
    Calls Try.prog 16 #[.int .u8 k, .string t] w fun e w' => e = .returned (.bool (sepB k t)) ∧ w = w' := by
  have hdef : sepB k t = ((k == 7) || ((k == 6) && semB t)) := rfl
  rw [hdef]
  have hsem : semB t = (t.toList == [59]) := rfl
  cases h7 : (k == 7) with
  | true =>
    go_enter Try.func16, Try.ntmps16
    go_wp2
    go_ret
    exact ⟨rfl, rfl⟩
  | false =>
    cases h6 : (k == 6) with
    | true =>
      cases ht : (t.toList == [59]) with
      | true =>
        rw [hsem, ht]
        clear hsem hdef
        go_enter Try.func16, Try.ntmps16
        go_wp2
        go_ret
        exact ⟨rfl, rfl⟩
      | false =>
        rw [hsem, ht]
        clear hsem hdef
        go_enter Try.func16, Try.ntmps16
        go_wp2
        go_ret
        exact ⟨rfl, rfl⟩
    | false =>
      clear hsem hdef
      go_enter Try.func16, Try.ntmps16
      go_wp2
      go_ret
      exact ⟨rfl, rfl⟩

theorem isSymbol_any (k : Int) (t : ByteArray) (l : Int) (b : Bool) (w : World) :
    Calls Try.prog 34 #[.agg #[.int .u8 k, .string t, .int .i64 l, .bool b], .string { data := #[59] }] w fun e w' => e = .returned (.bool ((k == 6) && semB t)) ∧ w' = w.alloc (.cells #[.int .u8 k, .string t, .int .i64 l, .bool b] 40) := by
  have hsem : semB t = (t.toList == [59]) := rfl
  cases h6 : (k == 6) with
  | true =>
    cases ht : (t.toList == [59]) with
    | true =>
      rw [hsem, ht]
      clear hsem
      go_enter Try.func34, Try.ntmps34
      go_wp2
      go_ret
      exact ⟨rfl, rfl⟩
    | false =>
      rw [hsem, ht]
      clear hsem
      go_enter Try.func34, Try.ntmps34
      go_wp2
      go_ret
      exact ⟨rfl, rfl⟩
  | false =>
    clear hsem
    go_enter Try.func34, Try.ntmps34
    go_wp2
    go_ret
    exact ⟨rfl, rfl⟩

theorem fields_any (k : Int) (t : ByteArray) (l : Int) (b : Bool) (w : World) :
    Calls Try.prog 17 #[.agg #[.int .u8 k, .string t, .int .i64 l, .bool b]] w fun e w' => e = .returned (.tuple #[.int .u8 k, .string t, .int .i64 l, .bool b]) ∧ Below w.heap.size w w' := by
  go_enter Try.func17, Try.ntmps17
  go_wp2
  go_quiet (fail)
  go_wp2
  refine bodyPost_ret (v := .tuple #[.int .u8 k, .string t, .int .i64 l, .bool b]) (by simp [results, Try.results17, go_sem]) rfl ⟨rfl, ?_⟩
  exact below_drewN ((Below.refl _ _).alloc (Nat.le_refl _) _) _

/-- a number within the limit, and some Bool -/
def Tup (e : Ending) : Prop := ∃ t' b, e = .returned (.tuple #[.int .i64 t', .bool b]) ∧ 0 ≤ t' ∧ t' ≤ 1048576
theorem Tup.mk {t : Int} {b : Bool} (h0 : 0 ≤ t) (h1 : t ≤ 1048576) : Tup (.returned (.tuple #[.int .i64 t, .bool b])) := ⟨t, b, rfl, h0, h1⟩
theorem addBytes_any (t n per : Int) (w : World) (h0 : 0 ≤ t) (h1 : t ≤ 1048576) (hn : 0 ≤ n) (hn1 : n ≤ 9223372036854775807) (hp : per = 1 ∨ per = 8 ∨ per = 16) :
    Calls Try.prog 28 #[.int .i64 t, .int .i64 n, .int .i64 per] w fun e w' => Tup e ∧ w = w' := by
  rcases hp with rfl | rfl | rfl
  · by_cases h : n ≤ 1048576 - t
    · go_enter Try.func28, Try.ntmps28
      go_wp2
      go_ret2
      exact ⟨Tup.mk (by omega) (by omega), rfl⟩
    · go_enter Try.func28, Try.ntmps28
      go_wp2
      go_ret2
      exact ⟨Tup.mk (by omega) (by omega), rfl⟩
  · by_cases h : n ≤ (1048576 - t) / 8
    · go_enter Try.func28, Try.ntmps28
      go_wp2
      go_ret2
      exact ⟨Tup.mk (by omega) (by omega), rfl⟩
    · go_enter Try.func28, Try.ntmps28
      go_wp2
      go_ret2
      exact ⟨Tup.mk (by omega) (by omega), rfl⟩
  · by_cases h : n ≤ (1048576 - t) / 16
    · go_enter Try.func28, Try.ntmps28
      go_wp2
      go_ret2
      exact ⟨Tup.mk (by omega) (by omega), rfl⟩
    · go_enter Try.func28, Try.ntmps28
      go_wp2
      go_ret2
      exact ⟨Tup.mk (by omega) (by omega), rfl⟩

/-- a slice of strings that can be read -/
def StrRow (w : World) (a : Option Addr) (len : Nat) (ss : List ByteArray) : Prop :=
  ss.length = len ∧ (∀ s ∈ ss, s.size ≤ maxLen) ∧ (a = none → len = 0) ∧ ∀ x, a = some x → ∀ i, i < len → w.cell? (x.add i) = some (.string (ss.getD i ByteArray.empty))

theorem addStrings_any (t : Int) (a : Option Addr) (len cap : Nat) (ss : List ByteArray) (w : World) (h0 : 0 ≤ t) (h1 : t ≤ 1048576) (hl : len ≤ 1048576) (hr : StrRow w a len ss) :
    Calls Try.prog 29 #[.int .i64 t, .slice a len cap] w fun e w' => Tup e ∧ w = w' := by
  obtain ⟨hsl, hsm, hnil, hcell⟩ := hr
  go_enter Try.func29, Try.ntmps29
  go_wp2_with fail
  refine (addBytes_any t len 16 _ h0 h1 (by omega) (by omega) (by omega)).mono ?_
  rintro e w' ⟨⟨t1, b1, rfl, ht0, ht1⟩, rfl⟩
  cases b1 with
  | true =>
    go_wp2_with fail
    go_ret2
    exact ⟨Tup.mk ht0 ht1, rfl⟩
  | false =>
    go_wp2_with fail
    go_loop [6, 7, 8] (fun t b i => ∃ (k : Nat) (t2 : Int), k ≤ len ∧ 0 ≤ t2 ∧ t2 ≤ 1048576 ∧ t = .int .i64 t2 ∧ b = .bool false ∧ i = .int .i64 k) (fun _ _ i => len - (intOf i).toNat)
    case atStart => exact ⟨0, t1, by omega, ht0, ht1, rfl, rfl, rfl⟩
    case round =>
      obtain ⟨k, t2, hk, ht20, ht21, rfl, rfl, rfl⟩ := hrel
      by_cases hlt : k < len
      · obtain ⟨x, rfl⟩ : ∃ x, a = some x := by
          cases a with
          | none => have := hnil rfl; omega
          | some x => exact ⟨x, rfl⟩
        obtain ⟨s, hs⟩ : ∃ s, s = ss.getD k ByteArray.empty := ⟨_, rfl⟩
        have hsz : s.size ≤ 9223372036854775807 := by
          have : s ∈ ss := by rw [hs, List.getD_eq_getElem?_getD, List.getElem?_eq_getElem (by omega)]; simp
          have := hsm s this
          unfold maxLen at this
          exact this
        have hc : w.cell? (x.add k) = some (.string s) := by rw [hs]; exact hcell x rfl k hlt
        have HS := hide hs
        clear hs hcell hsm
        go_wp2_with fail
        refine (addBytes_any t2 s.size 1 _ ht20 ht21 (by omega) (by omega) (by omega)).mono ?_
        rintro e w' ⟨⟨t3, b3, rfl, ht30, ht31⟩, rfl⟩
        cases b3 with
        | true =>
          go_wp2_with fail
          go_ret2
          exact ⟨Tup.mk ht30 ht31, rfl⟩
        | false =>
          go_wp2_with fail
          go_round
          case rel => exact ⟨k + 1, t3, by omega, ht30, ht31, rfl, rfl, by go_num⟩
          case measure => simp [intOf]; omega
      · go_wp2_with fail
        go_ret2
        exact ⟨Tup.mk ht20 ht21, rfl⟩

/-- some Bool -/
def SomeB (e : Ending) : Prop := ∃ b, e = .returned (.bool b)
theorem SomeB.mk {b : Bool} : SomeB (.returned (.bool b)) := ⟨b, rfl⟩

set_option maxHeartbeats 1000000 in
theorem over_any (a0 a1 a2 a3 : Option Addr) (l0 l1 l2 l3 c0 c1 c2 c3 : Nat) (ss : List ByteArray) (w : World) (h0 : l0 ≤ 1048576) (h1 : l1 ≤ 1048576) (h2 : l2 ≤ 1048576) (h3 : l3 ≤ 1048576) (hr : StrRow w a1 l1 ss) :
    Calls Try.prog 13 #[.slice a0 l0 c0, .slice a1 l1 c1, .slice a2 l2 c2, .slice a3 l3 c3] w fun e w' => SomeB e ∧ w = w' := by
  go_enter Try.func13, Try.ntmps13
  go_wp2_with fail
  refine (addBytes_any 0 l0 1 _ (by omega) (by omega) (by omega) (by omega) (by omega)).mono ?_
  rintro e w' ⟨⟨t1, b1, rfl, ht0, ht1⟩, rfl⟩
  cases b1 with
  | true =>
    go_wp2_with fail
    go_ret
    exact ⟨SomeB.mk, rfl⟩
  | false =>
    go_wp2_with fail
    refine (addBytes_any t1 l2 8 _ ht0 ht1 (by omega) (by omega) (by omega)).mono ?_
    rintro e w' ⟨⟨t2, b2, rfl, ht20, ht21⟩, rfl⟩
    cases b2 with
    | true =>
      go_wp2_with fail
      go_ret
      exact ⟨SomeB.mk, rfl⟩
    | false =>
      go_wp2_with fail
      refine (addBytes_any t2 l3 1 _ ht20 ht21 (by omega) (by omega) (by omega)).mono ?_
      rintro e w' ⟨⟨t3, b3, rfl, ht30, ht31⟩, rfl⟩
      cases b3 with
      | true =>
        go_wp2_with fail
        go_ret
        exact ⟨SomeB.mk, rfl⟩
      | false =>
        go_wp2_with fail
        refine (addStrings_any t3 a1 l1 c1 ss _ ht30 ht31 h1 hr).mono ?_
        rintro e w' ⟨⟨t4, b4, rfl, _, _⟩, rfl⟩
        go_wp2_with fail
        go_ret
        exact ⟨SomeB.mk, rfl⟩

/-- some Bool; where it is true the four lengths are within the limit -/
def Within (l0 l1 l2 l3 : Nat) (e : Ending) : Prop := ∃ b, e = .returned (.bool b) ∧ (b = true → l0 ≤ 1048576 ∧ l1 ≤ 1048576 ∧ l2 ≤ 1048576 ∧ l3 ≤ 1048576)
theorem Within.no {l0 l1 l2 l3 : Nat} : Within l0 l1 l2 l3 (.returned (.bool false)) := ⟨false, rfl, fun h => (by cases h)⟩
theorem Within.yes {l0 l1 l2 l3 : Nat} (h0 : l0 ≤ 1048576) (h1 : l1 ≤ 1048576) (h2 : l2 ≤ 1048576) (h3 : l3 ≤ 1048576) : Within l0 l1 l2 l3 (.returned (.bool true)) := ⟨true, rfl, fun _ => ⟨h0, h1, h2, h3⟩⟩

set_option maxHeartbeats 4000000 in
theorem bytes12_any (a0 a1 a2 a3 : Option Addr) (l0 l1 l2 l3 c0 c1 c2 c3 : Nat) (ss : List ByteArray) (w : World) (m0 : l0 ≤ 9223372036854775807) (m1 : l1 ≤ 9223372036854775807) (m2 : l2 ≤ 9223372036854775807) (m3 : l3 ≤ 9223372036854775807) (hr : StrRow w a1 l1 ss) :
    Calls Try.prog 12 #[.slice a0 l0 c0, .slice a1 l1 c1, .slice a2 l2 c2, .slice a3 l3 c3] w fun e w' => Within l0 l1 l2 l3 e ∧ w = w' := by
  obtain ⟨hsl, hsm, hnil, hcell⟩ := hr
  by_cases h0 : l0 ≤ 1048576
  · by_cases h1 : l1 ≤ 1048576
    · by_cases h01 : l0 + l1 ≤ 1048576
      · go_enter Try.func12, Try.ntmps12
        go_wp2_with fail
        go_loop [9, 10] (fun z i => ∃ (k : Nat) (t2 : Int), k ≤ l1 ∧ 0 ≤ t2 ∧ t2 ≤ 1048576 ∧ z = .int .i64 t2 ∧ i = .int .i64 k) (fun _ i => l1 - (intOf i).toNat)
        case atStart => exact ⟨0, _, by omega, by omega, by omega, rfl, rfl⟩
        case round =>
          obtain ⟨k, t2, hk, ht20, ht21, rfl, rfl⟩ := hrel
          by_cases hlt : k < l1
          · obtain ⟨x, rfl⟩ : ∃ x, a1 = some x := by
              cases a1 with
              | none => have := hnil rfl; omega
              | some x => exact ⟨x, rfl⟩
            obtain ⟨s, hs⟩ : ∃ s, s = ss.getD k ByteArray.empty := ⟨_, rfl⟩
            have hsz : s.size ≤ 9223372036854775807 := by
              have : s ∈ ss := by rw [hs, List.getD_eq_getElem?_getD, List.getElem?_eq_getElem (by omega)]; simp
              have := hsm s this
              unfold maxLen at this
              exact this
            have hc : w.cell? (x.add k) = some (.string s) := by rw [hs]; exact hcell x rfl k hlt
            have HS := hide hs
            clear hs hcell hsm
            by_cases hb1 : s.size ≤ 1048576
            · by_cases hb2 : t2 + s.size ≤ 1048576
              · go_wp2_with fail
                go_round
                case rel => exact ⟨k + 1, t2 + s.size, by omega, by omega, by omega, rfl, by go_num⟩
                case measure => simp [intOf]; omega
              · go_wp2_with fail
                go_ret
                exact ⟨Within.no, rfl⟩
            · go_wp2_with fail
              go_ret
              exact ⟨Within.no, rfl⟩
          · clear hcell hsm
            by_cases hb1 : l2 ≤ 1048576
            · by_cases hb2 : t2 + l2 ≤ 1048576
              · by_cases hb3 : l3 ≤ 1048576
                · by_cases hb4 : t2 + l2 + l3 ≤ 1048576
                  · go_wp2_with fail
                    go_ret
                    exact ⟨Within.yes h0 h1 hb1 hb3, rfl⟩
                  · go_wp2_with fail
                    go_ret
                    exact ⟨Within.no, rfl⟩
                · go_wp2_with fail
                  go_ret
                  exact ⟨Within.no, rfl⟩
              · go_wp2_with fail
                go_ret
                exact ⟨Within.no, rfl⟩
            · go_wp2_with fail
              go_ret
              exact ⟨Within.no, rfl⟩
      · go_enter Try.func12, Try.ntmps12
        go_wp2_with fail
        go_ret
        exact ⟨Within.no, rfl⟩
    · go_enter Try.func12, Try.ntmps12
      go_wp2_with fail
      go_ret
      exact ⟨Within.no, rfl⟩
  · go_enter Try.func12, Try.ntmps12
    go_wp2_with fail
    go_ret
    exact ⟨Within.no, rfl⟩

set_option maxHeartbeats 4000000 in
theorem bytes18_any (a0 a1 a2 a3 : Option Addr) (l0 l1 l2 l3 c0 c1 c2 c3 : Nat) (iv : Int) (ss : List ByteArray) (w : World) (m0 : l0 ≤ 9223372036854775807) (m1 : l1 ≤ 9223372036854775807) (m2 : l2 ≤ 9223372036854775807) (m3 : l3 ≤ 9223372036854775807) (hr : StrRow w a1 l1 ss) :
    Calls Try.prog 18 #[.slice a0 l0 c0, .slice a1 l1 c1, .slice a2 l2 c2, .slice a3 l3 c3, .int .i64 iv] w fun e w' => Within l0 l1 l2 l3 e ∧ w = w' := by
  obtain ⟨hsl, hsm, hnil, hcell⟩ := hr
  by_cases h0 : l0 ≤ 1048576
  · by_cases h1 : l1 ≤ 1048576
    · by_cases h01 : l0 + l1 ≤ 1048576
      · go_enter Try.func18, Try.ntmps18
        go_wp2_with fail
        go_loop [11, 12] (fun z i => ∃ (k : Nat) (t2 : Int), k ≤ l1 ∧ 0 ≤ t2 ∧ t2 ≤ 1048576 ∧ z = .int .i64 t2 ∧ i = .int .i64 k) (fun _ i => l1 - (intOf i).toNat)
        case atStart => exact ⟨0, _, by omega, by omega, by omega, rfl, rfl⟩
        case round =>
          obtain ⟨k, t2, hk, ht20, ht21, rfl, rfl⟩ := hrel
          by_cases hlt : k < l1
          · obtain ⟨x, rfl⟩ : ∃ x, a1 = some x := by
              cases a1 with
              | none => have := hnil rfl; omega
              | some x => exact ⟨x, rfl⟩
            obtain ⟨s, hs⟩ : ∃ s, s = ss.getD k ByteArray.empty := ⟨_, rfl⟩
            have hsz : s.size ≤ 9223372036854775807 := by
              have : s ∈ ss := by rw [hs, List.getD_eq_getElem?_getD, List.getElem?_eq_getElem (by omega)]; simp
              have := hsm s this
              unfold maxLen at this
              exact this
            have hc : w.cell? (x.add k) = some (.string s) := by rw [hs]; exact hcell x rfl k hlt
            have HS := hide hs
            clear hs hcell hsm
            by_cases hb1 : s.size ≤ 1048576
            · by_cases hb2 : t2 + s.size ≤ 1048576
              · go_wp2_with fail
                go_round
                case rel => exact ⟨k + 1, t2 + s.size, by omega, by omega, by omega, rfl, by go_num⟩
                case measure => simp [intOf]; omega
              · go_wp2_with fail
                go_ret
                exact ⟨Within.no, rfl⟩
            · go_wp2_with fail
              go_ret
              exact ⟨Within.no, rfl⟩
          · clear hcell hsm
            by_cases hb1 : l2 ≤ 1048576
            · by_cases hb2 : t2 + l2 ≤ 1048576
              · by_cases hb3 : l3 ≤ 1048576
                · by_cases hb4 : t2 + l2 + l3 ≤ 1048576
                  · go_wp2_with fail
                    go_ret
                    exact ⟨Within.yes h0 h1 hb1 hb3, rfl⟩
                  · go_wp2_with fail
                    go_ret
                    exact ⟨Within.no, rfl⟩
                · go_wp2_with fail
                  go_ret
                  exact ⟨Within.no, rfl⟩
              · go_wp2_with fail
                go_ret
                exact ⟨Within.no, rfl⟩
            · go_wp2_with fail
              go_ret
              exact ⟨Within.no, rfl⟩
      · go_enter Try.func18, Try.ntmps18
        go_wp2_with fail
        go_ret
        exact ⟨Within.no, rfl⟩
    · go_enter Try.func18, Try.ntmps18
      go_wp2_with fail
      go_ret
      exact ⟨Within.no, rfl⟩
  · go_enter Try.func18, Try.ntmps18
    go_wp2_with fail
    go_ret
    exact ⟨Within.no, rfl⟩
end Go.Proofs.Qxb6618081a.St
