/-
  appendHex, hexValue, cloneBytes, walked.
-/
import Derived.Test.Qxb6619269aRows
import Derived.WalkKit
import Derived.ProofKit
import Derived.OpenShut
import Derived.WalkSpells
import Derived.WalkLawsBesides
import Derived.Laws.CopyOwn
import Derived.Laws.AppendOwnNone
import Derived.Test.Qxb6619269aPlain
namespace Go.Proofs.Qxb6619269a.Hx
open Go.ChangeShapes Go.WideShapes Go.ChangeAt Go.RowKit
set_option linter.unusedVariables false

theorem hide {p : Prop} (h : p) : Hid p := h
theorem info5 : (Try.prog.info? 5).map (fun i => (i.zero, i.size, i.bytes)) = some (some (.int .u8 0), 1, 1) := by kernel_rfl
theorem ret_int {k : IntKind} {a b : Int} (h : a = b) : Ending.returned (.int k a) = .returned (.int k b) := by rw [h]

theorem hexValue_any (c : Int) (h0 : 0 ≤ c) (h1 : c ≤ 255) (w : World) :
    Calls Try.prog 30 #[.int .u8 c] w fun e w' => e = .returned (.int .i64 (hexV c)) ∧ w = w' := by
  have e7 : (102 < c) ∨ (97 ≤ c ∧ c ≤ 102) ∨ (70 < c ∧ c < 97) ∨ (65 ≤ c ∧ c ≤ 70) ∨ (57 < c ∧ c < 65) ∨ (48 ≤ c ∧ c ≤ 57) ∨ c < 48 := by omega
  rcases e7 with h | ⟨h, h'⟩ | ⟨h, h'⟩ | ⟨h, h'⟩ | ⟨h, h'⟩ | ⟨h, h'⟩ | h
  all_goals
    go_enter Try.func30, Try.ntmps30
    go_wp2
    go_ret
    refine ⟨ret_int ?_, rfl⟩
    unfold hexV
    repeat' split
    all_goals omega

theorem zzhexValue_any (c : Int) (h0 : 0 ≤ c) (h1 : c ≤ 255) (w : World) :
    Calls Try.prog 23 #[.int .u8 c] w fun e w' => e = .returned (.int .i64 (hexV c)) ∧ w = w' := by
  go_enter Try.func23, Try.ntmps23
  go_wp2_with (go_at_call 30; refine (hexValue_any c h0 h1 _).mono ?_; rintro e w' ⟨rfl, rfl⟩)
  go_ret
  exact ⟨rfl, rfl⟩

/-- the array tmp behind j rounds -/
def tmpA (n : Nat) : Nat → Array Value
  | 0 => #[.int .u8 0, .int .u8 0, .int .u8 0, .int .u8 0, .int .u8 0, .int .u8 0, .int .u8 0, .int .u8 0, .int .u8 0, .int .u8 0, .int .u8 0, .int .u8 0, .int .u8 0, .int .u8 0, .int .u8 0, .int .u8 0]
  | j + 1 => (tmpA n j).setIfInBounds (15 - j) (.int .u8 (hexc (n / 16 ^ j % 16) : Nat))
theorem tmpA_size (n j : Nat) : (tmpA n j).size = 16 := by
  induction j with
  | zero => rfl
  | succ j ih => simp [tmpA, ih]
def cellsOf (l : List Nat) : List Value := l.map (fun c : Nat => Value.int .u8 (c : Int))

theorem dig_at (d : Nat) (h : d < 16) : (({ data := #[48, 49, 50, 51, 52, 53, 54, 55, 56, 57, 97, 98, 99, 100, 101, 102] } : ByteArray)[d]'h).toNat = hexc d := by
  have : d = 0 ∨ d = 1 ∨ d = 2 ∨ d = 3 ∨ d = 4 ∨ d = 5 ∨ d = 6 ∨ d = 7 ∨ d = 8 ∨ d = 9 ∨ d = 10 ∨ d = 11 ∨ d = 12 ∨ d = 13 ∨ d = 14 ∨ d = 15 := by omega
  rcases this with rfl | rfl | rfl | rfl | rfl | rfl | rfl | rfl | rfl | rfl | rfl | rfl | rfl | rfl | rfl | rfl <;> rfl
theorem arr54 : Try.prog.underlying 54 = some (.array (Try.prog.arrayLen 54) (Try.prog.elem 54)) := by kernel_rfl
theorem arr54len : Try.prog.arrayLen 54 = 16 := by kernel_rfl
theorem arr54elem : Try.prog.elem 54 = 5 := by kernel_rfl
theorem size5 (W : World) : (sizeOf 5).run Try.prog W = .ok 1 W := by
  obtain ⟨i5, hi, hz0, hz1, hz2⟩ := info_parts info5
  simp [sizeOf, typeInfo, hi, hz1]
theorem slice_tmp (g q : Nat) (hq : q ≤ 15) (W : World) :
    (Instr.sliceAt 54 (.pointer (some ⟨g, 0, none⟩)) (some (.int .i64 q)) none none).run Try.prog W = .ok (.slice (some ⟨g, q, none⟩) (16 - q) (16 - q)) W := by
  rw [run_sliceAt_array_l W 54 ⟨g, 0, none⟩ arr54 .i64 q (by omega) (by rw [arr54len]; omega), arr54elem, size5, arr54len]
  simp only [Result.andThen, slicedAt, Int.toNat_natCast]
  rw [if_neg (by omega)]
  simp [Addr.add]
  omega

/-- tmp's last cells -/
theorem tmpA_get (n j i : Nat) (hj : j ≤ 16) (hi : i < j) : (tmpA n j)[16 - j + i]? = some (.int .u8 (hexc (n / 16 ^ (j - 1 - i) % 16) : Nat)) := by
  induction j generalizing i with
  | zero => omega
  | succ j ih =>
    simp only [tmpA]
    cases i with
    | zero =>
      rw [show 16 - (j + 1) + 0 = 15 - j from by omega, Array.getElem?_setIfInBounds_self]
      rw [if_pos (by rw [tmpA_size]; omega)]
      simp
    | succ i =>
      rw [Array.getElem?_setIfInBounds_ne (by omega)]
      rw [show 16 - (j + 1) + (i + 1) = 16 - j + i from by omega, ih i (by omega) (by omega)]
      rw [show j + 1 - 1 - (i + 1) = j - 1 - i from by omega]

theorem isLen_of {n j : Nat} (hj : j ≤ 15) (h : n / 16 ^ j < 16) (hp : j = 0 ∨ 16 ^ j ≤ n) : IsLen n (j + 1) := by
  refine ⟨by omega, by omega, ?_, ?_⟩
  · rw [Nat.pow_succ, Nat.mul_comm]
    exact (Nat.div_lt_iff_lt_mul (Nat.pow_pos (by omega))).1 h
  · rcases hp with rfl | hp
    · exact .inl rfl
    · exact .inr hp
theorem news_len {n j q : Nat} (hq : q = 15 - j) (hj : j ≤ 15) : (cellsOf (lowD n (j + 1))).length = (16 - q) * 1 := by
  simp only [cellsOf, List.length_map, lowD_len]; omega
theorem cells_one (l : List Nat) : ∀ u ∈ cellsOf l, u.oneCell' = true := by
  intro u hu
  obtain ⟨_, _, rfl⟩ := List.mem_map.1 hu
  rfl
theorem news_cells (w : World) {n j q : Nat} {A : Array Value} (hA : A = tmpA n (j + 1)) (hq : q = 15 - j) (hj : j ≤ 15) :
    ∀ k u, (cellsOf (lowD n (j + 1)))[k]? = some u → (w.alloc (.cells A 54)).cell? ((⟨w.heap.size, q, none⟩ : Addr).add k) = some u := by
  intro k u hu
  have hk : k < j + 1 := by
    rcases Nat.lt_or_ge k (j + 1) with h | h
    · exact h
    · rw [List.getElem?_eq_none (by simp [cellsOf, lowD_len]; omega)] at hu; cases hu
  unfold cellsOf at hu
  rw [List.getElem?_map, lowD_get n (j + 1) k hk] at hu
  simp only [Option.map_some, Option.some.injEq] at hu
  have hadd : (⟨w.heap.size, q, none⟩ : Addr).add k = ⟨w.heap.size, 16 - (j + 1) + k, none⟩ := by unfold Addr.add; split <;> simp_all <;> omega
  rw [hadd, hA]
  have := tmpA_get n (j + 1) k (by omega) hk
  simp only [World.cell?_alloc_at]
  rw [this, hu]
theorem grown_trans_alloc (w : World) (o : Obj) {w1 : World} {row : Option Nat} (h : (w.alloc o).grownBy w1 row) : w.grownBy w1 row :=
  ⟨h.os, h.tape, h.output, Nat.le_trans (by simp) h.size, fun k hk hne => (h.block k (by simp; omega) hne).trans (Below.heap_alloc w o k hk)⟩

set_option maxHeartbeats 1000000 in
theorem append_any (v : Value) (m : Nat) (xs : List Value) (n : Nat) (base : Nat) (w : World) (hown : w.ownsRow base 5 1 v m xs) (hm : m ≤ 1048576) (hn : n < 18446744073709551616) (hb : base ≤ w.heap.size) :
    Calls Try.prog 29 #[v, .int .u64 n] w fun e w' => ∃ v' L, IsLen n L ∧ e = .returned v' ∧ w'.ownsRow base 5 1 v' (m + L) (xs ++ cellsOf (lowD n L)) ∧ w.grownBy w' v.ownBlock := by
  obtain ⟨i5, hi, hz0, hz1, hz2⟩ := info_parts info5
  go_enter Try.func29, Try.ntmps29
  go_wp2
  go_loopw [1, 6] (fun nn i wr => ∃ j x : Nat, j ≤ 15 ∧ Hid (x = n / 16 ^ j) ∧ Hid (j = 0 ∨ 16 ^ j ≤ n) ∧ nn = .int .u64 x ∧ i = .int .i64 ((15 - j : Nat) + 1 : Nat) ∧ wr = w.alloc (.cells (tmpA n j) 54))
    (fun _ i _ => (intOf i).toNat)
  case atStart => exact ⟨0, n, by omega, hide (by simp), hide (.inl rfl), rfl, rfl, rfl⟩
  case round =>
    obtain ⟨j, x, hj, hx, hp, rfl, rfl, rfl⟩ := hrel
    have hxn : x < 18446744073709551616 := by
      have := Nat.div_le_self n (16 ^ j); have := hx.out; omega
    have hand : bits .and .u64 (x : Int) 15 = ((x % 16 : Nat) : Int) := by
      have := u64_and_nat x 15 hxn (by omega)
      rw [nat_mask4] at this
      exact this
    obtain ⟨q, hq⟩ : ∃ q, q = 15 - j := ⟨_, rfl⟩
    rw [← hq]
    have hq15 : q ≤ 15 := by omega
    have hlt16 : x % 16 < 16 := Nat.mod_lt _ (by omega)
    have hdig := dig_at (x % 16) hlt16
    obtain ⟨u, hu⟩ : ∃ u, (tmpA n j)[q]? = some u := ⟨(tmpA n j)[q]'(by rw [tmpA_size]; omega), Array.getElem?_eq_getElem _⟩
    have HA : Hid ((tmpA n j).setIfInBounds q (Value.int .u8 ((hexc (x % 16) : Nat) : Int)) = tmpA n (j + 1)) := hide (by rw [hq, hx.out]; rfl)
    have HQ := hide hq
    clear hq
    have hsl := slice_tmp w.heap.size q hq15
    by_cases hlast : x < 16
    · have hb0 : ((x : Int) / 16 == 0) = true := by rw [beq_iff_eq]; omega
      have hL : IsLen n (j + 1) := isLen_of hj (hx.out ▸ hlast) hp.out
      go_wp2_with (at_builtin; refine wpList_append_own _ rfl (.tmp 18) (.tmp 20) 22 rfl base 5 i5 (.int .u8 0) 1 1 Try.underlying22 hi hz0 hz1 hz2 rfl (by decide) v m xs rfl (hown.alloc _) ⟨w.heap.size, q, none⟩ (16 - q) (16 - q) (cellsOf (lowD n (j + 1))) rfl (news_len HQ.out hj) (news_cells w HA.out HQ.out hj) (cells_one _) (by unfold maxLen; omega) (by omega) (by simp; omega) ?_; intro v' w1 hown' hgrow _)
      go_ret
      have h16 : 16 - q = j + 1 := by have := HQ.out; omega
      rw [h16] at hown'
      exact ⟨v', j + 1, hL, rfl, hown', grown_trans_alloc w _ hgrow⟩
    · have hb0 : ((x : Int) / 16 == 0) = false := beq_eq_false_iff_ne.2 (by omega)
      have hn16 : 16 ^ (j + 1) ≤ n := by
        have := hx.out
        rw [Nat.pow_succ]
        have h1 : 16 ≤ n / 16 ^ j := by omega
        have := (Nat.le_div_iff_mul_le (Nat.pow_pos (by omega))).1 h1
        rw [Nat.mul_comm]; exact this
      have hj14 : j ≤ 14 := by
        rcases Nat.lt_or_ge j 15 with h | h
        · omega
        · exfalso
          have : j = 15 := by omega
          subst this
          omega
      clear hsl
      go_wp2
      go_roundw
      case rel => exact ⟨j + 1, x / 16, by omega, hide (by rw [hx.out, Nat.pow_succ, Nat.div_div_eq_div_mul]), hide (.inr hn16), by go_num, by have := HQ.out; rw [show 15 - (j + 1) + 1 = q from by omega], by rw [← HA.out]⟩
      case measure => simp [intOf]

theorem zzappend_any (v : Value) (m : Nat) (xs : List Value) (n : Nat) (base : Nat) (w : World) (hown : w.ownsRow base 5 1 v m xs) (hm : m ≤ 1048576) (hn : n < 18446744073709551616) (hb : base ≤ w.heap.size) :
    Calls Try.prog 21 #[v, .int .u64 n] w fun e w' => ∃ v' L, IsLen n L ∧ e = .returned v' ∧ w'.ownsRow base 5 1 v' (m + L) (xs ++ cellsOf (lowD n L)) ∧ w.grownBy w' v.ownBlock := by
  go_enter Try.func21, Try.ntmps21
  go_wp2_with fail
  refine (append_any v m xs n base _ hown hm hn hb).mono ?_
  rintro e w' ⟨v', L, hL, rfl, ho, hg⟩
  go_wp2
  go_ret
  exact ⟨v', L, hL, rfl, ho, hg⟩

theorem clone_nil (w : World) (l c : Nat) :
    Calls Try.prog 10 #[.slice none l c] w fun e w' => e = .returned (.slice none 0 0) ∧ w = w' := by
  have hnil := fun W => Lib.run_eql_slice_nil (P := Try.prog) W 22 5 none l c 0 0 Try.underlying22
  go_enter Try.func10, Try.ntmps10
  go_wp2
  go_ret
  exact ⟨rfl, rfl⟩

theorem owns_of_heap {w : World} {base g n : Nat} {cs : List Value} (hb : base ≤ g) (hg : w.heap[g]? = some (.cells cs.toArray 5 (0, 0))) (hl : cs.length = n) (hm : n ≤ maxLen) :
    w.ownsRow base 5 1 (.slice (some ⟨g, 0, none⟩) n n) n cs :=
  ⟨by omega, .inr ⟨g, n, cs.toArray, rfl, hb, hg, Nat.le_refl _, hm, by simp [hl], by simp [← hl]⟩⟩
theorem row_of_owns {w : World} {base e g n c : Nat} {xs : List Value} (h : w.ownsRow base e 1 (.slice (some ⟨g, 0, none⟩) n c) n xs) :
    ∃ cur : List Value, w.heap[g]? = some (.cells cur.toArray e (0, 0)) ∧ cur.length = c := by
  rcases h.2 with ⟨h', _⟩ | ⟨g', cap', cur, h', _, hg, _, _, hsz, _⟩
  · simp at h'
  · simp only [Value.slice.injEq, Option.some.injEq, Addr.mk.injEq, and_true, true_and] at h'
    obtain ⟨rfl, rfl⟩ := h'
    exact ⟨cur.toList, by simpa using hg, by simpa using hsz⟩
theorem splice_all {cur cs : List Value} (h : cs.length = cur.length) : splice cur 0 cs = cs := by
  simp [splice, h]

set_option maxHeartbeats 1000000 in
theorem clone_some (x : Addr) (len cap : Nat) (cs : List Value) (w : World) (hl : cs.length = len) (hlen : len ≤ 1048576) (hsrc : ∀ j v, cs[j]? = some v → w.cell? (x.add j) = some v) (h1 : ∀ v ∈ cs, v.oneCell' = true) :
    Calls Try.prog 10 #[.slice (some x) len cap] w fun e w' => e = .returned (.slice (some ⟨w.heap.size, 0, none⟩) len len) ∧ w'.ownsRow w.heap.size 5 1 (.slice (some ⟨w.heap.size, 0, none⟩) len len) len cs ∧ Below w.heap.size w w' := by
  obtain ⟨i5, hi, hz0, hz1, hz2⟩ := info_parts info5
  have hnil := fun W => Lib.run_eql_slice_nil (P := Try.prog) W 22 5 (some x) len cap 0 0 Try.underlying22
  go_enter Try.func10, Try.ntmps10
  go_wp2_with (first
    | (at_make; refine wpList_make_full _ rfl _ _ 22 rfl w.heap.size 5 i5 (.int .u8 0) 1 Try.underlying22 hi hz0 hz1 .i64 .i64 _ _ len rfl rfl (by omega) (by omega) (by rw [hz2]; omega) (by unfold maxLen; omega) (Nat.le_refl _) ?_; intro w1 hown1 hgrow1; obtain ⟨cur, hcur, hcl⟩ := row_of_owns hown1; have hb1 : Below w.heap.size w w1 := (Below.refl w.heap.size w).grown hgrow1 (Nat.le_refl _) (by simp); clear hown1 hgrow1)
    | (have _t := hcur; refine wpList_copy_splice rfl (.tmp 9) (.tmp 10) 22 22 rfl 5 Try.underlying22 (by rw [hi]; simp [hz1]) _ _ _ _ _ _ rfl rfl w.heap.size 0 cur 5 hcur cs (by rw [hl]; exact (Nat.min_self _).symm) (fun _ => ⟨rfl, x, rfl, fun j v hj => (hb1.cell (World.block_lt_of_cell? w _ (hsrc j v hj))).trans (hsrc j v hj)⟩) (by omega) h1 w.heap.size w hb1 (Nat.le_refl _) ?_; intro w2 hg2 hb2))
  go_ret
  refine ⟨rfl, owns_of_heap (Nat.le_refl _) ?_ hl (by unfold maxLen; omega), hb2⟩
  have := hg2.out
  rw [splice_all (by omega)] at this
  exact this
end Go.Proofs.Qxb6619269a.Hx
