/-
  nameRepair, walked.
-/
import Derived.Test.Qxb6619659aWalk
import Derived.Laws.BytesArg
import Derived.OpenShut
import Derived.WalkSpells
namespace Go.Proofs.Qxb6619659a.Nm
open Go.ChangeShapes Go.WideShapes Go.ChangeAt Go.RowKit
set_option linter.unusedVariables false

theorem info5 : (Try.prog.info? 5).map (fun i => (i.zero, i.size, i.bytes)) = some (some (.int .u8 0), 1, 1) := by kernel_rfl

/-- what the row holds behind k rounds -/
def row (l : List UInt8) (k : Nat) : List Int := 48 :: (l.take k).map (fun c => ((fix c).toNat : Int))
theorem row_len (l : List UInt8) (k : Nat) (h : k ≤ l.length) : (row l k).length = k + 1 := by simp [row]; omega
theorem row_succ (s : ByteArray) (k : Nat) (h : k < s.size) : row s.data.toList (k + 1) = row s.data.toList k ++ [((fix s[k]).toNat : Int)] := by
  unfold row
  rw [List.take_succ_eq_append_getElem (by simpa using h)]
  simp
  rfl

theorem row_str (l : List UInt8) (k : Nat) (h : k = l.length) : (strOfNums (row l k)).data.toList = 48 :: l.map fix := by
  subst h
  rw [strOfNums_data]
  simp [row]

theorem zz_one (s : ByteArray) (k : Nat) (h : k < s.size) (w : World) :
    Calls Try.prog 11 #[.string ({ data := #[48] } ++ s.extract k (k + 1))] w fun e w' => e = .returned (.bool (inB (s[k].toNat : Int))) ∧ w = w' := by
  have e1 : ({ data := #[48] } ++ s.extract k (k + 1) : ByteArray).data.toList = [48, s[k]] := by
    have h0 := drop_cons s k h
    simp [h0]
  have e2 : ({ data := #[48] } ++ s.extract k (k + 1) : ByteArray).size = 2 := by
    rw [← ByteArray.size_data, ← Array.length_toList, e1]; rfl
  refine (zzvalid_any _ w (by rw [e2]; omega)).mono ?_
  rintro e w' ⟨rfl, rfl⟩
  rw [e1, valid_zero]
  exact ⟨by simp [okTail], rfl⟩

set_option maxHeartbeats 1000000 in
theorem repair_any (s : ByteArray) (w : World) (hs : s.size ≤ 65536) :
    Calls Try.prog 12 #[.string s, .int .i64 s.size] w fun e w' => ∃ r : ByteArray, e = .returned (.string r) ∧ r.size = s.size + 1 ∧ r.data.toList = 48 :: s.data.toList.map fix ∧ Below w.heap.size w w' := by
  obtain ⟨i5, hi, hz0, hz1, hz2⟩ := info_parts info5
  go_enter Try.func12, Try.ntmps12
  go_wp2_with (first
    | (at_make; refine wpList_make_own _ rfl _ _ 25 rfl w.heap.size 5 i5 (.int .u8 0) 1 Try.underlying25 hi hz0 hz1 .i64 .i64 _ (s.size + 1) rfl rfl (by omega) (by rw [hz2]; omega) (by unfold maxLen; omega) (Nat.le_refl _) ?_; intro w1 hown1 hgrow1)
    | (at_builtin; refine wpList_append_fits _ rfl (.tmp 11) (.tmp 12) 25 rfl w.heap.size 5 i5 1 Try.underlying25 hi hz1 w.heap.size 0 (s.size + 1) [] rfl (hown1.alloc _) ⟨w1.heap.size, 0, none⟩ 1 1 [.int .u8 48] rfl rfl (cell_one_new _ _ _) (ints_oneCell .u8 [48]) (by omega) ?_; intro w2 hown2 hgrow2))
  have hb2 : Below w.heap.size w w2 := by
    have hs1 := hgrow1.size
    refine ((Below.refl w.heap.size w).grown hgrow1 (Nat.le_refl _) (by simp)).alloc (by omega) _ |>.grown hgrow2 (by simp; omega) (by intro k hk; simp at hk; omega)
  go_loopw [5, 6] (fun v i wr => ∃ k : Nat, k ≤ s.size ∧ i = .int .i64 k ∧ v = .slice (some ⟨w.heap.size, 0, none⟩) (k + 1) (s.size + 1) ∧
      wr.ownsRow w.heap.size 5 1 (.slice (some ⟨w.heap.size, 0, none⟩) (k + 1) (s.size + 1)) (k + 1) ((row s.data.toList k).map (Value.int .u8)) ∧ Below w.heap.size w wr)
    (fun _ i _ => s.size - (intOf i).toNat)
  case atStart => exact ⟨0, Nat.zero_le _, rfl, rfl, hown2, hb2⟩
  case round =>
    obtain ⟨k, hk, rfl, rfl, hown, hbel⟩ := hrel
    clear hown1 hown2 hgrow1 hgrow2 hb2
    by_cases hlt : k < s.size
    · have hl : k + 1 ≤ s.size + 1 := by omega
      have hfx : Hid (row s.data.toList (k + 1) = row s.data.toList k ++ [((fix s[k]).toNat : Int)]) := hide (row_succ s k hlt)
      cases hb : inB (s[k].toNat : Int) with
      | true =>
        have hf : Hid (fix s[k] = s[k]) := hide (by unfold fix; rw [if_pos hb])
        go_wp2_with (first
          | (go_at_call 11; refine (zz_one s k hlt _).mono ?_; rintro e w' ⟨rfl, rfl⟩)
          | (at_builtin; refine wpList_append_fits _ rfl (.tmp 35) (.tmp 37) 25 rfl w.heap.size 5 i5 1 Try.underlying25 hi hz1 w.heap.size (k + 1) (s.size + 1) _ rfl (hown.alloc _) ⟨wr.heap.size, 0, none⟩ 1 1 [.int .u8 (s[k].toNat : Int)] rfl rfl (cell_one_new _ _ _) (ints_oneCell .u8 [(s[k].toNat : Int)]) (by omega) ?_; intro w3 hown3 hgrow3))
        have hb3 : Below w.heap.size w w3 := by
          have hs1 := hbel.size
          exact (hbel.alloc hs1 _).grown hgrow3 (by simp; omega) (by intro j hj; simp at hj; omega)
        go_roundw
        case rel => exact ⟨k + 1, by omega, by go_num, rfl, by rw [hfx.out, hf.out, List.map_append]; exact hown3, hb3⟩
        case measure => simp [intOf]; omega
      | false =>
        have hf : Hid (fix s[k] = 48) := hide (by unfold fix; rw [if_neg (by rw [hb]; simp)])
        go_wp2_with (first
          | (go_at_call 11; refine (zz_one s k hlt _).mono ?_; rintro e w' ⟨rfl, rfl⟩)
          | (at_builtin; refine wpList_append_fits _ rfl (.tmp 35) (.tmp 37) 25 rfl w.heap.size 5 i5 1 Try.underlying25 hi hz1 w.heap.size (k + 1) (s.size + 1) _ rfl (hown.alloc _) ⟨wr.heap.size, 0, none⟩ 1 1 [.int .u8 48] rfl rfl (cell_one_new _ _ _) (ints_oneCell .u8 [48]) (by omega) ?_; intro w3 hown3 hgrow3))
        have hb3 : Below w.heap.size w w3 := by
          have hs1 := hbel.size
          exact (hbel.alloc hs1 _).grown hgrow3 (by simp; omega) (by intro j hj; simp at hj; omega)
        go_roundw
        case rel => exact ⟨k + 1, by omega, by go_num, rfl, by rw [hfx.out, hf.out, List.map_append]; exact hown3, hb3⟩
        case measure => simp [intOf]; omega
    · have hke : k = s.size := by omega
      have hcv := run_convert_bytes_arg (P := Try.prog) wr 25 5 Try.underlying25 Try.underlying5 w.heap.size 0 (k + 1) (s.size + 1) (row s.data.toList k) (row_len _ _ (by simpa using hk))
        (by
          intro j hj
          have hlen : (row s.data.toList k).length = k + 1 := row_len _ _ (by simpa using hk)
          rw [Nat.zero_add, hown.cellAt j (by omega), List.getElem?_map, List.getElem?_eq_getElem (by omega)]
          simp [List.getElem?_eq_getElem (show j < (row s.data.toList k).length by omega)]) 9 Try.underlying9
      have HK : Hid (k = s.size) := hide hke
      clear hke
      go_wp2
      go_ret
      refine ⟨_, rfl, ?_, ?_, hbel⟩
      · rw [strOfNums_size, row_len _ _ (by simpa using hk), HK.out]
      · exact row_str _ _ (by simpa using HK.out)
end Go.Proofs.Qxb6619659a.Nm
