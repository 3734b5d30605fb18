/-
  statements, walked.
-/
import Derived.Test.Qxb6618081aStTok
namespace Go.Proofs.Qxb6618081a.St
open Go.ChangeShapes Go.WideShapes Go.ChangeAt Go.RowKit
set_option linter.unusedVariables false

theorem info31 : (Try.prog.info? 31).map (fun i => (i.zero, i.size, i.bytes)) = some (some (.slice none 0 0), 1, 24) := by kernel_rfl
/-- is the j-th token a separator? -/
def sepT (ts : Nat → Tok) (j : Nat) : Bool := sepB (ts j).k (ts j).t
/-- a piece, as a slice over the block g of n tokens -/
def pieceV (g n : Nat) (p : Nat × Nat) : Value := .slice (some ⟨g, p.1 * 4, none⟩) (p.2 - p.1) (n - p.1)
theorem one_pieces (g n : Nat) (l : List (Nat × Nat)) : ∀ u ∈ l.map (pieceV g n), u.oneCell' = true := by
  intro u hu
  obtain ⟨_, _, rfl⟩ := List.mem_map.1 hu
  rfl
theorem TokAt.later {w w' : World} {g i B : Nat} {x : Tok} (h : TokAt w g i x) (hb : Below B w w') (hg : g < B) : TokAt w' g i x :=
  ⟨(hb.cell hg).trans h.1, (hb.cell hg).trans h.2.1, (hb.cell hg).trans h.2.2.1, (hb.cell hg).trans h.2.2.2⟩

theorem cell_one_at (w : World) (x : Value) (t : TypeId) (n : Nat) (hn : n = w.heap.size) : ∀ j u, [x][j]? = some u → (w.alloc (.cells #[x] t)).cell? ((⟨n, 0, none⟩ : Addr).add j) = some u := by
  subst hn; exact cell_one_new w x t
theorem one_slice (a : Option Addr) (l c : Nat) : ∀ u ∈ [Value.slice a l c], u.oneCell' = true := by
  intro u hu
  simp only [List.mem_singleton] at hu
  subst hu
  rfl
theorem piece_eq (g n a s e : Nat) : pieceV g n (a + s, a + e) = .slice (some ⟨g, a * 4 + s * 4, none⟩) (e - s) (n - a - s) := by
  unfold pieceV
  simp only
  rw [show (a + s) * 4 = a * 4 + s * 4 from by omega, show a + e - (a + s) = e - s from by omega, show n - (a + s) = n - a - s from by omega]
theorem owns_app {w : World} {B g n : Nat} {v : Value} {P : List (Nat × Nat)} {p : Nat × Nat} {x : Value} (h : w.ownsRow B 31 1 v (P.length + 1) (P.map (pieceV g n) ++ [x])) (hx : pieceV g n p = x) :
    w.ownsRow B 31 1 v (P ++ [p]).length ((P ++ [p]).map (pieceV g n)) := by
  rw [List.length_append, List.map_append]
  simp only [List.length_cons, List.length_nil, List.map_cons, List.map_nil]
  rw [hx]
  exact h
theorem st_app {S : Nat → Bool} {a m s j : Nat} {P : List (Nat × Nat)} (h : pc S none a m = P ++ pc S (op (a + s) (a + j)) (a + j) (m - j)) (hs : S (a + j) = true) (hlt : j < m) (hsj : s < j) :
    pc S none a m = (P ++ [(a + s, a + j)]) ++ pc S (op (a + (j + 1)) (a + (j + 1))) (a + (j + 1)) (m - (j + 1)) := by
  rw [h, show m - j = (m - (j + 1)) + 1 from by omega, pc_sep hs, if_pos (by omega), List.append_assoc]
  rfl
theorem st_skip {S : Nat → Bool} {a m s j : Nat} {P : List (Nat × Nat)} (h : pc S none a m = P ++ pc S (op (a + s) (a + j)) (a + j) (m - j)) (hs : S (a + j) = true) (hlt : j < m) (hsj : ¬ s < j) :
    pc S none a m = P ++ pc S (op (a + (j + 1)) (a + (j + 1))) (a + (j + 1)) (m - (j + 1)) := by
  rw [h, show m - j = (m - (j + 1)) + 1 from by omega, pc_sep hs, if_neg (by omega), List.nil_append]
  rfl
theorem st_no {S : Nat → Bool} {a m s j : Nat} {P : List (Nat × Nat)} (h : pc S none a m = P ++ pc S (op (a + s) (a + j)) (a + j) (m - j)) (hs : S (a + j) = false) (hlt : j < m) (hsj : s ≤ j) :
    pc S none a m = P ++ pc S (op (a + s) (a + (j + 1))) (a + (j + 1)) (m - (j + 1)) := by
  rw [h, show m - j = (m - (j + 1)) + 1 from by omega, pc_no hs (by omega)]
  rfl
theorem st_end {S : Nat → Bool} {a m s : Nat} {P : List (Nat × Nat)} (h : pc S none a m = P ++ pc S (op (a + s) (a + m)) (a + m) (m - m)) :
    pc S none a m = P ++ (if s < m then [(a + s, a + m)] else []) := by
  rw [h, Nat.sub_self, pc_end]
  congr 1
  split <;> split <;> first | rfl | omega

set_option maxHeartbeats 2000000 in
theorem statements_pos (g a m n : Nat) (ts : Nat → Tok) (w : World) (hm : 0 < m) (ham : a + m ≤ n) (hn : n ≤ 1048576) (hg : g < w.heap.size) (ht : ∀ i, i < m → TokAt w g (a + i) (ts (a + i))) :
    Calls Try.prog 30 #[.slice (some ⟨g, a * 4, none⟩) m (n - a)] w fun e w' => ∃ v, e = .returned v ∧
      w'.ownsRow w.heap.size 31 1 v (pc (sepT ts) none a m).length ((pc (sepT ts) none a m).map (pieceV g n)) ∧ Below w.heap.size w w' := by
  obtain ⟨i31, hi, hz0, hz1, hz2⟩ := info_parts info31
  go_enter Try.func30, Try.ntmps30
  go_wp2_with fail
  go_loopw [3, 4, 9] (fun v st i wr => ∃ (j s : Nat) (P : List (Nat × Nat)), j ≤ m ∧ s ≤ j ∧ P.length ≤ j ∧ i = .int .i64 j ∧ st = .int .i64 s ∧ wr.ownsRow w.heap.size 31 1 v P.length (P.map (pieceV g n)) ∧
      Hid (pc (sepT ts) none a m = P ++ pc (sepT ts) (op (a + s) (a + j)) (a + j) (m - j)) ∧ Below w.heap.size w wr) (fun _ _ i _ => m - (intOf i).toNat)
  case atStart => exact ⟨0, 0, [], by omega, by omega, by simp, rfl, rfl, World.ownsRow_nil _ _ _ _, hide (by simp [op]), Below.refl _ _⟩
  case round =>
    obtain ⟨j, s, P, hj, hs, hPl, rfl, rfl, hown, hpc, hbel⟩ := hrel
    by_cases hlt : j < m
    · have hsz := hbel.size
      obtain ⟨q0, q1, q2, q3⟩ := (ht j hlt).later hbel hg
      have ej : (a + j) * 4 = a * 4 + j * 4 := by omega
      rw [ej] at q0 q1 q2 q3
      obtain ⟨x, hx⟩ : ∃ x, x = ts (a + j) := ⟨_, rfl⟩
      rw [← hx] at q0 q1 q2 q3
      have HX := hide hx
      clear ht hx ej
      have hkl : (j : Int) < (m : Int) := by omega
      cases h7 : (x.k == 7) with
      | true =>
        have HS : Hid (sepT ts (a + j) = true) := hide (by unfold sepT sepB; rw [← HX.out, h7]; rfl)
        by_cases hsj : s < j
        · have Hst := hide (st_app hpc.out HS.out hlt hsj)
          clear hpc
          go_wp2_with (first | (at_builtin; refine wpList_append_own _ rfl (.tmp 24) (.tmp 29) 33 rfl w.heap.size 31 i31 (.slice none 0 0) 1 24 Try.underlying33 hi hz0 hz1 hz2 rfl (by decide) _ P.length _ rfl ((hown.alloc _).alloc _) ⟨wr.heap.size + 1, 0, none⟩ 1 1 [.slice (some ⟨g, a * 4 + s * 4, none⟩) (j - s) (n - a - s)] rfl rfl (cell_one_at _ _ _ _ (by simp)) (one_slice _ _ _) (by unfold maxLen; omega) (by omega) (by simp; omega) ?_; intro v' w2 hown' hgrow _))
          have hown2 := owns_app hown' (by rw [piece_eq])
          have hb2 : Below w.heap.size w w2 := ((hbel.alloc hsz _).alloc (by simp; omega) _).grown hgrow (by simp; omega) (fun k hk => (hown.lt k hk).1)
          clear hown' hgrow hown
          go_roundw
          case rel => exact ⟨j + 1, j + 1, P ++ [(a + s, a + j)], by omega, by omega, by simp; omega, by go_num, by go_num, hown2, Hst, hb2⟩
          case measure => simp [intOf]; omega
        · have Hst := hide (st_skip hpc.out HS.out hlt hsj)
          clear hpc
          go_wp2_with fail
          go_roundw
          case rel => exact ⟨j + 1, j + 1, P, by omega, by omega, by omega, by go_num, by go_num, (hown.alloc _), Hst, hbel.alloc hsz _⟩
          case measure => simp [intOf]; omega
      | false =>
        cases h6 : ((x.k == 6) && semB x.t) with
        | true =>
          have HS : Hid (sepT ts (a + j) = true) := hide (by unfold sepT sepB; rw [← HX.out, h7, h6]; rfl)
          by_cases hsj : s < j
          · have Hst := hide (st_app hpc.out HS.out hlt hsj)
            clear hpc
            go_wp2_with (first | (go_at_call 34; refine (isSymbol_any x.k x.t x.l x.b _).mono ?_; rintro e w' ⟨rfl, rfl⟩) | (at_builtin; refine wpList_append_own _ rfl (.tmp 24) (.tmp 29) 33 rfl w.heap.size 31 i31 (.slice none 0 0) 1 24 Try.underlying33 hi hz0 hz1 hz2 rfl (by decide) _ P.length _ rfl (((hown.alloc _).alloc _).alloc _) ⟨wr.heap.size + 2, 0, none⟩ 1 1 [.slice (some ⟨g, a * 4 + s * 4, none⟩) (j - s) (n - a - s)] rfl rfl (cell_one_at _ _ _ _ (by simp)) (one_slice _ _ _) (by unfold maxLen; omega) (by omega) (by simp; omega) ?_; intro v' w2 hown' hgrow _))
            have hown2 := owns_app hown' (by rw [piece_eq])
            have hb2 : Below w.heap.size w w2 := (((hbel.alloc hsz _).alloc (by simp; omega) _).alloc (by simp; omega) _).grown hgrow (by simp; omega) (fun k hk => (hown.lt k hk).1)
            clear hown' hgrow hown
            go_roundw
            case rel => exact ⟨j + 1, j + 1, P ++ [(a + s, a + j)], by omega, by omega, by simp; omega, by go_num, by go_num, hown2, Hst, hb2⟩
            case measure => simp [intOf]; omega
          · have Hst := hide (st_skip hpc.out HS.out hlt hsj)
            clear hpc
            go_wp2_with (go_at_call 34; refine (isSymbol_any x.k x.t x.l x.b _).mono ?_; rintro e w' ⟨rfl, rfl⟩)
            go_roundw
            case rel => exact ⟨j + 1, j + 1, P, by omega, by omega, by omega, by go_num, by go_num, ((hown.alloc _).alloc _), Hst, (hbel.alloc hsz _).alloc (by simp; omega) _⟩
            case measure => simp [intOf]; omega
        | false =>
          have HS : Hid (sepT ts (a + j) = false) := hide (by unfold sepT sepB; rw [← HX.out, h7, h6]; rfl)
          have Hst := hide (st_no hpc.out HS.out hlt hs)
          clear hpc
          go_wp2_with (go_at_call 34; refine (isSymbol_any x.k x.t x.l x.b _).mono ?_; rintro e w' ⟨rfl, rfl⟩)
          go_roundw
          case rel => exact ⟨j + 1, s, P, by omega, by omega, by omega, by go_num, rfl, ((hown.alloc _).alloc _), Hst, (hbel.alloc hsz _).alloc (by simp; omega) _⟩
          case measure => simp [intOf]; omega
    · have hjm : j = m := by omega
      have hsz := hbel.size
      have hend := st_end (hjm ▸ hpc.out)
      by_cases hsm : s < m
      · rw [if_pos hsm] at hend
        have Hend := hide hend
        clear hend hpc hjm ht
        go_wp2_with (at_builtin; refine wpList_append_own _ rfl (.tmp 38) (.tmp 42) 33 rfl w.heap.size 31 i31 (.slice none 0 0) 1 24 Try.underlying33 hi hz0 hz1 hz2 rfl (by decide) _ P.length _ rfl (hown.alloc _) ⟨wr.heap.size, 0, none⟩ 1 1 [.slice (some ⟨g, a * 4 + s * 4, none⟩) (m - s) (n - a - s)] rfl rfl (cell_one_at _ _ _ _ (by simp)) (one_slice _ _ _) (by unfold maxLen; omega) (by omega) (by simp; omega) ?_; intro v' w2 hown' hgrow _)
        have hown2 := owns_app hown' (by rw [piece_eq])
        have hb2 : Below w.heap.size w w2 := (hbel.alloc hsz _).grown hgrow (by simp; omega) (fun k hk => (hown.lt k hk).1)
        clear hown' hgrow hown
        go_ret
        exact ⟨v', rfl, by rw [Hend.out]; exact hown2, hb2⟩
      · rw [if_neg hsm] at hend
        have Hend := hide hend
        clear hend hpc hjm ht
        go_wp2_with fail
        go_ret
        exact ⟨_, rfl, by rw [Hend.out, List.append_nil]; exact hown, hbel⟩
end Go.Proofs.Qxb6618081a.St
