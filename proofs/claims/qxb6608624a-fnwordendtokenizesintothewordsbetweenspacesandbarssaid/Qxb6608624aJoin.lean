/-
  WORD ENDS ACROSS A JOIN: the plain law, and the walk of the splice law (function 3).
-/
import Derived.Test.Qxb6608624aModel2
import Derived.RowKit3
namespace Go.Proofs.Qxb6608624a
open Go.RowKit
set_option linter.unusedVariables false
set_option linter.unusedSimpArgs false

theorem size_join (s t : ByteArray) : (s ++ t).size = s.size + t.size := by simp
theorem bt_left (s t : ByteArray) (k : Nat) (h : k < s.size) : bt (s ++ t) k = bt s k := by
  unfold bt
  have h' : k < s.data.size := h
  rw [Array.getD_eq_getD_getElem?, Array.getD_eq_getD_getElem?, ByteArray.data_append, Array.getElem?_append_left h']
theorem bt_right (s t : ByteArray) (j : Nat) : bt (s ++ t) (s.size + j) = bt t j := by
  unfold bt
  have h' : s.data.size ≤ s.size + j := by show s.data.size ≤ s.data.size + j; omega
  rw [Array.getD_eq_getD_getElem?, Array.getD_eq_getD_getElem?, ByteArray.data_append, Array.getElem?_append_right h', show s.size + j - s.data.size = j by show s.data.size + j - s.data.size = j; omega]

theorem stop_right (s t : ByteArray) (j : Nat) : stop (s ++ t) (s.size + j) = stop t j := by
  unfold stop
  rw [bt_right, show s.size + j + 1 = s.size + (j + 1) by omega, bt_right, size_join, show decide (s.size + (j + 1) < s.size + t.size) = decide (j + 1 < t.size) by simp]

theorem wEnd_right (s t : ByteArray) : ∀ n j, t.size - j = n → wEnd (s ++ t) (s.size + j) = s.size + wEnd t j := by
  intro n
  induction n with
  | zero =>
    intro j h
    rw [wEnd_end _ _ (by rw [size_join]; omega), wEnd_end t j (by omega)]
  | succ n ih =>
    intro j h
    have a1 : s.size + j < (s ++ t).size := by rw [size_join]; omega
    cases hs : stop t j
    · rw [wEnd_next _ _ a1 (by rw [stop_right, hs]), wEnd_next t j (by omega) hs]
      exact ih (j + 1) (by omega)
    · rw [wEnd_at _ _ a1 (by rw [stop_right, hs]), wEnd_at t j (by omega) hs]

theorem stop_left (s t : ByteArray) (k : Nat) (h : k + 1 < s.size) : stop (s ++ t) k = stop s k := by
  unfold stop
  rw [bt_left s t k (by omega), bt_left s t _ h, size_join, show decide (k + 1 < s.size + t.size) = true from decide_eq_true (by omega), decide_eq_true h]

/-- The join makes a "||". -/
def joins (s t : ByteArray) : Bool := (bt s (s.size - 1) == 124) && decide (0 < t.size) && (bt t 0 == 124)

theorem stop_join (s t : ByteArray) (k : Nat) (h : k + 1 = s.size) : stop (s ++ t) k = ((bt s k == 32) || joins s t) := by
  unfold stop joins
  have e0 : bt (s ++ t) (k + 1) = bt t 0 := by rw [h]; exact bt_right s t 0
  rw [bt_left s t k (by omega), e0, size_join, show s.size - 1 = k by omega, show decide (k + 1 < s.size + t.size) = decide (0 < t.size) by rw [h]; simp, Bool.and_comm (decide (0 < t.size))]

theorem wEnd_le (b : ByteArray) : ∀ n k, b.size - k = n → k ≤ wEnd b k ∧ (k ≤ b.size → wEnd b k ≤ b.size) := by
  intro n
  induction n with
  | zero => intro k h; rw [wEnd_end b k (by omega)]; omega
  | succ n ih =>
    intro k h
    have := ih (k + 1) (by omega)
    cases hs : stop b k
    · rw [wEnd_next b k (by omega) hs]; omega
    · rw [wEnd_at b k (by omega) hs]; omega

theorem wEnd_left (s t : ByteArray) : ∀ n i, s.size - i = n → i < s.size → wEnd (s ++ t) i = if wEnd s i < s.size then wEnd s i else if joins s t = true then s.size - 1 else s.size + wEnd t 0 := by
  intro n
  induction n with
  | zero => intro i h hi; omega
  | succ n ih =>
    intro i h hi
    have a1 : i < (s ++ t).size := by rw [size_join]; omega
    by_cases hl : i + 1 < s.size
    · cases hs : stop s i
      · rw [wEnd_next _ _ a1 (by rw [stop_left s t i hl, hs]), wEnd_next s i hi hs]
        exact ih (i + 1) (by omega) hl
      · rw [wEnd_at _ _ a1 (by rw [stop_left s t i hl, hs]), wEnd_at s i hi hs, if_pos hi]
    · have he : i + 1 = s.size := by omega
      by_cases h32 : bt s i = 32
      · rw [wEnd_at s i hi (stop_sp s i h32), if_pos hi, wEnd_at _ _ a1 (by rw [stop_join s t i he, h32]; rfl)]
      · rw [wEnd_next s i hi (stop_last s i hl h32), wEnd_end s _ hl, if_neg hl]
        have e2 : stop (s ++ t) i = joins s t := by rw [stop_join s t i he, show (bt s i == 32) = false by simp [h32], Bool.false_or]
        cases hj : joins s t
        · rw [wEnd_next _ _ a1 (by rw [e2, hj]), if_neg (by simp), he]
          exact wEnd_right s t _ 0 rfl
        · rw [wEnd_at _ _ a1 (by rw [e2, hj]), if_pos rfl]
          omega

theorem wf_i64 {x : Int} (h : (Lit.int .i64 x).wf = true) : -9223372036854775808 ≤ x ∧ x ≤ 9223372036854775807 := by
  have h2 := h
  simp only [Lit.wf, Bool.and_eq_true, decide_eq_true_eq] at h2
  have e1 : IntKind.i64.min = -9223372036854775808 := by decide
  have e2 : IntKind.i64.max = 9223372036854775807 := by decide
  omega

set_option maxHeartbeats 2000000 in
theorem walk3 (s t : ByteArray) (x : Int) (w0 : s.size ≤ maxLen) (w1 : t.size ≤ maxLen) (w2 : (Lit.int .i64 x).wf = true) (w : World) :
    Calls Try.prog 3 #[.string s, .string t, .int .i64 x] w fun e w' => e = .returned (.bool true) ∧ Grown w w' := by
  have hx := wf_i64 w2
  have hm : maxLen = 9223372036854775807 := by decide
  rw [hm] at w0 w1
  clear w2 hm
  go_enter Try.func3, Try.ntmps3
  go_wp2_with fail
  refine (zz8_any s t x w0 w1 w).mono ?_
  rintro e w' ⟨⟨q, rfl⟩, rfl⟩
  cases q
  · go_wp2
    go_ret
    exact ⟨rfl, Grown.refl _⟩
  by_cases hs : s.size ≤ 524288
  case neg =>
    go_wp2
    go_ret
    exact ⟨rfl, Grown.refl _⟩
  by_cases ht : t.size ≤ 524288
  case neg =>
    go_wp2
    go_ret
    exact ⟨rfl, Grown.refl _⟩
  by_cases h0 : 0 ≤ x
  case neg =>
    go_wp2
    go_ret
    exact ⟨rfl, Grown.refl _⟩
  obtain ⟨i, rfl⟩ : ∃ i : Nat, x = (i : Int) := ⟨x.toNat, by omega⟩
  have hst : (s ++ t).size ≤ 1048576 := by rw [size_join]; omega
  go_wp2_with fail
  refine (zzWordEnd_any s i (by omega) hx.2 w).mono ?_
  rintro e w' ⟨rfl, rfl⟩
  go_wp2_with fail
  refine (model_any s i (by omega) hx.2 w).mono ?_
  rintro e w' ⟨rfl, rfl⟩
  go_wp2_with fail
  refine (zzWordEnd_any (s ++ t) i hst hx.2 w).mono ?_
  rintro e w' ⟨rfl, rfl⟩
  have HL := hid (wEnd_le s _ i rfl)
  have HT := fun j => hid (wEnd_le t _ j rfl)
  by_cases hi : i < s.size
  · have HW := hid (wEnd_left s t _ i rfl hi)
    generalize wEnd (s ++ t) i = g at HW ⊢
    by_cases hlt : wEnd s i < s.size
    · obtain rfl : g = wEnd s i := by rw [HW.out, if_pos hlt]
      clear HW
      go_wp2
      go_ret
      exact ⟨rfl, Grown.refl _⟩
    · have hlt2 : ¬ ((wEnd s i : Int) < (s.size : Int)) := by omega
      have HW2 : Hid (g = if joins s t = true then s.size - 1 else s.size + wEnd t 0) := by
        show g = _
        rw [HW.out, if_neg hlt]
      clear HW
      have hw1 : IntKind.i64.wrap ((s.size : Int) - 1) = (s.size : Int) - 1 := IntWalk.i64_in _ (by omega)
      have hix : ∀ w', (Instr.index 9 (.string s) (.int .i64 ((s.size : Int) - 1))).run Try.prog w' = .ok (.int .u8 (bt s (s.size - 1))) w' := fun w' => by
        have h := index_str s (s.size - 1) (by omega) w'
        rw [show ((s.size - 1 : Nat) : Int) = (s.size : Int) - 1 by omega] at h
        exact h
      cases hj1 : (bt s (s.size - 1) == 124)
      · have hJ : joins s t = false := by rw [joins, hj1]; rfl
        obtain rfl : g = s.size + wEnd t 0 := by rw [HW2.out, hJ]; rfl
        clear HW2
        go_wp2_with fail
        refine (zzWordEnd_any t 0 (by omega) (by omega) w).mono ?_
        rintro e w' ⟨rfl, rfl⟩
        have hz := (HT 0).out.2 (by omega)
        have hw2 : IntKind.i64.wrap ((s.size : Int) + (wEnd t 0 : Int)) = (s.size : Int) + (wEnd t 0 : Int) := IntWalk.i64_in _ (by omega)
        go_wp2
        go_ret
        exact ⟨by simp, Grown.refl _⟩
      · by_cases ht0 : 0 < t.size
        · have hix0 : ∀ w', (Instr.index 9 (.string t) (.int .i64 0)).run Try.prog w' = .ok (.int .u8 (bt t 0)) w' := fun w' => index_str t 0 ht0 w'
          cases hj2 : (bt t 0 == 124)
          · have hJ : joins s t = false := by rw [joins, hj1, hj2, decide_eq_true ht0]; rfl
            obtain rfl : g = s.size + wEnd t 0 := by rw [HW2.out, hJ]; rfl
            clear HW2
            go_wp2_with fail
            refine (zzWordEnd_any t 0 (by omega) (by omega) w).mono ?_
            rintro e w' ⟨rfl, rfl⟩
            have hz := (HT 0).out.2 (by omega)
            have hw2 : IntKind.i64.wrap ((s.size : Int) + (wEnd t 0 : Int)) = (s.size : Int) + (wEnd t 0 : Int) := IntWalk.i64_in _ (by omega)
            go_wp2
            go_ret
            exact ⟨by simp, Grown.refl _⟩
          · have hJ : joins s t = true := by rw [joins, hj1, hj2, decide_eq_true ht0]; rfl
            obtain ⟨g1, hg1⟩ : ∃ g1 : Int, g1 = (g : Int) := ⟨_, rfl⟩
            have hg2 : (g : Int) = (s.size : Int) - 1 := by rw [HW2.out, hJ]; show ((s.size - 1 : Nat) : Int) = _; omega
            rw [hg2]
            clear HW2
            go_wp2
            go_ret
            exact ⟨by simp, Grown.refl _⟩
        · have hJ : joins s t = false := by rw [joins, hj1, decide_eq_false ht0]; rfl
          obtain rfl : g = s.size + wEnd t 0 := by rw [HW2.out, hJ]; rfl
          clear HW2
          go_wp2_with fail
          refine (zzWordEnd_any t 0 (by omega) (by omega) w).mono ?_
          rintro e w' ⟨rfl, rfl⟩
          have hz := (HT 0).out.2 (by omega)
          have hw2 : IntKind.i64.wrap ((s.size : Int) + (wEnd t 0 : Int)) = (s.size : Int) + (wEnd t 0 : Int) := IntWalk.i64_in _ (by omega)
          go_wp2
          go_ret
          exact ⟨by simp, Grown.refl _⟩
  · obtain ⟨j, rfl⟩ : ∃ j, i = s.size + j := ⟨i - s.size, by omega⟩
    have HW := hid (wEnd_right s t _ j rfl)
    rw [HW.out]
    have hw1 : IntKind.i64.wrap (((s.size + j : Nat) : Int) - (s.size : Int)) = (j : Int) := by
      rw [IntWalk.i64_in _ (by omega)]
      omega
    go_wp2_with fail
    rw [show (s.size : Int) + (j : Int) - (s.size : Int) = (j : Int) by omega]
    refine (zzWordEnd_any t j (by omega) (by omega) w).mono ?_
    rintro e w' ⟨rfl, rfl⟩
    have hz := (HT j).out
    have hw2 : IntKind.i64.wrap ((s.size : Int) + (wEnd t j : Int)) = (s.size : Int) + (wEnd t j : Int) := IntWalk.i64_in _ (by
      by_cases hj : j ≤ t.size
      · have := hz.2 hj; omega
      · have := wEnd_end t j (by omega); omega)
    go_wp2
    go_ret
    exact ⟨by simp, Grown.refl _⟩
end Go.Proofs.Qxb6608624a
