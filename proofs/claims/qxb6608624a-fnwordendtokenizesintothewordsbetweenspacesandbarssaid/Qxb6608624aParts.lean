/-
  PLAIN PARTS AND SMALL WALKS: the bytes of a string; HasPrefix of "||"; wordEnd.
-/
import Derived.Test.Qxb6608624aProg
import Derived.WalkKit
import Derived.WalkSpells
import Derived.WalkLawsBesides
import Derived.BigQuiet
import Derived.Deep.LoopGhost
import Derived.Deep.DeepCutAuto
import Derived.Below
import Derived.Lib.Strings
namespace Go.Proofs.Qxb6608624a
open Go.RowKit
set_option linter.unusedVariables false
set_option linter.unusedSimpArgs false

/-- Byte k of a string. -/
def bt (b : ByteArray) (k : Nat) : Int := ((b.data.getD k 0).toNat : Int)

theorem index_str (b : ByteArray) (k : Nat) (hk : k < b.size) (w' : World) : (Instr.index 9 (.string b) (.int .i64 (k : Int))).run Try.prog w' = .ok (.int .u8 (bt b k)) w' := by
  rw [run_index_string (h := Try.underlying9), dif_pos ⟨by omega, by omega⟩]
  have h2 : k < b.data.size := hk
  have e : b.data.getD k 0 = b[((k : Int)).toNat]'(by simpa using hk) := by
    rw [Array.getD_eq_getD_getElem?, Array.getElem?_eq_getElem h2]
    rfl
  rw [bt, e]

/-- "||" begins here. -/
def pref2 (b : ByteArray) : Bool := decide (2 ≤ b.size) && (bt b 0 == 124) && (bt b 1 == 124)

theorem bt_list (b : ByteArray) (k : Nat) : bt b k = ((b.data.toList.getD k 0).toNat : Int) := by
  unfold bt
  rw [Array.getD_eq_getD_getElem?, List.getD_eq_getElem?_getD, Array.getElem?_toList]

theorem byte_eq (x : UInt8) (n : Nat) (hn : n < 256) : (((x.toNat : Int)) == (n : Int)) = (x == UInt8.ofNat n) := by
  by_cases h : x = UInt8.ofNat n
  · subst h
    simp [Nat.mod_eq_of_lt hn]
  · have h2 : ¬ x.toNat = n := fun e => h (by rw [← e]; simp)
    have h3 : ¬ (x.toNat : Int) = (n : Int) := fun e => h2 (by omega)
    rw [beq_eq_false_iff_ne.2 h3, beq_eq_false_iff_ne.2 h]

theorem pref2_eq (b : ByteArray) (h : 2 ≤ b.size) : ((b.extract 0 2).toList == [124, 124]) = pref2 b := by
  have h1 := Lib.hasPrefix_raw b ⟨#[124, 124]⟩
  have e2 : (⟨#[124, 124]⟩ : ByteArray).size = 2 := rfl
  have e3 : (⟨#[124, 124]⟩ : ByteArray).toList = [124, 124] := by simp [go_sem]
  rw [e2, e3, decide_eq_true h, Bool.true_and] at h1
  rw [h1]
  unfold pref2
  rw [decide_eq_true h, bt_list, bt_list]
  have hl : b.data.toList.length = b.size := by simp
  generalize b.data.toList = l at hl
  match l, hl with
  | [], hl => simp at hl; omega
  | [_], hl => simp at hl; omega
  | x :: y :: r, _ =>
    have a := byte_eq x 124 (by decide)
    have c := byte_eq y 124 (by decide)
    simp [Lib.hasPrefix, List.isPrefixOf]
    rw [show ((x.toNat : Int) == 124) = (x == 124) from a, show ((y.toNat : Int) == 124) = (y == 124) from c, BEq.comm (a := x), BEq.comm (a := y)]

theorem hp50 (b : ByteArray) (w : World) (hb : b.size ≤ 9223372036854775807) : Calls Try.prog 50 #[.string b, .string ⟨#[124, 124]⟩] w fun e w' => e = .returned (.bool (pref2 b)) ∧ w = w' := by
  go_enter Try.func50, Try.ntmps50
  go_wp2
  · rename_i h
    go_ret
    exact ⟨by rw [← pref2_eq b (by omega)]; rfl, rfl⟩
  · rename_i h
    go_ret
    exact ⟨by rw [pref2, decide_eq_false (by omega)]; rfl, rfl⟩
theorem hp39 (b : ByteArray) (w : World) (hb : b.size ≤ 9223372036854775807) : Calls Try.prog 39 #[.string b, .string ⟨#[124, 124]⟩] w fun e w' => e = .returned (.bool (pref2 b)) ∧ w = w' := by
  go_enter Try.func39, Try.ntmps39
  go_wp2_with fail
  refine (hp50 b w hb).mono ?_
  rintro e w' ⟨rfl, rfl⟩
  go_wp2
  go_ret
  exact ⟨rfl, rfl⟩

/-- Where a word stops: a space, or "||". -/
def stop (b : ByteArray) (k : Nat) : Bool := (bt b k == 32) || (decide (k + 1 < b.size) && (bt b k == 124) && (bt b (k + 1) == 124))

theorem bt_extract (b : ByteArray) (k j : Nat) (h : k + j < b.size) : bt (b.extract k b.size) j = bt b (k + j) := by
  unfold bt
  have h' : k + j < b.data.size := h
  rw [Array.getD_eq_getD_getElem?, Array.getD_eq_getD_getElem?]
  have e : (b.extract k b.size).data = b.data.extract k b.data.size := by simp [ByteArray.data_extract]
  rw [e, Array.getElem?_extract, if_pos (by omega)]

theorem pref2_extract (b : ByteArray) (k : Nat) (hk : k < b.size) : pref2 (b.extract k b.size) = (decide (k + 1 < b.size) && (bt b k == 124) && (bt b (k + 1) == 124)) := by
  unfold pref2
  have hs : (b.extract k b.size).size = b.size - k := by simp
  rw [hs]
  by_cases h : k + 1 < b.size
  · rw [decide_eq_true h, decide_eq_true (show 2 ≤ b.size - k by omega), bt_extract b k 0 (by omega), bt_extract b k 1 (by omega), Nat.add_zero]
  · rw [decide_eq_false h, decide_eq_false (show ¬ 2 ≤ b.size - k by omega)]
    rfl

/-- wordEnd, told plainly. -/
def wEnd (b : ByteArray) (i : Nat) : Nat := if h : i < b.size then (if stop b i then i else wEnd b (i + 1)) else i
termination_by b.size - i

theorem hid {p : Prop} (h : p) : Hid p := h

set_option maxHeartbeats 1000000 in
theorem wordEnd_any (b : ByteArray) (i : Nat) (hb : b.size ≤ 1048576) (hi : (i : Int) ≤ 9223372036854775807) (w : World) : Calls Try.prog 27 #[.string b, .int .i64 (i : Int)] w fun e w' => e = .returned (.int .i64 (wEnd b i : Int)) ∧ w = w' := by
  go_enter Try.func27, Try.ntmps27
  go_wp2_with fail
  go_loopg [1] (b.size - i) (fun g v wr => ∃ k : Nat, Hid (g = b.size - k) ∧ v = .int .i64 k ∧ (k : Int) ≤ 9223372036854775807 ∧ Hid (wEnd b k = wEnd b i) ∧ w = wr)
  case atStart => exact ⟨i, rfl, rfl, hi, rfl, rfl⟩
  case round =>
    obtain ⟨k, HG, rfl, hk9, HW, hw⟩ := hrel
    subst hw
    by_cases hlt : k < b.size
    · have hix := index_str b k hlt
      by_cases h32 : bt b k = 32
      · have hne : (bt b k != 32) = false := by simp [h32]
        have HE : Hid (wEnd b k = k) := by
          show wEnd b k = k
          rw [wEnd, dif_pos hlt, if_pos (by simp [stop, h32])]
        clear h32
        go_wp2
        go_ret
        exact ⟨by rw [← HW.out, HE.out]; rfl, rfl⟩
      · have hne : (bt b k != 32) = true := by simp [h32]
        have hs0 : k ≤ b.size := by omega
        obtain ⟨q, hq⟩ : ∃ q, q = pref2 (b.extract k b.size) := ⟨_, rfl⟩
        have HS : Hid (stop b k = q) := by
          show stop b k = q
          rw [hq, pref2_extract b k hlt, stop, show (bt b k == 32) = false by simp [h32], Bool.false_or]
        have HQ := hid hq
        clear h32 hq
        go_wp2_with fail
        refine (hp39 _ w (by simp; omega)).mono ?_
        rintro e w' ⟨rfl, rfl⟩
        rw [← HQ.out]
        cases q
        · have HE : Hid (wEnd b k = wEnd b (k + 1)) := by
            show wEnd b k = _
            rw [wEnd, dif_pos hlt, HS.out]
            rfl
          have hw1 : IntKind.i64.wrap ((k : Int) + 1) = (k : Int) + 1 := IntWalk.i64_in _ (by omega)
          go_wp2
          go_roundg (gk - 1)
          case measure => have := HG.out; omega
          case rel => exact ⟨k + 1, by have := HG.out; show _ = _; omega, by go_num, by omega, HE.out.symm.trans HW.out, rfl⟩
        · have HE : Hid (wEnd b k = k) := by
            show wEnd b k = _
            rw [wEnd, dif_pos hlt, HS.out]
            rfl
          go_wp2
          go_ret
          exact ⟨by rw [← HW.out, HE.out]; rfl, rfl⟩
    · have HE : Hid (wEnd b k = k) := by
        show wEnd b k = _
        rw [wEnd, dif_neg hlt]
      go_wp2
      go_ret
      exact ⟨by rw [← HW.out, HE.out]; rfl, rfl⟩

theorem zzWordEnd_any (b : ByteArray) (i : Nat) (hb : b.size ≤ 1048576) (hi : (i : Int) ≤ 9223372036854775807) (w : World) : Calls Try.prog 9 #[.string b, .int .i64 (i : Int)] w fun e w' => e = .returned (.int .i64 (wEnd b i : Int)) ∧ w = w' := by
  go_enter Try.func9, Try.ntmps9
  go_wp2_with fail
  refine (wordEnd_any b i hb hi w).mono ?_
  rintro e w' ⟨rfl, rfl⟩
  go_wp2
  go_ret
  exact ⟨rfl, rfl⟩
end Go.Proofs.Qxb6608624a
