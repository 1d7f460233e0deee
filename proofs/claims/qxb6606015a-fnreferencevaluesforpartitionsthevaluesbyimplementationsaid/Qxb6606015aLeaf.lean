/-
  WALKS of the leaves: addSat, bytesEq, bytes.Equal, cloneBytes, cloneStr, sizeStr.
-/
import Derived.Test.Qxb6606015aParts
import Derived.Lib.Bytes
import Derived.Laws.CopyRow
import Derived.Laws.BytesArg
namespace Go.Proofs.Qxb6606015a
open Go.RowKit
set_option linter.unusedVariables false
set_option linter.unusedSimpArgs false

def addS (n m : Int) : Int := if n > 1048576 ∨ m > 1048576 then 1048577 else n + m

set_option maxHeartbeats 400000 in
theorem addSat_any (n m : Int) (w : World) (hn : 0 ≤ n) (hm : 0 ≤ m) :
    Calls Try.prog 7 #[.int .i64 n, .int .i64 m] w fun e w' => e = .returned (.int .i64 (addS n m)) ∧ w' = w := by
  unfold addS
  by_cases h1 : n > 1048576
  · go_enter Try.func7, Try.ntmps7
    go_wp2
    go_ret
    exact ⟨by simp, rfl⟩
  · by_cases h2 : m > 1048576
    · go_enter Try.func7, Try.ntmps7
      go_wp2
      go_ret
      exact ⟨by simp [h1], rfl⟩
    · go_enter Try.func7, Try.ntmps7
      go_wp2
      go_ret
      exact ⟨by simp [h1], rfl⟩

theorem addS_bd {n m : Int} (hn : 0 ≤ n) (hm : 0 ≤ m) : 0 ≤ addS n m ∧ addS n m ≤ 2097152 := by
  unfold addS; split <;> omega

theorem take_succ_eq {xs ys : List Int} {k : Nat} (h : xs.take k = ys.take k) (hk : k < xs.length) (hl : xs.length = ys.length) (he : xs.getD k 0 = ys.getD k 0) : xs.take (k+1) = ys.take (k+1) := by
  rw [List.take_succ_eq_append_getElem hk, List.take_succ_eq_append_getElem (by omega), h]
  simp [List.getD, hk, show k < ys.length by omega] at he
  rw [he]

set_option maxHeartbeats 400000 in
theorem bytesEq_core {p q : Nat → Prop} (ao1 ao2 : Option Addr) (n cap1 cap2 : Nat) (xs ys : List Int) (w : World) (hx : Hid (xs.length = n)) (hy : Hid (ys.length = n)) (hn : n ≤ 140737488355328) (h1 : Ns p .u8 w (.slice ao1 n cap1) xs) (h2 : Ns q .u8 w (.slice ao2 n cap2) ys) :
    Calls Try.prog 18 #[.slice ao1 n cap1, .slice ao2 n cap2] w fun e w' => e = .returned (.bool (decide (xs = ys))) ∧ ∃ n, w' = w.drewN n := by
  go_enter Try.func18, Try.ntmps18
  go_wp2
  go_loopw [5] (fun i wr => ∃ k m : Nat, k ≤ n ∧ i = .int .i64 k ∧ wr = w.drewN m ∧ Hid (xs.take k = ys.take k)) (fun i _ => n - (intOf i).toNat)
  case atStart => exact ⟨0, 0, Nat.zero_le _, rfl, rfl, rfl⟩
  case round =>
    obtain ⟨k, m, hk, rfl, rfl, heq⟩ := hrel
    by_cases hlt : k < n
    · obtain ⟨b1, o1, hi1, _, hc1⟩ := h1.at Try.underlying25 sized5 k (by rw [hx.out]; exact hlt)
      obtain ⟨b2, o2, hi2, _, hc2⟩ := h2.at Try.underlying25 sized5 k (by rw [hy.out]; exact hlt)
      obtain ⟨x, hxe⟩ : ∃ x, x = xs.getD k 0 := ⟨_, rfl⟩
      obtain ⟨y, hye⟩ : ∃ y, y = ys.getD k 0 := ⟨_, rfl⟩
      rw [← hxe] at hc1
      rw [← hye] at hc2
      have HX : Hid (x = xs.getD k 0) := hxe
      have HY : Hid (y = ys.getD k 0) := hye
      clear hxe hye h1 h2
      by_cases hne : x = y
      · have hb : (x != y) = false := by simp [hne]
        have HE : Hid (x = y) := hne
        clear hne
        go_wp2
        go_quiet (fail)
        go_wp2
        go_roundw
        case rel => exact ⟨k + 1, _, by omega, by go_num, rfl, take_succ_eq heq.out (by rw [hx.out]; exact hlt) (by rw [hx.out, hy.out]) (by rw [← HX.out, ← HY.out]; exact HE.out)⟩
        case measure => simp [intOf]; omega
      · have hb : (x != y) = true := by simpa using hne
        have HE : Hid (¬ x = y) := hne
        clear hne
        have hd : decide (xs = ys) = false := decide_eq_false (fun e => HE.out (by rw [HX.out, HY.out, e]))
        go_wp2
        go_quiet (fail)
        go_wp2
        go_ret
        exact ⟨by rw [hd]; rfl, _, World.drewN_drewN _ _ _⟩
    · go_wp2
      go_ret
      have : xs = ys := by
        have := heq.out
        rwa [List.take_of_length_le (by rw [hx.out]; omega), List.take_of_length_le (by rw [hy.out]; omega)] at this
      exact ⟨by rw [decide_eq_true this]; rfl, _, rfl⟩

theorem bytesEq_any {p q : Nat → Prop} (v1 v2 : Value) (xs ys : List Int) (w : World) (h1 : Ns p .u8 w v1 xs) (h2 : Ns q .u8 w v2 ys) :
    Calls Try.prog 18 #[v1, v2] w fun e w' => e = .returned (.bool (decide (xs = ys))) ∧ ∃ n, w' = w.drewN n := by
  obtain ⟨ao1, cap1, rfl, hl1, _⟩ := h1.shape
  obtain ⟨ao2, cap2, rfl, hl2, _⟩ := h2.shape
  by_cases hlen : ys.length = xs.length
  · rw [hlen] at h2 ⊢
    exact bytesEq_core ao1 ao2 _ cap1 cap2 xs ys w rfl hlen hl1 h1 h2
  · have hb : ((xs.length : Int) != (ys.length : Int)) = true := by simp; omega
    rw [decide_eq_false (fun e => hlen (by rw [e]))]
    clear hlen
    go_enter Try.func18, Try.ntmps18
    go_wp2
    go_ret
    exact ⟨rfl, 0, rfl⟩

/-! ### bytes.Equal -/
def Byt (zs : List Int) : Prop := ∀ z ∈ zs, 0 ≤ z ∧ z < 256

theorem bytesOf_inj {xs ys : List Int} (hx : Byt xs) (hy : Byt ys) (h : Lib.bytesOf xs = Lib.bytesOf ys) : xs = ys := by
  induction xs generalizing ys with
  | nil => cases ys with
    | nil => rfl
    | cons y ys => simp [Lib.bytesOf] at h
  | cons x xs ih => cases ys with
    | nil => simp [Lib.bytesOf] at h
    | cons y ys =>
      simp only [Lib.bytesOf, List.map_cons, List.cons.injEq] at h
      have hx0 := hx x (by simp)
      have hy0 := hy y (by simp)
      have e : x = y := by
        have := congrArg UInt8.toNat h.1
        simp only [UInt8.toNat_ofNat'] at this
        omega
      rw [e, ih (fun z hz => hx z (by simp [hz])) (fun z hz => hy z (by simp [hz])) h.2]

theorem Ns.cells {p : Nat → Prop} {k : IntKind} {w : World} {a : Addr} {n cap : Nat} {zs : List Int} (h : Ns p k w (.slice (some a) n cap) zs) : zs.length = n ∧ ∀ j v, (zs.map (Value.int k))[j]? = some v → w.cell? (a.add j) = some v := by
  obtain ⟨ao, cap', e, h1, h2, h3, h4⟩ := h
  injection e with e1 e2 e3
  subst e1
  refine ⟨e2.symm, fun j v hj => ?_⟩
  have hjl : j < zs.length := by
    rcases Nat.lt_or_ge j zs.length with h | h
    · exact h
    · simp [List.getElem?_eq_none (show (zs.map (Value.int k)).length ≤ j by simpa using h)] at hj
  obtain ⟨b, off, e4, _, hc⟩ := h4 j hjl
  injection e4 with e4
  subst e4
  rw [addr_plain, hc]
  simp [List.getElem?_eq_getElem hjl] at hj
  subst hj
  simp [List.getD, List.getElem?_eq_getElem hjl]

theorem Ns.conv {p : Nat → Prop} {w : World} {v : Value} {zs : List Int} (h : Ns p .u8 w v zs) : (convert 25 9 v).run Try.prog w = .ok (.string (strOfNums zs)) w := by
  obtain ⟨ao, cap, rfl, hl, hnil⟩ := h.shape
  cases ao with
  | none =>
    rw [hnil rfl]
    rw [run_convert_bytes_nil w 25 5 Try.underlying25 Try.underlying5 _ _ 9 Try.underlying9]
    rfl
  | some a =>
    have hc := h.cells
    have hl : (loadCells a zs.length).run Try.prog w = .ok (zs.map (Value.int .u8)).toArray w := by
      have := run_loadCells_list (P := Try.prog) w a (zs.map (Value.int .u8)) hc.2
      simpa using this
    rw [run_convert_bytes_string w 25 9 5 _ zs.length cap Try.underlying25 Try.underlying5 Try.underlying9, run_bytesToString w _ zs.length cap zs hl, foldl_push_bytes]
    simp [strOfNums, ByteArray.empty, ByteArray.emptyWithCapacity]
    rfl

theorem bytesEqual_any {p q : Nat → Prop} (v1 v2 : Value) (xs ys : List Int) (w : World) (h1 : Ns p .u8 w v1 xs) (h2 : Ns q .u8 w v2 ys) (hx : Byt xs) (hy : Byt ys) :
    Calls Try.prog 29 #[v1, v2] w fun e w' => e = .returned (.bool (decide (xs = ys))) ∧ w' = w := by
  have e1 := h1.conv
  have e2 := h2.conv
  have e : decide (xs = ys) = (Lib.bytesOf xs == Lib.bytesOf ys) := by
    by_cases h : xs = ys
    · subst h; simp
    · have : Lib.bytesOf xs ≠ Lib.bytesOf ys := fun e => h (bytesOf_inj hx hy e)
      simp [h, this]
  rw [e]
  clear e hx hy h1 h2
  rw [← Lib.strOfNums_toList, ← Lib.strOfNums_toList]
  go_enter Try.func29, Try.ntmps29
  go_wp2
  go_ret
  exact ⟨rfl, rfl⟩
end Go.Proofs.Qxb6606015a
