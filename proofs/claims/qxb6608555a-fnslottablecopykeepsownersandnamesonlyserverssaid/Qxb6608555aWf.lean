/-
  WALK: zzTableWellFormed (12).
-/
import Derived.Test.Qxb6608555aSet
namespace Go.Proofs.Qxb6608555a
open Go.RowKit Go.Maps
set_option linter.unusedVariables false
set_option linter.unusedSimpArgs false
set_option maxRecDepth 20000

theorem RdS.keepF {W W' : World} {a : Option Addr} {n cap : Nat} {ids : List ByteArray} (h : RdS W a n cap ids) (k : Tch W W' (fun _ => False)) : RdS W' a n cap ids :=
  ⟨h.len, fun u hu => by
    obtain ⟨q, h1, h2, h3⟩ := h.at' u hu
    exact ⟨q, Nat.lt_of_lt_of_le h1 k.size, h2, by rw [← h3]; exact World.cell?_of_block (k.block _ h1 (fun x => x))⟩⟩
theorem RdS.below {W W' : World} {a : Option Addr} {n cap : Nat} {ids : List ByteArray} (h : RdS W a n cap ids) (k : Below W.heap.size W W') : RdS W' a n cap ids :=
  ⟨h.len, fun u hu => by
    obtain ⟨q, h1, h2, h3⟩ := h.at' u hu
    exact ⟨q, Nat.lt_of_lt_of_le h1 k.size, h2, by rw [← h3]; exact World.cell?_of_block (k.block _ h1)⟩⟩

theorem ne_empty {d : ByteArray} (h : d ≠ ⟨#[]⟩) : d.toList.isEmpty = false ∧ ¬ d.toList = [] := by
  have h2 : ¬ d.toList = [] := fun e => h (by
    have := str_ne h
    rw [e] at this
    simp [go_sem] at this)
  exact ⟨by simpa using h2, h2⟩

/-- A table that is well formed. -/
structure Wf (own : Nat → Nat) (L : List ByteArray) : Prop where
  nd : L.Nodup
  ne : ∀ x ∈ L, x ≠ ⟨#[]⟩
  sz : ∀ x ∈ L, x.size ≤ maxLen
  own : ∀ s, s < 16384 → own s ≤ L.length

theorem take_add {L : List ByteArray} (h : L.Nodup) {j : Nat} (hj : j < L.length) : ¬ L.getD j ⟨#[]⟩ ∈ L.take j ∧ addB (L.getD j ⟨#[]⟩) (L.take j) = L.take (j + 1) := by
  have e : L.getD j ⟨#[]⟩ = L[j] := by simp [List.getD, hj]
  have hno : ¬ L[j] ∈ L.take j := by
    intro hm
    obtain ⟨i, hi, he⟩ := List.mem_iff_getElem.1 hm
    rw [List.getElem_take] at he
    simp at hi
    have := (List.nodup_iff_pairwise_ne.1 h)
    rw [List.pairwise_iff_getElem] at this
    exact this i j (by omega) hj (by omega) he
  rw [e]
  exact ⟨hno, by rw [addB_new hno, List.take_succ_eq_append_getElem hj]⟩

set_option maxHeartbeats 2000000 in
theorem wf12 {W : World} {O : Nat} {own : Nat → Nat} {a : Option Addr} {n cap : Nat} {L : List ByteArray} (hO : Blk W O 29 16384 (gArr own)) (hr : RdS W a n cap (⟨#[]⟩ :: L)) (hwf : Wf own L) (hn : n ≤ 1048576) :
    Calls Try.prog 12 #[.pointer (some ⟨O, 0, none⟩), .slice a n cap] W fun e W' => e = .returned (.bool true) ∧ Hid (Tch W W' (fun _ => False)) := by
  have HO := hid hO
  have HR := hid hr
  have HF := hid hwf
  have HL : Hid (n = L.length + 1) := hid (by have := hr.len; simpa using this)
  have hn0 : n ≠ 0 := by have := HL.out; omega
  obtain ⟨q0, hq0b, hq0, hc0⟩ := hr.at' 0 (by omega)
  have hq0' : ∀ w', (Instr.indexAt 23 (.slice a n cap) (.int .i64 0)).run Try.prog w' = .ok (.pointer (some q0)) w' := fun w' => hq0 .i64 w'
  have hc0' : W.cell? q0 = some (.string ⟨#[]⟩) := hc0
  clear hO hr hwf hq0 hc0 hq0b
  have hmm := @run_makeMap Try.prog
  have hnf : ((n : Int) == 0) = false := by simp; omega
  go_enter Try.func12, Try.ntmps12
  go_wp2_with fail
  clear hq0' hc0'
  have HM0 := hid (MSet.made W)
  have HT0 := hid (Tch.alloc W (.map #[] 0) (fun _ => False))
  obtain ⟨M, hM⟩ : ∃ M, M = W.heap.size := ⟨_, rfl⟩
  have HMW := hid hM
  rw [← hM] at HM0 ⊢
  clear hM
  generalize W.alloc (.map #[] 0) = W1 at HM0 HT0 ⊢
  go_loopg [6] L.length (fun g v wr => ∃ j : Nat, Hid (j + g = L.length) ∧ v = .int .i64 ((j : Int) + 1) ∧ Hid (MSet wr M (L.take j)) ∧ Hid (Tch W wr (fun _ => False)))
  case atStart => exact ⟨0, Nat.zero_add _, by go_num, hid (by rw [List.take_zero]; exact HM0.out), HT0⟩
  case round =>
    clear HM0 HT0
    obtain ⟨j, HG, rfl, HM, HT⟩ := hrel
    rename World => wr
    have hj : j ≤ L.length := by have := HG.out; omega
    by_cases hlt : j < L.length
    · have hlt2 : (j : Int) + 1 < (n : Int) := by have := HL.out; omega
      obtain ⟨q, hqb, hq, hc⟩ := (HR.out.keepF HT.out).at' (j + 1) (by omega)
      have hq' : ∀ w', (Instr.indexAt 23 (.slice a n cap) (.int .i64 ((j : Int) + 1))).run Try.prog w' = .ok (.pointer (some q)) w' := fun w' => hq .i64 w'
      obtain ⟨d, hd⟩ : ∃ d, d = L.getD j ⟨#[]⟩ := ⟨_, rfl⟩
      have hc' : wr.cell? q = some (.string d) := by rw [hd]; simpa using hc
      have hdm : d ∈ L := by rw [hd]; exact getD_mem hlt
      obtain ⟨hne1, hne2⟩ := ne_empty (HF.out.ne d hdm)
      obtain ⟨hno, hadd⟩ := take_add HF.out.nd hlt
      rw [← hd] at hno hadd
      have hlk := HM.out.look d (HF.out.sz d hdm)
      rw [inB_false.2 hno] at hlk
      obtain ⟨W2, hup, hM2, hT2⟩ := HM.out.put (by rw [List.length_take]; omega) d (HF.out.sz d hdm)
      rw [hadd] at hM2
      have HM2 := hid hM2
      have HT2 : Hid (Tch W W2 (fun _ => False)) := HT.out.trans hT2 (fun b hb e => by have := HMW.out; omega)
      have hw1 : IntKind.i64.wrap ((j : Int) + 1 + 1) = (j : Int) + 1 + 1 := IntWalk.i64_in _ (by omega)
      clear hq hc hno hadd hM2 hT2 hdm hd HM HT
      go_wp2
      go_roundg (gk - 1)
      case measure => have := HG.out; omega
      case rel => exact ⟨j + 1, by have := HG.out; show _ = _; omega, by go_num, HM2, HT2⟩
    · have hlt2 : ¬ (j : Int) + 1 < (n : Int) := by have := HL.out; omega
      clear HM
      go_wp2_with fail
      obtain ⟨N, HNN⟩ : ∃ N : Nat, Hid (N = 16384) := ⟨_, rfl⟩
      go_loopg [7] N (fun g v wr' => ∃ s : Nat, Hid (s + g = N) ∧ v = .int .i64 (s : Int) ∧ wr = wr')
      case atStart => exact ⟨0, Nat.zero_add _, rfl, rfl⟩
      case round =>
        obtain ⟨s, HG2, rfl, hw⟩ := hrel
        subst hw
        by_cases hs : s < 16384
        · have hs2 : (s : Int) < 16384 := by omega
          have hixA := idxArr Try.underlying29 sized28 .i64 O s hs
          have hcs : wr.cell? ⟨O, s, none⟩ = some (.int .u16 (own s)) := (HO.out.keep HT.out (fun h => h)).cell s hs
          have hcv : IntKind.i64.wrap (own s : Int) = (own s : Int) := IntWalk.i64_in _ (by have := HF.out.own s hs; have := HL.out; omega)
          have hge : (own s : Int) < (n : Int) := by have := HF.out.own s hs; have := HL.out; omega
          have hw1 : IntKind.i64.wrap ((s : Int) + 1) = (s : Int) + 1 := IntWalk.i64_in _ (by omega)
          have hge2 : ¬ (n : Int) ≤ (own s : Int) := by omega
          clear hge
          generalize own s = os at hcs hcv hge2
          go_wp2
          go_roundg (gk - 1)
          case measure => have := HG2.out; have := HNN.out; omega
          case rel => exact ⟨s + 1, by have := HG2.out; have := HNN.out; show _ = _; omega, by go_num, rfl⟩
        · have hs2 : ¬ (s : Int) < 16384 := by omega
          go_wp2
          go_ret
          exact ⟨rfl, HT⟩
end Go.Proofs.Qxb6608555a
