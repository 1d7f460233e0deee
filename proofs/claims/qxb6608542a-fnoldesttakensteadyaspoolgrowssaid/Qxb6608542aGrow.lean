/-
  PLAIN PARTS: the two appends of pool.add: a new slab; a new entry.
-/
import Derived.Test.Qxb6608542aWalksA
namespace Go.Proofs.Qxb6608542a
open Go.RowKit
set_option linter.unusedVariables false
set_option linter.unusedSimpArgs false

/-- The pool with m slabs, the last of them with room. -/
structure PoolM (B : Nat) (w : World) (Tb : Nat) (r2 r3 r4 : Value) (G cap : Nat) (S : Nat → Nat) (n m : Nat) (tk : Nat → Int) : Prop where
  tb : B ≤ Tb
  tab : w.heap[Tb]? = some (Obj.cells #[.slice (some ⟨G, 0, none⟩) m cap, .slice none 0 0, r2, r3, r4] 43 (0, 0))
  row : B ≤ G ∧ ∃ c, w.heap[G]? = some (Obj.cells c 61 (0, 0)) ∧ c.size = cap ∧ cap ≤ maxLen ∧ m ≤ cap ∧ ∀ i, i < m → c[i]? = some (.slice (some ⟨S i, 0, none⟩) (slabLen n i) 64)
  slab : ∀ i, i < m → B ≤ S i ∧ ∃ c, w.heap[S i]? = some (Obj.cells c 54 (0, 0)) ∧ c.size = 2880 ∧ ∀ e, e < n → e / 64 = i → c[e % 64 * 45 + 43]? = some (.int .i64 (tk e))
  inj : ∀ i j, i < m → j < m → S i = S j → i = j

theorem PoolM.ofPool {B : Nat} {w : World} {Tb : Nat} {r2 r3 r4 : Value} {G cap : Nat} {S : Nat → Nat} {n : Nat} {tk : Nat → Int} (h : PoolAt B w Tb r2 r3 r4 G cap S n tk) (hn : n % 64 ≠ 0) : PoolM B w Tb r2 r3 r4 G cap S n (n / 64 + 1) tk := by
  have e : nSlabs n = n / 64 + 1 := by unfold nSlabs; omega
  have h1 := h.tab
  have h2 := h.row (by omega)
  have h3 := h.slab
  have h4 := h.inj
  rw [slabV, if_neg (by omega)] at h1
  rw [e] at h1 h2 h3 h4
  exact ⟨h.tb, h1, h2, h3, h4⟩

/-- The zero entry's cells. -/
def zEnt : Array Value := #[.int .u8 0, .int .u8 0, .int .u8 0, .int .u8 0, .int .u8 0, .int .u8 0, .int .u8 0, .int .u8 0, .int .u8 0, .int .u8 0, .int .u8 0, .int .u8 0, .int .u8 0, .int .u8 0, .int .u8 0, .int .u8 0, .int .u8 0, .int .u8 0, .int .u8 0, .int .u8 0, .int .u8 0, .int .u8 0, .int .u8 0, .int .u8 0, .int .u8 0, .int .u8 0, .int .u8 0, .int .u8 0, .int .u8 0, .int .u8 0, .int .u8 0, .int .u8 0, .int .u64 0, .pointer none, .int .u64 0, .pointer none, .int .i32 0, .int .u32 0, .int .u8 0, .bool false, .int .u32 0, .int .u32 0, .int .u32 0, .int .i64 0, .pointer none]
theorem zEnt_size : zEnt.size = 45 := rfl
theorem zEnt_one : ∀ u ∈ zEnt.toList, u.oneCell' = true := by
  intro u hu
  have : zEnt.toList.all (fun u => u.oneCell') = true := rfl
  exact List.all_eq_true.1 this u hu
theorem zEnt_taken : zEnt.toList[43]? = some (.int .i64 0) := rfl
theorem info54 : (Try.prog.info? 54).map (fun i => (i.zero, i.size, i.bytes)) = some (some (.agg zEnt), 45, 104) := by kernel_rfl
theorem info61 : (Try.prog.info? 61).map (fun i => (i.zero, i.size, i.bytes)) = some (some (.slice none 0 0), 1, 24) := by kernel_rfl
theorem info27 : (Try.prog.info? 27).map (fun i => (i.zero, i.size, i.bytes)) = some (some (.int .u32 0), 1, 4) := by kernel_rfl

theorem make_slab (w : World) : (Instr.makeSlice 61 (.int .i64 0) (.int .i64 64)).run Try.prog w = .ok (.slice (some ⟨w.heap.size, 0, none⟩) 0 64) (w.alloc (.cells (madeCells zEnt 2880) 54)) := by
  obtain ⟨i, hi, hzz⟩ := Option.map_eq_some_iff.1 info54
  simp only [Prod.mk.injEq] at hzz
  obtain ⟨hz, hs, hbb⟩ := hzz
  have hr := run_make (P := Try.prog) w 61 54 i (.agg zEnt) Try.underlying61 hi hz .i64 .i64 0 64 (by omega) (by omega) (by rw [hbb]; decide) (by omega)
  rw [hs] at hr
  exact hr

theorem heap_two (w : World) (o1 o2 : Obj) : ((w.alloc o1).alloc o2).heap[w.heap.size]? = some o1 ∧ ((w.alloc o1).alloc o2).heap[w.heap.size + 1]? = some o2 ∧ (∀ b, b < w.heap.size → ((w.alloc o1).alloc o2).heap[b]? = w.heap[b]?) ∧ ((w.alloc o1).alloc o2).heap.size = w.heap.size + 2 := by
  refine ⟨?_, ?_, fun b hb => ?_, by simp⟩
  · show ((w.heap.push _).push _)[w.heap.size]? = _
    rw [Array.getElem?_push, if_neg (by simp), Array.getElem?_push, if_pos rfl]
  · show ((w.heap.push _).push _)[w.heap.size + 1]? = _
    rw [Array.getElem?_push, if_pos (by simp)]
  · show ((w.heap.push _).push _)[b]? = _
    rw [Array.getElem?_push, if_neg (by simp; omega), Array.getElem?_push, if_neg (by omega)]

/-- A NEW SLAB. -/
theorem grow_run {B : Nat} {w : World} {Tb : Nat} {r2 r3 r4 : Value} {G cap : Nat} {S : Nat → Nat} {n : Nat} {tk : Nat → Int} (h : PoolAt B w Tb r2 r3 r4 G cap S n tk) (hn : n % 64 = 0) (hn2 : n ≤ 100000) (hB : B ≤ w.heap.size) :
    ∃ G' cap' W3, (Builtin.append_ #[35, 35] 35 #[slabV n G cap, .slice (some ⟨w.heap.size + 1, 0, none⟩) 1 1]).run Try.prog ((w.alloc (.cells (madeCells zEnt 2880) 54)).alloc (.cells #[.slice (some ⟨w.heap.size, 0, none⟩) 0 64] 61)).drew = .ok (.slice (some ⟨G', 0, none⟩) (n / 64 + 1) cap') W3 ∧
      W3.cell? ⟨Tb, 0, none⟩ = some (slabV n G cap) ∧ W3.frozen? ⟨Tb, 0, none⟩ = false ∧
      PoolM B (W3.setCell ⟨Tb, 0, none⟩ (.slice (some ⟨G', 0, none⟩) (n / 64 + 1) cap')) Tb r2 r3 r4 G' cap' (fun i => if i = n / 64 then w.heap.size else S i) n (n / 64 + 1) tk ∧
      Ext B w (W3.setCell ⟨Tb, 0, none⟩ (.slice (some ⟨G', 0, none⟩) (n / 64 + 1) cap')) := by
  have em : nSlabs n = n / 64 := by unfold nSlabs; omega
  obtain ⟨q0, q1, q2, q3⟩ := heap_two w (.cells (madeCells zEnt 2880) 54) (.cells #[.slice (some ⟨w.heap.size, 0, none⟩) 0 64] 61)
  obtain ⟨W2, hW2⟩ : ∃ W2, W2 = ((w.alloc (.cells (madeCells zEnt 2880) 54)).alloc (.cells #[.slice (some ⟨w.heap.size, 0, none⟩) 0 64] 61)).drew := ⟨_, rfl⟩
  have q0' : W2.heap[w.heap.size]? = some (.cells (madeCells zEnt 2880) 54) := by rw [hW2]; exact q0
  have q1' : W2.heap[w.heap.size + 1]? = some (.cells #[.slice (some ⟨w.heap.size, 0, none⟩) 0 64] 61) := by rw [hW2]; exact q1
  have q2' : ∀ b, b < w.heap.size → W2.heap[b]? = w.heap[b]? := fun b hb => by rw [hW2]; exact q2 b hb
  have q3' : W2.heap.size = w.heap.size + 2 := by rw [hW2]; exact q3
  have hE2 : Ext B w W2 := by rw [hW2]; exact (((Ext.refl B w).alloc hB _).alloc (by simp; omega) _).drew
  rw [← hW2]
  clear hW2 q0 q1 q2 q3
  obtain ⟨i0, hi, hz0, hz1, hz2⟩ := info_parts info61
  have hown : W2.ownsRow B 61 1 (slabV n G cap) (n / 64) ((List.range (n / 64)).map (fun i => Value.slice (some ⟨S i, 0, none⟩) (slabLen n i) 64)) := by
    refine ⟨by simp, ?_⟩
    by_cases h0 : n = 0
    · subst h0
      exact .inl ⟨by simp [slabV], rfl⟩
    · obtain ⟨hBG, c, hc, hcs, hmx, hle, hci⟩ := h.row (by omega)
      rw [em] at hle hci
      refine .inr ⟨G, cap, c, by rw [slabV, if_neg h0, em], hBG, ?_, hle, hmx, by omega, ?_⟩
      · rw [q2' G (Array.getElem?_eq_some_iff.1 hc).1]; exact hc
      · apply List.ext_getElem?
        intro i
        by_cases hi : i < n / 64
        · rw [List.getElem?_take, if_pos (by omega)]
          simp only [List.getElem?_map, List.getElem?_range hi, Option.map_some]
          rw [Array.getElem?_toList]
          exact hci i hi
        · rw [List.getElem?_take, if_neg (by omega), List.getElem?_eq_none]
          rw [List.length_map, List.length_range]; omega
  have hnews : ∀ j u, [Value.slice (some ⟨w.heap.size, 0, none⟩) 0 64][j]? = some u → W2.cell? ((⟨w.heap.size + 1, 0, none⟩ : Addr).add j) = some u := by
    intro j u hj
    rw [addr_plain, cells_of_block q1']
    match j, hj with
    | 0, hj => simpa using hj
  obtain ⟨v', W3, hrun, hown', hgrow, _⟩ := run_append_own (P := Try.prog) W2 B 35 35 61 i0 (.slice none 0 0) 1 24 Try.underlying35 hi hz0 hz1 hz2 rfl (by decide) (slabV n G cap) (n / 64) _ hown ⟨w.heap.size + 1, 0, none⟩ 1 1 [.slice (some ⟨w.heap.size, 0, none⟩) 0 64] rfl hnews
    (fun u hu => by simp at hu; subst hu; rfl) (by unfold maxLen; omega) (by omega) (by omega)
  have hshape : ∃ G' cap' cur, v' = .slice (some ⟨G', 0, none⟩) (n / 64 + 1) cap' ∧ B ≤ G' ∧ W3.heap[G']? = some (.cells cur 61 (0, 0)) ∧ n / 64 + 1 ≤ cap' ∧ cap' ≤ maxLen ∧ cur.size = cap' ∧ cur.toList.take (n / 64 + 1) = (List.range (n / 64)).map (fun i => Value.slice (some ⟨S i, 0, none⟩) (slabLen n i) 64) ++ [.slice (some ⟨w.heap.size, 0, none⟩) 0 64] := by
    obtain ⟨_, hx | ⟨g, cp, cur, x1, x2, x3, x4, x5, x6, x7⟩⟩ := hown'
    · omega
    · exact ⟨g, cp, cur, x1, x2, x3, x4, x5, by omega, by simpa using x7⟩
  obtain ⟨G', cap', cur, rfl, hBG', hG', hle', hmx', hsz', htake⟩ := hshape
  -- blocks that are no row of slabs are as they were
  have hkeep : ∀ (b : Nat) (c : Array Value) (t : Nat), t ≠ 61 → W2.heap[b]? = some (Obj.cells c t (0, 0)) → W3.heap[b]? = some (Obj.cells c t (0, 0)) := by
    intro b c t ht hb
    rw [hgrow.block b (Array.getElem?_eq_some_iff.1 hb).1 ?_]
    · exact hb
    · intro e
      have hx := e.symm
      by_cases h0 : n = 0
      · simp [slabV, h0, Value.ownBlock] at hx
      · rw [slabV, if_neg h0] at hx
        simp only [Value.ownBlock, Option.some.injEq] at hx
        obtain ⟨_, c2, hc2, _⟩ := h.row (by omega)
        have hGl := (Array.getElem?_eq_some_iff.1 hc2).1
        rw [← q2' G hGl, hx, hb] at hc2
        injection hc2 with hc2
        injection hc2 with _ hc2
        exact ht hc2
  have hB3 : Below B w W3 := by
    refine hE2.1.trans ⟨hgrow.os, hgrow.tape, hgrow.output, hgrow.size, fun k hk => hgrow.block k (by omega) (fun e => ?_)⟩
    have := (hown.lt k e.symm).1
    omega
  have hTl : Tb < w.heap.size := h.lt
  have hT2 : W2.heap[Tb]? = some (Obj.cells #[slabV n G cap, .slice none 0 0, r2, r3, r4] 43 (0, 0)) := (q2' Tb hTl).trans h.tab
  have hT3 := hkeep Tb _ 43 (by decide) hT2
  refine ⟨G', cap', W3, hrun, by rw [cells_of_block hT3]; rfl, free_of_block hT3 0, ⟨h.tb, ?_, ⟨hBG', cur, ?_, hsz', hmx', hle', fun i hi => ?_⟩, fun i hi => ?_, fun i j hi hj he => ?_⟩, ⟨hB3.setCell h.tb _, fun x y t ht e => ?_⟩⟩
  · rw [heapSame hT3]; simp
  · rw [heapOther _ (fun e => by rw [e, hT3] at hG'; injection hG' with hG'; injection hG' with _ hG'; cases hG')]
    exact hG'
  · have hi' : cur.toList[i]? = (cur.toList.take (n / 64 + 1))[i]? := by rw [List.getElem?_take, if_pos hi]
    rw [← Array.getElem?_toList, hi', htake]
    by_cases e : i = n / 64
    · subst e
      rw [List.getElem?_append_right (by simp)]
      simp [slabLen, show n - 64 * (n / 64) = 0 by omega]
    · rw [List.getElem?_append_left (by simp; omega)]
      simp [show i < n / 64 by omega, e]
  · by_cases e : i = n / 64
    · subst e
      simp only [if_true]
      refine ⟨hB, madeCells zEnt 2880, ?_, size_madeCells _ _, fun x hx hxi => by omega⟩
      rw [heapOther _ (by omega)]
      exact hkeep _ _ 54 (by decide) q0'
    · simp only [if_neg e]
      obtain ⟨y1, c, y2, y3⟩ := h.slab i (by rw [em]; omega)
      refine ⟨y1, c, ?_, y3⟩
      rw [heapOther _ (fun x => by rw [x, h.tab] at y2; injection y2 with y2; injection y2 with _ y2; cases y2)]
      exact hkeep _ _ 54 (by decide) ((q2' _ (Array.getElem?_eq_some_iff.1 y2).1).trans y2)
  · have lts : ∀ i, i < n / 64 → S i < w.heap.size := fun i hi => by
      obtain ⟨_, c, y2, _⟩ := h.slab i (by rw [em]; omega)
      exact (Array.getElem?_eq_some_iff.1 y2).1
    by_cases e1 : i = n / 64 <;> by_cases e2 : j = n / 64
    · omega
    · simp only [e1, if_true, if_neg e2] at he
      have := lts j (by omega); omega
    · simp only [e2, if_true, if_neg e1] at he
      have := lts i (by omega); omega
    · simp only [if_neg e1, if_neg e2] at he
      exact h.inj i j (by rw [em]; omega) (by rw [em]; omega) he
  · rw [heapOther _ (fun z => by rw [z, h.tab] at e; injection e with e; injection e with _ e; have e2 : (43 : Nat) = t := e; omega)]
    exact hkeep _ _ t (by omega) (hE2.2 x y t ht e)
end Go.Proofs.Qxb6608542a
