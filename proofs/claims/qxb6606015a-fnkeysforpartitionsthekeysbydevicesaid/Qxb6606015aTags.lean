/-
  WALKS: zzTags, ZZkeysForTags.
-/
import Derived.Test.Qxb6606015aKeys
namespace Go.Proofs.Qxb6606015a
open Go.RowKit
set_option linter.unusedVariables false
set_option linter.unusedSimpArgs false

def IntRow (K n k : Nat) (zs : List Int) (wr : World) : Prop :=
  ∃ c, wr.heap[K]? = some (.cells c 3 (0, 0)) ∧ c.size = n ∧ ∀ j, j < k → c[j]? = some (.int .i64 (zs.getD j 0))

theorem IntRow.set {K n k : Nat} {zs : List Int} {wr : World} (h : IntRow K n k zs wr) (hk : k < n) : IntRow K n (k + 1) zs (wr.setCell ⟨K, k, none⟩ (.int .i64 (zs.getD k 0))) := by
  obtain ⟨c, hc, hs, hj⟩ := h
  refine ⟨c.setIfInBounds k (.int .i64 (zs.getD k 0)), by simp [World.setCell, Array.getElem?_modify, hc], by simp [hs], fun j hjk => ?_⟩
  by_cases e : j = k
  · subst e; simp [Array.getElem?_setIfInBounds, hs, hk]
  · rw [Array.getElem?_setIfInBounds, if_neg (fun x => e x.symm)]; exact hj j (by omega)

theorem IntRow.done {K : Nat} {zs : List Int} {wr : World} (h : IntRow K zs.length zs.length zs wr) (hl : zs.length ≤ 140737488355328) {p : Nat → Prop} (hp : p K) : Ns p .i64 wr (.slice (some ⟨K, 0, none⟩) zs.length zs.length) zs := by
  obtain ⟨c, hc, hs, hj⟩ := h
  refine ⟨_, _, rfl, (fun e => by cases e), Nat.le_refl _, hl, fun i hi => ⟨K, 0, rfl, hp, ?_⟩⟩
  rw [Nat.zero_add, cells_of_block hc]
  exact hj i hi

theorem info3 : (Try.prog.info? 3).map (fun i => (i.zero, i.size, i.bytes)) = some (some (.int .i64 0), 1, 8) := by kernel_rfl

theorem typeAssert_int (z : Int) (w : World) : (Instr.typeAssert (.iface 3 (.int .i64 z)) 66 3 true).run Try.prog w = .ok (.tuple #[.int .i64 z, .bool true]) w := by
  simp [Instr.typeAssert, run_underlying Try.underlying3]

set_option maxHeartbeats 1000000 in
theorem zzTags_any (base : Nat) (v : Value) (zs : List Int) (w : World) (h : w.ownsRow base 66 1 v zs.length (zs.map tagV)) (hl : zs.length ≤ 1048576) :
    Calls Try.prog 27 #[v] w fun e w' => ∃ ao n cp, e = .returned (.tuple #[.slice ao n cp, .bool true]) ∧ Hid (Ns (Nw w w') .i64 w' (.slice ao n cp) zs) ∧ Hid (v = .slice none 0 0 → Value.slice ao n cp = .slice none 0 0) ∧ Hid (Below w.heap.size w w') := by
  have hsh : (v = .slice none 0 0 ∧ zs.length = 0) ∨ ∃ g cap, v = .slice (some ⟨g, 0, none⟩) zs.length cap ∧ ∀ j, j < zs.length → w.cell? ⟨g, j, none⟩ = some (tagV (zs.getD j 0)) := by
    have h' := h
    obtain ⟨_, h | ⟨g, cap, cur, hv, _⟩⟩ := h
    · exact .inl h
    · refine .inr ⟨g, cap, hv, fun j hj => ?_⟩
      rw [hv] at h'
      rw [h'.cellAt j (by omega)]
      simp [List.getD, hj]
  rcases hsh with ⟨rfl, hz⟩ | ⟨g, cap, rfl, hc⟩
  · have hzz : zs = [] := List.eq_nil_of_length_eq_zero hz
    subst hzz
    clear hz h
    have hq := fun w l c => Lib.run_eql_slice_nil (P := Try.prog) w 75 66 none l c 0 0 Try.underlying75
    go_enter Try.func27, Try.ntmps27
    go_wp2
    go_ret2
    exact ⟨_, _, _, rfl, ⟨none, 0, rfl, fun _ => ⟨rfl, rfl⟩, Nat.le_refl _, by omega, fun i hi => by simp at hi⟩, fun _ => rfl, Below.refl _ _⟩
  · clear h
    have hq := fun w l c => Lib.run_eql_slice_nil (P := Try.prog) w 75 66 (some ⟨g, 0, none⟩) l c 0 0 Try.underlying75
    have hmk := make_eq Try.underlying32 info3 zs.length (by omega) (by omega)
    have HC : Hid (∀ j, j < zs.length → w.cell? ⟨g, j, none⟩ = some (tagV (zs.getD j 0))) := hc
    clear hc
    go_enter Try.func27, Try.ntmps27
    go_wp2
    have hB0 : Below w.heap.size w (w.alloc (.cells (madeCells #[Value.int .i64 0] zs.length) 3)) := (Below.refl _ _).alloc (Nat.le_refl _) _
    have hR0 : IntRow w.heap.size zs.length 0 zs (w.alloc (.cells (madeCells #[Value.int .i64 0] zs.length) 3)) := ⟨madeCells #[Value.int .i64 0] zs.length, by show (w.heap.push _)[w.heap.size]? = _; simp, size_madeCells _ _, fun j hj => by omega⟩
    clear hmk hq
    generalize w.alloc (.cells (madeCells #[Value.int .i64 0] zs.length) 3) = W1 at hB0 hR0 ⊢
    have HB0 : Hid (Below w.heap.size w W1) := hB0
    have HR0 : Hid (IntRow w.heap.size zs.length 0 zs W1) := hR0
    clear hB0 hR0
    go_loopg [5] zs.length (fun g i wr => ∃ k : Nat, Hid (k + g = zs.length) ∧ i = .int .i64 k ∧ Hid (IntRow w.heap.size zs.length k zs wr) ∧ Hid (Below w.heap.size w wr))
    case atStart => exact ⟨0, Nat.zero_add _, rfl, HR0, HB0⟩
    case round =>
      clear HR0 HB0
      obtain ⟨k, HG, rfl, HR, HB⟩ := hrel
      have hkl : k ≤ zs.length := by have := HG.out; omega
      by_cases hlt : k < zs.length
      · have ec := HC.out k hlt
        have hgl : g < w.heap.size := World.block_lt_of_cell? w _ ec
        have ecr : wr.cell? ⟨g, k, none⟩ = some (.iface 3 (.int .i64 (zs.getD k 0))) := (HB.out.cell hgl).trans ec
        have hix : ∀ w', (Instr.indexAt 75 (.slice (some ⟨g, 0, none⟩) zs.length cap) (.int .i64 (k : Int))).run Try.prog w' = .ok (.pointer (some ⟨g, k, none⟩)) w' := fun w' => by
          rw [idx_eq Try.underlying75 sized66 g 0 zs.length cap k hlt w', Nat.zero_add, Nat.mul_one]
        have hix2 : ∀ w', (Instr.indexAt 32 (.slice (some ⟨w.heap.size, 0, none⟩) zs.length zs.length) (.int .i64 (k : Int))).run Try.prog w' = .ok (.pointer (some ⟨w.heap.size, k, none⟩)) w' := fun w' => by
          rw [idx_eq Try.underlying32 sized3 w.heap.size 0 zs.length zs.length k hlt w', Nat.zero_add, Nat.mul_one]
        have hcc : ∃ u, wr.cell? ⟨w.heap.size, k, none⟩ = some u ∧ wr.frozen? ⟨w.heap.size, k, none⟩ = false := by
          obtain ⟨c', hc', hs', _⟩ := HR.out
          exact ⟨c'[k], by rw [cells_of_block hc']; simp [show k < c'.size by omega], by simp [World.frozen?, hc']⟩
        obtain ⟨u, hu, hf⟩ := hcc
        have HR1 := HR.out.set hlt
        obtain ⟨z, hz⟩ : ∃ z, z = zs.getD k 0 := ⟨_, rfl⟩
        rw [← hz] at ecr HR1
        have HR1' : Hid (IntRow w.heap.size zs.length (k + 1) zs (wr.setCell ⟨w.heap.size, k, none⟩ (.int .i64 z))) := HR1
        have hta := typeAssert_int z
        clear HR1 hz ec
        go_wp2
        go_roundg (gk - 1)
        case measure => have := HG.out; omega
        case rel => exact ⟨k + 1, by have := HG.out; show _ = _; omega, by go_num, HR1', HB.out.setCell (Nat.le_refl _) _⟩
      · go_wp2
        go_ret2
        have e : k = zs.length := by omega
        subst e
        exact ⟨_, _, _, rfl, HR.out.done (by omega) ⟨Nat.le_refl _, by obtain ⟨c, hc, _⟩ := HR.out; exact (Array.getElem?_eq_some_iff.1 hc).1⟩, (fun h => by cases h), HB⟩
end Go.Proofs.Qxb6606015a
