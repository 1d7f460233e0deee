/-
  WALKS: cloneBytes, cloneStr, sizeStr, sizeComp.
-/
import Derived.Test.Qxb6606015aLeaf
import Derived.Laws.CopyOwn
namespace Go.Proofs.Qxb6606015a
open Go.RowKit
set_option linter.unusedVariables false
set_option linter.unusedSimpArgs false
theorem info5 : (Try.prog.info? 5).map (fun i => (i.zero, i.size, i.bytes)) = some (some (.int .u8 0), 1, 1) := by kernel_rfl
theorem info5s : (Try.prog.info? 5).map (·.size) = some 1 := by kernel_rfl

/-- A row that a block holds whole, as a slice of numbers. -/
theorem Ns.ofBlock {p : Nat → Prop} {k : IntKind} {w : World} {g : Nat} {zs : List Int} {t : TypeId} {fr : Nat × Nat} (hb : w.heap[g]? = some (.cells (zs.map (Value.int k)).toArray t fr)) (hp : p g) (hl : zs.length ≤ 140737488355328) :
    Ns p k w (.slice (some ⟨g, 0, none⟩) zs.length zs.length) zs := by
  refine ⟨_, _, rfl, (fun e => by cases e), Nat.le_refl _, hl, fun i hi => ⟨g, 0, rfl, hp, ?_⟩⟩
  simp [World.cell?, hb, hi, List.getD]

theorem clone_run {p : Nat → Prop} (w : World) (a : Addr) (cap : Nat) (zs : List Int) (h : Ns p .u8 w (.slice (some a) zs.length cap) zs) :
    ∃ W2, (∀ ty, (Builtin.copy_ #[25, 25] ty #[.slice (some ⟨w.heap.size, 0, none⟩) zs.length zs.length, .slice (some a) zs.length cap]).run Try.prog (w.alloc (.cells (madeCells #[.int .u8 0] zs.length) 5)) = .ok (goInt zs.length) W2) ∧
      W2.heap[w.heap.size]? = some (.cells (zs.map (Value.int .u8)).toArray 5 (0, 0)) ∧ Below w.heap.size w W2 ∧ W2.heap.size = w.heap.size + 1 := by
  have hc := h.cells
  obtain ⟨W1, hW1⟩ : ∃ W1, W1 = w.alloc (.cells (madeCells #[.int .u8 0] zs.length) 5) := ⟨_, rfl⟩
  have hb1 : Below w.heap.size w W1 := by rw [hW1]; exact (Below.refl _ _).alloc (Nat.le_refl _) _
  have hs1 : W1.heap.size = w.heap.size + 1 := by rw [hW1]; simp
  have hg : W1.heap[w.heap.size]? = some (.cells (madeCells #[.int .u8 0] zs.length) 5 (0, 0)) := by
    rw [hW1]; show (w.heap.push _)[w.heap.size]? = _; simp
  rw [← hW1]
  clear hW1
  refine ⟨_, fun ty => (run_copy_row (P := Try.prog) W1 25 25 ty 5 w.heap.size 0 zs.length zs.length a zs.length cap _ 5 (zs.map (Value.int .u8)) Try.underlying25 info5s hg (by simp) ?_ (by simp [size_madeCells]) ?_).trans (by simp; rfl), ?_, ?_, ?_⟩
  · intro j v hj
    have hcj := hc.2 j v hj
    rw [hb1.cell (World.block_lt_of_cell? w _ hcj)]
    exact hcj
  · intro v hv
    simp at hv
    obtain ⟨z, _, rfl⟩ := hv
    rfl
  · rw [setRow_heap _ _ _ _ _ _ hg]
    congr 2
    simp [size_madeCells]
  · exact below_setRow hb1 (Nat.le_refl _) _
  · simp [hs1]

set_option maxHeartbeats 400000 in
theorem cloneBytes_any {p : Nat → Prop} (v : Value) (zs : List Int) (w : World) (h : Ns p .u8 w v zs) :
    Calls Try.prog 9 #[v] w fun e w' => ∃ v', e = .returned v' ∧ Ns (fun b => w.heap.size ≤ b) .u8 w' v' zs ∧ Below w.heap.size w w' := by
  obtain ⟨ao, cap, rfl, hl, hnil⟩ := h.shape
  cases ao with
  | none =>
    have hz := hnil rfl
    subst hz
    clear hnil
    have hq := fun w l c => Lib.run_eql_slice_nil (P := Try.prog) w 25 5 none l c 0 0 Try.underlying25
    go_enter Try.func9, Try.ntmps9
    go_wp2
    go_ret
    exact ⟨_, rfl, ⟨none, 0, rfl, fun _ => ⟨rfl, rfl⟩, Nat.le_refl _, by omega, fun i hi => by simp at hi⟩, Below.refl _ _⟩
  | some a =>
    clear hnil
    have hq := fun w l c => Lib.run_eql_slice_nil (P := Try.prog) w 25 5 (some a) l c 0 0 Try.underlying25
    obtain ⟨W2, hrun, hblk, hbel, hsz⟩ := clone_run w a cap zs h
    have hmk := run_make_row' (P := Try.prog) 25 5 (.int .u8 0) 1 Try.underlying25 info5 rfl .i64 .i64 zs.length (by omega) (by omega)
    obtain ⟨n, hn⟩ : ∃ n, n = zs.length := ⟨_, rfl⟩
    have fin : Ns (fun b => w.heap.size ≤ b) .u8 W2 (.slice (some ⟨w.heap.size, 0, none⟩) n n) zs := by
      rw [hn]; exact Ns.ofBlock hblk (Nat.le_refl _) hl
    rw [← hn] at hrun hmk hl ⊢
    clear h hblk hsz hn
    have HB : Hid (Below w.heap.size w W2) := hbel
    have HF : Hid (Ns (fun b => w.heap.size ≤ b) .u8 W2 (.slice (some ⟨w.heap.size, 0, none⟩) n n) zs) := fin
    clear hbel fin
    go_enter Try.func9, Try.ntmps9
    go_wp2
    go_ret
    exact ⟨_, rfl, HF.out, HB.out⟩

theorem addS_nn {n m : Int} (hn : 0 ≤ n) (hm : 0 ≤ m) : 0 ≤ addS n m := (addS_bd hn hm).1

theorem Ns.drewN {p : Nat → Prop} {k : IntKind} {w : World} {v : Value} {zs : List Int} (h : Ns p k w v zs) (n : Nat) : Ns p k (w.drewN n) v zs := h.keep (fun _ _ => rfl)
theorem Ps.drewN {p : Nat → Prop} {w : World} {v : Value} {s : Option ByteArray} (h : Ps p w v s) (n : Nat) : Ps p (w.drewN n) v s := h.keep (fun _ _ => rfl)
theorem below_drewN {B : Nat} {a w : World} (h : Below B a w) (n : Nat) : Below B a (w.drewN n) := ⟨h.os, h.tape, h.output, h.size, h.block⟩

set_option maxHeartbeats 400000 in
theorem cloneStr_any {p : Nat → Prop} (v : Value) (s : Option ByteArray) (w : World) (h : Ps p w v s) :
    Calls Try.prog 39 #[v] w fun e w' => ∃ v', e = .returned v' ∧ Ps (fun b => w.heap.size ≤ b) w' v' s ∧ Below w.heap.size w w' := by
  rcases h with ⟨rfl, rfl⟩ | ⟨b, off, str, rfl, hb, hc, hs, rfl⟩
  · go_enter Try.func39, Try.ntmps39
    go_wp2
    go_ret
    exact ⟨_, rfl, .inl ⟨rfl, rfl⟩, Below.refl _ _⟩
  · go_enter Try.func39, Try.ntmps39
    go_wp2
    go_ret
    refine ⟨_, rfl, .inr ⟨w.heap.size, 0, str, rfl, Nat.le_refl _, ?_, hs, rfl⟩, (Below.refl _ _).alloc (Nat.le_refl _) _⟩
    exact World.cell?_alloc_at _ _ _ _ rfl

set_option maxHeartbeats 400000 in
theorem sizeStr_any {p : Nat → Prop} (v : Value) (s : Option ByteArray) (w : World) (h : Ps p w v s) :
    Calls Try.prog 40 #[v] w fun e w' => e = .returned (.int .i64 ((s.map (·.size)).getD 0 : Nat)) ∧ w' = w := by
  rcases h with ⟨rfl, rfl⟩ | ⟨b, off, str, rfl, hb, hc, hs, rfl⟩
  · go_enter Try.func40, Try.ntmps40
    go_wp2
    go_ret
    exact ⟨rfl, rfl⟩
  · go_enter Try.func40, Try.ntmps40
    go_wp2
    go_ret
    exact ⟨rfl, rfl⟩

set_option maxHeartbeats 1000000 in
theorem sizeComp_any {p : Nat → Prop} (c0 c1 c2 : Value) (d : CompD) (w : World) (h : CompAt p w c0 c1 c2 d) (hp : ∀ b, p b → b < w.heap.size) :
    Calls Try.prog 34 #[.agg #[c0, c1, c2]] w fun e w' => ∃ r, e = .returned (.int .i64 r) ∧ 0 ≤ r ∧ r ≤ 2097152 ∧ Below w.heap.size w w' := by
  obtain ⟨h0, h1, h2⟩ := h
  obtain ⟨ao, cap, rfl, hl, hnil⟩ := h2.shape
  have hk : ∀ o, Keeps p w (w.alloc o) := fun o => Below.keeps ((Below.refl _ _).alloc (Nat.le_refl _) _) hp
  have h0' := fun o => h0.keep (hk o)
  have h1' := fun o => h1.keep (hk o)
  clear h0 h1 h2 hk hp hnil
  go_enter Try.func34, Try.ntmps34
  go_wp2
  go_quiet ((first | (go_at_call 7; refine Calls.quiet_of_same (addSat_any _ _ _ ?_ ?_) <;> (repeat' (first | omega | apply addS_nn))) | (go_at_call 40; first | exact Calls.quiet_of_same (sizeStr_any _ _ _ ((h0' _).drewN _)) | exact Calls.quiet_of_same (sizeStr_any _ _ _ ((h1' _).drewN _)))))
  go_wp2
  go_ret
  refine ⟨_, rfl, ?_, ?_, below_drewN ((Below.refl _ _).alloc (Nat.le_refl _) _) _⟩
  · repeat' (first | omega | apply addS_nn)
  · refine (addS_bd ?_ ?_).2 <;> (repeat' (first | omega | apply addS_nn))
end Go.Proofs.Qxb6606015a
