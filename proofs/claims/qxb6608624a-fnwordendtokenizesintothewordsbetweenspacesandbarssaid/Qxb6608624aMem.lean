/-
  THE TOKENIZER LAW's MEMORY: the row of word marks and the two rows of ints that grow.
-/
import Derived.Test.Qxb6608624aWord
import Derived.Maps.AppendAt
import Derived.Laws.OwnMore
import Derived.OwnWalk
namespace Go.Proofs.Qxb6608624a
open Go.RowKit
set_option linter.unusedVariables false
set_option linter.unusedSimpArgs false

theorem info4 : (Try.prog.info? 4).map (fun i => (i.zero, i.size, i.bytes)) = some (some (.bool false), 1, 1) := by kernel_rfl
theorem info3 : (Try.prog.info? 3).map (fun i => (i.zero, i.size, i.bytes)) = some (some (.int .i64 0), 1, 8) := by kernel_rfl
theorem info_parts {t : TypeId} {z : Value} {s y : Nat} (h : (Try.prog.info? t).map (fun i => (i.zero, i.size, i.bytes)) = some (some z, s, y)) : ∃ i, Try.prog.info? t = some i ∧ i.zero = some z ∧ i.size = s ∧ i.bytes = y := by
  obtain ⟨i, hi, hzz⟩ := Option.map_eq_some_iff.1 h
  simp only [Prod.mk.injEq] at hzz
  exact ⟨i, hi, hzz.1, hzz.2.1, hzz.2.2⟩

def Sized (e size : Nat) : Prop := ∀ w : World, (sizeOf e).run Try.prog w = .ok size w
theorem addr_plain (b off k : Nat) : (⟨b, off, none⟩ : Addr).add k = ⟨b, off + k, none⟩ := by simp [Addr.add]
theorem idx_eq {T e size : Nat} (hT : Try.prog.underlying T = some (.slice e)) (hs : Sized e size) (k : IntKind) (b off n cap i : Nat) (hi : i < n) (w' : World) :
    (Instr.indexAt T (.slice (some ⟨b, off, none⟩) n cap) (.int k (i : Int))).run Try.prog w' = .ok (.pointer (some ⟨b, off + i * size, none⟩)) w' := by
  have he : Try.prog.elem T = e := by simp [Program.elem, hT]
  rw [run_indexAt_slice (h := by rw [he]; exact hT), if_pos (by omega), he, hs w']
  simp [Result.andThen, addr_plain]
theorem sized4 : Sized 4 1 := fun w => by simp [go_sem]
theorem sized3 : Sized 3 1 := fun w => by simp [go_sem]
theorem cells_of_block {w : World} {b : Nat} {c : Array Value} {t : Nat} {fr : Nat × Nat} (h : w.heap[b]? = some (Obj.cells c t fr)) (o : Nat) : w.cell? ⟨b, o, none⟩ = c[o]? := by
  simp [World.cell?, h]
theorem free_of_block {w : World} {b : Nat} {c : Array Value} {t : Nat} (h : w.heap[b]? = some (Obj.cells c t (0, 0))) (o : Nat) : w.frozen? ⟨b, o, none⟩ = false := by
  simp [World.frozen?, h]
theorem heapSame {w : World} {K t o : Nat} {c : Array Value} (hc : w.heap[K]? = some (Obj.cells c t (0, 0))) (v : Value) : (w.setCell ⟨K, o, none⟩ v).heap[K]? = some (Obj.cells (c.setIfInBounds o v) t (0, 0)) := by
  simp [World.setCell, Array.getElem?_modify, hc]

theorem make_bools (n : Nat) (hn : n ≤ 1048576) (w : World) : (Instr.makeSlice 25 (.int .i64 n) (.int .i64 n)).run Try.prog w = .ok (.slice (some ⟨w.heap.size, 0, none⟩) n n) (w.alloc (.cells (madeCells #[.bool false] n) 4)) := by
  obtain ⟨i, hi, hz, hs, hbb⟩ := info_parts info4
  have hr := run_make (P := Try.prog) w 25 4 i (.bool false) Try.underlying25 hi hz .i64 .i64 n n (by omega) (by omega) (by rw [hbb]; omega) (by omega)
  rw [hs, Nat.mul_one] at hr
  exact hr

/-- The row of marks in block D reads g. -/
structure Wt (B : Nat) (w : World) (D m : Nat) (g : Nat → Bool) (W : World) : Prop where
  bel : Below B w W
  db : B ≤ D
  row : ∃ c, W.heap[D]? = some (Obj.cells c 4 (0, 0)) ∧ c.size = m ∧ ∀ x, x < m → c[x]? = some (.bool (g x))

theorem Wt.congr {B : Nat} {w : World} {D m : Nat} {g g' : Nat → Bool} {W : World} (h : Wt B w D m g W) (he : ∀ x, x < m → g x = g' x) : Wt B w D m g' W := by
  obtain ⟨c, h1, h2, h3⟩ := h.row
  exact ⟨h.bel, h.db, c, h1, h2, fun x hx => by rw [h3 x hx, he x hx]⟩
theorem Wt.cell {B : Nat} {w : World} {D m : Nat} {g : Nat → Bool} {W : World} (h : Wt B w D m g W) (x : Nat) (hx : x < m) : W.cell? ⟨D, x, none⟩ = some (.bool (g x)) := by
  obtain ⟨c, h1, h2, h3⟩ := h.row
  rw [cells_of_block h1, h3 x hx]
theorem Wt.free {B : Nat} {w : World} {D m : Nat} {g : Nat → Bool} {W : World} (h : Wt B w D m g W) (x : Nat) : W.frozen? ⟨D, x, none⟩ = false := by
  obtain ⟨c, h1, h2, h3⟩ := h.row
  exact free_of_block h1 x
theorem Wt.lt {B : Nat} {w : World} {D m : Nat} {g : Nat → Bool} {W : World} (h : Wt B w D m g W) : D < W.heap.size := by
  obtain ⟨c, h1, h2, h3⟩ := h.row
  exact (Array.getElem?_eq_some_iff.1 h1).1
theorem Wt.store {B : Nat} {w : World} {D m : Nat} {g : Nat → Bool} {W : World} (h : Wt B w D m g W) (x : Nat) : Wt B w D m (fun y => if y = x then true else g y) (W.setCell ⟨D, x, none⟩ (.bool true)) := by
  obtain ⟨c, h1, h2, h3⟩ := h.row
  refine ⟨h.bel.setCell (p := ⟨D, x, none⟩) h.db _, h.db, _, heapSame h1 _, by simp [h2], fun y hy => ?_⟩
  rw [Array.getElem?_setIfInBounds]
  by_cases hxy : x = y
  · subst hxy; rw [if_pos rfl, if_pos (by omega), if_pos rfl]
  · rw [if_neg hxy, if_neg (fun e => hxy e.symm)]; exact h3 y hy
theorem Wt.alloc {B : Nat} {w : World} {D m : Nat} {g : Nat → Bool} {W : World} (h : Wt B w D m g W) (o : Obj) : Wt B w D m g (W.alloc o) := by
  have hlt := h.lt
  have hdb := h.db
  obtain ⟨c, h1, h2, h3⟩ := h.row
  exact ⟨h.bel.alloc (by omega) o, h.db, c, by rw [Below.heap_alloc _ _ _ hlt]; exact h1, h2, h3⟩
theorem Wt.drew {B : Nat} {w : World} {D m : Nat} {g : Nat → Bool} {W : World} (h : Wt B w D m g W) : Wt B w D m g W.drew := ⟨h.bel.drew, h.db, h.row⟩
theorem Wt.grown {B : Nat} {w : World} {D m : Nat} {g : Nat → Bool} {W W' : World} {row : Option Nat} (h : Wt B w D m g W) (hg : W.grownBy W' row) (hr : ∀ k, row = some k → D + 1 ≤ k) : Wt B w D m g W' := by
  have hlt := h.lt
  have hdb := h.db
  obtain ⟨c, h1, h2, h3⟩ := h.row
  refine ⟨Below.grown h.bel hg (by omega) (fun k hk => by have := hr k hk; omega), h.db, c, ?_, h2, h3⟩
  rw [hg.block D hlt (fun e => by have := hr D e.symm; omega)]
  exact h1

/-- The marks and the two rows of ints, apart. -/
structure Own2 (B : Nat) (w : World) (D m : Nat) (g : Nat → Bool) (vS : Value) (ns : Nat) (xs : List Value) (vE : Value) (ne : Nat) (ys : List Value) (W : World) : Prop where
  wt : Wt B w D m g W
  s : W.ownsRow (D + 1) 3 1 vS ns xs
  e : W.ownsRow (D + 1) 3 1 vE ne ys
  ap : (vS.ownBlock = none ∨ vS.ownBlock ≠ vE.ownBlock) ∧ (vE.ownBlock = none ∨ vE.ownBlock ≠ vS.ownBlock)

theorem Own2.swap {B : Nat} {w : World} {D m : Nat} {g : Nat → Bool} {vS : Value} {ns : Nat} {xs : List Value} {vE : Value} {ne : Nat} {ys : List Value} {W : World} (h : Own2 B w D m g vS ns xs vE ne ys W) : Own2 B w D m g vE ne ys vS ns xs W := ⟨h.wt, h.e, h.s, h.ap.2, h.ap.1⟩

theorem Own2.app {B : Nat} {w : World} {D m : Nat} {g : Nat → Bool} {vS : Value} {ns : Nat} {xs : List Value} {vE : Value} {ne : Nat} {ys : List Value} {W : World} (h : Own2 B w D m g vS ns xs vE ne ys W)
    {o : Obj} {W2 : World} {v' : Value} {n' : Nat} {xs' : List Value} (hown : W2.ownsRow (D + 1) 3 1 v' n' xs') (hgrow : (W.alloc o).grownBy W2 vS.ownBlock) (hat : v'.ownBlock = vS.ownBlock ∨ v'.ownBlock = some (W.heap.size + 1)) :
    Own2 B w D m g v' n' xs' vE ne ys W2 := by
  refine ⟨(h.wt.alloc o).grown hgrow (fun k hk => (h.s.lt k hk).1), hown, (h.e.alloc o).kept hgrow h.ap.2, ?_⟩
  rcases hat with e | e
  · rw [e]; exact h.ap
  · rw [e]
    have hne : (some (W.heap.size + 1) : Option Nat) ≠ vE.ownBlock := fun x => by
      have := (h.e.lt _ x.symm).2
      omega
    exact ⟨Or.inr hne, Or.inr (fun x => hne x.symm)⟩

theorem Own2.shape {B : Nat} {w : World} {D m : Nat} {g : Nat → Bool} {vS : Value} {ns : Nat} {xs : List Value} {vE : Value} {ne : Nat} {ys : List Value} {W : World} (h : Own2 B w D m g vS ns xs vE ne ys W) : ∃ a p, vS = .slice a ns p := by
  rcases h.s.2 with ⟨hv, hn⟩ | ⟨q, cap, cur, hv, _⟩
  · exact ⟨none, 0, by rw [hv, hn]⟩
  · exact ⟨_, _, hv⟩

theorem own_at {W : World} {base n : Nat} {a : Option Addr} {p : Nat} {xs : List Value} (h : W.ownsRow base 3 1 (.slice a n p) n xs) (u : Nat) (hu : u < n) :
    ∃ q : Addr, (∀ w', (Instr.indexAt 26 (.slice a n p) (.int .i64 (u : Int))).run Try.prog w' = .ok (.pointer (some q)) w') ∧ W.cell? q = xs[u]? := by
  rcases h.2 with ⟨hv, hn⟩ | ⟨q, cap, cur, hv, _⟩
  · omega
  · simp only [Value.slice.injEq] at hv
    obtain ⟨rfl, _, rfl⟩ := hv
    refine ⟨⟨q, u, none⟩, fun w' => ?_, h.cellAt u (by omega)⟩
    have := idx_eq Try.underlying26 sized3 .i64 q 0 n p u hu w'
    simpa using this
end Go.Proofs.Qxb6608624a
