/-
  PLAIN PARTS: the pool of entries as it lies in memory.
-/
import Derived.Test.Qxb6608542aProg
import Derived.WalkKit
import Derived.WalkSpells
import Derived.WalkLawsBesides
import Derived.BigQuiet
import Derived.Deep.QuietTactic
import Derived.Deep.LoopGhost
import Derived.Deep.RegionHeld3
import Derived.Deep.RegionLawGrows
import Derived.Deep.DeepCutAuto
import Derived.Deep.OwnRows
namespace Go.Proofs.Qxb6608542a
open Go.RowKit
set_option linter.unusedVariables false
set_option linter.unusedSimpArgs false

theorem addr_plain (b off i : Nat) : (Addr.add ⟨b, off, none⟩ i) = ⟨b, off + i, none⟩ := by
  unfold Addr.add; split <;> simp_all
theorem cells54 : Try.prog.cellsOf 54 = 45 := by kernel_rfl
def Sized (e size : Nat) : Prop := ∀ w, (sizeOf e).run Try.prog w = .ok size w
theorem idx_eq {T e size : Nat} (hT : Try.prog.underlying T = some (.slice e)) (hs : Sized e size) (k : IntKind) (b off n cap i : Nat) (hi : i < n) (w' : World) :
    (Instr.indexAt T (.slice (some ⟨b, off, none⟩) n cap) (.int k (i : Int))).run Try.prog w' = .ok (.pointer (some ⟨b, off + i * size, none⟩)) w' := by
  have he : Try.prog.elem T = e := by simp [Program.elem, hT]
  rw [run_indexAt_slice (h := by rw [he]; exact hT), if_pos (by omega), he, hs w']
  simp [Result.andThen, addr_plain]
theorem sized54 : Sized 54 45 := fun w => by simp [go_sem]
theorem sized61 : Sized 61 1 := fun w => by simp [go_sem]
theorem sized27 : Sized 27 1 := fun w => by simp [go_sem]
theorem sized2 : Sized 2 1 := fun w => by simp [go_sem]

theorem cells_of_block {w : World} {b : Nat} {c : Array Value} {t : Nat} {fr : Nat × Nat} (h : w.heap[b]? = some (Obj.cells c t fr)) (o : Nat) : w.cell? ⟨b, o, none⟩ = c[o]? := by
  simp [World.cell?, h]
theorem free_of_block {w : World} {b : Nat} {c : Array Value} {t : Nat} (h : w.heap[b]? = some (Obj.cells c t (0, 0))) (o : Nat) : w.frozen? ⟨b, o, none⟩ = false := by
  simp [World.frozen?, h]
theorem heapSame {w : World} {K t o : Nat} {c : Array Value} (hc : w.heap[K]? = some (Obj.cells c t (0, 0))) (v : Value) : (w.setCell ⟨K, o, none⟩ v).heap[K]? = some (Obj.cells (c.setIfInBounds o v) t (0, 0)) := by
  simp [World.setCell, Array.getElem?_modify, hc]
theorem heapOther {w : World} {K b o : Nat} (v : Value) (h : b ≠ K) : (w.setCell ⟨K, o, none⟩ v).heap[b]? = w.heap[b]? := Below.heap_setCell _ _ _ _ h
theorem sizeSet (w : World) (a : Addr) (v : Value) : (w.setCell a v).heap.size = w.heap.size := by simp [World.setCell]
theorem below_drewN {B : Nat} {a w : World} (h : Below B a w) (n : Nat) : Below B a (w.drewN n) := ⟨h.os, h.tape, h.output, h.size, h.block⟩

def nSlabs (n : Nat) : Nat := (n + 63) / 64
def slabLen (n i : Nat) : Nat := min 64 (n - 64 * i)
def slabV (n G cap : Nat) : Value := if n = 0 then .slice none 0 0 else .slice (some ⟨G, 0, none⟩) (nSlabs n) cap

/-- The table Tb holds n entries: the slabs' row G, slab i in block S i; entry e's 'taken' is tk e. All from block B on. -/
structure PoolAt (B : Nat) (w : World) (Tb : Nat) (r2 r3 r4 : Value) (G cap : Nat) (S : Nat → Nat) (n : Nat) (tk : Nat → Int) : Prop where
  tb : B ≤ Tb
  tab : w.heap[Tb]? = some (Obj.cells #[slabV n G cap, .slice none 0 0, r2, r3, r4] 43 (0, 0))
  row : 0 < n → B ≤ G ∧ ∃ c, w.heap[G]? = some (Obj.cells c 61 (0, 0)) ∧ c.size = cap ∧ cap ≤ maxLen ∧ nSlabs n ≤ cap ∧ ∀ i, i < nSlabs n → c[i]? = some (.slice (some ⟨S i, 0, none⟩) (slabLen n i) 64)
  slab : ∀ i, i < nSlabs n → B ≤ S i ∧ ∃ c, w.heap[S i]? = some (Obj.cells c 54 (0, 0)) ∧ c.size = 2880 ∧ ∀ e, e < n → e / 64 = i → c[e % 64 * 45 + 43]? = some (.int .i64 (tk e))
  inj : ∀ i j, i < nSlabs n → j < nSlabs n → S i = S j → i = j
def Pool (B : Nat) (w : World) (Tb n : Nat) (tk : Nat → Int) : Prop := ∃ r2 r3 r4 G cap S, PoolAt B w Tb r2 r3 r4 G cap S n tk

/-- What a step on the pool leaves alone: all below B; every row of uint32 (the law's own 'idx'). -/
def Ext (B : Nat) (w w' : World) : Prop := Below B w w' ∧ ∀ (b : Nat) (c : Array Value) (t : Nat), t = 27 ∨ t = 30 → w.heap[b]? = some (Obj.cells c t (0, 0)) → w'.heap[b]? = some (Obj.cells c t (0, 0))

theorem Ext.refl (B : Nat) (w : World) : Ext B w w := ⟨Below.refl _ _, fun _ _ _ _ h => h⟩
theorem Ext.trans {B : Nat} {a b c : World} (h : Ext B a b) (k : Ext B b c) : Ext B a c := ⟨h.1.trans k.1, fun x y t ht e => k.2 x y t ht (h.2 x y t ht e)⟩
theorem Ext.drew {B : Nat} {a b : World} (h : Ext B a b) : Ext B a b.drew := ⟨h.1.drew, h.2⟩
theorem Ext.drewN {B : Nat} {a b : World} (h : Ext B a b) (n : Nat) : Ext B a (b.drewN n) := ⟨below_drewN h.1 n, h.2⟩
theorem Ext.alloc {B : Nat} {a b : World} (h : Ext B a b) (hB : B ≤ b.heap.size) (o : Obj) : Ext B a (b.alloc o) := by
  refine ⟨h.1.alloc hB o, fun x y t ht e => ?_⟩
  have := h.2 x y t ht e
  rw [Below.heap_alloc _ _ _ (Array.getElem?_eq_some_iff.1 this).1]
  exact this
theorem Ext.set {B : Nat} {a b : World} (h : Ext B a b) {K t o : Nat} {c : Array Value} (hK : B ≤ K) (hc : b.heap[K]? = some (Obj.cells c t (0, 0))) (ht : t ≠ 27 ∧ t ≠ 30) (v : Value) : Ext B a (b.setCell ⟨K, o, none⟩ v) := by
  refine ⟨h.1.setCell hK v, fun x y t' ht' e => ?_⟩
  have h2 := h.2 x y t' ht' e
  by_cases hx : x = K
  · subst hx
    rw [hc] at h2
    injection h2 with h2
    injection h2 with _ h2
    have h3 : (t : Nat) = t' := h2
    omega
  · rw [heapOther v hx]; exact h2

theorem PoolAt.lt {B : Nat} {w : World} {Tb : Nat} {r2 r3 r4 : Value} {G cap : Nat} {S : Nat → Nat} {n : Nat} {tk : Nat → Int} (h : PoolAt B w Tb r2 r3 r4 G cap S n tk) : Tb < w.heap.size := (Array.getElem?_eq_some_iff.1 h.tab).1

/-- The pool stays where its blocks stay. -/
theorem PoolAt.keep {B : Nat} {w w' : World} {Tb : Nat} {r2 r3 r4 : Value} {G cap : Nat} {S : Nat → Nat} {n : Nat} {tk : Nat → Int} (h : PoolAt B w Tb r2 r3 r4 G cap S n tk) (hk : ∀ b, b < w.heap.size → (∀ c, w.heap[b]? ≠ some (Obj.cells c 27 (0, 0))) → w'.heap[b]? = w.heap[b]?) : PoolAt B w' Tb r2 r3 r4 G cap S n tk := by
  have hk' : ∀ (b : Nat) (c : Array Value) (t : Nat), t ≠ 27 → w.heap[b]? = some (Obj.cells c t (0, 0)) → w'.heap[b]? = some (Obj.cells c t (0, 0)) := fun b c t ht e => by
    rw [hk b (Array.getElem?_eq_some_iff.1 e).1 (fun c' e' => by rw [e] at e'; injection e' with e'; injection e' with _ e'; exact ht e')]
    exact e
  refine ⟨h.tb, hk' _ _ _ (by decide) h.tab, fun hn => ?_, fun i hi => ?_, h.inj⟩
  · obtain ⟨h1, c, hc, r⟩ := h.row hn
    exact ⟨h1, c, hk' _ _ _ (by decide) hc, r⟩
  · obtain ⟨h1, c, hc, r⟩ := h.slab i hi
    exact ⟨h1, c, hk' _ _ _ (by decide) hc, r⟩

theorem Pool.keep {B : Nat} {w w' : World} {Tb n : Nat} {tk : Nat → Int} (h : Pool B w Tb n tk) (hk : ∀ b, b < w.heap.size → (∀ c, w.heap[b]? ≠ some (Obj.cells c 27 (0, 0))) → w'.heap[b]? = w.heap[b]?) : Pool B w' Tb n tk := by
  obtain ⟨r2, r3, r4, G, cap, S, h⟩ := h
  exact ⟨r2, r3, r4, G, cap, S, h.keep hk⟩
theorem Pool.drew {B : Nat} {w : World} {Tb n : Nat} {tk : Nat → Int} (h : Pool B w Tb n tk) : Pool B w.drew Tb n tk := h.keep (fun _ _ _ => rfl)
theorem Pool.drewN {B : Nat} {w : World} {Tb n : Nat} {tk : Nat → Int} (h : Pool B w Tb n tk) (m : Nat) : Pool B (w.drewN m) Tb n tk := h.keep (fun _ _ _ => rfl)
theorem Pool.alloc {B : Nat} {w : World} {Tb n : Nat} {tk : Nat → Int} (h : Pool B w Tb n tk) (o : Obj) : Pool B (w.alloc o) Tb n tk := h.keep (fun b hb _ => Below.heap_alloc _ _ _ hb)
/-- A store into a row of uint32. -/
theorem Pool.setIdx {B : Nat} {w : World} {Tb n : Nat} {tk : Nat → Int} (h : Pool B w Tb n tk) {K o : Nat} {c : Array Value} (hc : w.heap[K]? = some (Obj.cells c 27 (0, 0))) (v : Value) : Pool B (w.setCell ⟨K, o, none⟩ v) Tb n tk :=
  h.keep (fun b hb hn => heapOther v (fun e => hn c (by rw [e]; exact hc)))

/-- A store into a slab. -/
theorem PoolAt.set {B : Nat} {w : World} {Tb : Nat} {r2 r3 r4 : Value} {G cap : Nat} {S : Nat → Nat} {n : Nat} {tk : Nat → Int} (h : PoolAt B w Tb r2 r3 r4 G cap S n tk) (i : Nat) (hi : i < nSlabs n) (o : Nat) (ho : o < 2880) (v : Value) (tk' : Nat → Int)
    (h1 : ∀ e, e < n → e / 64 = i → e % 64 * 45 + 43 = o → v = .int .i64 (tk' e)) (h2 : ∀ e, e < n → ¬ (e / 64 = i ∧ e % 64 * 45 + 43 = o) → tk' e = tk e) :
    PoolAt B (w.setCell ⟨S i, o, none⟩ v) Tb r2 r3 r4 G cap S n tk' := by
  obtain ⟨hBi, ci, hci, hsz, htk⟩ := h.slab i hi
  have other : ∀ (b : Nat) (c : Array Value) (t : Nat), t ≠ 54 → w.heap[b]? = some (Obj.cells c t (0, 0)) → (w.setCell ⟨S i, o, none⟩ v).heap[b]? = some (Obj.cells c t (0, 0)) := fun b c t ht e => by
    rw [heapOther v (fun x => by rw [x, hci] at e; injection e with e; injection e with _ e; exact ht e.symm)]
    exact e
  refine ⟨h.tb, other _ _ _ (by decide) h.tab, fun hn => ?_, fun j hj => ?_, h.inj⟩
  · obtain ⟨x1, c, hc, r⟩ := h.row hn
    exact ⟨x1, c, other _ _ _ (by decide) hc, r⟩
  · by_cases e : j = i
    · subst e
      refine ⟨hBi, _, heapSame hci v, by simp [hsz], fun x hx hxi => ?_⟩
      by_cases eo : x % 64 * 45 + 43 = o
      · rw [eo, Array.getElem?_setIfInBounds, if_pos rfl, if_pos (by omega), h1 x hx hxi eo]
      · rw [Array.getElem?_setIfInBounds, if_neg (fun y => eo y.symm), h2 x hx (fun y => eo y.2)]
        exact htk x hx hxi
    · obtain ⟨hBj, cj, hcj, hsj, htj⟩ := h.slab j hj
      refine ⟨hBj, cj, ?_, hsj, fun x hx hxi => ?_⟩
      · rw [heapOther v (fun y => e (h.inj j i hj hi y))]; exact hcj
      · rw [h2 x hx (fun y => e (hxi.symm.trans y.1))]
        exact htj x hx hxi

theorem nSlabs_at {n e : Nat} (h : e < n) : e / 64 < nSlabs n := by unfold nSlabs; omega
theorem slabLen_at {n e : Nat} (h : e < n) : e % 64 < slabLen n (e / 64) := by unfold slabLen; omega
end Go.Proofs.Qxb6608542a
