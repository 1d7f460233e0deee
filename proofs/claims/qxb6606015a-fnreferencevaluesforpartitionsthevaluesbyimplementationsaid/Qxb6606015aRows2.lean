/-
  PLAIN PARTS: rows of structs that the call itself makes and fills, element by element.
-/
import Derived.Test.Qxb6606015aRv
namespace Go.Proofs.Qxb6606015a
open Go.RowKit
set_option linter.unusedVariables false
set_option linter.unusedSimpArgs false

/-- The blocks behind K that the world has. -/
def Bh (K : Nat) (w : World) : Nat → Prop := fun b => K < b ∧ b < w.heap.size

/-- Block K is a row of n elements of 'size' cells; of the first k elements 'el' says what their cells are. -/
def Row (K t size n k : Nat) (el : World → Nat → List Value → Prop) (wr : World) : Prop :=
  ∃ c, wr.heap[K]? = some (.cells c t (0, 0)) ∧ c.size = n * size ∧ ∀ j, j < k → ∃ cs, cs.length = size ∧ (∀ i, i < size → c[j * size + i]? = some (cs.getD i undef)) ∧ el wr j cs

/-- What is said of an element stays while the blocks behind K stay. -/
def Stable (K : Nat) (el : World → Nat → List Value → Prop) : Prop := ∀ w w' j cs, Keeps (Bh K w) w w' → w.heap.size ≤ w'.heap.size → el w j cs → el w' j cs

section
variable {K t size n k : Nat} {el : World → Nat → List Value → Prop} {wr w1 : World}

theorem Row.lt (h : Row K t size n k el wr) : K < wr.heap.size := by
  obtain ⟨c, hc, _⟩ := h
  exact (Array.getElem?_eq_some_iff.1 hc).1

theorem Row.keep (h : Row K t size n k el wr) (hs : Stable K el) (hk : wr.heap[K]? = w1.heap[K]?) (hb : Keeps (Bh K wr) wr w1) (hz : wr.heap.size ≤ w1.heap.size) : Row K t size n k el w1 := by
  obtain ⟨c, hc, hcs, hj⟩ := h
  refine ⟨c, hk ▸ hc, hcs, fun j hjk => ?_⟩
  obtain ⟨cs, h1, h2, h3⟩ := hj j hjk
  exact ⟨cs, h1, h2, hs _ _ _ _ hb hz h3⟩

theorem Row.below (h : Row K t size n k el wr) (hs : Stable K el) (hb : Below wr.heap.size wr w1) : Row K t size n k el w1 :=
  h.keep hs (hb.block K h.lt).symm (fun b hb' => hb.block b hb'.2) hb.size

theorem Row.drew (h : Row K t size n k el wr) (hs : Stable K el) : Row K t size n k el wr.drew :=
  h.keep hs rfl (fun _ _ => rfl) (Nat.le_refl _)

theorem Row.got (h : Row K t size n k el wr) {o : Nat} (ho : o < n * size) : wr.cell? ⟨K, o, none⟩ = some (got wr K o) := by
  obtain ⟨c, hc, hcs, hj⟩ := h
  have : wr.cell? ⟨K, o, none⟩ = some c[o] := by simp [World.cell?, hc, show o < c.size by omega]
  simp [Qxb6606015a.got, this]

theorem Row.free (h : Row K t size n k el wr) (o : Nat) : wr.frozen? ⟨K, o, none⟩ = false := by
  obtain ⟨c, hc, hcs, hj⟩ := h
  simp [World.frozen?, hc]

/-- Stores into element k: what stands at k, and what was said of the first k. -/
theorem Row.put (h : Row K t size n k el wr) (hs : Stable K el) (hsz : 0 < size) (hkn : k < n) {c' : Array Value} {cs : List Value} (hw : w1.heap[K]? = some (.cells c' t (0, 0)))
    (hc' : c'.size = n * size) (hcl : cs.length = size) (hold : ∀ c, wr.heap[K]? = some (.cells c t (0, 0)) → ∀ o, o < k * size → c'[o]? = c[o]?) (hnew : ∀ i, i < size → c'[k * size + i]? = some (cs.getD i undef))
    (hb : Keeps (Bh K wr) wr w1) (hz : wr.heap.size = w1.heap.size) (hel : el wr k cs) : Row K t size n (k + 1) el w1 ∧ Row K t size n k el w1 := by
  obtain ⟨c, hc, hcs, hj⟩ := h
  have hold' := hold c hc
  have step : ∀ j, j < k → ∃ cs, cs.length = size ∧ (∀ i, i < size → c'[j * size + i]? = some (cs.getD i undef)) ∧ el w1 j cs := by
    intro j hjk
    obtain ⟨cs, h1, h2, h3⟩ := hj j hjk
    refine ⟨cs, h1, fun i hi => ?_, hs _ _ _ _ hb (by omega) h3⟩
    rw [hold' _ (by
      have : (j + 1) * size ≤ k * size := Nat.mul_le_mul_right _ hjk
      rw [Nat.add_mul] at this
      omega)]
    exact h2 i hi
  refine ⟨⟨c', hw, hc', fun j hjk => ?_⟩, ⟨c', hw, hc', step⟩⟩
  by_cases e : j = k
  · subst e
    exact ⟨cs, hcl, hnew, hs _ _ _ _ hb (by omega) hel⟩
  · exact step j (by omega)
end

theorem heap3 {w : World} {K t o : Nat} {c : Array Value} (hc : w.heap[K]? = some (.cells c t (0, 0))) (x0 x1 x2 : Value) :
    (((w.setCell ⟨K, o, none⟩ x0).setCell ⟨K, o + 1, none⟩ x1).setCell ⟨K, o + 2, none⟩ x2).heap[K]? = some (.cells (((c.setIfInBounds o x0).setIfInBounds (o + 1) x1).setIfInBounds (o + 2) x2) t (0, 0)) := by
  simp [World.setCell, Array.getElem?_modify, hc]
theorem heap5 {w : World} {K t o : Nat} {c : Array Value} (hc : w.heap[K]? = some (.cells c t (0, 0))) (x0 x1 x2 x3 x4 : Value) :
    (((((w.setCell ⟨K, o, none⟩ x0).setCell ⟨K, o + 1, none⟩ x1).setCell ⟨K, o + 2, none⟩ x2).setCell ⟨K, o + 3, none⟩ x3).setCell ⟨K, o + 4, none⟩ x4).heap[K]? = some (.cells (((((c.setIfInBounds o x0).setIfInBounds (o + 1) x1).setIfInBounds (o + 2) x2).setIfInBounds (o + 3) x3).setIfInBounds (o + 4) x4) t (0, 0)) := by
  simp [World.setCell, Array.getElem?_modify, hc]
theorem heapOther {w : World} {K b o : Nat} (v : Value) (h : b ≠ K) : (w.setCell ⟨K, o, none⟩ v).heap[b]? = w.heap[b]? := Below.heap_setCell _ _ _ _ h
theorem sizeSet (w : World) (a : Addr) (v : Value) : (w.setCell a v).heap.size = w.heap.size := by simp [World.setCell]

section
variable {K t n k : Nat} {el : World → Nat → List Value → Prop} {wr : World}
theorem Row.put3 (h : Row K t 3 n k el wr) (hs : Stable K el) (hkn : k < n) (x0 x1 x2 : Value) (hel : el wr k [x0, x1, x2]) :
    Row K t 3 n (k + 1) el (((wr.setCell ⟨K, k * 3, none⟩ x0).setCell ⟨K, k * 3 + 1, none⟩ x1).setCell ⟨K, k * 3 + 2, none⟩ x2) ∧ Row K t 3 n k el (((wr.setCell ⟨K, k * 3, none⟩ x0).setCell ⟨K, k * 3 + 1, none⟩ x1).setCell ⟨K, k * 3 + 2, none⟩ x2) := by
  have h' := h
  obtain ⟨c, hc, hcs, _⟩ := h
  refine Row.put h' hs (by omega) hkn (heap3 hc x0 x1 x2) (by simp [hcs]) rfl ?_ ?_ ?_ (by simp [sizeSet]) hel
  · intro c2 hc2 o ho
    have ec : c = c2 := by
      clear h'
      have := hc.symm.trans hc2
      simpa using this
    clear hc2 h'
    subst ec
    simp [Array.getElem?_setIfInBounds, show k * 3 + 2 ≠ o by omega, show k * 3 + 1 ≠ o by omega, show k * 3 ≠ o by omega]
  · intro i hi
    have hlt : k * 3 + 2 < c.size := by omega
    have : i = 0 ∨ i = 1 ∨ i = 2 := by omega
    rcases this with rfl | rfl | rfl
    · simp [Array.getElem?_setIfInBounds, show k * 3 < c.size by omega]
    · simp [Array.getElem?_setIfInBounds, show k * 3 + 1 < c.size by omega]
    · simp [Array.getElem?_setIfInBounds, show k * 3 + 2 < c.size by omega]
  · intro b hb
    have hne : b ≠ K := by have := hb.1; omega
    rw [heapOther _ hne, heapOther _ hne, heapOther _ hne]
set_option maxHeartbeats 1000000 in
theorem Row.put5 (h : Row K t 5 n k el wr) (hs : Stable K el) (hkn : k < n) (x0 x1 x2 x3 x4 : Value) (hel : el wr k [x0, x1, x2, x3, x4]) :
    Row K t 5 n (k + 1) el (((((wr.setCell ⟨K, k * 5, none⟩ x0).setCell ⟨K, k * 5 + 1, none⟩ x1).setCell ⟨K, k * 5 + 2, none⟩ x2).setCell ⟨K, k * 5 + 3, none⟩ x3).setCell ⟨K, k * 5 + 4, none⟩ x4) ∧ Row K t 5 n k el (((((wr.setCell ⟨K, k * 5, none⟩ x0).setCell ⟨K, k * 5 + 1, none⟩ x1).setCell ⟨K, k * 5 + 2, none⟩ x2).setCell ⟨K, k * 5 + 3, none⟩ x3).setCell ⟨K, k * 5 + 4, none⟩ x4) := by
  have h' := h
  obtain ⟨c, hc, hcs, _⟩ := h
  refine Row.put h' hs (by omega) hkn (heap5 hc x0 x1 x2 x3 x4) (by simp [hcs]) rfl ?_ ?_ ?_ (by simp [sizeSet]) hel
  · intro c2 hc2 o ho
    have ec : c = c2 := by
      clear h'
      have := hc.symm.trans hc2
      simpa using this
    clear hc2 h'
    subst ec
    simp [Array.getElem?_setIfInBounds, show k * 5 + 4 ≠ o by omega, show k * 5 + 3 ≠ o by omega, show k * 5 + 2 ≠ o by omega, show k * 5 + 1 ≠ o by omega, show k * 5 ≠ o by omega]
  · intro i hi
    have hlt : k * 5 + 4 < c.size := by omega
    have : i = 0 ∨ i = 1 ∨ i = 2 ∨ i = 3 ∨ i = 4 := by omega
    rcases this with rfl | rfl | rfl | rfl | rfl
    · simp [Array.getElem?_setIfInBounds, show k * 5 < c.size by omega]
    · simp [Array.getElem?_setIfInBounds, show k * 5 + 1 < c.size by omega]
    · simp [Array.getElem?_setIfInBounds, show k * 5 + 2 < c.size by omega]
    · simp [Array.getElem?_setIfInBounds, show k * 5 + 3 < c.size by omega]
    · simp [Array.getElem?_setIfInBounds, show k * 5 + 4 < c.size by omega]
  · intro b hb
    have hne : b ≠ K := by have := hb.1; omega
    rw [heapOther _ hne, heapOther _ hne, heapOther _ hne, heapOther _ hne, heapOther _ hne]
end

/-- The row, filled, as a slice. -/
theorem Row.done {K t size n bytes : Nat} {el : World → Nat → List Value → Prop} {wr : World} (h : Row K t size n n el wr) (hl : n * bytes ≤ 140737488355328) {p : Nat → Prop} (hp : p K) {el' : Nat → List Value → Prop} (hel : ∀ j cs, j < n → el wr j cs → el' j cs) :
    Sl p wr size bytes (.slice (some ⟨K, 0, none⟩) n n) n el' := by
  obtain ⟨c, hc, hcs, hj⟩ := h
  refine ⟨_, _, rfl, (fun e => by cases e), Nat.le_refl _, hl, fun i hi => ?_⟩
  obtain ⟨cs, h1, h2, h3⟩ := hj i hi
  refine ⟨K, 0, cs, rfl, hp, h1, fun j hj1 => ?_, hel i cs hi h3⟩
  rw [Nat.zero_add, cells_of_block hc]
  exact h2 j hj1

theorem row_made (w : World) (z : Array Value) (t size n : Nat) (el : World → Nat → List Value → Prop) : Row w.heap.size t size n 0 el (w.alloc (.cells (madeCells z (n * size)) t)) :=
  ⟨madeCells z (n * size), by show (w.heap.push _)[w.heap.size]? = _; simp, size_madeCells _ _, fun j hj => by omega⟩

/-! ### the three kinds of rows -/
def kEl (K : Nat) (ks : List KeyD) (w : World) (j : Nat) (cs : List Value) : Prop :=
  ∃ c0 c1, cs = [c0, c1, .iface 3 (.int .i64 (ks.getD j ⟨[], [], 0⟩).tag)] ∧ Ns (Bh K w) .u8 w c0 (ks.getD j ⟨[], [], 0⟩).impl ∧ Ns (Bh K w) .u8 w c1 (ks.getD j ⟨[], [], 0⟩).inst
def rEl (K : Nat) (rs : List RvD) (w : World) (j : Nat) (cs : List Value) : Prop := RvAt (Bh K w) w (rs.getD j ⟨[], ⟨none, none, []⟩, []⟩) cs
def cEl (w : World) (j : Nat) (cs : List Value) : Prop := True

theorem kStable (K : Nat) (ks : List KeyD) : Stable K (kEl K ks) := fun w w' j cs hk hz ⟨c0, c1, e, h0, h1⟩ =>
  ⟨c0, c1, e, (h0.keep hk).mono (fun b hb => ⟨hb.1, Nat.lt_of_lt_of_le hb.2 hz⟩), (h1.keep hk).mono (fun b hb => ⟨hb.1, Nat.lt_of_lt_of_le hb.2 hz⟩)⟩
theorem rStable (K : Nat) (rs : List RvD) : Stable K (rEl K rs) := fun w w' j cs hk hz h =>
  (RvAt.keep h hk).mono (fun b hb => ⟨hb.1, Nat.lt_of_lt_of_le hb.2 hz⟩)
theorem cStable (K : Nat) : Stable K cEl := fun _ _ _ _ _ _ _ => trivial

/-- The keys as the call has laid them: the tag behind an interface. -/
def KeysOwn (p : Nat → Prop) (w : World) (v : Value) (ks : List KeyD) : Prop :=
  Sl p w 3 56 v ks.length (fun i cs => ∃ c0 c1, cs = [c0, c1, .iface 3 (.int .i64 (ks.getD i ⟨[], [], 0⟩).tag)] ∧ Ns p .u8 w c0 (ks.getD i ⟨[], [], 0⟩).impl ∧ Ns p .u8 w c1 (ks.getD i ⟨[], [], 0⟩).inst)
theorem KeysOwn.keep {p : Nat → Prop} {w w' : World} {v : Value} {ks : List KeyD} (h : KeysOwn p w v ks) (hk : Keeps p w w') : KeysOwn p w' v ks :=
  Sl.keep h hk fun _ _ _ ⟨c0, c1, e, h0, h1⟩ => ⟨c0, c1, e, h0.keep hk, h1.keep hk⟩
theorem KeysOwn.mono {p q : Nat → Prop} {w : World} {v : Value} {ks : List KeyD} (h : KeysOwn p w v ks) (hk : ∀ b, p b → q b) : KeysOwn q w v ks :=
  Sl.mono h hk fun _ _ _ ⟨c0, c1, e, h0, h1⟩ => ⟨c0, c1, e, h0.mono hk, h1.mono hk⟩

theorem info68 : (Try.prog.info? 68).map (fun i => (i.zero, i.size, i.bytes)) = some (some (.agg #[.slice none 0 0, .slice none 0 0, .nilIface]), 3, 64) := by kernel_rfl
theorem info58 : (Try.prog.info? 58).map (fun i => (i.zero, i.size, i.bytes)) = some (some (.agg #[.slice none 0 0, .pointer none, .pointer none, .slice none 0 0, .slice none 0 0]), 5, 88) := by kernel_rfl
theorem info72 : (Try.prog.info? 72).map (fun i => (i.zero, i.size, i.bytes)) = some (some (.agg #[.slice none 0 0, .slice none 0 0, .string ⟨#[]⟩]), 3, 64) := by kernel_rfl
end Go.Proofs.Qxb6606015a
