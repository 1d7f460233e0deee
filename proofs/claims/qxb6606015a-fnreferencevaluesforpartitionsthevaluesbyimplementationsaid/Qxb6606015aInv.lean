/-
  PLAIN PARTS: what holds while 'toEndorsements' fills one of its three rows.
-/
import Derived.Test.Qxb6606015aRows2
namespace Go.Proofs.Qxb6606015a
open Go.RowKit
set_option linter.unusedVariables false
set_option linter.unusedSimpArgs false

theorem Row.weaken {K t size n k : Nat} {el el' : World → Nat → List Value → Prop} {wr : World} (h : Row K t size n k el wr) (he : ∀ j cs, j < k → el wr j cs → el' wr j cs) : Row K t size n k el' wr := by
  obtain ⟨c, hc, hcs, hj⟩ := h
  refine ⟨c, hc, hcs, fun j hjk => ?_⟩
  obtain ⟨cs, h1, h2, h3⟩ := hj j hjk
  exact ⟨cs, h1, h2, he j cs hjk h3⟩

theorem Row.poke3 {K t n k : Nat} {el : World → Nat → List Value → Prop} {wr : World} (h : Row K t 3 n k el wr) (hs : Stable K el) (hkn : k < n) (x0 x1 x2 : Value) :
    Row K t 3 n k el (((wr.setCell ⟨K, k * 3, none⟩ x0).setCell ⟨K, k * 3 + 1, none⟩ x1).setCell ⟨K, k * 3 + 2, none⟩ x2) :=
  (Row.put3 (el := fun w j cs => j = k ∨ el w j cs) (h.weaken fun j cs _ he => .inr he) (fun w w' j cs hk hz he => he.elim .inl (fun h => .inr (hs _ _ _ _ hk hz h))) hkn x0 x1 x2 (.inl rfl)).2.weaken
    fun j cs hj he => he.elim (fun e => by omega) id
theorem Row.poke5 {K t n k : Nat} {el : World → Nat → List Value → Prop} {wr : World} (h : Row K t 5 n k el wr) (hs : Stable K el) (hkn : k < n) (x0 x1 x2 x3 x4 : Value) :
    Row K t 5 n k el (((((wr.setCell ⟨K, k * 5, none⟩ x0).setCell ⟨K, k * 5 + 1, none⟩ x1).setCell ⟨K, k * 5 + 2, none⟩ x2).setCell ⟨K, k * 5 + 3, none⟩ x3).setCell ⟨K, k * 5 + 4, none⟩ x4) :=
  (Row.put5 (el := fun w j cs => j = k ∨ el w j cs) (h.weaken fun j cs _ he => .inr he) (fun w w' j cs hk hz he => he.elim .inl (fun h => .inr (hs _ _ _ _ hk hz h))) hkn x0 x1 x2 x3 x4 (.inl rfl)).2.weaken
    fun j cs hj he => he.elim (fun e => by omega) id

/-- In wr: the struct E holds 'ec'; the row K is filled as far as k; below E all is as in w; between E and K all is as in wp. -/
structure PInv (E : Nat) (ec : Array Value) (w wp : World) (K t size n k : Nat) (el : World → Nat → List Value → Prop) (wr : World) : Prop where
  e : wr.heap[E]? = some (.cells ec 42 (0, 0))
  row : Row K t size n k el wr
  below : Below E w wr
  lt : E < K
  mid : ∀ b, E < b → b < K → wr.heap[b]? = wp.heap[b]?

section
variable {E : Nat} {ec : Array Value} {w wp : World} {K t size n k : Nat} {el : World → Nat → List Value → Prop} {wr w1 : World}

theorem PInv.step (h : PInv E ec w wp K t size n k el wr) (hs : Stable K el) (hb : Below wr.heap.size wr w1) : PInv E ec w wp K t size n k el w1 := by
  have hlt := h.row.lt
  have hEK := h.lt
  exact ⟨(hb.block E (by omega)).trans h.e, h.row.below hs hb, h.below.trans (hb.mono (by omega)), h.lt, fun b h1 h2 => (hb.block b (by omega)).trans (h.mid b h1 h2)⟩

theorem PInv.drew (h : PInv E ec w wp K t size n k el wr) (hs : Stable K el) : PInv E ec w wp K t size n k el wr.drew :=
  h.step hs ((Below.refl _ _).drew)

theorem PInv.cellE (h : PInv E ec w wp K t size n k el wr) (o : Nat) : wr.cell? ⟨E, o, none⟩ = ec[o]? := cells_of_block h.e o
theorem PInv.got (h : PInv E ec w wp K t size n k el wr) {o : Nat} (ho : o < n * size) : wr.cell? ⟨K, o, none⟩ = some (got wr K o) := h.row.got ho
theorem PInv.free (h : PInv E ec w wp K t size n k el wr) (o : Nat) : wr.frozen? ⟨K, o, none⟩ = false := h.row.free o
theorem PInv.old (h : PInv E ec w wp K t size n k el wr) {b o : Nat} (hb : b < E) : wr.cell? ⟨b, o, none⟩ = w.cell? ⟨b, o, none⟩ := h.below.cell hb
theorem PInv.keeps (h : PInv E ec w wp K t size n k el wr) {p : Nat → Prop} (hp : ∀ b, p b → b < E) : Keeps p w wr := fun b hb => h.below.block b (hp b hb)

theorem PInv.other (h : PInv E ec w wp K t size n k el wr) {k' : Nat} (hr : Row K t size n k' el w1) (hb : ∀ b, b ≠ K → w1.heap[b]? = wr.heap[b]?) (hb2 : Below K wr w1) : PInv E ec w wp K t size n k' el w1 := by
  have hEK := h.lt
  exact ⟨(hb E (by omega)).trans h.e, hr, h.below.trans (hb2.mono (by omega)), h.lt, fun b h1 h2 => (hb b (by omega)).trans (h.mid b h1 h2)⟩
end

theorem below3 (K o : Nat) (w : World) (x0 x1 x2 : Value) : Below K w (((w.setCell ⟨K, o, none⟩ x0).setCell ⟨K, o + 1, none⟩ x1).setCell ⟨K, o + 2, none⟩ x2) :=
  (((Below.refl K w).setCell (p := ⟨K, o, none⟩) (Nat.le_refl K) x0).setCell (p := ⟨K, o + 1, none⟩) (Nat.le_refl K) x1).setCell (p := ⟨K, o + 2, none⟩) (Nat.le_refl K) x2
theorem below5 (K o : Nat) (w : World) (x0 x1 x2 x3 x4 : Value) : Below K w (((((w.setCell ⟨K, o, none⟩ x0).setCell ⟨K, o + 1, none⟩ x1).setCell ⟨K, o + 2, none⟩ x2).setCell ⟨K, o + 3, none⟩ x3).setCell ⟨K, o + 4, none⟩ x4) :=
  (((((Below.refl K w).setCell (p := ⟨K, o, none⟩) (Nat.le_refl K) x0).setCell (p := ⟨K, o + 1, none⟩) (Nat.le_refl K) x1).setCell (p := ⟨K, o + 2, none⟩) (Nat.le_refl K) x2).setCell (p := ⟨K, o + 3, none⟩) (Nat.le_refl K) x3).setCell (p := ⟨K, o + 4, none⟩) (Nat.le_refl K) x4

section
variable {E : Nat} {ec : Array Value} {w wp : World} {K t n k : Nat} {el : World → Nat → List Value → Prop} {wr : World}
theorem PInv.poke3 (h : PInv E ec w wp K t 3 n k el wr) (hs : Stable K el) (hkn : k < n) (x0 x1 x2 : Value) :
    PInv E ec w wp K t 3 n k el (((wr.setCell ⟨K, k * 3, none⟩ x0).setCell ⟨K, k * 3 + 1, none⟩ x1).setCell ⟨K, k * 3 + 2, none⟩ x2) :=
  h.other (h.row.poke3 hs hkn x0 x1 x2) (fun b hne => by rw [heapOther _ hne, heapOther _ hne, heapOther _ hne]) (below3 K _ wr x0 x1 x2)
theorem PInv.put3 (h : PInv E ec w wp K t 3 n k el wr) (hs : Stable K el) (hkn : k < n) (x0 x1 x2 : Value) (hel : el wr k [x0, x1, x2]) :
    PInv E ec w wp K t 3 n (k + 1) el (((wr.setCell ⟨K, k * 3, none⟩ x0).setCell ⟨K, k * 3 + 1, none⟩ x1).setCell ⟨K, k * 3 + 2, none⟩ x2) :=
  h.other (h.row.put3 hs hkn x0 x1 x2 hel).1 (fun b hne => by rw [heapOther _ hne, heapOther _ hne, heapOther _ hne]) (below3 K _ wr x0 x1 x2)
theorem PInv.poke5 (h : PInv E ec w wp K t 5 n k el wr) (hs : Stable K el) (hkn : k < n) (x0 x1 x2 x3 x4 : Value) :
    PInv E ec w wp K t 5 n k el (((((wr.setCell ⟨K, k * 5, none⟩ x0).setCell ⟨K, k * 5 + 1, none⟩ x1).setCell ⟨K, k * 5 + 2, none⟩ x2).setCell ⟨K, k * 5 + 3, none⟩ x3).setCell ⟨K, k * 5 + 4, none⟩ x4) :=
  h.other (h.row.poke5 hs hkn x0 x1 x2 x3 x4) (fun b hne => by rw [heapOther _ hne, heapOther _ hne, heapOther _ hne, heapOther _ hne, heapOther _ hne]) (below5 K _ wr x0 x1 x2 x3 x4)
theorem PInv.put5 (h : PInv E ec w wp K t 5 n k el wr) (hs : Stable K el) (hkn : k < n) (x0 x1 x2 x3 x4 : Value) (hel : el wr k [x0, x1, x2, x3, x4]) :
    PInv E ec w wp K t 5 n (k + 1) el (((((wr.setCell ⟨K, k * 5, none⟩ x0).setCell ⟨K, k * 5 + 1, none⟩ x1).setCell ⟨K, k * 5 + 2, none⟩ x2).setCell ⟨K, k * 5 + 3, none⟩ x3).setCell ⟨K, k * 5 + 4, none⟩ x4) :=
  h.other (h.row.put5 hs hkn x0 x1 x2 x3 x4 hel).1 (fun b hne => by rw [heapOther _ hne, heapOther _ hne, heapOther _ hne, heapOther _ hne, heapOther _ hne]) (below5 K _ wr x0 x1 x2 x3 x4)
end

/-- The start of a phase: a new row, its slice stored into field f of the struct E. -/
theorem pinv_start {E : Nat} {ec : Array Value} {w wp : World} (he : wp.heap[E]? = some (.cells ec 42 (0, 0))) (hb : Below E w wp) (z : Array Value) (t size n f : Nat) (el : World → Nat → List Value → Prop) (v : Value) :
    PInv E (ec.setIfInBounds f v) w wp wp.heap.size t size n 0 el ((wp.setCell ⟨E, f, none⟩ v).alloc (.cells (madeCells z (n * size)) t)) := by
  have hE : E < wp.heap.size := (Array.getElem?_eq_some_iff.1 he).1
  have hz := sizeSet wp ⟨E, f, none⟩ v
  have hEs : (wp.setCell ⟨E, f, none⟩ v).heap[E]? = some (.cells (ec.setIfInBounds f v) 42 (0, 0)) := by
    simp [World.setCell, Array.getElem?_modify, he]
  have hO : ∀ b, b ≠ E → (wp.setCell ⟨E, f, none⟩ v).heap[b]? = wp.heap[b]? := fun b hb => heapOther v hb
  have hBs : Below E w (wp.setCell ⟨E, f, none⟩ v) := hb.setCell (Nat.le_refl E) v
  generalize wp.setCell ⟨E, f, none⟩ v = W at hz hEs hO hBs ⊢
  have hR := row_made W z t size n el
  rw [hz] at hR
  have hal : ∀ b, b < W.heap.size → (W.alloc (.cells (madeCells z (n * size)) t)).heap[b]? = W.heap[b]? := fun b hb => Below.heap_alloc _ _ _ hb
  exact ⟨(hal E (by omega)).trans hEs, hR, hBs.alloc (by omega) _, hE, fun b h1 h2 => (hal b (by omega)).trans (hO b (by omega))⟩
end Go.Proofs.Qxb6606015a
