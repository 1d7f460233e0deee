/-
  PLAIN PARTS: pool.add's second append: a new entry into the last slab.
-/
import Derived.Test.Qxb6608542aGrow
namespace Go.Proofs.Qxb6608542a
open Go.RowKit
set_option linter.unusedVariables false
set_option linter.unusedSimpArgs false

theorem setCells_heap (b t : Nat) : ∀ (vs : List Value) (o : Nat) (w : World) (c : Array Value), w.heap[b]? = some (Obj.cells c t (0, 0)) → o + vs.length ≤ c.size →
    ∃ c', (w.setCells b o vs).heap[b]? = some (Obj.cells c' t (0, 0)) ∧ c'.size = c.size ∧ ∀ k, c'[k]? = if o ≤ k ∧ k < o + vs.length then vs[k - o]? else c[k]?
  | [], o, w, c, h, _ => ⟨c, h, rfl, fun k => by rw [if_neg (by simp only [List.length_nil]; omega)]⟩
  | v :: r, o, w, c, h, hl => by
    have hl' : o + 1 + r.length ≤ (c.setIfInBounds o v).size := by simp at hl ⊢; omega
    obtain ⟨c', h1, h2, h3⟩ := setCells_heap b t r (o + 1) (w.setCell ⟨b, o, none⟩ v) (c.setIfInBounds o v) (heapSame h v) hl'
    refine ⟨c', h1, by simpa using h2, fun k => ?_⟩
    rw [h3 k]
    simp only [List.length_cons] at hl ⊢
    by_cases e : k = o
    · subst e
      rw [if_neg (by omega), if_pos (by omega)]
      simp [Array.getElem?_setIfInBounds, show k < c.size by omega]
    · by_cases e2 : o + 1 ≤ k ∧ k < o + 1 + r.length
      · rw [if_pos e2, if_pos (by omega), show k - o = (k - (o + 1)) + 1 by omega]
        rfl
      · rw [if_neg e2, if_neg (by omega), Array.getElem?_setIfInBounds, if_neg (fun x => e x.symm)]
theorem setCells_other (b : Nat) : ∀ (vs : List Value) (o : Nat) (w : World) (x : Nat), x ≠ b → (w.setCells b o vs).heap[x]? = w.heap[x]?
  | [], _, _, _, _ => rfl
  | v :: r, o, w, x, h => (setCells_other b r (o + 1) _ x h).trans (heapOther v h)
theorem setCells_below {B b : Nat} (hB : B ≤ b) : ∀ (vs : List Value) (o : Nat) (a w : World), Below B a w → Below B a (w.setCells b o vs)
  | [], _, _, _, h => h
  | v :: r, o, a, w, h => setCells_below hB r (o + 1) a _ (h.setCell (p := ⟨b, o, none⟩) hB v)

theorem entry_run {B : Nat} {w : World} {Tb : Nat} {r2 r3 r4 : Value} {G cap : Nat} {S : Nat → Nat} {n : Nat} {tk : Nat → Int} (h : PoolM B w Tb r2 r3 r4 G cap S n (n / 64 + 1) tk) (hB : B ≤ w.heap.size) :
    ∃ W3, (Builtin.append_ #[61, 61] 61 #[.slice (some ⟨S (n / 64), 0, none⟩) (n % 64) 64, .slice (some ⟨w.heap.size + 1, 0, none⟩) 1 1]).run Try.prog ((w.alloc (.cells zEnt 54)).alloc (.cells zEnt 54)).drew = .ok (.slice (some ⟨S (n / 64), 0, none⟩) (n % 64 + 1) 64) W3 ∧
      W3.cell? ⟨Tb, 0, none⟩ = some (.slice (some ⟨G, 0, none⟩) (n / 64 + 1) cap) ∧ (W3.cell? ⟨G, n / 64, none⟩ = some (.slice (some ⟨S (n / 64), 0, none⟩) (n % 64) 64) ∧ ∀ j v, zEnt.toList[j]? = some v → W3.cell? ⟨w.heap.size, 0 + j, none⟩ = some v) ∧ W3.frozen? ⟨G, n / 64, none⟩ = false ∧
      Pool B (W3.setCell ⟨G, n / 64, none⟩ (.slice (some ⟨S (n / 64), 0, none⟩) (n % 64 + 1) 64)) Tb (n + 1) (fun x => if x = n then 0 else tk x) ∧
      (W3.setCell ⟨G, n / 64, none⟩ (.slice (some ⟨S (n / 64), 0, none⟩) (n % 64 + 1) 64)).cell? ⟨G, n / 64, none⟩ = some (.slice (some ⟨S (n / 64), 0, none⟩) (n % 64 + 1) 64) ∧
      (W3.setCell ⟨G, n / 64, none⟩ (.slice (some ⟨S (n / 64), 0, none⟩) (n % 64 + 1) 64)).cell? ⟨Tb, 0, none⟩ = some (.slice (some ⟨G, 0, none⟩) (n / 64 + 1) cap) ∧
      Ext B w (W3.setCell ⟨G, n / 64, none⟩ (.slice (some ⟨S (n / 64), 0, none⟩) (n % 64 + 1) 64)) := by
  have em : nSlabs (n + 1) = n / 64 + 1 := by unfold nSlabs; omega
  obtain ⟨q0, q1, q2, q3⟩ := heap_two w (.cells zEnt 54) (.cells zEnt 54)
  obtain ⟨W2, hW2⟩ : ∃ W2, W2 = ((w.alloc (.cells zEnt 54)).alloc (.cells zEnt 54)).drew := ⟨_, rfl⟩
  have q1' : W2.heap[w.heap.size + 1]? = some (.cells zEnt 54) := by rw [hW2]; exact q1
  have q0' : W2.heap[w.heap.size]? = some (.cells zEnt 54) := by rw [hW2]; exact q0
  have q2' : ∀ b, b < w.heap.size → W2.heap[b]? = w.heap[b]? := fun b hb => by rw [hW2]; exact q2 b hb
  have hE2 : Ext B w W2 := by rw [hW2]; exact (((Ext.refl B w).alloc hB _).alloc (by simp; omega) _).drew
  rw [← hW2]
  clear hW2 q0 q1 q2 q3
  obtain ⟨hBs, cs, hcs, hss, htk⟩ := h.slab (n / 64) (by omega)
  have hs2 : W2.heap[S (n / 64)]? = some (Obj.cells cs 54 (0, 0)) := (q2' _ (Array.getElem?_eq_some_iff.1 hcs).1).trans hcs
  obtain ⟨i, hi, hzz⟩ := Option.map_eq_some_iff.1 info54
  simp only [Prod.mk.injEq] at hzz
  have hisz : i.size = 45 := hzz.2.1
  have hzl : zEnt.toList.length = 45 := rfl
  have hrun := run_append_room_cells (P := Try.prog) W2 61 61 54 i Try.underlying61 hi (S (n / 64)) 0 (n % 64) 64 ⟨w.heap.size + 1, 0, none⟩ 1 1 zEnt.toList (by rw [hisz, hzl]) (fun j u hj => by
      rw [addr_plain, cells_of_block q1', Nat.zero_add, ← Array.getElem?_toList]; exact hj) zEnt_one (by omega)
    (fun j hj => by rw [cells_of_block hs2, hisz]; simp; omega) (fun j hj => free_of_block hs2 _)
  rw [hisz, Nat.zero_add] at hrun
  obtain ⟨c', hc', hsz', hval⟩ := setCells_heap (S (n / 64)) 54 zEnt.toList (n % 64 * 45) W2 cs hs2 (by rw [hzl]; omega)
  have hoth : ∀ (b : Nat) (c : Array Value) (t : Nat), t ≠ 54 → w.heap[b]? = some (Obj.cells c t (0, 0)) → (W2.setCells (S (n / 64)) (n % 64 * 45) zEnt.toList).heap[b]? = some (Obj.cells c t (0, 0)) := fun b c t ht e => by
    rw [setCells_other _ _ _ _ _ (fun x => by rw [x, hcs] at e; injection e with e; injection e with _ e; exact ht e.symm), q2' _ (Array.getElem?_eq_some_iff.1 e).1]
    exact e
  have hb3 : Below B w (W2.setCells (S (n / 64)) (n % 64 * 45) zEnt.toList) := setCells_below hBs _ _ _ _ hE2.1
  have hslab : ∀ j, j < n / 64 + 1 → ∃ c, (W2.setCells (S (n / 64)) (n % 64 * 45) zEnt.toList).heap[S j]? = some (Obj.cells c 54 (0, 0)) ∧ c.size = 2880 ∧ ∀ e, e < n + 1 → e / 64 = j → c[e % 64 * 45 + 43]? = some (.int .i64 (if e = n then 0 else tk e)) := by
    intro j hj
    by_cases e : j = n / 64
    · subst e
      refine ⟨c', hc', hsz'.trans hss, fun x hx hxi => ?_⟩
      rw [hval, hzl]
      by_cases ex : x = n
      · subst ex
        rw [if_pos (by omega), if_pos rfl, show x % 64 * 45 + 43 - x % 64 * 45 = 43 by omega]
        exact zEnt_taken
      · rw [if_neg (by omega), if_neg ex]
        exact htk x (by omega) hxi
    · obtain ⟨_, c, hc, hsz, hx⟩ := h.slab j hj
      refine ⟨c, ?_, hsz, fun x hxn hxi => ?_⟩
      · rw [setCells_other _ _ _ _ _ (fun y => e (h.inj j _ hj (by omega) y)), q2' _ (Array.getElem?_eq_some_iff.1 hc).1]; exact hc
      · rw [if_neg (by intro y; subst y; exact e hxi.symm)]
        exact hx x (by omega) hxi
  have hq0 : (W2.setCells (S (n / 64)) (n % 64 * 45) zEnt.toList).heap[w.heap.size]? = some (.cells zEnt 54) := by
    rw [setCells_other _ _ _ _ _ (fun x => by have := (Array.getElem?_eq_some_iff.1 hcs).1; omega)]; exact q0'
  generalize hW3 : W2.setCells (S (n / 64)) (n % 64 * 45) zEnt.toList = W3 at hrun hoth hb3 hslab hq0
  clear hval hc' hsz' hW3
  obtain ⟨hBG, cg, hcg, hgs, hmx, hle, hgi⟩ := h.row
  have hT3 := hoth _ _ 43 (by decide) h.tab
  have hG3 := hoth _ _ 61 (by decide) hcg
  have hT4 : (W3.setCell ⟨G, n / 64, none⟩ (.slice (some ⟨S (n / 64), 0, none⟩) (n % 64 + 1) 64)).heap[Tb]? = some (Obj.cells #[.slice (some ⟨G, 0, none⟩) (n / 64 + 1) cap, .slice none 0 0, r2, r3, r4] 43 (0, 0)) := by
    rw [heapOther _ (fun x => by rw [x, hG3] at hT3; injection hT3 with hT3; injection hT3 with _ hT3; cases hT3)]
    exact hT3
  have hG4 := heapSame (o := n / 64) hG3 (.slice (some ⟨S (n / 64), 0, none⟩) (n % 64 + 1) 64)
  refine ⟨W3, hrun, by rw [cells_of_block hT3]; rfl, ⟨by rw [cells_of_block hG3, hgi _ (by omega)]; simp [slabLen]; omega, fun j v hj => by rw [cells_of_block hq0, Nat.zero_add, ← Array.getElem?_toList]; exact hj⟩, free_of_block hG3 _, ⟨r2, r3, r4, G, cap, S, h.tb, ?_, fun _ => ⟨hBG, _, hG4, by simp [hgs], hmx, by rw [em]; exact hle, fun j hj => ?_⟩, fun j hj => ?_, fun a b ha hb => h.inj a b (by rw [em] at ha; exact ha) (by rw [em] at hb; exact hb)⟩, ?_, by rw [cells_of_block hT4]; rfl, ⟨hb3.setCell hBG _, fun x y t ht e => ?_⟩⟩
  · rw [hT4, slabV, if_neg (by omega), em]
  · rw [em] at hj
    rw [Array.getElem?_setIfInBounds]
    by_cases e : n / 64 = j
    · rw [if_pos e, if_pos (by omega), ← e]
      simp [slabLen, show min 64 (n + 1 - 64 * (n / 64)) = n % 64 + 1 by omega]
    · rw [if_neg e, hgi j hj]
      simp only [slabLen]
      rw [show min 64 (n - 64 * j) = min 64 (n + 1 - 64 * j) by omega]
  · rw [em] at hj
    obtain ⟨c, y1, y2, y3⟩ := hslab j hj
    refine ⟨(h.slab j hj).1, c, ?_, y2, y3⟩
    rw [heapOther _ (fun x => by rw [x, hG3] at y1; injection y1 with y1; injection y1 with _ y1; cases y1)]
    exact y1
  · rw [cells_of_block hG4, Array.getElem?_setIfInBounds, if_pos rfl, if_pos (by omega)]
  · have h27 := hoth _ _ t (by omega) e
    rw [heapOther _ (fun z => by rw [z, hG3] at h27; injection h27 with h27; injection h27 with _ h27; have e2 : (61 : Nat) = t := h27; omega)]
    exact h27
end Go.Proofs.Qxb6608542a
