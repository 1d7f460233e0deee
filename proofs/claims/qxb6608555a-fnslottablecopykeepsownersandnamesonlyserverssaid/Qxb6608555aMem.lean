/-
  MEMORY: what a step touches; blocks read cell by cell; the slot table; a map[string]bool.
-/
import Derived.Test.Qxb6608555aParts
namespace Go.Proofs.Qxb6608555a
open Go.RowKit Go.Maps
set_option linter.unusedVariables false
set_option linter.unusedSimpArgs false

/-- W' is W but for the blocks of p, and new ones. -/
structure Tch (W W' : World) (p : Nat → Prop) : Prop where
  os : W'.os = W.os
  tape : W'.tape = W.tape
  output : W'.output = W.output
  size : W.heap.size ≤ W'.heap.size
  block : ∀ b, b < W.heap.size → ¬ p b → W'.heap[b]? = W.heap[b]?

theorem Tch.refl (W : World) (p : Nat → Prop) : Tch W W p := ⟨rfl, rfl, rfl, Nat.le_refl _, fun _ _ _ => rfl⟩
theorem Tch.mono {W W' : World} {p q : Nat → Prop} (h : Tch W W' p) (hq : ∀ b, b < W.heap.size → p b → q b) : Tch W W' q := ⟨h.os, h.tape, h.output, h.size, fun b hb hn => h.block b hb (fun x => hn (hq b hb x))⟩
theorem Tch.trans {W W' W'' : World} {p q : Nat → Prop} (h : Tch W W' p) (k : Tch W' W'' q) (hq : ∀ b, b < W.heap.size → q b → p b) : Tch W W'' p :=
  ⟨k.os.trans h.os, k.tape.trans h.tape, k.output.trans h.output, Nat.le_trans h.size k.size, fun b hb hn => (k.block b (Nat.lt_of_lt_of_le hb h.size) (fun x => hn (hq b hb x))).trans (h.block b hb hn)⟩
theorem Tch.alloc (W : World) (o : Obj) (p : Nat → Prop) : Tch W (W.alloc o) p := ⟨rfl, rfl, rfl, by simp, fun b hb _ => Below.heap_alloc W o b hb⟩
theorem Tch.drew (W : World) (p : Nat → Prop) : Tch W W.drew p := ⟨rfl, rfl, rfl, Nat.le_refl _, fun _ _ _ => rfl⟩
theorem Tch.set (W : World) (a : Addr) (v : Value) : Tch W (W.setCell a v) (fun b => b = a.block) := ⟨rfl, rfl, rfl, by simp [World.setCell], fun b _ hn => Below.heap_setCell W a v b hn⟩
theorem Tch.grown {W W' : World} {row : Option Nat} (h : W.grownBy W' row) : Tch W W' (fun b => some b = row) := ⟨h.os, h.tape, h.output, h.size, fun b hb hn => h.block b hb hn⟩
theorem Tch.sets (b : Nat) : ∀ (vs : List Value) (o : Nat) (W : World), Tch W (W.setCells b o vs) (fun x => x = b)
  | [], _, W => Tch.refl W _
  | v :: vs, o, W => (Tch.set W ⟨b, o, none⟩ v).trans (Tch.sets b vs (o + 1) _) (fun _ _ h => h)
theorem Tch.below {W W' : World} {p : Nat → Prop} {B : Nat} {a : World} (hb : Below B a W) (h : Tch W W' p) (hp : ∀ b, b < W.heap.size → p b → B ≤ b) (hB : B ≤ W.heap.size) : Below B a W' :=
  ⟨h.os.trans hb.os, h.tape.trans hb.tape, h.output.trans hb.output, Nat.le_trans hb.size h.size, fun b hlt => (h.block b (by omega) (fun x => by have := hp b (by omega) x; omega)).trans (hb.block b hlt)⟩
theorem Tch.toBelow {W W' : World} {p : Nat → Prop} (h : Tch W W' p) {B : Nat} (hp : ∀ b, b < W.heap.size → p b → B ≤ b) (hB : B ≤ W.heap.size) : Below B W W' := Tch.below (Below.refl _ _) h hp hB

/-! ### a block, cell by cell -/
structure Blk (W : World) (b t n : Nat) (g : Nat → Value) : Prop where
  row : ∃ c, W.heap[b]? = some (Obj.cells c t (0, 0)) ∧ c.size = n ∧ ∀ s, s < n → c[s]? = some (g s)

theorem cells_of_block {w : World} {b : Nat} {c : Array Value} {t : Nat} {fr : Nat × Nat} (h : w.heap[b]? = some (Obj.cells c t fr)) (o : Nat) : w.cell? ⟨b, o, none⟩ = c[o]? := by
  simp [World.cell?, h]
theorem free_of_block {w : World} {b : Nat} {c : Array Value} {t : Nat} (h : w.heap[b]? = some (Obj.cells c t (0, 0))) (o : Nat) : w.frozen? ⟨b, o, none⟩ = false := by
  simp [World.frozen?, h]
theorem heapSame {w : World} {K t o : Nat} {c : Array Value} (hc : w.heap[K]? = some (Obj.cells c t (0, 0))) (v : Value) : (w.setCell ⟨K, o, none⟩ v).heap[K]? = some (Obj.cells (c.setIfInBounds o v) t (0, 0)) := by
  simp [World.setCell, Array.getElem?_modify, hc]

theorem Blk.lt {W : World} {b t n : Nat} {g : Nat → Value} (h : Blk W b t n g) : b < W.heap.size := by
  obtain ⟨c, h1, _⟩ := h.row
  exact (Array.getElem?_eq_some_iff.1 h1).1
theorem Blk.cell {W : World} {b t n : Nat} {g : Nat → Value} (h : Blk W b t n g) (s : Nat) (hs : s < n) : W.cell? ⟨b, s, none⟩ = some (g s) := by
  obtain ⟨c, h1, h2, h3⟩ := h.row
  rw [cells_of_block h1, h3 s hs]
theorem Blk.free {W : World} {b t n : Nat} {g : Nat → Value} (h : Blk W b t n g) (s : Nat) : W.frozen? ⟨b, s, none⟩ = false := by
  obtain ⟨c, h1, h2, h3⟩ := h.row
  exact free_of_block h1 s
theorem Blk.congr {W : World} {b t n : Nat} {g g' : Nat → Value} (h : Blk W b t n g) (he : ∀ s, s < n → g s = g' s) : Blk W b t n g' := by
  obtain ⟨c, h1, h2, h3⟩ := h.row
  exact ⟨c, h1, h2, fun s hs => by rw [h3 s hs, he s hs]⟩
theorem Blk.set {W : World} {b t n : Nat} {g : Nat → Value} (h : Blk W b t n g) (s : Nat) (v : Value) : Blk (W.setCell ⟨b, s, none⟩ v) b t n (fun x => if x = s then v else g x) := by
  obtain ⟨c, h1, h2, h3⟩ := h.row
  refine ⟨_, heapSame h1 _, by simp [h2], fun x hx => ?_⟩
  rw [Array.getElem?_setIfInBounds]
  by_cases e : s = x
  · subst e; rw [if_pos rfl, if_pos (by omega), if_pos rfl]
  · rw [if_neg e, if_neg (fun y => e y.symm)]; exact h3 x hx
theorem Blk.keep {W W' : World} {b t n : Nat} {g : Nat → Value} {p : Nat → Prop} (h : Blk W b t n g) (k : Tch W W' p) (hp : ¬ p b) : Blk W' b t n g := by
  have hlt := h.lt
  obtain ⟨c, h1, h2, h3⟩ := h.row
  exact ⟨c, by rw [k.block b hlt hp]; exact h1, h2, h3⟩
theorem Blk.ne {W : World} {b t n b' t' n' : Nat} {g g' : Nat → Value} (h : Blk W b t n g) (h' : Blk W b' t' n' g') (ht : t ≠ t') : b ≠ b' := by
  intro e
  subst e
  obtain ⟨c, h1, _⟩ := h.row
  obtain ⟨c', h1', _⟩ := h'.row
  rw [h1] at h1'
  injection h1' with h2
  injection h2 with _ h3 _
  exact ht h3
theorem Blk.new (W : World) (t n : Nat) (c : Array Value) (g : Nat → Value) (hc : c.size = n) (hg : ∀ s, s < n → c[s]? = some (g s)) : Blk (W.alloc (.cells c t)) W.heap.size t n g :=
  ⟨c, by show (W.heap.push _)[W.heap.size]? = _; simp, hc, hg⟩
/-- A row of the call's own lies in no block of another type. -/
theorem Blk.notRow {W : World} {b t n : Nat} {g : Nat → Value} (h : Blk W b t n g) {base e size m : Nat} {v : Value} {xs : List Value} (ho : W.ownsRow base e size v m xs) (ht : t ≠ e) : v.ownBlock ≠ some b := by
  intro hv
  rcases ho.2 with ⟨rfl, _⟩ | ⟨q, cap, cur, rfl, _, hq, _⟩
  · cases hv
  · simp only [Value.ownBlock, Option.some.injEq] at hv
    subst hv
    obtain ⟨c, h1, _⟩ := h.row
    rw [h1] at hq
    injection hq with h2
    injection h2 with _ h3 _
    exact ht h3

/-- Many cells stored from o on. -/
theorem Blk.sets {b t n : Nat} : ∀ (vs : List Value) (o : Nat) (W : World) (g : Nat → Value), Blk W b t n g → Blk (W.setCells b o vs) b t n (fun s => if o ≤ s then (vs[s - o]?).getD (g s) else g s)
  | [], o, W, g, h => h.congr (fun s _ => by simp)
  | v :: vs, o, W, g, h => by
    have h2 := Blk.sets vs (o + 1) _ _ (h.set o v)
    refine h2.congr (fun s _ => ?_)
    by_cases e : s = o
    · subst e
      rw [if_neg (by omega), if_pos rfl, if_pos (Nat.le_refl _), Nat.sub_self]
      rfl
    · by_cases ho : o ≤ s
      · have : s - o = (s - (o + 1)) + 1 := by omega
        rw [if_pos ho, if_pos (show o + 1 ≤ s by omega), if_neg e, this, List.getElem?_cons_succ]
      · rw [if_neg ho, if_neg (by omega), if_neg e]

def gArr (f : Nat → Nat) (s : Nat) : Value := .int .u16 (f s)
def gStr (f : Nat → ByteArray) (s : Nat) : Value := .string (f s)

theorem Blk.range29 {W : World} {b t n : Nat} {g : Nat → Value} (h : Blk W b t n g) (hn : 16384 ≤ n) (f : Nat → Nat) (hf : ∀ s, s < 16384 → g s = .int .u16 (f s)) : W.rangeAt b 0 (arr f) := fun j v hv => by
  have hj : j < 16384 := by
    have := (List.getElem?_eq_some_iff.1 hv).1
    rw [arr_len] at this
    exact this
  rw [Nat.zero_add, h.cell j (by omega), hf j hj, ← arr_get f j hj, hv]
theorem Blk.load29 {W : World} {b t n : Nat} {g : Nat → Value} (h : Blk W b t n g) (hn : 16384 ≤ n) (f : Nat → Nat) (hf : ∀ s, s < 16384 → g s = .int .u16 (f s)) : (Instr.loadAt 29 (.pointer (some ⟨b, 0, none⟩))).run Try.prog W = .ok (.agg (arr f).toArray) W :=
  run_loadAt_mid W b 0 29 (arr f) _ (h.range29 hn f hf) Try.underlying29 rfl (by rw [arr_len]; exact size29)
theorem Blk.store29 {W : World} {b t : Nat} {g : Nat → Value} (h : Blk W b t 16384 g) (f : Nat → Nat) : (Instr.storeAt 29 (.pointer (some ⟨b, 0, none⟩)) (.agg (arr f).toArray)).run Try.prog W = .ok () (W.setCells b 0 (arr f)) := by
  have ht : W.there b 0 (arr f).toArray.size := fun j hj => by
    rw [List.size_toArray, arr_len] at hj
    rw [Nat.zero_add, h.cell j hj]
    exact ⟨rfl, h.free j⟩
  have h1 := run_storeAt_mid W b 0 29 (arr f).toArray ht (by rw [List.size_toArray, arr_len]; exact size29) (all_oneCell_toArray (fun v hv => by
    obtain ⟨j, hj⟩ := List.mem_iff_getElem?.1 hv
    have hl : j < 16384 := by
      have := (List.getElem?_eq_some_iff.1 hj).1
      rw [arr_len] at this
      exact this
    rw [arr_get f j hl] at hj
    injection hj with hj
    rw [← hj]
    rfl))
  simpa using h1
theorem Blk.stored29 {W : World} {b t : Nat} {g : Nat → Value} (h : Blk W b t 16384 g) (f : Nat → Nat) : Blk (W.setCells b 0 (arr f)) b t 16384 (gArr f) :=
  (Blk.sets (arr f) 0 W g h).congr (fun s hs => by rw [if_pos (Nat.zero_le _), Nat.sub_zero, arr_get f s hs]; rfl)
theorem Blk.fresh29 (W : World) : Blk (W.alloc (.cells (arr (fun _ => 0)).toArray 29)) W.heap.size 29 16384 (gArr (fun _ => 0)) :=
  Blk.new W 29 16384 _ _ (by rw [List.size_toArray, arr_len]) (fun s hs => by rw [List.getElem?_toArray, arr_get _ s hs]; rfl)
theorem Blk.fresh32 (W : World) : Blk (W.alloc (.cells (sarr (fun _ => ⟨#[]⟩)).toArray 32)) W.heap.size 32 16384 (gStr (fun _ => ⟨#[]⟩)) :=
  Blk.new W 32 16384 _ _ (by rw [List.size_toArray, sarr_len]) (fun s hs => by rw [List.getElem?_toArray, sarr_get _ s hs]; rfl)

/-! ### index -/
theorem addr_plain (b off k : Nat) : (⟨b, off, none⟩ : Addr).add k = ⟨b, off + k, none⟩ := by simp [Addr.add]
def Sized (e size : Nat) : Prop := ∀ w : World, (sizeOf e).run Try.prog w = .ok size w
theorem sized9 : Sized 9 1 := fun w => by simp [go_sem]
theorem sized3 : Sized 3 1 := fun w => by simp [go_sem]
theorem sized28 : Sized 28 1 := fun w => by simp [go_sem]
theorem idx_eq {T e size : Nat} (hT : Try.prog.underlying T = some (.slice e)) (hs : Sized e size) (k : IntKind) (b off n cap i : Nat) (hi : i < n) (w' : World) :
    (Instr.indexAt T (.slice (some ⟨b, off, none⟩) n cap) (.int k (i : Int))).run Try.prog w' = .ok (.pointer (some ⟨b, off + i * size, none⟩)) w' := by
  have he : Try.prog.elem T = e := by simp [Program.elem, hT]
  rw [run_indexAt_slice (h := by rw [he]; exact hT), if_pos (by omega), he, hs w']
  simp [Result.andThen, addr_plain]
theorem idxArr {T e : Nat} (hT : Try.prog.underlying T = some (.array 16384 e)) (hs : Sized e 1) (k : IntKind) (b i : Nat) (hi : i < 16384) (w' : World) :
    (Instr.indexAt T (.pointer (some ⟨b, 0, none⟩)) (.int k (i : Int))).run Try.prog w' = .ok (.pointer (some ⟨b, i, none⟩)) w' := by
  have h1 : (i : Int) < 16384 := by omega
  have h2 := hs w'
  simp [Instr.indexAt, asIntOf, Instr.sureAddr, run_underlying hT, Sem.run_bind, Result.andThen, h1, h2, addr_plain]
  omega

/-- A row of the call's own, indexed. -/
theorem own_at {W : World} {base n : Nat} {a : Option Addr} {p : Nat} {xs : List Value} (h : W.ownsRow base 9 1 (.slice a n p) n xs) (k : IntKind) (u : Nat) (hu : u < n) :
    ∃ q : Addr, (∀ w', (Instr.indexAt 23 (.slice a n p) (.int k (u : Int))).run Try.prog w' = .ok (.pointer (some q)) w') ∧ W.cell? q = xs[u]? := by
  rcases h.2 with ⟨hv, hn⟩ | ⟨q, cap, cur, hv, _⟩
  · omega
  · simp only [Value.slice.injEq] at hv
    obtain ⟨rfl, _, rfl⟩ := hv
    refine ⟨⟨q, u, none⟩, fun w' => ?_, h.cellAt u (by omega)⟩
    have := idx_eq Try.underlying23 sized9 k q 0 n p u hu w'
    simpa using this

/-! ### a map[string]bool of the call's own -/
theorem law9 : Keyed Try.prog 9 := string_keyed Try.underlying9
theorem zero4 (w : World) : (zeroValue 4).run Try.prog w = .ok (.bool false) w := by kernel_rfl
open Classical in
/-- s is in L. -/
noncomputable def inB (s : ByteArray) (L : List ByteArray) : Bool := decide (s ∈ L)
open Classical in
/-- s is put into L. -/
noncomputable def addB (s : ByteArray) (L : List ByteArray) : List ByteArray := if s ∈ L then L else L ++ [s]
theorem mem_addB {s t : ByteArray} {L : List ByteArray} : t ∈ addB s L ↔ t ∈ L ∨ t = s := by
  unfold addB
  by_cases h : s ∈ L
  · rw [if_pos h]
    exact ⟨Or.inl, fun x => x.elim id (fun e => e ▸ h)⟩
  · rw [if_neg h]
    simp
theorem inB_iff {s : ByteArray} {L : List ByteArray} : inB s L = true ↔ s ∈ L := by simp [inB]
theorem inB_false {s : ByteArray} {L : List ByteArray} : inB s L = false ↔ ¬ s ∈ L := by simp [inB]
theorem inB_congr {s t : ByteArray} {L L' : List ByteArray} (h : s ∈ L ↔ t ∈ L') : inB s L = inB t L' := by
  by_cases hs : s ∈ L
  · rw [inB_iff.2 hs, inB_iff.2 (h.1 hs)]
  · rw [inB_false.2 hs, inB_false.2 (fun x => hs (h.2 x))]
def kl (s : ByteArray) : Lit := .string s.data.toList

/-- Block M is a map[string]bool in which the strings of L, and no others, lie, as true. -/
def MSet (W : World) (M : Nat) (L : List ByteArray) : Prop :=
  ∃ D : DataW Unit, W.ownsMap Try.prog 9 (plainElem Try.prog 4) M L.length D ∧ (∀ s : ByteArray, D.atKey (kl s) (.lit (.bool false)) = .lit (.bool (inB s L))) ∧ (∀ s : ByteArray, has D (kl s) = inB s L) ∧ Maps.size D = L.length

theorem kl_inj {s t : ByteArray} (h : kl s = kl t) : s = t := by
  unfold kl at h
  injection h with h
  cases s; cases t
  simp at h
  simp [h]
theorem MSet.made (W : World) : MSet (W.alloc (.map #[] 0)) W.heap.size [] :=
  ⟨.map [], World.ownsMap_made W _ _ _, fun s => by simp [inB]; rfl, fun s => by simp [inB]; rfl, rfl⟩
theorem plainElem_bool_inv {v : Value} {z : DataW Unit × List MemPlace} (h : plainElem Try.prog 4 v = some z) : ∃ x, v = .bool x ∧ z = (.lit (.bool x), []) := by
  unfold plainElem at h
  rw [Try.underlying4] at h
  cases v <;> simp at h
  exact ⟨_, rfl, h.symm⟩
theorem MSet.look {W : World} {M : Nat} {L : List ByteArray} (h : MSet W M L) (s : ByteArray) (hs : s.size ≤ maxLen) : (Instr.lookup 33 (.map (some M)) (.string s) false).run Try.prog W = .ok (.bool (inB s L)) W := by
  obtain ⟨D, ho, ha, _⟩ := h
  obtain ⟨v, ps, hr, hv⟩ := ho.lookup law9 Try.underlying33 (zero4 W) (plainElem_bool Try.underlying4 false) (WideMaps.keyOf_string_mk Try.underlying9 hs)
  obtain ⟨x, rfl, hx⟩ := plainElem_bool_inv hv
  have h2 := ha s
  simp only [Prod.mk.injEq] at hx
  rw [show D.atKey (kl s) (.lit (.bool false)) = .lit (.bool x) from hx.1] at h2
  simp at h2
  rw [hr, h2]
theorem MSet.len {W : World} {M : Nat} {L : List ByteArray} (h : MSet W M L) (ty : TypeId) : (Builtin.len_ #[33] ty #[.map (some M)]).run Try.prog W = .ok (.int .i64 L.length) W := by
  obtain ⟨D, ho, _, _, hs⟩ := h
  rw [ho.len Try.underlying33 ty, hs]
theorem MSet.lt {W : World} {M : Nat} {L : List ByteArray} (h : MSet W M L) : M < W.heap.size := by
  obtain ⟨D, ho, _⟩ := h
  exact ho.lt
theorem MSet.keep {W W' : World} {M : Nat} {L : List ByteArray} {p : Nat → Prop} (h : MSet W M L) (k : Tch W W' p) (hp : ¬ p M) : MSet W' M L := by
  have hlt := h.lt
  obtain ⟨D, ⟨es, clock, hb, F, hs, hD⟩, r⟩ := h
  exact ⟨D, ⟨es, clock, by rw [k.block M hlt hp]; exact hb, F, hs, hD⟩, r⟩
theorem MSet.put {W : World} {M : Nat} {L : List ByteArray} (h : MSet W M L) (hL : L.length < 1048576) (s : ByteArray) (hs : s.size ≤ maxLen) :
    ∃ W', (Instr.mapUpdate 33 (.map (some M)) (.string s) (.bool true)).run Try.prog W = .ok () W' ∧ MSet W' M (addB s L) ∧ Tch W W' (fun b => b = M) := by
  obtain ⟨D, ho, ha, hh, hz⟩ := h
  obtain ⟨W', hr, ho', hg⟩ := ho.update law9 Try.underlying33 (by unfold maxLen; omega) (WideMaps.keyOf_string_mk Try.underlying9 hs) (plainElem_bool Try.underlying4 true)
  have hk : WideAt.IsKeyLit (kl s) := by simp [kl, WideAt.IsKeyLit]
  refine ⟨W', hr, ⟨D.put (kl s) (.lit (.bool true)), ?_, fun t => ?_, fun t => ?_, ?_⟩, (Tch.grown hg).mono (fun b _ e => by injection e)⟩
  · have hsz : Maps.size (D.put (kl s) (.lit (.bool true))) = (addB s L).length := by
      rw [size_put (ho.tidy law9), hh s, hz]
      by_cases hm : s ∈ L
      · simp [hm, inB, addB]
      · simp [hm, inB, addB]
    obtain ⟨es, clock, hb, F, _, hD⟩ := ho'
    refine ⟨es, clock, hb, F, ?_, hD⟩
    rw [← hsz, show D.put (kl s) (.lit (.bool true)) = _ from hD]
    simp [Maps.size, length_sorted]
  · by_cases e : t = s
    · subst e
      rw [atKey_put_same ho.isMap hk]
      by_cases hm : t ∈ L <;> simp [hm, inB, addB]
    · rw [atKey_put_other (fun x => e (kl_inj x)), ha t, inB_congr (show t ∈ L ↔ t ∈ addB s L by rw [mem_addB]; simp [e])]
  · by_cases e : t = s
    · subst e
      rw [has_put_same ho.isMap hk]
      by_cases hm : t ∈ L <;> simp [hm, inB, addB]
    · rw [has_put_other (fun x => e (kl_inj x)), hh t, inB_congr (show t ∈ L ↔ t ∈ addB s L by rw [mem_addB]; simp [e])]
  · rw [size_put (ho.tidy law9), hh s, hz]
    by_cases hm : s ∈ L
    · simp [hm, inB, addB]
    · simp [hm, inB, addB]
end Go.Proofs.Qxb6608555a
