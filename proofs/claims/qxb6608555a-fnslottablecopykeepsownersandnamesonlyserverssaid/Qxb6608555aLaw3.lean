/-
  WALK: the law FnFreshSlotTableFollowsSetScript (function 3).
-/
import Derived.Test.Qxb6608555aZz
import Derived.Deep.RegionHeld3
namespace Go.Proofs.Qxb6608555a
open Go.RowKit Go.Maps
set_option linter.unusedVariables false
set_option linter.unusedSimpArgs false
set_option maxRecDepth 20000

/-- A slice of ints reads as zs. -/
structure RdI (W : World) (a : Option Addr) (n cap : Nat) (zs : List Int) : Prop where
  len : n = zs.length
  at' : ∀ u, u < n → ∃ q : Addr, q.block < W.heap.size ∧ (∀ w' : World, (Instr.indexAt 22 (.slice a n cap) (.int .i64 (u : Int))).run Try.prog w' = .ok (.pointer (some q)) w') ∧ W.cell? q = some (.int .i64 (zs.getD u 0))
theorem RdI.below {W W' : World} {a : Option Addr} {n cap : Nat} {zs : List Int} (h : RdI W a n cap zs) (k : Below W.heap.size W W') : RdI W' a n cap zs :=
  ⟨h.len, fun u hu => by
    obtain ⟨q, h1, h2, h3⟩ := h.at' u hu
    exact ⟨q, Nat.lt_of_lt_of_le h1 k.size, h2, by rw [← h3]; exact World.cell?_of_block (k.block _ h1)⟩⟩

def e0 : ByteArray := ⟨#[]⟩

/-- The IDs behind the empty one, after a set of id. -/
noncomputable def nextL (id : ByteArray) (L : List ByteArray) : List ByteArray := if id = e0 then L else addB id L
theorem addB_cons (id : ByteArray) (L : List ByteArray) : addB id (⟨#[]⟩ :: L) = ⟨#[]⟩ :: nextL id L := by
  unfold nextL
  by_cases h : id = e0
  · rw [if_pos h, addB_mem (by rw [h]; exact List.mem_cons_self ..)]
  · rw [if_neg h]
    by_cases hm : id ∈ L
    · rw [addB_mem hm, addB_mem (List.mem_cons_of_mem _ hm)]
    · rw [addB_new hm]
      exact addB_new (L := ⟨#[]⟩ :: L) (fun x => (List.mem_cons.1 x).elim (fun e => h e) hm)

theorem MSet.ne {W : World} {K b t n : Nat} {L : List ByteArray} {g : Nat → Value} (h : MSet W K L) (k : Blk W b t n g) : K ≠ b := by
  intro e
  subst e
  obtain ⟨D, ⟨es, clock, hb, _⟩, _⟩ := h
  obtain ⟨c, h1, _⟩ := k.row
  rw [hb] at h1
  cases h1
theorem MSet.notRow {W : World} {K : Nat} {L : List ByteArray} (h : MSet W K L) {base e size m : Nat} {v : Value} {xs : List Value} (ho : W.ownsRow base e size v m xs) : v.ownBlock ≠ some K := by
  intro hv
  rcases ho.2 with ⟨rfl, _⟩ | ⟨q, cap, cur, rfl, _, hq, _⟩
  · cases hv
  · simp only [Value.ownBlock, Option.some.injEq] at hv
    subst hv
    obtain ⟨D, ⟨es, clock, hb, _⟩, _⟩ := h
    rw [hb] at hq
    cases hq

/-- The table tells what the model tells. -/
structure Tells (own : Nat → Nat) (L : List ByteArray) (mo : Nat → ByteArray) : Prop where
  wf : Wf own L
  eq : ∀ s, s < 16384 → (e0 :: L).getD (own s) e0 = mo s

theorem Tells.set {own : Nat → Nat} {L : List ByteArray} {mo : Nat → ByteArray} (h : Tells own L mo) (id : ByteArray) (hid' : id.size ≤ maxLen) (sl p : Nat) (hp : p < (addB id (⟨#[]⟩ :: L)).length) (hg : (addB id (⟨#[]⟩ :: L)).getD p ⟨#[]⟩ = id) :
    Tells (upd own sl p) (nextL id L) (fun s => if s = sl then id else mo s) := by
  rw [addB_cons] at hp hg
  have hsub : ∀ i, i ≤ L.length → (e0 :: nextL id L).getD i e0 = (e0 :: L).getD i e0 := by
    intro i hi
    unfold nextL
    by_cases h1 : id = e0
    · rw [if_pos h1]
    · rw [if_neg h1]
      by_cases hm : id ∈ L
      · rw [addB_mem hm]
      · rw [addB_new hm, ← List.cons_append, List.getD_eq_getElem?_getD, List.getD_eq_getElem?_getD, List.getElem?_append_left (by simp; omega)]
  have hlen : L.length ≤ (nextL id L).length := by
    unfold nextL
    by_cases h1 : id = e0
    · rw [if_pos h1]; exact Nat.le_refl _
    · rw [if_neg h1]
      by_cases hm : id ∈ L
      · rw [addB_mem hm]; exact Nat.le_refl _
      · rw [addB_new hm]; simp
  refine ⟨⟨?_, ?_, ?_, fun s hs => ?_⟩, fun s hs => ?_⟩
  · unfold nextL
    by_cases h1 : id = e0
    · rw [if_pos h1]; exact h.wf.nd
    · rw [if_neg h1]
      by_cases hm : id ∈ L
      · rw [addB_mem hm]; exact h.wf.nd
      · rw [addB_new hm]
        exact List.nodup_append.2 ⟨h.wf.nd, by simp, fun x hx y hy => by
          simp at hy
          subst hy
          exact fun e => hm (e ▸ hx)⟩
  · intro x hx
    unfold nextL at hx
    by_cases h1 : id = e0
    · rw [if_pos h1] at hx; exact h.wf.ne x hx
    · rw [if_neg h1] at hx
      rcases mem_addB.1 hx with h2 | h2
      · exact h.wf.ne x h2
      · rw [h2]; exact h1
  · intro x hx
    unfold nextL at hx
    by_cases h1 : id = e0
    · rw [if_pos h1] at hx; exact h.wf.sz x hx
    · rw [if_neg h1] at hx
      rcases mem_addB.1 hx with h2 | h2
      · exact h.wf.sz x h2
      · rw [h2]; exact hid'
  · unfold upd
    by_cases e : s = sl
    · rw [if_pos e]
      simp at hp
      omega
    · rw [if_neg e]
      have := h.wf.own s hs
      omega
  · unfold upd
    by_cases e : s = sl
    · rw [if_pos e, if_pos e]
      exact hg
    · rw [if_neg e, if_neg e, hsub _ (h.wf.own s hs)]
      exact h.eq s hs

/-- What the law's loop keeps. -/
structure St (B : Nat) (w : World) (T M K : Nat) (own : Nat → Nat) (v : Value) (L : List ByteArray) (mo mo' : Nat → ByteArray) (L' : List ByteArray) (W : World) : Prop where
  bel : Below B w W
  tab : Tab B W T own v (⟨#[]⟩ :: L)
  tel : Tells own L mo
  mod : Blk W M 32 16384 (gStr mo')
  map : MSet W K L'
  mb : B ≤ M
  kb : B ≤ K

theorem St.drew {B : Nat} {w : World} {T M K : Nat} {own : Nat → Nat} {v : Value} {L L' : List ByteArray} {mo mo' : Nat → ByteArray} {W : World} (h : St B w T M K own v L mo mo' L' W) : St B w T M K own v L mo mo' L' W.drew :=
  ⟨h.bel.drew, ⟨h.tab.tb, ⟨h.tab.blk.row⟩, h.tab.row⟩, h.tel, ⟨h.mod.row⟩, h.map, h.mb, h.kb⟩
theorem St.keep {B : Nat} {w : World} {T M K : Nat} {own : Nat → Nat} {v : Value} {L L' : List ByteArray} {mo mo' : Nat → ByteArray} {W W' : World} (h : St B w T M K own v L mo mo' L' W) (k : Tch W W' (fun _ => False)) : St B w T M K own v L mo mo' L' W' :=
  ⟨Tch.below h.bel k (fun _ _ x => x.elim) (Nat.le_trans h.mb (Nat.le_of_lt h.mod.lt)), h.tab.keep k (fun x => x) (fun _ _ x => x), h.tel, h.mod.keep k (fun x => x), h.map.keep k (fun x => x), h.mb, h.kb⟩
theorem St.size {B : Nat} {w : World} {T M K : Nat} {own : Nat → Nat} {v : Value} {L L' : List ByteArray} {mo mo' : Nat → ByteArray} {W : World} (h : St B w T M K own v L mo mo' L' W) : B ≤ W.heap.size := Nat.le_trans h.mb (Nat.le_of_lt h.mod.lt)

theorem St.set {B : Nat} {w : World} {T M K : Nat} {own : Nat → Nat} {v : Value} {L : List ByteArray} {mo : Nat → ByteArray} {W W' : World} {sl : Nat} {id : ByteArray} (h : St B w T M K own v L mo mo L W) (hs : SetTo B W T own v (⟨#[]⟩ :: L) sl id W') (hz : id.size ≤ maxLen) :
    ∃ own' v', St B w T M K own' v' (nextL id L) (fun s => if s = sl then id else mo s) mo L W' := by
  obtain ⟨p, v', h1, h2, h3, h4⟩ := hs.res
  have hMT : M ≠ T := h.mod.ne h.tab.blk (by decide)
  have hMr := h.mod.notRow h.tab.row (by decide)
  have hKT : K ≠ T := h.map.ne h.tab.blk
  have hKr := h.map.notRow h.tab.row
  rw [addB_cons] at h1
  refine ⟨upd own sl p, v', Tch.below h.bel hs.tch (fun b _ x => ?_) h.size, h1, h.tel.set id hz sl p h2 h3, h.mod.keep hs.tch (fun x => ?_), h.map.keep hs.tch (fun x => ?_), h.mb, h.kb⟩
  · rcases x with x | x
    · rw [x]; exact h.tab.tb
    · exact (h.tab.row.lt b x).1
  · rcases x with x | x
    · exact hMT x
    · exact hMr x
  · rcases x with x | x
    · exact hKT x
    · exact hKr x

theorem St.store {B : Nat} {w : World} {T M K : Nat} {own : Nat → Nat} {v : Value} {L L' : List ByteArray} {mo' : Nat → ByteArray} {W : World} {sl : Nat} {id : ByteArray} (h : St B w T M K own v L (fun s => if s = sl then id else mo' s) mo' L' W) :
    St B w T M K own v L (fun s => if s = sl then id else mo' s) (fun s => if s = sl then id else mo' s) L' (W.setCell ⟨M, sl, none⟩ (.string id)) := by
  have hMT : M ≠ T := h.mod.ne h.tab.blk (by decide)
  have hMr := h.mod.notRow h.tab.row (by decide)
  have hKM : K ≠ M := h.map.ne h.mod
  have k := Tch.set W ⟨M, sl, none⟩ (.string id)
  refine ⟨Tch.below h.bel k (fun b _ x => ?_) h.size, h.tab.keep k (fun x => hMT x.symm) (fun g hg x => hMr (by rw [hg, x])), h.tel, (h.mod.set sl _).congr (fun s _ => ?_), h.map.keep k hKM, h.mb, h.kb⟩
  · rw [x]; exact h.mb
  · unfold gStr
    by_cases e : s = sl
    · simp [e]
    · simp [e]

theorem St.named {B : Nat} {w : World} {T M K : Nat} {own : Nat → Nat} {v : Value} {L L' : List ByteArray} {mo mo' : Nat → ByteArray} {W W' : World} {L'' : List ByteArray} (h : St B w T M K own v L mo mo' L' W) (hm : MSet W' K L'') (k : Tch W W' (fun b => b = K)) : St B w T M K own v L mo mo' L'' W' := by
  have hKT : K ≠ T := h.map.ne h.tab.blk
  have hKr := h.map.notRow h.tab.row
  have hKM : K ≠ M := h.map.ne h.mod
  exact ⟨Tch.below h.bel k (fun b _ x => by rw [x]; exact h.kb) h.size, h.tab.keep k (fun x => hKT x.symm) (fun g hg x => hKr (by rw [hg, x])), h.tel, h.mod.keep k (fun x => hKM x.symm), hm, h.mb, h.kb⟩
end Go.Proofs.Qxb6608555a
