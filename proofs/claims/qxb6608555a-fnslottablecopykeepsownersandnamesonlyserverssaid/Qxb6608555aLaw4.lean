/-
  WHAT THE COPY LAW KEEPS (function 4).
-/
import Derived.Test.Qxb6608555aCopy2
namespace Go.Proofs.Qxb6608555a
open Go.RowKit Go.Maps
set_option linter.unusedVariables false
set_option linter.unusedSimpArgs false

/-- The table and the model. -/
structure S4 (B : Nat) (w : World) (T M : Nat) (own : Nat → Nat) (v : Value) (L : List ByteArray) (mo mo' : Nat → ByteArray) (W : World) : Prop where
  bel : Below B w W
  tab : Tab B W T own v (⟨#[]⟩ :: L)
  tel : Tells own L mo
  mod : Blk W M 32 16384 (gStr mo')
  mb : B ≤ M

theorem S4.keep {B : Nat} {w : World} {T M : Nat} {own : Nat → Nat} {v : Value} {L : List ByteArray} {mo mo' : Nat → ByteArray} {W W' : World} (h : S4 B w T M own v L mo mo' W) (k : Tch W W' (fun _ => False)) : S4 B w T M own v L mo mo' W' :=
  ⟨Tch.below h.bel k (fun _ _ x => x.elim) (Nat.le_trans h.mb (Nat.le_of_lt h.mod.lt)), h.tab.keep k (fun x => x) (fun _ _ x => x), h.tel, h.mod.keep k (fun x => x), h.mb⟩
theorem S4.drew {B : Nat} {w : World} {T M : Nat} {own : Nat → Nat} {v : Value} {L : List ByteArray} {mo mo' : Nat → ByteArray} {W : World} (h : S4 B w T M own v L mo mo' W) : S4 B w T M own v L mo mo' W.drew := h.keep (Tch.drew _ _)
theorem S4.size {B : Nat} {w : World} {T M : Nat} {own : Nat → Nat} {v : Value} {L : List ByteArray} {mo mo' : Nat → ByteArray} {W : World} (h : S4 B w T M own v L mo mo' W) : B ≤ W.heap.size := Nat.le_trans h.mb (Nat.le_of_lt h.mod.lt)
theorem S4.set {B : Nat} {w : World} {T M : Nat} {own : Nat → Nat} {v : Value} {L : List ByteArray} {mo : Nat → ByteArray} {W W' : World} {sl : Nat} {id : ByteArray} (h : S4 B w T M own v L mo mo W) (hs : SetTo B W T own v (⟨#[]⟩ :: L) sl id W') (hz : id.size ≤ maxLen) :
    ∃ own' v', S4 B w T M own' v' (nextL id L) (fun s => if s = sl then id else mo s) mo W' := by
  obtain ⟨p, v', h1, h2, h3, h4⟩ := hs.res
  have hMT : M ≠ T := h.mod.ne h.tab.blk (by decide)
  have hMr := h.mod.notRow h.tab.row (by decide)
  rw [addB_cons] at h1
  refine ⟨upd own sl p, v', Tch.below h.bel hs.tch (fun b _ x => ?_) h.size, h1, h.tel.set id hz sl p h2 h3, h.mod.keep hs.tch (fun x => ?_), h.mb⟩
  · rcases x with x | x
    · rw [x]; exact h.tab.tb
    · exact (h.tab.row.lt b x).1
  · rcases x with x | x
    · exact hMT x
    · exact hMr x
theorem S4.store {B : Nat} {w : World} {T M : Nat} {own : Nat → Nat} {v : Value} {L : List ByteArray} {mo' : Nat → ByteArray} {W : World} {sl : Nat} {id : ByteArray} (h : S4 B w T M own v L (fun s => if s = sl then id else mo' s) mo' W) :
    S4 B w T M own v L (fun s => if s = sl then id else mo' s) (fun s => if s = sl then id else mo' s) (W.setCell ⟨M, sl, none⟩ (.string id)) := by
  have hMT : M ≠ T := h.mod.ne h.tab.blk (by decide)
  have hMr := h.mod.notRow h.tab.row (by decide)
  have k := Tch.set W ⟨M, sl, none⟩ (.string id)
  refine ⟨Tch.below h.bel k (fun b _ x => ?_) h.size, h.tab.keep k (fun x => hMT x.symm) (fun g hg x => hMr (by rw [hg, x])), h.tel, (h.mod.set sl _).congr (fun s _ => ?_), h.mb⟩
  · rw [x]; exact h.mb
  · unfold gStr
    by_cases e : s = sl
    · simp [e]
    · simp [e]

/-- All that stands when the table is copied. -/
structure Bs (B : Nat) (w : World) (T M O R K n : Nat) (own : Nat → Nat) (v : Value) (L : List ByteArray) (mo : Nat → ByteArray) (SV : List ByteArray) (W : World) : Prop where
  s4 : S4 B w T M own v L mo mo W
  o : Blk W O 29 16384 (gArr own)
  r : Blk W R 9 n (fun s => .string ((⟨#[]⟩ :: L : List ByteArray).getD s ⟨#[]⟩))
  k : MSet W K SV
  kb : B ≤ K
theorem Bs.keep {B : Nat} {w : World} {T M O R K n : Nat} {own : Nat → Nat} {v : Value} {L : List ByteArray} {mo : Nat → ByteArray} {SV : List ByteArray} {W W' : World} (h : Bs B w T M O R K n own v L mo SV W) (t : Tch W W' (fun _ => False)) : Bs B w T M O R K n own v L mo SV W' :=
  ⟨h.s4.keep t, h.o.keep t (fun x => x), h.r.keep t (fun x => x), h.k.keep t (fun x => x), h.kb⟩
theorem Bs.named {B : Nat} {w : World} {T M O R K n : Nat} {own : Nat → Nat} {v : Value} {L : List ByteArray} {mo : Nat → ByteArray} {SV SV' : List ByteArray} {W W' : World} (h : Bs B w T M O R K n own v L mo SV W) (hm : MSet W' K SV') (t : Tch W W' (fun b => b = K)) : Bs B w T M O R K n own v L mo SV' W' := by
  have hKT : K ≠ T := h.k.ne h.s4.tab.blk
  have hKr := h.k.notRow h.s4.tab.row
  have hKM : K ≠ M := h.k.ne h.s4.mod
  have hKO : K ≠ O := h.k.ne h.o
  have hKR : K ≠ R := h.k.ne h.r
  exact ⟨⟨Tch.below h.s4.bel t (fun b _ x => by rw [x]; exact h.kb) h.s4.size, h.s4.tab.keep t (fun x => hKT x.symm) (fun g hg x => hKr (by rw [hg, x])), h.s4.tel, h.s4.mod.keep t (fun x => hKM x.symm), h.s4.mb⟩, h.o.keep t (fun x => hKO x.symm), h.r.keep t (fun x => hKR x.symm), hm, h.kb⟩

/-- The copy and what is made of it; nothing of W0 has turned. -/
structure Ac (W0 : World) (C O F n : Nat) (own : Nat → Nat) (v : Value) (L : List ByteArray) (f : Nat → Int) (W : World) : Prop where
  tch : Tch W0 W (fun _ => False)
  tab : Tab W0.heap.size W C own v (⟨#[]⟩ :: L)
  o : Blk W O 29 16384 (gArr own)
  f : Blk W F 3 n (fun k => .int .i64 (f k))
  fb : W0.heap.size ≤ F
theorem Ac.keep {W0 : World} {C O F n : Nat} {own : Nat → Nat} {v : Value} {L : List ByteArray} {f : Nat → Int} {W W' : World} (h : Ac W0 C O F n own v L f W) (t : Tch W W' (fun _ => False)) : Ac W0 C O F n own v L f W' :=
  ⟨h.tch.trans t (fun _ _ x => x), h.tab.keep t (fun x => x) (fun _ _ x => x), h.o.keep t (fun x => x), h.f.keep t (fun x => x), h.fb⟩
theorem Ac.setF {W0 : World} {C O F n : Nat} {own : Nat → Nat} {v : Value} {L : List ByteArray} {f : Nat → Int} {W : World} (h : Ac W0 C O F n own v L f W) (k : Nat) (x : Int) : Ac W0 C O F n own v L (fun j => if j = k then x else f j) (W.setCell ⟨F, k, none⟩ (.int .i64 x)) := by
  have hFC : F ≠ C := h.f.ne h.tab.blk (by decide)
  have hFO : F ≠ O := h.f.ne h.o (by decide)
  have hFr := h.f.notRow h.tab.row (by decide)
  have t := Tch.set W ⟨F, k, none⟩ (.int .i64 x)
  refine ⟨h.tch.trans t (fun b hb e => ?_), h.tab.keep t (fun e => hFC e.symm) (fun g hg e => hFr (by rw [hg, e])), h.o.keep t (fun e => hFO e.symm), (h.f.set k _).congr (fun s _ => ?_), h.fb⟩
  · have e' : b = F := e
    have := h.fb
    omega
  · by_cases e : s = k
    · simp [e]
    · simp [e]
theorem Ac.congr {W0 : World} {C O F n : Nat} {own : Nat → Nat} {v : Value} {L : List ByteArray} {f f' : Nat → Int} {W : World} (h : Ac W0 C O F n own v L f W) (he : ∀ j, j < n → f j = f' j) : Ac W0 C O F n own v L f' W :=
  ⟨h.tch, h.tab, h.o, h.f.congr (fun s hs => by rw [he s hs]), h.fb⟩
end Go.Proofs.Qxb6608555a
