/-
  WALK: (*slotTable).copy (26): its memory and one append.
-/
import Derived.Test.Qxb6608555aTake
namespace Go.Proofs.Qxb6608555a
open Go.RowKit Go.Maps
set_option linter.unusedVariables false
set_option linter.unusedSimpArgs false
set_option maxRecDepth 20000

/-- The copy's own memory: nothing that was there in W0 has turned. -/
structure CpW (W0 : World) (C PL n : Nat) (own' : Nat → Nat) (v : Value) (L' : List ByteArray) (pl : Nat → Nat) (W : World) : Prop where
  tch : Tch W0 W (fun _ => False)
  tab : Tab W0.heap.size W C own' v (⟨#[]⟩ :: L')
  pls : Blk W PL 28 n (fun j => .int .u16 (pl j))
  pb : W0.heap.size ≤ PL

theorem CpW.drew {W0 : World} {C PL n : Nat} {own' : Nat → Nat} {v : Value} {L' : List ByteArray} {pl : Nat → Nat} {W : World} (h : CpW W0 C PL n own' v L' pl W) : CpW W0 C PL n own' v L' pl W.drew :=
  ⟨h.tch.trans (Tch.drew _ _) (fun _ _ x => x), h.tab.keep (Tch.drew W (fun _ => False)) (fun x => x) (fun _ _ x => x), h.pls.keep (Tch.drew W (fun _ => False)) (fun x => x), h.pb⟩
theorem CpW.ne {W0 : World} {C PL n : Nat} {own' : Nat → Nat} {v : Value} {L' : List ByteArray} {pl : Nat → Nat} {W : World} (h : CpW W0 C PL n own' v L' pl W) : PL ≠ C := h.pls.ne h.tab.blk (by decide)
theorem CpW.setOwn {W0 : World} {C PL n : Nat} {own' : Nat → Nat} {v : Value} {L' : List ByteArray} {pl : Nat → Nat} {W : World} (h : CpW W0 C PL n own' v L' pl W) (s p : Nat) (hs : s < 16384) : CpW W0 C PL n (upd own' s p) v L' pl (W.setCell ⟨C, s, none⟩ (.int .u16 p)) :=
  ⟨h.tch.trans (Tch.set W _ _) (fun b hb e => by
    have e' : b = C := e
    have := h.tab.tb
    omega), h.tab.setOwn s p hs, h.pls.keep (Tch.set W _ _) h.ne, h.pb⟩
theorem CpW.setPl {W0 : World} {C PL n : Nat} {own' : Nat → Nat} {v : Value} {L' : List ByteArray} {pl : Nat → Nat} {W : World} (h : CpW W0 C PL n own' v L' pl W) (j p : Nat) : CpW W0 C PL n own' v L' (upd pl j p) (W.setCell ⟨PL, j, none⟩ (.int .u16 p)) :=
  ⟨h.tch.trans (Tch.set W _ _) (fun b hb e => by
    have e' : b = PL := e
    have := h.pb
    omega), h.tab.keep (Tch.set W ⟨PL, j, none⟩ _) (fun e => h.ne e.symm) (fun g hg e => h.pls.notRow h.tab.row (by decide) (by rw [hg, e])), (h.pls.set j _).congr (fun s _ => by
      unfold upd
      by_cases e : s = j
      · rw [if_pos e, if_pos e]
      · rw [if_neg e, if_neg e]), h.pb⟩

/-- One more ID. -/
theorem CpW.app {W0 : World} {C PL n : Nat} {own' : Nat → Nat} {a : Option Addr} {cap m : Nat} {L' : List ByteArray} {pl : Nat → Nat} {W : World} (h : CpW W0 C PL n own' (.slice a m cap) L' pl W) (hm : m = L'.length + 1) (hb : m ≤ 100000) (d : ByteArray) (ty : TypeId) :
    ∃ a' cap' W3, (Builtin.append_ #[23, 23] ty #[.slice a m cap, .slice (some ⟨W.heap.size, 0, none⟩) 1 1]).run Try.prog (W.alloc (.cells #[.string d] 9)).drew = .ok (.slice a' (m + 1) cap') W3 ∧
      Tch W0 W3 (fun _ => False) ∧ W3.cell? ⟨C, 16384, none⟩ = some (.slice a m cap) ∧ W3.frozen? ⟨C, 16384, none⟩ = false ∧ CpW W0 C PL n own' (.slice a' (m + 1) cap') (L' ++ [d]) pl (W3.setCell ⟨C, 16384, none⟩ (.slice a' (m + 1) cap')) := by
  obtain ⟨i0, hi0, hz0, hz1, hz2⟩ := info_parts info9
  have hk : Tch W (W.alloc (.cells #[.string d] 9)).drew (fun _ => False) := (Tch.alloc W _ _).trans (Tch.drew _ (fun _ => False)) (fun _ _ x => x)
  have hW0 : W0.heap.size ≤ W.heap.size := h.tch.size
  have hrow : (W.alloc (.cells #[.string d] 9)).drew.ownsRow W0.heap.size 9 1 (.slice a m cap) m ((⟨#[]⟩ :: L').map .string) := by
    have h1 := ownsRow_keep h.tab.row hk (fun _ _ x => x)
    rw [show (⟨#[]⟩ :: L' : List ByteArray).length = m by rw [hm]; rfl] at h1
    exact h1
  obtain ⟨v', W3, hr, hown', hgrow, hne, hat⟩ := run_append_own_at (P := Try.prog) (W.alloc (.cells #[.string d] 9)).drew W0.heap.size 23 ty 9 i0 (.string ⟨#[]⟩) 1 16 Try.underlying23 hi0 hz0 hz1 hz2 rfl (by decide) (.slice a m cap) m _ hrow ⟨W.heap.size, 0, none⟩ 1 1 [.string d] rfl (fun j u hj => cell_one_new W (.string d) 9 j u hj) (fun u hu => by simp at hu; subst hu; rfl) (by unfold maxLen; omega) (by omega) (Nat.le_trans hW0 hk.size)
  obtain ⟨a', cap', rfl⟩ : ∃ a' cap', v' = .slice a' (m + 1) cap' := by
    rcases hown'.2 with ⟨hv, hz⟩ | ⟨g, c', cur, hv, _⟩
    · omega
    · exact ⟨_, _, hv⟩
  have hap := h.tab.apart
  have hb1 := h.tab.blk.keep hk (fun x => x)
  have hb2 := hb1.keep (Tch.grown hgrow) (fun e => hap e.symm)
  have hp2 := (h.pls.keep hk (fun x => x)).keep (Tch.grown hgrow) (fun e => h.pls.notRow h.tab.row (by decide) e.symm)
  have ht3 : Tch W0 W3 (fun _ => False) := (h.tch.trans hk (fun _ _ x => x)).trans (Tch.grown hgrow) (fun b hb e => by
    have := (h.tab.row.lt b e.symm).1
    omega)
  refine ⟨a', cap', W3, hr, ht3, ?_, hb2.free _, ht3.trans (Tch.set W3 _ _) (fun b hb e => by
    have e' : b = C := e
    have := h.tab.tb
    omega), ⟨h.tab.tb, ?_, ?_⟩, hp2.keep (Tch.set W3 _ _) h.ne, h.pb⟩
  · rw [hb2.cell 16384 (by omega)]; rfl
  · exact (hb2.set 16384 _).congr (fun s _ => by
      unfold tabG
      by_cases e : s = 16384
      · subst e; rfl
      · rw [if_neg e, if_neg e, if_neg e])
  · have hap3 := hb2.notRow hown' (by decide)
    have h1 := ownsRow_keep hown' (Tch.set W3 ⟨C, 16384, none⟩ (.slice a' (m + 1) cap')) (fun g hg e => hap3 (by rw [hg, e]))
    rw [show (⟨#[]⟩ :: (L' ++ [d]) : List ByteArray).length = m + 1 by rw [hm]; simp, ← List.cons_append, List.map_append]
    exact h1
end Go.Proofs.Qxb6608555a
