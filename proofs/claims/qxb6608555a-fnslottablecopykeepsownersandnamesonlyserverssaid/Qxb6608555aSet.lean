/-
  WALKS: (*slotTable).set (25), ZZset (11).
-/
import Derived.Test.Qxb6608555aLeaf
namespace Go.Proofs.Qxb6608555a
open Go.RowKit Go.Maps
set_option linter.unusedVariables false
set_option linter.unusedSimpArgs false
set_option maxRecDepth 20000

/-- What a set leaves. -/
structure SetTo (B : Nat) (W : World) (T : Nat) (own : Nat → Nat) (v : Value) (ids : List ByteArray) (sl : Nat) (id : ByteArray) (W' : World) : Prop where
  res : ∃ p v', Tab B W' T (upd own sl p) v' (addB id ids) ∧ p < (addB id ids).length ∧ (addB id ids).getD p ⟨#[]⟩ = id ∧ (v'.ownBlock = v.ownBlock ∨ ∃ g, v'.ownBlock = some g ∧ W.heap.size ≤ g)
  tch : Tch W W' (fun b => b = T ∨ v.ownBlock = some b)

theorem addB_mem {s : ByteArray} {L : List ByteArray} (h : s ∈ L) : addB s L = L := by unfold addB; rw [if_pos h]
theorem addB_new {s : ByteArray} {L : List ByteArray} (h : ¬ s ∈ L) : addB s L = L ++ [s] := by unfold addB; rw [if_neg h]

theorem getD_mem {ids : List ByteArray} {p : Nat} (h : p < ids.length) : ids.getD p ⟨#[]⟩ ∈ ids := by
  simp [List.getD, h]

theorem Tab.shape {B : Nat} {W : World} {T : Nat} {own : Nat → Nat} {v : Value} {ids : List ByteArray} (h : Tab B W T own v ids) : ∃ a cap, v = .slice a ids.length cap ∧ RdS W a ids.length cap ids := own_rd h.row

set_option maxHeartbeats 1000000 in
theorem set25 {B : Nat} {W : World} {T : Nat} {own : Nat → Nat} {v : Value} {ids : List ByteArray} (h : Tab B W T own v ids) (hB : B ≤ W.heap.size) (hn : ids.length ≤ 5000) (sl : Nat) (hs : sl < 16384) (id : ByteArray) :
    Calls Try.prog 25 #[.pointer (some ⟨T, 0, none⟩), .int .i64 (sl : Int), .string id] W fun e W' => e = .returned (.tuple #[]) ∧ Hid (SetTo B W T own v ids sl id W') := by
  obtain ⟨a, cap, rfl, hr⟩ := h.shape
  have HT := hid h
  have HR := hid hr
  have hci := h.ids
  obtain ⟨n, hn'⟩ : ∃ n, n = ids.length := ⟨_, rfl⟩
  have HN := hid hn'
  rw [← hn'] at hci hn HT HR ⊢
  clear h hr hn'
  have hixA := idxArr Try.underlying29 sized28 .i64 T sl hs
  go_enter Try.func25, Try.ntmps25
  go_wp2_with fail
  refine (index_any HR.out (by omega) id).mono ?_
  rintro e w' ⟨r, rfl, rfl, HX⟩
  rcases HX.out with ⟨p, hp, rfl, hid'⟩ | ⟨rfl, hno⟩
  · have HP := hid hid'
    clear HX hid'
    have hcv : IntKind.u16.wrap (p : Int) = (p : Int) := IntWalk.u16_in _ (by omega)
    have hco := HT.out.own sl hs
    have hfr := HT.out.blk.free sl
    have HE : Hid (SetTo B W T own (.slice a n cap) ids sl id (W.setCell ⟨T, sl, none⟩ (.int .u16 (p : Int)))) := by
      have hm : id ∈ ids := by rw [← HP.out]; exact getD_mem (by rw [← HN.out]; exact hp)
      refine ⟨⟨p, _, ?_, ?_, ?_, Or.inl rfl⟩, (Tch.set W ⟨T, sl, none⟩ _).mono (fun b _ e => Or.inl e)⟩
      · rw [addB_mem hm]; exact HT.out.setOwn sl p hs
      · rw [addB_mem hm, ← HN.out]; exact hp
      · rw [addB_mem hm]; exact HP.out
    go_wp2
    go_end0
    exact ⟨rfl, HE⟩
  · have HNo := hid hno
    clear HX hno
    obtain ⟨i0, hi0, hz0, hz1, hz2⟩ := info_parts info9
    have hrow : W.ownsRow B 9 1 (.slice a n cap) n (ids.map .string) := by
      have h := HT.out.row
      rw [← HN.out] at h
      exact h
    have HRow := hid hrow
    clear hrow
    go_wp2_with (at_builtin; refine wpList_append_own_at _ rfl _ _ 23 rfl B 9 i0 (.string ⟨#[]⟩) 1 16 Try.underlying23 hi0 hz0 hz1 hz2 rfl (by decide) _ _ _ rfl (HRow.out.alloc _) ⟨W.heap.size, 0, none⟩ 1 1 [.string id] rfl rfl (cell_one_new _ _ _) ?c2 ?c3 ?c4 ?c5 ?_)
    case c2 => first | (intro u hu; simp at hu; subst hu; rfl) | rfl
    case c3 => unfold maxLen; omega
    case c4 => omega
    case c5 => first | omega | (simp; omega)
    intro v' W2 hown' hgrow hne hat
    obtain ⟨a', cap', rfl⟩ : ∃ a' cap', v' = .slice a' (n + 1) cap' := by
      rcases hown'.2 with ⟨hv, hz⟩ | ⟨g, c', cur, hv, _⟩
      · omega
      · exact ⟨_, _, hv⟩
    generalize hv' : Value.slice a' (n + 1) cap' = v' at *
    have hb2 : Blk W2 T 57 16386 (tabG own (.slice a n cap)) := (HT.out.blk.keep (Tch.alloc W _ (fun _ => False)) (fun h => h)).keep (Tch.grown hgrow) (fun e => HT.out.apart e.symm)
    have hc2 : W2.cell? ⟨T, 16384, none⟩ = some (.slice a n cap) := by
      rw [hb2.cell 16384 (by omega)]; rfl
    have hf2 := hb2.free 16384
    have hap := hb2.notRow hown' (by decide)
    have hrow3 := ownsRow_keep hown' (Tch.set W2 ⟨T, 16384, none⟩ v') (fun g hg e => hap (by rw [hg, e]))
    have hb3 : Blk (W2.setCell ⟨T, 16384, none⟩ v') T 57 16386 (tabG own v') := (hb2.set 16384 v').congr (fun s _ => by
      unfold tabG
      by_cases e : s = 16384
      · subst e; rfl
      · rw [if_neg e, if_neg e, if_neg e])
    have hT3 : Tab B (W2.setCell ⟨T, 16384, none⟩ v') T own v' (addB id ids) := by
      refine ⟨HT.out.tb, hb3, ?_⟩
      rw [addB_new HNo.out, List.map_append, List.length_append, ← HN.out]
      exact hrow3
    have hco : (W2.setCell ⟨T, 16384, none⟩ v').cell? ⟨T, sl, none⟩ = some (.int .u16 (own sl)) := hT3.own sl hs
    have hfr := hb3.free sl
    have hcv : IntKind.u16.wrap (n : Int) = (n : Int) := IntWalk.u16_in _ (by omega)
    have htw : Tch W W2 (fun b => b = T ∨ (Value.slice a n cap).ownBlock = some b) := (Tch.alloc W _ _).trans (Tch.grown hgrow) (fun b _ e => Or.inr e.symm)
    have HE : Hid (SetTo B W T own (.slice a n cap) ids sl id ((W2.setCell ⟨T, 16384, none⟩ v').setCell ⟨T, sl, none⟩ (.int .u16 (n : Int)))) := by
      refine ⟨⟨n, v', hT3.setOwn sl n hs, ?_, ?_, ?_⟩, ?_⟩
      · rw [addB_new HNo.out, List.length_append, ← HN.out]; simp
      · rw [addB_new HNo.out]; simp [List.getD, HN.out]
      · rcases hat with e | e
        · exact Or.inl e
        · exact Or.inr ⟨_, e, by omega⟩
      · exact (htw.trans (Tch.set W2 _ _) (fun b _ e => Or.inl e)).trans (Tch.set _ _ _) (fun b _ e => Or.inl e)
    clear hb2 hap hrow3 hb3 hT3 htw hown' hgrow hne hat
    subst hv'
    go_wp2
    go_end0
    exact ⟨rfl, HE⟩

theorem set11 {B : Nat} {W : World} {T : Nat} {own : Nat → Nat} {v : Value} {ids : List ByteArray} (h : Tab B W T own v ids) (hB : B ≤ W.heap.size) (hn : ids.length ≤ 5000) (sl : Nat) (hs : sl < 16384) (id : ByteArray) :
    Calls Try.prog 11 #[.pointer (some ⟨T, 0, none⟩), .int .i64 (sl : Int), .string id] W fun e W' => e = .returned (.tuple #[]) ∧ Hid (SetTo B W T own v ids sl id W') := by
  have HT := hid h
  clear h
  go_enter Try.func11, Try.ntmps11
  go_wp2_with fail
  refine (set25 HT.out hB hn sl hs id).mono ?_
  rintro e w' ⟨rfl, HE⟩
  go_wp2
  go_end0
  exact ⟨rfl, HE⟩
end Go.Proofs.Qxb6608555a
