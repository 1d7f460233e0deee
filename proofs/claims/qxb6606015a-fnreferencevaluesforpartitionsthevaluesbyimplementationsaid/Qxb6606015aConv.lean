/-
  WALKS: toComp, toComps, toRV, toCert, ZZnewAttestationKey.
-/
import Derived.Test.Qxb6606015aSizes
namespace Go.Proofs.Qxb6606015a
open Go.RowKit
set_option linter.unusedVariables false
set_option linter.unusedSimpArgs false

/-- The blocks that have come between w and w'. -/
def Nw (w w' : World) : Nat → Prop := fun b => w.heap.size ≤ b ∧ b < w'.heap.size

theorem Ns.inside {p : Nat → Prop} {k : IntKind} {w : World} {v : Value} {zs : List Int} (h : Ns p k w v zs) : Ns (fun b => p b ∧ b < w.heap.size) k w v zs := by
  obtain ⟨ao, cap, e, h1, h2, h3, h4⟩ := h
  refine ⟨ao, cap, e, h1, h2, h3, fun i hi => ?_⟩
  obtain ⟨b, off, e2, hb, hc⟩ := h4 i hi
  exact ⟨b, off, e2, ⟨hb, World.block_lt_of_cell? w _ hc⟩, hc⟩
theorem Ps.inside {p : Nat → Prop} {w : World} {v : Value} {s : Option ByteArray} (h : Ps p w v s) : Ps (fun b => p b ∧ b < w.heap.size) w v s := by
  rcases h with h | ⟨b, off, str, e, hb, hc, r⟩
  · exact .inl h
  · exact .inr ⟨b, off, str, e, ⟨hb, World.block_lt_of_cell? w _ hc⟩, hc, r⟩

/-- What lies in the blocks between a and b stays while the world grows from b on. -/
theorem Nw.keeps {a b c : World} (h : Below b.heap.size b c) : Keeps (Nw a b) b c := fun x hx => h.block x hx.2
theorem Nw.set {a b : World} {R o : Nat} {v : Value} (h : R < a.heap.size) : Keeps (Nw a b) b (b.setCell ⟨R, o, none⟩ v) := fun x hx => Below.heap_setCell _ _ _ _ (by have := hx.1; simp; omega)
theorem Nw.mono {a b a' b' : World} (h1 : a'.heap.size ≤ a.heap.size) (h2 : b.heap.size ≤ b'.heap.size) : ∀ x, Nw a b x → Nw a' b' x := fun x hx => ⟨Nat.le_trans h1 hx.1, Nat.lt_of_lt_of_le hx.2 h2⟩

theorem cloneBytes_val {p : Nat → Prop} (v : Value) (zs : List Int) (w : World) (h : Ns p .u8 w v zs) :
    Calls Try.prog 9 #[v] w fun e w' => ∃ ao n cap, e = .returned (.slice ao n cap) ∧ Hid (Ns (Nw w w') .u8 w' (.slice ao n cap) zs) ∧ Hid (Below w.heap.size w w') :=
  (cloneBytes_any v zs w h).mono fun e w' ⟨v', he, hn, hb⟩ => by
    obtain ⟨ao, cap, rfl, _, _⟩ := hn.shape
    exact ⟨_, _, _, he, hn.inside, hb⟩

theorem cloneStr_val {p : Nat → Prop} (v : Value) (s : Option ByteArray) (w : World) (h : Ps p w v s) :
    Calls Try.prog 39 #[v] w fun e w' => ∃ po, e = .returned (.pointer po) ∧ Hid (Ps (Nw w w') w' (.pointer po) s) ∧ Hid (Below w.heap.size w w') :=
  (cloneStr_any v s w h).mono fun e w' ⟨v', he, hn, hb⟩ => by
    have : ∃ po, v' = .pointer po := by
      rcases hn with ⟨rfl, _⟩ | ⟨b, off, str, rfl, _⟩ <;> exact ⟨_, rfl⟩
    obtain ⟨po, rfl⟩ := this
    exact ⟨_, he, hn.inside, hb⟩

/-- What a cell holds, as a value (a name that no rule lays open). -/
def got (w : World) (b o : Nat) : Value := (w.cell? ⟨b, o, none⟩).getD undef

/-- Below block R all is as it was in W0; block R is a row of n cells of type t, none frozen. -/
def Core (R : Nat) (W0 : World) (n t : Nat) (w' : World) : Prop := Below R W0 w' ∧ ∃ c, w'.heap[R]? = some (.cells c t (0, 0)) ∧ c.size = n

theorem Core.lt {R : Nat} {W0 : World} {n t : Nat} {w' : World} (h : Core R W0 n t w') : R < w'.heap.size := by
  obtain ⟨_, c, hc, _⟩ := h
  exact (Array.getElem?_eq_some_iff.1 hc).1

theorem Core.below {R : Nat} {W0 : World} {n t : Nat} {w1 w2 : World} (h : Core R W0 n t w1) (hb : Below w1.heap.size w1 w2) : Core R W0 n t w2 := by
  have hlt := h.lt
  obtain ⟨h1, c, hc, hs⟩ := h
  exact ⟨h1.trans (hb.mono (by omega)), c, (hb.block R hlt).trans hc, hs⟩

theorem Core.drew {R : Nat} {W0 : World} {n t : Nat} {w1 : World} (h : Core R W0 n t w1) : Core R W0 n t w1.drew := by
  obtain ⟨h1, c, hc, hs⟩ := h
  exact ⟨h1.drew, c, hc, hs⟩

theorem Core.set {R : Nat} {W0 : World} {n t : Nat} {w1 : World} (h : Core R W0 n t w1) (o : Nat) (v : Value) : Core R W0 n t (w1.setCell ⟨R, o, none⟩ v) := by
  obtain ⟨h1, c, hc, hs⟩ := h
  refine ⟨h1.setCell (Nat.le_refl _) _, c.setIfInBounds o v, ?_, by simp [hs]⟩
  simp [World.setCell, Array.getElem?_modify, hc]

theorem Core.got {R : Nat} {W0 : World} {n t : Nat} {w1 : World} (h : Core R W0 n t w1) {o : Nat} (ho : o < n) : w1.cell? ⟨R, o, none⟩ = some (got w1 R o) := by
  obtain ⟨h1, c, hc, hs⟩ := h
  have : w1.cell? ⟨R, o, none⟩ = some c[o] := by simp [World.cell?, hc, show o < c.size by omega]
  simp [Qxb6606015a.got, this]

theorem Core.free {R : Nat} {W0 : World} {n t : Nat} {w1 : World} (h : Core R W0 n t w1) (o : Nat) : w1.frozen? ⟨R, o, none⟩ = false := by
  obtain ⟨h1, c, hc, hs⟩ := h
  simp [World.frozen?, hc]

theorem Core.cell {R : Nat} {W0 : World} {n t : Nat} {w1 : World} (h : Core R W0 n t w1) {b o : Nat} (hb : b < R) : w1.cell? ⟨b, o, none⟩ = W0.cell? ⟨b, o, none⟩ := h.1.cell hb

theorem heap_two (w : World) (c1 c2 : Array Value) (t1 t2 : Nat) : ((w.alloc (.cells c1 t1)).alloc (.cells c2 t2)).heap[w.heap.size + 1]? = some (.cells c2 t2 (0, 0)) := by
  show ((w.heap.push _).push _)[w.heap.size + 1]? = _
  rw [Array.getElem?_push, if_pos (by simp)]
theorem heap_two0 (w : World) (c1 c2 : Array Value) (t1 t2 : Nat) : ((w.alloc (.cells c1 t1)).alloc (.cells c2 t2)).heap[w.heap.size]? = some (.cells c1 t1 (0, 0)) := by
  show ((w.heap.push _).push _)[w.heap.size]? = _
  rw [Array.getElem?_push, if_neg (by simp), Array.getElem?_push, if_pos rfl]
theorem below_two (w : World) (c1 c2 : Array Value) (t1 t2 : Nat) : Below w.heap.size w ((w.alloc (.cells c1 t1)).alloc (.cells c2 t2)) :=
  ((Below.refl _ _).alloc (Nat.le_refl _) _).alloc (by simp) _

theorem cells_of_block {w : World} {b : Nat} {c : Array Value} {t : Nat} {fr : Nat × Nat} (h : w.heap[b]? = some (.cells c t fr)) (o : Nat) : w.cell? ⟨b, o, none⟩ = c[o]? := by
  simp [World.cell?, h]

theorem set3 {R : Nat} {W0 : World} {t : Nat} {w3 : World} (h : Core R W0 3 t w3) (hR : 0 < R + 1) (x0 x1 x2 : Value) :
    (((w3.setCell ⟨R, 0, none⟩ x0).setCell ⟨R, 1, none⟩ x1).setCell ⟨R, 2, none⟩ x2).cell? ⟨R, 0, none⟩ = some x0 ∧ (((w3.setCell ⟨R, 0, none⟩ x0).setCell ⟨R, 1, none⟩ x1).setCell ⟨R, 2, none⟩ x2).cell? ⟨R, 1, none⟩ = some x1 ∧ (((w3.setCell ⟨R, 0, none⟩ x0).setCell ⟨R, 1, none⟩ x1).setCell ⟨R, 2, none⟩ x2).cell? ⟨R, 2, none⟩ = some x2 ∧
    Below R w3 (((w3.setCell ⟨R, 0, none⟩ x0).setCell ⟨R, 1, none⟩ x1).setCell ⟨R, 2, none⟩ x2) ∧ (∀ a : World, R < a.heap.size → Keeps (Nw a w3) w3 (((w3.setCell ⟨R, 0, none⟩ x0).setCell ⟨R, 1, none⟩ x1).setCell ⟨R, 2, none⟩ x2)) ∧ (((w3.setCell ⟨R, 0, none⟩ x0).setCell ⟨R, 1, none⟩ x1).setCell ⟨R, 2, none⟩ x2).heap.size = w3.heap.size := by
  obtain ⟨h1, c, hc, hs⟩ := h
  have hblk : (((w3.setCell ⟨R, 0, none⟩ x0).setCell ⟨R, 1, none⟩ x1).setCell ⟨R, 2, none⟩ x2).heap[R]? = some (.cells (((c.setIfInBounds 0 x0).setIfInBounds 1 x1).setIfInBounds 2 x2) t (0, 0)) := by
    simp [World.setCell, Array.getElem?_modify, hc]
  have hb : Below R w3 (((w3.setCell ⟨R, 0, none⟩ x0).setCell ⟨R, 1, none⟩ x1).setCell ⟨R, 2, none⟩ x2) := (((Below.refl R w3).setCell (p := ⟨R, 0, none⟩) (Nat.le_refl R) x0).setCell (p := ⟨R, 1, none⟩) (Nat.le_refl R) x1).setCell (p := ⟨R, 2, none⟩) (Nat.le_refl R) x2
  refine ⟨?_, ?_, ?_, hb, fun a ha x hx => ?_, by simp [World.setCell]⟩
  · rw [cells_of_block hblk]; simp [Array.getElem?_setIfInBounds, hs]
  · rw [cells_of_block hblk]; simp [Array.getElem?_setIfInBounds, hs]
  · rw [cells_of_block hblk]; simp [Array.getElem?_setIfInBounds, hs]
  · have hne : x ≠ R := by have := hx.1; omega
    rw [Below.heap_setCell _ _ _ _ hne, Below.heap_setCell _ _ _ _ hne, Below.heap_setCell _ _ _ _ hne]

set_option maxHeartbeats 1000000 in
theorem toComp_any {p : Nat → Prop} (c0 c1 c2 : Value) (d : CompD) (w : World) (h : CompAt p w c0 c1 c2 d) (hp : ∀ b, p b → b < w.heap.size) :
    Calls Try.prog 33 #[.agg #[c0, c1, c2]] w fun e w' => ∃ po0 po1 ao n cap, e = .returned (.agg #[.pointer po0, .pointer po1, .slice ao n cap]) ∧ Hid (CompAt (Nw w w') w' (.pointer po0) (.pointer po1) (.slice ao n cap) d) ∧ Hid (Below w.heap.size w w') := by
  have HC : Hid (CompAt p w c0 c1 c2 d) := h
  have HP : Hid (∀ b, p b → b < w.heap.size) := hp
  clear h hp
  go_enter Try.func33, Try.ntmps33
  go_wp2
  have F0 := heap_two0 w #[c0, c1, c2] #[Value.pointer none, Value.pointer none, Value.slice none 0 0] 51 56
  have F1 := heap_two w #[c0, c1, c2] #[Value.pointer none, Value.pointer none, Value.slice none 0 0] 51 56
  have F2 := below_two w #[c0, c1, c2] #[Value.pointer none, Value.pointer none, Value.slice none 0 0] 51 56
  generalize (w.alloc (.cells #[c0, c1, c2] 51)).alloc (.cells #[Value.pointer none, Value.pointer none, Value.slice none 0 0] 56) = W0 at F0 F1 F2 ⊢
  have HCore : Hid (Core (w.heap.size + 1) W0 3 56 W0) := ⟨Below.refl _ _, _, F1, rfl⟩
  have HF2 : Hid (Below w.heap.size w W0) := F2
  have SH : Hid (∀ w', Core (w.heap.size + 1) W0 3 56 w' → w'.cell? ⟨w.heap.size, 0, none⟩ = some c0 ∧ w'.cell? ⟨w.heap.size, 1, none⟩ = some c1 ∧ w'.cell? ⟨w.heap.size, 2, none⟩ = some c2 ∧ (∀ o, o < 3 → w'.cell? ⟨w.heap.size + 1, o, none⟩ = some (got w' (w.heap.size + 1) o)) ∧ (∀ o, w'.frozen? ⟨w.heap.size + 1, o, none⟩ = false) ∧ Hid (Core (w.heap.size + 1) W0 3 56 w')) := by
    intro w' hc
    refine ⟨?_, ?_, ?_, fun o ho => hc.got ho, hc.free, hc⟩
    all_goals
      rw [hc.cell (by omega), cells_of_block F0]
      rfl
  have HK : Hid (∀ w', Hid (Core (w.heap.size + 1) W0 3 56 w') → CompAt p w' c0 c1 c2 d) := fun w' hc =>
    HC.out.keep (fun b hb => (hc.out.1.block b (by have := HP.out b hb; omega)).trans (F2.block b (HP.out b hb)))
  clear F0 F1 F2
  go_region_held3 (fun w' => w'.cell? ⟨w.heap.size, 0, none⟩ = some c0 ∧ w'.cell? ⟨w.heap.size, 1, none⟩ = some c1 ∧ w'.cell? ⟨w.heap.size, 2, none⟩ = some c2 ∧ (∀ o, o < 3 → w'.cell? ⟨w.heap.size + 1, o, none⟩ = some (got w' (w.heap.size + 1) o)) ∧ (∀ o, w'.frozen? ⟨w.heap.size + 1, o, none⟩ = false) ∧ Hid (Core (w.heap.size + 1) W0 3 56 w'))
    (first | exact SH.out _ HCore.out.drew | assumption | exact SH.out _ (((Core.set (‹_ ∧ _ ∧ _ ∧ _ ∧ _ ∧ Hid (Core _ _ _ _ _)›).2.2.2.2.2.out _ _).set _ _).set _ _) | (trace_state; fail))
    (first | (go_at_call_of 39 c0; have hh := (‹_ ∧ _ ∧ _ ∧ _ ∧ _ ∧ Hid (Core _ _ _ _ _)›).2.2.2.2.2; refine (cloneStr_val c0 d.mt _ (HK.out _ hh).1).mono ?_; rintro e w1 ⟨po0, rfl, hps0, hb0⟩; have hS1 := SH.out _ (Core.below hh.out hb0.out); clear hh) | (go_at_call_of 39 c1; have hh := (‹_ ∧ _ ∧ _ ∧ _ ∧ _ ∧ Hid (Core _ _ _ _ _)›).2.2.2.2.2; refine (cloneStr_val c1 d.ver _ (HK.out _ hh).2.1).mono ?_; rintro e w2 ⟨po1, rfl, hps1, hb1⟩; have hS2 := SH.out _ (Core.below hh.out hb1.out); clear hh) | (go_at_call 9; have hh := (‹_ ∧ _ ∧ _ ∧ _ ∧ _ ∧ Hid (Core _ _ _ _ _)›).2.2.2.2.2; refine (cloneBytes_val c2 d.sig _ (HK.out _ hh).2.2).mono ?_; rintro e w3 ⟨ao, n, cap, rfl, hps2, hb2⟩; have hS3 := SH.out _ (Core.below hh.out hb2.out); clear hh))
  have G := set3 hS3.2.2.2.2.2.out (by omega) (.pointer po0) (.pointer po1) (.slice ao n cap)
  have HBw : Hid (Below w.heap.size w w3) := HF2.out.trans (hS3.2.2.2.2.2.out.1.mono (by omega))
  have hlt3 : w.heap.size + 1 < w3.heap.size := hS3.2.2.2.2.2.out.lt
  have hlt0 : w.heap.size + 1 < W0.heap.size := HCore.out.lt
  have hs1 := hb0.out.size
  have hs2 := hb1.out.size
  have hs3 := hb2.out.size
  have HFC : Hid (CompAt (Nw w w3) w3 (.pointer po0) (.pointer po1) (.slice ao n cap) d ∧ CompAt (Nw W0 w3) w3 (.pointer po0) (.pointer po1) (.slice ao n cap) d) := by
    have f1 := ((hps0.out.keep (Nw.keeps hb1.out)).mono (Nw.mono (a' := W0) (b' := w2) (Nat.le_refl _) hs2)).keep (Nw.keeps hb2.out)
    have f2 := hps1.out.keep (Nw.keeps hb2.out)
    have g : CompAt (Nw W0 w3) w3 (.pointer po0) (.pointer po1) (.slice ao n cap) d :=
      ⟨f1.mono (Nw.mono (Nat.le_refl _) hs3), f2.mono (Nw.mono hs1 hs3), hps2.out.mono (Nw.mono (Nat.le_trans hs1 hs2) (Nat.le_refl _))⟩
    exact ⟨g.mono (Nw.mono (by omega) (Nat.le_refl _)), g⟩
  have HF : Hid (CompAt (Nw w (((w3.setCell ⟨w.heap.size + 1, 0, none⟩ (.pointer po0)).setCell ⟨w.heap.size + 1, 1, none⟩ (.pointer po1)).setCell ⟨w.heap.size + 1, 2, none⟩ (.slice ao n cap))) (((w3.setCell ⟨w.heap.size + 1, 0, none⟩ (.pointer po0)).setCell ⟨w.heap.size + 1, 1, none⟩ (.pointer po1)).setCell ⟨w.heap.size + 1, 2, none⟩ (.slice ao n cap)) (.pointer po0) (.pointer po1) (.slice ao n cap) d) :=
    (HFC.out.2.keep (G.2.2.2.2.1 W0 hlt0)).mono (fun x hx => ⟨by have := hx.1; omega, by rw [G.2.2.2.2.2]; exact hx.2⟩)
  have HBF : Hid (Below w.heap.size w (((w3.setCell ⟨w.heap.size + 1, 0, none⟩ (.pointer po0)).setCell ⟨w.heap.size + 1, 1, none⟩ (.pointer po1)).setCell ⟨w.heap.size + 1, 2, none⟩ (.slice ao n cap))) :=
    HBw.out.trans (G.2.2.2.1.mono (by omega))
  obtain ⟨q0, q1, q2, _⟩ := G
  clear HFC HBw hS1 hS2 hS3 hps0 hps1 hps2 hb0 hb1 hb2 SH HK HC HP HCore HF2
  rename_i hHeld
  clear hHeld
  generalize (((w3.setCell ⟨w.heap.size + 1, 0, none⟩ (.pointer po0)).setCell ⟨w.heap.size + 1, 1, none⟩ (.pointer po1)).setCell ⟨w.heap.size + 1, 2, none⟩ (.slice ao n cap)) = W4 at q0 q1 q2 HF HBF ⊢
  go_wp2
  exact bodyPost_ret (v := .agg #[.pointer po0, .pointer po1, .slice ao n cap]) (by simp [results, Try.results33, go_sem, q0, q1, q2]) rfl ⟨_, _, _, _, _, rfl, HF, HBF⟩
end Go.Proofs.Qxb6606015a
