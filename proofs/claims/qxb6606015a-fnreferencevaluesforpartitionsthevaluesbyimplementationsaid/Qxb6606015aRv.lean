/-
  WALKS: toRV.
-/
import Derived.Test.Qxb6606015aConv2
import Derived.Deep.DeepCutAuto
namespace Go.Proofs.Qxb6606015a
open Go.RowKit
set_option linter.unusedVariables false
set_option linter.unusedSimpArgs false

theorem set5 {R : Nat} {W0 : World} {t : Nat} {w3 : World} (h : Core R W0 5 t w3) (x0 x1 x2 x3 x4 : Value) :
    (((((w3.setCell ⟨R, 0, none⟩ x0).setCell ⟨R, 1, none⟩ x1).setCell ⟨R, 2, none⟩ x2).setCell ⟨R, 3, none⟩ x3).setCell ⟨R, 4, none⟩ x4).cell? ⟨R, 0, none⟩ = some x0 ∧ (((((w3.setCell ⟨R, 0, none⟩ x0).setCell ⟨R, 1, none⟩ x1).setCell ⟨R, 2, none⟩ x2).setCell ⟨R, 3, none⟩ x3).setCell ⟨R, 4, none⟩ x4).cell? ⟨R, 1, none⟩ = some x1 ∧ (((((w3.setCell ⟨R, 0, none⟩ x0).setCell ⟨R, 1, none⟩ x1).setCell ⟨R, 2, none⟩ x2).setCell ⟨R, 3, none⟩ x3).setCell ⟨R, 4, none⟩ x4).cell? ⟨R, 2, none⟩ = some x2 ∧ (((((w3.setCell ⟨R, 0, none⟩ x0).setCell ⟨R, 1, none⟩ x1).setCell ⟨R, 2, none⟩ x2).setCell ⟨R, 3, none⟩ x3).setCell ⟨R, 4, none⟩ x4).cell? ⟨R, 3, none⟩ = some x3 ∧ (((((w3.setCell ⟨R, 0, none⟩ x0).setCell ⟨R, 1, none⟩ x1).setCell ⟨R, 2, none⟩ x2).setCell ⟨R, 3, none⟩ x3).setCell ⟨R, 4, none⟩ x4).cell? ⟨R, 4, none⟩ = some x4 ∧
    Below R w3 (((((w3.setCell ⟨R, 0, none⟩ x0).setCell ⟨R, 1, none⟩ x1).setCell ⟨R, 2, none⟩ x2).setCell ⟨R, 3, none⟩ x3).setCell ⟨R, 4, none⟩ x4) ∧ (∀ a : World, R < a.heap.size → Keeps (Nw a w3) w3 (((((w3.setCell ⟨R, 0, none⟩ x0).setCell ⟨R, 1, none⟩ x1).setCell ⟨R, 2, none⟩ x2).setCell ⟨R, 3, none⟩ x3).setCell ⟨R, 4, none⟩ x4)) ∧ (((((w3.setCell ⟨R, 0, none⟩ x0).setCell ⟨R, 1, none⟩ x1).setCell ⟨R, 2, none⟩ x2).setCell ⟨R, 3, none⟩ x3).setCell ⟨R, 4, none⟩ x4).heap.size = w3.heap.size := by
  obtain ⟨h1, c, hc, hs⟩ := h
  have hblk : (((((w3.setCell ⟨R, 0, none⟩ x0).setCell ⟨R, 1, none⟩ x1).setCell ⟨R, 2, none⟩ x2).setCell ⟨R, 3, none⟩ x3).setCell ⟨R, 4, none⟩ x4).heap[R]? = some (.cells (((((c.setIfInBounds 0 x0).setIfInBounds 1 x1).setIfInBounds 2 x2).setIfInBounds 3 x3).setIfInBounds 4 x4) t (0, 0)) := by
    simp [World.setCell, Array.getElem?_modify, hc]
  have hb : Below R w3 (((((w3.setCell ⟨R, 0, none⟩ x0).setCell ⟨R, 1, none⟩ x1).setCell ⟨R, 2, none⟩ x2).setCell ⟨R, 3, none⟩ x3).setCell ⟨R, 4, none⟩ x4) := (((((Below.refl R w3).setCell (p := ⟨R, 0, none⟩) (Nat.le_refl R) x0).setCell (p := ⟨R, 1, none⟩) (Nat.le_refl R) x1).setCell (p := ⟨R, 2, none⟩) (Nat.le_refl R) x2).setCell (p := ⟨R, 3, none⟩) (Nat.le_refl R) x3).setCell (p := ⟨R, 4, none⟩) (Nat.le_refl R) x4
  refine ⟨?_, ?_, ?_, ?_, ?_, hb, fun a ha x hx => ?_, by simp [World.setCell]⟩
  · rw [cells_of_block hblk]; simp [Array.getElem?_setIfInBounds, hs]
  · rw [cells_of_block hblk]; simp [Array.getElem?_setIfInBounds, hs]
  · rw [cells_of_block hblk]; simp [Array.getElem?_setIfInBounds, hs]
  · rw [cells_of_block hblk]; simp [Array.getElem?_setIfInBounds, hs]
  · rw [cells_of_block hblk]; simp [Array.getElem?_setIfInBounds, hs]
  · have hne : x ≠ R := by have := hx.1; omega
    rw [Below.heap_setCell _ _ _ _ hne, Below.heap_setCell _ _ _ _ hne, Below.heap_setCell _ _ _ _ hne, Below.heap_setCell _ _ _ _ hne, Below.heap_setCell _ _ _ _ hne]

/-- Of the row K (m cells) the first k hold slices of bytes, in blocks behind K: what 'ds' says. -/
def DigRow (K m k : Nat) (ds : List (List Int)) (wr : World) : Prop :=
  ∃ c, wr.heap[K]? = some (.cells c 25 (0, 0)) ∧ c.size = m ∧ ∀ j, j < k → ∃ v, c[j]? = some v ∧ Ns (fun b => K < b ∧ b < wr.heap.size) .u8 wr v (ds.getD j [])

theorem DigRow.lt {K m k : Nat} {ds : List (List Int)} {wr : World} (h : DigRow K m k ds wr) : K < wr.heap.size := by
  obtain ⟨c, hc, _⟩ := h
  exact (Array.getElem?_eq_some_iff.1 hc).1

theorem DigRow.below {K m k : Nat} {ds : List (List Int)} {wr w1 : World} (h : DigRow K m k ds wr) (hb : Below wr.heap.size wr w1) : DigRow K m k ds w1 := by
  have hlt := h.lt
  obtain ⟨c, hc, hs, hj⟩ := h
  refine ⟨c, (hb.block K hlt).trans hc, hs, fun j hjk => ?_⟩
  obtain ⟨v, hv, hn⟩ := hj j hjk
  exact ⟨v, hv, (hn.keep (fun b hb' => hb.block b hb'.2)).mono (fun b hb' => ⟨hb'.1, Nat.lt_of_lt_of_le hb'.2 hb.size⟩)⟩

theorem DigRow.set {K m k : Nat} {ds : List (List Int)} {wr : World} (h : DigRow K m k ds wr) (hk : k < m) {v : Value} (hn : Ns (fun b => K < b ∧ b < wr.heap.size) .u8 wr v (ds.getD k [])) : DigRow K m (k + 1) ds (wr.setCell ⟨K, k, none⟩ v) := by
  obtain ⟨c, hc, hs, hj⟩ := h
  have hkp : Keeps (fun b => K < b ∧ b < wr.heap.size) wr (wr.setCell ⟨K, k, none⟩ v) := fun b hb => Below.heap_setCell _ _ _ _ (by have := hb.1; simp; omega)
  have hsz : (wr.setCell ⟨K, k, none⟩ v).heap.size = wr.heap.size := by simp [World.setCell]
  refine ⟨c.setIfInBounds k v, by simp [World.setCell, Array.getElem?_modify, hc], by simp [hs], fun j hjk => ?_⟩
  by_cases e : j = k
  · subst e
    refine ⟨v, by simp [Array.getElem?_setIfInBounds, hs, hk], ?_⟩
    rw [hsz]; exact hn.keep hkp
  · obtain ⟨u, hu, hnu⟩ := hj j (by omega)
    refine ⟨u, by rw [Array.getElem?_setIfInBounds, if_neg (fun x => e x.symm)]; exact hu, ?_⟩
    rw [hsz]; exact hnu.keep hkp

theorem DigRow.done {K : Nat} {ds : List (List Int)} {wr : World} (h : DigRow K ds.length ds.length ds wr) (hl : ds.length * 24 ≤ 140737488355328) : DigsAt (fun b => K ≤ b ∧ b < wr.heap.size) wr (.slice (some ⟨K, 0, none⟩) ds.length ds.length) ds := by
  have hlt := h.lt
  obtain ⟨c, hc, hs, hj⟩ := h
  refine ⟨_, _, rfl, (fun e => by cases e), Nat.le_refl _, hl, fun i hi => ?_⟩
  obtain ⟨v, hv, hn⟩ := hj i hi
  refine ⟨K, 0, [v], rfl, ⟨Nat.le_refl _, hlt⟩, rfl, fun j hj1 => ?_, v, rfl, hn.mono (fun b hb => ⟨Nat.le_of_lt hb.1, hb.2⟩)⟩
  have : j = 0 := by omega
  subst this
  simp only [Nat.zero_add, Nat.mul_one, Nat.add_zero, List.getD_cons_zero]
  rw [cells_of_block hc]; exact hv

theorem digRow_made (w : World) (z : Array Value) (m : Nat) (ds : List (List Int)) : DigRow w.heap.size m 0 ds (w.alloc (.cells (madeCells z m) 25)) :=
  ⟨madeCells z m, by show (w.heap.push _)[w.heap.size]? = _; simp, size_madeCells _ _, fun j hj => by omega⟩

theorem info25 : (Try.prog.info? 25).map (fun i => (i.zero, i.size, i.bytes)) = some (some (.slice none 0 0), 1, 24) := by kernel_rfl

set_option maxHeartbeats 2000000 in
theorem toRV_any {p : Nat → Prop} (c0 c1 c2 c3 c4 : Value) (r : RvD) (w : World) (h0 : Ns p .u8 w c0 r.impl) (h1 : CompAt p w c1 c2 c3 r.comp) (h4 : DigsAt p w c4 r.digs) (hp : ∀ b, p b → b < w.heap.size) :
    Calls Try.prog 21 #[.agg #[c0, c1, c2, c3, c4]] w fun e w' => ∃ a0 n0 p0 po0 po1 a3 n3 p3 a4 n4 p4, e = .returned (.agg #[.slice a0 n0 p0, .pointer po0, .pointer po1, .slice a3 n3 p3, .slice a4 n4 p4]) ∧
      Hid (RvAt (Nw w w') w' r [.slice a0 n0 p0, .pointer po0, .pointer po1, .slice a3 n3 p3, .slice a4 n4 p4]) ∧ Hid (Below w.heap.size w w') := by
  obtain ⟨a4, cp4, rfl, hl4, hn4⟩ := Sl.shape h4
  have H0 : Hid (Ns p .u8 w c0 r.impl) := h0
  have H1 : Hid (CompAt p w c1 c2 c3 r.comp) := h1
  have H4 : Hid (DigsAt p w (.slice a4 r.digs.length cp4) r.digs) := h4
  have HP : Hid (∀ b, p b → b < w.heap.size) := hp
  have HN : Hid (a4 = none → r.digs.length = 0) := hn4
  clear h0 h1 h4 hp hn4
  go_enter Try.func21, Try.ntmps21
  go_upto_if 7 with fail
  have F0 := heap_two0 w #[c0, c1, c2, c3, .slice a4 r.digs.length cp4] #[Value.slice none 0 0, Value.pointer none, Value.pointer none, Value.slice none 0 0, Value.slice none 0 0] 54 58
  have F1 := heap_two w #[c0, c1, c2, c3, .slice a4 r.digs.length cp4] #[Value.slice none 0 0, Value.pointer none, Value.pointer none, Value.slice none 0 0, Value.slice none 0 0] 54 58
  have F2 := below_two w #[c0, c1, c2, c3, .slice a4 r.digs.length cp4] #[Value.slice none 0 0, Value.pointer none, Value.pointer none, Value.slice none 0 0, Value.slice none 0 0] 54 58
  have F3 : ((w.alloc (.cells #[c0, c1, c2, c3, .slice a4 r.digs.length cp4] 54)).alloc (.cells #[Value.slice none 0 0, Value.pointer none, Value.pointer none, Value.slice none 0 0, Value.slice none 0 0] 58)).heap.size = w.heap.size + 2 := by simp
  generalize (w.alloc (.cells #[c0, c1, c2, c3, .slice a4 r.digs.length cp4] 54)).alloc (.cells #[Value.slice none 0 0, Value.pointer none, Value.pointer none, Value.slice none 0 0, Value.slice none 0 0] 58) = W0 at F0 F1 F2 F3 ⊢
  have HF0 : Hid (W0.heap[w.heap.size]? = some (.cells #[c0, c1, c2, c3, .slice a4 r.digs.length cp4] 54 (0, 0))) := F0
  have HF1 : Hid (Core (w.heap.size + 1) W0 5 58 W0) := ⟨Below.refl _ _, _, F1, rfl⟩
  have HF2 : Hid (Below w.heap.size w W0) := F2
  have HF3 : Hid (W0.heap.size = w.heap.size + 2) := F3
  clear F0 F1 F2 F3
  go_cut [3] (fun v wc => ∃ x n cp, v = .slice x n cp ∧ Hid (Below W0.heap.size W0 wc) ∧ Hid (DigsAt (fun b => W0.heap.size ≤ b ∧ b < wc.heap.size) wc (.slice x n cp) r.digs))
  case first =>
    cases a4 with
    | none =>
      have HZ : Hid (r.digs.length = 0) := HN.out rfl
      go_wp2
      go_meet
      case rel => exact ⟨_, _, _, rfl, Below.refl _ _, none, 0, by rw [HZ.out], fun _ => ⟨HZ.out, rfl⟩, by rw [HZ.out]; omega, by omega, fun i hi => by rw [HZ.out] at hi; omega⟩
    | some a =>
      have hl4' : r.digs.length ≤ 140737488355328 := by omega
      have hmk := make_eq Try.underlying52 info25 r.digs.length (by omega) (by omega)
      have e4 : W0.cell? ⟨w.heap.size, 4, none⟩ = some (.slice (some a) r.digs.length cp4) := by rw [cells_of_block HF0.out]; rfl
      go_wp2
      have hR := digRow_made W0 #[.slice none 0 0] r.digs.length r.digs
      have hB : Below W0.heap.size W0 (W0.alloc (.cells (madeCells #[.slice none 0 0] r.digs.length) 25)) := (Below.refl _ _).alloc (Nat.le_refl _) _
      clear hmk
      generalize W0.alloc (.cells (madeCells #[.slice none 0 0] r.digs.length) 25) = W1 at hR hB ⊢
      have HR : Hid (DigRow W0.heap.size r.digs.length 0 r.digs W1) := hR
      have HB : Hid (Below W0.heap.size W0 W1) := hB
      clear hR hB
      have hix := fun (k : Nat) (hk : k < r.digs.length) w' => idx_eq Try.underlying52 sized25 W0.heap.size 0 r.digs.length r.digs.length k hk w'
      simp only [Nat.zero_add, Nat.mul_one] at hix
      have HIX : Hid (∀ (k : Nat), k < r.digs.length → ∀ w', (Instr.indexAt 52 (.slice (some ⟨W0.heap.size, 0, none⟩) r.digs.length r.digs.length) (.int .i64 (k : Int))).run Try.prog w' = .ok (.pointer (some ⟨W0.heap.size, k, none⟩)) w') := hix
      clear hix
      go_loopg [4] r.digs.length (fun g i wr => ∃ k : Nat, Hid (k + g = r.digs.length) ∧ i = .int .i64 k ∧ Hid (DigRow W0.heap.size r.digs.length k r.digs wr) ∧ Hid (Below W0.heap.size W0 wr))
      case atStart => exact ⟨0, Nat.zero_add _, rfl, HR, HB⟩
      case round =>
        clear HR HB
        obtain ⟨k, HG, rfl, HR, HB⟩ := hrel
        have hk : k ≤ r.digs.length := by have := HG.out; omega
        have e4r : wr.cell? ⟨w.heap.size, 4, none⟩ = some (.slice (some a) r.digs.length cp4) := (HB.out.cell (by have := HF3.out; simp; omega)).trans e4
        clear e4
        by_cases hlt : k < r.digs.length
        · have hk' : Keeps p w wr := fun b hb => (HB.out.block b (by have := HP.out b hb; have := HF3.out; omega)).trans (HF2.out.block b (HP.out b hb))
          obtain ⟨b', o', cs, hi', hb', hlen', hc', c, rfl, hkc⟩ := Sl.at (H4.out.keep hk') Try.underlying52 sized25 k hlt
          have ec := hc' 0 (by omega)
          simp only [Nat.add_zero, List.getD_cons_zero] at ec
          have HKC : Hid (Ns p .u8 wr c (r.digs.getD k [])) := hkc
          have hix := HIX.out k hlt
          clear hc' hlen' hkc hk' hb'
          go_wp2_with fail
          refine (cloneBytes_val c _ wr HKC.out).mono ?_
          rintro e w1 ⟨ao, n, cap, rfl, hps, hb⟩
          have hlt1 := HR.out.lt
          have HR1 : Hid (DigRow W0.heap.size r.digs.length k r.digs w1) := HR.out.below hb.out
          have HS1 : Hid (DigRow W0.heap.size r.digs.length (k + 1) r.digs (w1.setCell ⟨W0.heap.size, k, none⟩ (.slice ao n cap))) :=
            HR1.out.set hlt (hps.out.mono (fun b hb => ⟨by have := hb.1; omega, hb.2⟩))
          have HB1 : Hid (Below W0.heap.size W0 (w1.setCell ⟨W0.heap.size, k, none⟩ (.slice ao n cap))) :=
            (HB.out.trans (hb.out.mono HB.out.size)).setCell (Nat.le_refl _) _
          have hcc : ∃ u, w1.cell? ⟨W0.heap.size, k, none⟩ = some u ∧ w1.frozen? ⟨W0.heap.size, k, none⟩ = false := by
            obtain ⟨c', hc', hs', _⟩ := HR1.out
            exact ⟨c'[k], by rw [cells_of_block hc']; simp [show k < c'.size by omega], by simp [World.frozen?, hc']⟩
          obtain ⟨u, hu, hf⟩ := hcc
          clear e4r hi' ec HKC hps hb HR HB HR1
          go_wp2
          go_roundg (gk - 1)
          case measure => have := HG.out; omega
          case rel => exact ⟨k + 1, by have := HG.out; show _ = _; omega, by go_num, HS1, HB1⟩
        · go_wp2
          go_meet
          case rel =>
            have e : k = r.digs.length := by omega
            subst e
            exact ⟨_, _, _, rfl, HB, HR.out.done hl4⟩
  case rest =>
    obtain ⟨x4, n4, p4, rfl, HBc, HDc⟩ := hcut
    have HCr : Hid (Core (w.heap.size + 1) W0 5 58 wc) := by
      obtain ⟨c, hc, hs⟩ := HF1.out.2
      exact ⟨HBc.out.mono (by have := HF3.out; omega), c, (HBc.out.block _ (by have := HF3.out; omega)).trans hc, hs⟩
    have SH : Hid (∀ w', Core (w.heap.size + 1) W0 5 58 w' → w'.cell? ⟨w.heap.size, 0, none⟩ = some c0 ∧ w'.cell? ⟨w.heap.size, 1, none⟩ = some c1 ∧ w'.cell? ⟨w.heap.size, 2, none⟩ = some c2 ∧ w'.cell? ⟨w.heap.size, 3, none⟩ = some c3 ∧ (∀ o, o < 5 → w'.cell? ⟨w.heap.size + 1, o, none⟩ = some (got w' (w.heap.size + 1) o)) ∧ (∀ o, w'.frozen? ⟨w.heap.size + 1, o, none⟩ = false) ∧ Hid (Core (w.heap.size + 1) W0 5 58 w')) := by
      intro w' hc
      refine ⟨?_, ?_, ?_, ?_, fun o ho => hc.got ho, hc.free, hc⟩
      all_goals
        rw [hc.cell (by omega), cells_of_block HF0.out]
        rfl
    have HK : Hid (∀ w', Hid (Core (w.heap.size + 1) W0 5 58 w') → Ns p .u8 w' c0 r.impl ∧ CompAt p w' c1 c2 c3 r.comp ∧ ∀ b, p b → b < w'.heap.size) := fun w' hc => by
      have hk : Keeps p w w' := fun b hb => (hc.out.1.block b (by have := HP.out b hb; omega)).trans (HF2.out.block b (HP.out b hb))
      exact ⟨H0.out.keep hk, H1.out.keep hk, fun b hb => by have := HP.out b hb; have := hc.out.lt; omega⟩
    go_wp2_with fail
    go_region_held3 (fun w' => w'.cell? ⟨w.heap.size, 0, none⟩ = some c0 ∧ w'.cell? ⟨w.heap.size, 1, none⟩ = some c1 ∧ w'.cell? ⟨w.heap.size, 2, none⟩ = some c2 ∧ w'.cell? ⟨w.heap.size, 3, none⟩ = some c3 ∧ (∀ o, o < 5 → w'.cell? ⟨w.heap.size + 1, o, none⟩ = some (got w' (w.heap.size + 1) o)) ∧ (∀ o, w'.frozen? ⟨w.heap.size + 1, o, none⟩ = false) ∧ Hid (Core (w.heap.size + 1) W0 5 58 w'))
      (first | with_reducible exact SH.out _ HCr.out.drew | with_reducible exact hS1 | with_reducible exact hS2 | with_reducible exact SH.out _ (((((Core.set hS2.2.2.2.2.2.2.out _ _).set _ _).set _ _).set _ _).set _ _))
      (first | (go_at_call 9; have hh := (‹_ ∧ _ ∧ _ ∧ _ ∧ _ ∧ _ ∧ Hid (Core _ _ _ _ _)›).2.2.2.2.2.2; refine (cloneBytes_val c0 r.impl _ (HK.out _ hh).1).mono ?_; rintro e w1 ⟨a0, n0, p0, rfl, hps0, hb0⟩; have hS1 := SH.out _ (Core.below hh.out hb0.out); clear hh) | (go_at_call 33; have hh := (‹_ ∧ _ ∧ _ ∧ _ ∧ _ ∧ _ ∧ Hid (Core _ _ _ _ _)›).2.2.2.2.2.2; refine (toComp_any c1 c2 c3 r.comp _ (HK.out _ hh).2.1 (HK.out _ hh).2.2).mono ?_; rintro e w2 ⟨po0, po1, a3, n3, p3, rfl, hps1, hb1⟩; have hS2 := SH.out _ (Core.below hh.out hb1.out); clear hh))
    have G := set5 hS2.2.2.2.2.2.2.out (.slice a0 n0 p0) (.pointer po0) (.pointer po1) (.slice a3 n3 p3) (.slice x4 n4 p4)
    have hz1 : wc.heap.size ≤ w1.heap.size := hb0.out.size
    have hz2 := hb1.out.size
    have hz3 := HF3.out
    have hz0 := HBc.out.size
    have HBF : Hid (Below w.heap.size w (((((w2.setCell ⟨w.heap.size + 1, 0, none⟩ (.slice a0 n0 p0)).setCell ⟨w.heap.size + 1, 1, none⟩ (.pointer po0)).setCell ⟨w.heap.size + 1, 2, none⟩ (.pointer po1)).setCell ⟨w.heap.size + 1, 3, none⟩ (.slice a3 n3 p3)).setCell ⟨w.heap.size + 1, 4, none⟩ (.slice x4 n4 p4))) :=
      (HF2.out.trans (hS2.2.2.2.2.2.2.out.1.mono (by omega))).trans (G.2.2.2.2.2.1.mono (by omega))
    have HRV : Hid (RvAt (Nw W0 w2) w2 r [.slice a0 n0 p0, .pointer po0, .pointer po1, .slice a3 n3 p3, .slice x4 n4 p4]) := by
      have f1 := (hps0.out.keep (Nw.keeps hb1.out)).mono (Nw.mono (a' := W0) (b' := w2) hz0 hz2)
      have f2 := hps1.out.mono (Nw.mono (a' := W0) (b' := w2) (by omega) (Nat.le_refl _))
      have f3 := (HDc.out.keep (fun b hb => (hb1.out.block b (by have := hb.2; omega)).trans (hb0.out.block b hb.2))).mono (q := Nw W0 w2) (fun b hb => ⟨hb.1, by have := hb.2; omega⟩)
      exact ⟨_, _, _, _, _, rfl, f1, f2, f3⟩
    have HF : Hid (RvAt (Nw w (((((w2.setCell ⟨w.heap.size + 1, 0, none⟩ (.slice a0 n0 p0)).setCell ⟨w.heap.size + 1, 1, none⟩ (.pointer po0)).setCell ⟨w.heap.size + 1, 2, none⟩ (.pointer po1)).setCell ⟨w.heap.size + 1, 3, none⟩ (.slice a3 n3 p3)).setCell ⟨w.heap.size + 1, 4, none⟩ (.slice x4 n4 p4))) (((((w2.setCell ⟨w.heap.size + 1, 0, none⟩ (.slice a0 n0 p0)).setCell ⟨w.heap.size + 1, 1, none⟩ (.pointer po0)).setCell ⟨w.heap.size + 1, 2, none⟩ (.pointer po1)).setCell ⟨w.heap.size + 1, 3, none⟩ (.slice a3 n3 p3)).setCell ⟨w.heap.size + 1, 4, none⟩ (.slice x4 n4 p4)) r [.slice a0 n0 p0, .pointer po0, .pointer po1, .slice a3 n3 p3, .slice x4 n4 p4]) :=
      (HRV.out.keep (G.2.2.2.2.2.2.1 W0 (by omega))).mono (fun x hx => ⟨by have := hx.1; omega, by rw [G.2.2.2.2.2.2.2]; exact hx.2⟩)
    obtain ⟨q0, q1, q2, q3, q4, _⟩ := G
    clear hS1 hS2 hps0 hps1 hb0 hb1 SH HK H0 H1 H4 HP HCr HF0 HF1 HF2 HBc HDc HRV
    rename_i hHeld
    clear hHeld
    generalize (((((w2.setCell ⟨w.heap.size + 1, 0, none⟩ (.slice a0 n0 p0)).setCell ⟨w.heap.size + 1, 1, none⟩ (.pointer po0)).setCell ⟨w.heap.size + 1, 2, none⟩ (.pointer po1)).setCell ⟨w.heap.size + 1, 3, none⟩ (.slice a3 n3 p3)).setCell ⟨w.heap.size + 1, 4, none⟩ (.slice x4 n4 p4)) = W4 at q0 q1 q2 q3 q4 HBF HF ⊢
    go_wp2
    exact bodyPost_ret (v := .agg #[.slice a0 n0 p0, .pointer po0, .pointer po1, .slice a3 n3 p3, .slice x4 n4 p4]) (by simp [results, Try.results21, go_sem, q0, q1, q2, q3, q4]) rfl ⟨_, _, _, _, _, _, _, _, _, _, _, rfl, HF, HBF⟩
end Go.Proofs.Qxb6606015a
