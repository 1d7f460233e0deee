/-
  WALKS: strPtrEq, compSame, rvSame AT TWO VALUES THAT HOLD THE SAME DATA: they return true.
-/
import Derived.Test.Qxb6606015aEnd
namespace Go.Proofs.Qxb6606015a
open Go.RowKit
set_option linter.unusedVariables false
set_option linter.unusedSimpArgs false

set_option maxHeartbeats 1000000 in
theorem strPtrEq_same {p q : Nat → Prop} (v1 v2 : Value) (s : Option ByteArray) (w : World) (h1 : Ps p w v1 s) (h2 : Ps q w v2 s) :
    Calls Try.prog 38 #[v1, v2] w fun e w' => e = .returned (.bool true) ∧ ∃ n, w' = w.drewN n := by
  rcases h1 with ⟨rfl, rfl⟩ | ⟨b1, o1, s1, rfl, _, hc1, hs1, rfl⟩
  · rcases h2 with ⟨rfl, _⟩ | ⟨b2, o2, s2, rfl, _, hc2, hs2, h⟩
    · go_enter Try.func38, Try.ntmps38
      go_wp2
      go_ret
      exact ⟨rfl, 0, rfl⟩
    · cases h
  · rcases h2 with ⟨rfl, h⟩ | ⟨b2, o2, s2, rfl, _, hc2, hs2, h⟩
    · cases h
    · injection h with h
      subst h
      go_enter Try.func38, Try.ntmps38
      go_wp2
      go_quiet (fail)
      go_wp2
      go_ret
      exact ⟨by simp, _, rfl⟩

theorem bytesEq_true {p q : Nat → Prop} (v1 v2 : Value) (xs : List Int) (w : World) (h1 : Ns p .u8 w v1 xs) (h2 : Ns q .u8 w v2 xs) :
    Calls Try.prog 18 #[v1, v2] w fun e w' => e = .returned (.bool true) ∧ Hid (Below w.heap.size w w') :=
  (bytesEq_any v1 v2 xs xs w h1 h2).mono fun e w' h => ⟨by rw [h.1, decide_eq_true rfl], by obtain ⟨n, hn⟩ := h.2; rw [hn]; exact below_drewN (Below.refl _ _) _⟩
theorem bytesEq_bt {p q : Nat → Prop} (v1 v2 : Value) (xs : List Int) (w : World) (h1 : Ns p .u8 w v1 xs) (h2 : Ns q .u8 w v2 xs) :
    Calls Try.prog 18 #[v1, v2] w fun e w' => e = .returned (.bool true) ∧ ∃ n, w' = w.drewN n :=
  (bytesEq_any v1 v2 xs xs w h1 h2).mono fun e w' h => ⟨by rw [h.1, decide_eq_true rfl], h.2⟩
theorem strPtrEq_true {p q : Nat → Prop} (v1 v2 : Value) (s : Option ByteArray) (w : World) (h1 : Ps p w v1 s) (h2 : Ps q w v2 s) :
    Calls Try.prog 38 #[v1, v2] w fun e w' => e = .returned (.bool true) ∧ Hid (Below w.heap.size w w') :=
  (strPtrEq_same v1 v2 s w h1 h2).mono fun e w' h => ⟨h.1, by obtain ⟨n, hn⟩ := h.2; rw [hn]; exact below_drewN (Below.refl _ _) _⟩

set_option maxHeartbeats 1000000 in
theorem compSame_true {p q : Nat → Prop} (x0 x1 x2 y0 y1 y2 : Value) (d : CompD) (w : World) (h1 : CompAt p w x0 x1 x2 d) (h2 : CompAt q w y0 y1 y2 d) (hp : ∀ b, p b → b < w.heap.size) (hq : ∀ b, q b → b < w.heap.size) :
    Calls Try.prog 32 #[.agg #[x0, x1, x2], .agg #[y0, y1, y2]] w fun e w' => e = .returned (.bool true) ∧ Hid (Below w.heap.size w w') := by
  have HK : Hid (∀ w', Below w.heap.size w w' → CompAt p w' x0 x1 x2 d ∧ CompAt q w' y0 y1 y2 d) := fun w' hb => ⟨h1.keep (Below.keeps hb hp), h2.keep (Below.keeps hb hq)⟩
  clear h1 h2 hp hq
  go_enter Try.func32, Try.ntmps32
  go_wp2_with fail
  have F0 := heap_two0 w #[x0, x1, x2] #[y0, y1, y2] 56 56
  have F1 := heap_two w #[x0, x1, x2] #[y0, y1, y2] 56 56
  have F2 := below_two w #[x0, x1, x2] #[y0, y1, y2] 56 56
  have F3 : ((w.alloc (.cells #[x0, x1, x2] 56)).alloc (.cells #[y0, y1, y2] 56)).heap.size = w.heap.size + 2 := by simp
  generalize (w.alloc (.cells #[x0, x1, x2] 56)).alloc (.cells #[y0, y1, y2] 56) = W0 at F0 F1 F2 F3 ⊢
  have HB0 : Hid (Below w.heap.size w W0) := F2
  have HC : Hid (∀ w', Below W0.heap.size W0 w' → w'.cell? ⟨w.heap.size, 0, none⟩ = some x0 ∧ w'.cell? ⟨w.heap.size, 1, none⟩ = some x1 ∧ w'.cell? ⟨w.heap.size, 2, none⟩ = some x2 ∧ w'.cell? ⟨w.heap.size + 1, 0, none⟩ = some y0 ∧ w'.cell? ⟨w.heap.size + 1, 1, none⟩ = some y1 ∧ w'.cell? ⟨w.heap.size + 1, 2, none⟩ = some y2) := fun w' hb => by
    refine ⟨?_, ?_, ?_, ?_, ?_, ?_⟩
    · rw [hb.cell (by simp; omega), cells_of_block F0]; rfl
    · rw [hb.cell (by simp; omega), cells_of_block F0]; rfl
    · rw [hb.cell (by simp; omega), cells_of_block F0]; rfl
    · rw [hb.cell (by simp; omega), cells_of_block F1]; rfl
    · rw [hb.cell (by simp; omega), cells_of_block F1]; rfl
    · rw [hb.cell (by simp; omega), cells_of_block F1]; rfl
  clear F0 F1 F2 F3
  refine (strPtrEq_true x0 y0 d.mt W0 (HK.out _ HB0.out).1.1 (HK.out _ HB0.out).2.1).mono ?_
  rintro e w1 ⟨rfl, hb1⟩
  obtain ⟨_, q1, _, _, q4, _⟩ := HC.out w1 hb1.out
  have HB1 : Hid (Below w.heap.size w w1) := Below.then HB0.out hb1.out
  go_wp2_with fail
  refine (strPtrEq_true x1 y1 d.ver w1 (HK.out _ HB1.out).1.2.1 (HK.out _ HB1.out).2.2.1).mono ?_
  rintro e w2 ⟨rfl, hb2⟩
  have HB02 : Hid (Below W0.heap.size W0 w2) := Below.then hb1.out hb2.out
  clear q1 q4
  obtain ⟨_, _, q2, _, _, q5⟩ := HC.out w2 HB02.out
  have HB2 : Hid (Below w.heap.size w w2) := Below.then HB0.out HB02.out
  go_wp2_with fail
  refine (bytesEq_true x2 y2 d.sig w2 (HK.out _ HB2.out).1.2.2 (HK.out _ HB2.out).2.2.2).mono ?_
  rintro e w3 ⟨rfl, hb3⟩
  have HB3 : Hid (Below w.heap.size w w3) := Below.then HB2.out hb3.out
  clear q2 q5 hb1 hb2 hb3
  go_wp2
  go_ret
  exact ⟨rfl, HB3⟩

set_option maxHeartbeats 2000000 in
theorem rvSame_true {p q : Nat → Prop} (x0 x1 x2 x3 x4 y0 y1 y2 y3 y4 : Value) (r : RvD) (w : World) (h1 : RvAt p w r [x0, x1, x2, x3, x4]) (h2 : RvAt q w r [y0, y1, y2, y3, y4]) (hp : ∀ b, p b → b < w.heap.size) (hq : ∀ b, q b → b < w.heap.size) :
    Calls Try.prog 20 #[.agg #[x0, x1, x2, x3, x4], .agg #[y0, y1, y2, y3, y4]] w fun e w' => e = .returned (.bool true) ∧ Hid (Below w.heap.size w w') := by
  have h1' : Ns p .u8 w x0 r.impl ∧ CompAt p w x1 x2 x3 r.comp ∧ DigsAt p w x4 r.digs := by
    obtain ⟨c0, c1, c2, c3, c4, e, a, b, c⟩ := h1
    simp only [List.cons.injEq, and_true] at e
    obtain ⟨rfl, rfl, rfl, rfl, rfl⟩ := e
    exact ⟨a, b, c⟩
  have h2' : Ns q .u8 w y0 r.impl ∧ CompAt q w y1 y2 y3 r.comp ∧ DigsAt q w y4 r.digs := by
    obtain ⟨c0, c1, c2, c3, c4, e, a, b, c⟩ := h2
    simp only [List.cons.injEq, and_true] at e
    obtain ⟨rfl, rfl, rfl, rfl, rfl⟩ := e
    exact ⟨a, b, c⟩
  clear h1 h2
  obtain ⟨ax, cx, rfl, hlx, _⟩ := Sl.shape h1'.2.2
  obtain ⟨ay, cy, rfl, hly, _⟩ := Sl.shape h2'.2.2
  have HK : Hid (∀ w', Below w.heap.size w w' → (Ns p .u8 w' x0 r.impl ∧ CompAt p w' x1 x2 x3 r.comp ∧ DigsAt p w' (.slice ax r.digs.length cx) r.digs) ∧ (Ns q .u8 w' y0 r.impl ∧ CompAt q w' y1 y2 y3 r.comp ∧ DigsAt q w' (.slice ay r.digs.length cy) r.digs)) := fun w' hb =>
    ⟨⟨h1'.1.keep (Below.keeps hb hp), h1'.2.1.keep (Below.keeps hb hp), h1'.2.2.keep (Below.keeps hb hp)⟩, ⟨h2'.1.keep (Below.keeps hb hq), h2'.2.1.keep (Below.keeps hb hq), h2'.2.2.keep (Below.keeps hb hq)⟩⟩
  have HP : Hid (∀ w', Below w.heap.size w w' → (∀ b, p b → b < w'.heap.size) ∧ ∀ b, q b → b < w'.heap.size) := fun w' hb => ⟨Below.lt_of hb hp, Below.lt_of hb hq⟩
  have hl : r.digs.length ≤ 140737488355328 := by omega
  clear h1' h2' hp hq hlx hly
  go_enter Try.func20, Try.ntmps20
  go_wp2_with fail
  have F0 := heap_two0 w #[x0, x1, x2, x3, .slice ax r.digs.length cx] #[y0, y1, y2, y3, .slice ay r.digs.length cy] 58 58
  have F1 := heap_two w #[x0, x1, x2, x3, .slice ax r.digs.length cx] #[y0, y1, y2, y3, .slice ay r.digs.length cy] 58 58
  have F2 := below_two w #[x0, x1, x2, x3, .slice ax r.digs.length cx] #[y0, y1, y2, y3, .slice ay r.digs.length cy] 58 58
  have F3 : ((w.alloc (.cells #[x0, x1, x2, x3, .slice ax r.digs.length cx] 58)).alloc (.cells #[y0, y1, y2, y3, .slice ay r.digs.length cy] 58)).heap.size = w.heap.size + 2 := by simp
  generalize (w.alloc (.cells #[x0, x1, x2, x3, .slice ax r.digs.length cx] 58)).alloc (.cells #[y0, y1, y2, y3, .slice ay r.digs.length cy] 58) = W0 at F0 F1 F2 F3 ⊢
  have HB0 : Hid (Below w.heap.size w W0) := F2
  have HC : Hid (∀ w', Below W0.heap.size W0 w' → (w'.cell? ⟨w.heap.size, 1, none⟩ = some x1 ∧ w'.cell? ⟨w.heap.size, 2, none⟩ = some x2 ∧ w'.cell? ⟨w.heap.size, 3, none⟩ = some x3 ∧ w'.cell? ⟨w.heap.size, 4, none⟩ = some (.slice ax r.digs.length cx)) ∧ w'.cell? ⟨w.heap.size + 1, 1, none⟩ = some y1 ∧ w'.cell? ⟨w.heap.size + 1, 2, none⟩ = some y2 ∧ w'.cell? ⟨w.heap.size + 1, 3, none⟩ = some y3 ∧ w'.cell? ⟨w.heap.size + 1, 4, none⟩ = some (.slice ay r.digs.length cy)) := fun w' hb => by
    refine ⟨⟨?_, ?_, ?_, ?_⟩, ?_, ?_, ?_, ?_⟩
    · rw [hb.cell (by simp; omega), cells_of_block F0]; rfl
    · rw [hb.cell (by simp; omega), cells_of_block F0]; rfl
    · rw [hb.cell (by simp; omega), cells_of_block F0]; rfl
    · rw [hb.cell (by simp; omega), cells_of_block F0]; rfl
    · rw [hb.cell (by simp; omega), cells_of_block F1]; rfl
    · rw [hb.cell (by simp; omega), cells_of_block F1]; rfl
    · rw [hb.cell (by simp; omega), cells_of_block F1]; rfl
    · rw [hb.cell (by simp; omega), cells_of_block F1]; rfl
  clear F0 F1 F2 F3
  refine (bytesEq_true x0 y0 r.impl W0 (HK.out _ HB0.out).1.1 (HK.out _ HB0.out).2.1).mono ?_
  rintro e w1 ⟨rfl, hb1⟩
  obtain ⟨⟨q1, q2, q3, q4⟩, q5, q6, q7, q8⟩ := HC.out w1 hb1.out
  have HB1 : Hid (Below w.heap.size w w1) := Below.then HB0.out hb1.out
  go_wp2_with fail
  refine (compSame_true x1 x2 x3 y1 y2 y3 r.comp w1 (HK.out _ HB1.out).1.2.1 (HK.out _ HB1.out).2.2.1 (HP.out _ HB1.out).1 (HP.out _ HB1.out).2).mono ?_
  rintro e w2 ⟨rfl, hb2⟩
  have HB02 : Hid (Below W0.heap.size W0 w2) := Below.then hb1.out hb2.out
  clear q1 q2 q3 q4 q5 q6 q7 q8 hb1 hb2 HB1
  obtain ⟨⟨_, _, _, q4⟩, _, _, _, q8⟩ := HC.out w2 HB02.out
  go_wp2
  go_loopg [5] r.digs.length (fun g i wr => ∃ k : Nat, Hid (k + g = r.digs.length) ∧ i = .int .i64 k ∧ Hid (Below W0.heap.size W0 wr))
  case atStart => exact ⟨0, Nat.zero_add _, rfl, HB02⟩
  case round =>
    clear q4 q8 HB02
    obtain ⟨k, HG, rfl, HBr⟩ := hrel
    have hk : k ≤ r.digs.length := by have := HG.out; omega
    obtain ⟨⟨_, _, _, q4⟩, _, _, _, q8⟩ := HC.out wr HBr.out
    by_cases hlt : k < r.digs.length
    · have HBw := Below.then HB0.out HBr.out
      obtain ⟨bx, ox, csx, hix, _, hlx, hcx, cx0, rfl, hnx⟩ := Sl.at (HK.out _ HBw).1.2.2 Try.underlying52 sized25 k hlt
      obtain ⟨byy, oy, csy, hiy, _, hly, hcy, cy0, rfl, hny⟩ := Sl.at (HK.out _ HBw).2.2.2 Try.underlying52 sized25 k hlt
      have ex := hcx 0 (by omega)
      have ey := hcy 0 (by omega)
      simp only [Nat.add_zero, List.getD_cons_zero] at ex ey
      have HJ : Hid (∀ n, Ns p .u8 (wr.drewN n) cx0 (r.digs.getD k []) ∧ Ns q .u8 (wr.drewN n) cy0 (r.digs.getD k [])) := fun n => ⟨hnx.drewN n, hny.drewN n⟩
      clear hcx hcy hlx hly hnx hny HBw
      go_wp2
      go_quiet ((go_at_call 18; exact Calls.quiet_of (bytesEq_bt _ _ _ _ (HJ.out _).1 (HJ.out _).2)))
      go_wp2
      go_roundg (gk - 1)
      case measure => have := HG.out; omega
      case rel => exact ⟨k + 1, by have := HG.out; show _ = _; omega, by go_num, below_drewN HBr.out _⟩
    · go_wp2
      go_ret
      exact ⟨rfl, Below.then HB0.out HBr.out⟩
end Go.Proofs.Qxb6606015a
