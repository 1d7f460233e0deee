/-
  WALK: the law FnOldestTakenReadsEachStart (function 3).
-/
import Derived.Test.Qxb6608542aAddEntry
namespace Go.Proofs.Qxb6608542a
open Go.RowKit
set_option linter.unusedVariables false
set_option linter.unusedSimpArgs false

/-- The law's loop at round k: k entries lie in the pool, each with its start; the k numbers lie in the law's own row. -/
structure LInv (B : Nat) (w : World) (Tb D len : Nat) (zs : List Int) (k : Nat) (W : World) : Prop where
  bel : Below B w W
  pool : Pool B W Tb k (fun j => zs.getD j 0)
  db : B ≤ D
  idx : ∃ c, W.heap[D]? = some (Obj.cells c 27 (0, 0)) ∧ c.size = len ∧ ∀ j, j < k → c[j]? = some (.int .u32 ((j : Int) + 1))

theorem LInv.ext {B : Nat} {w : World} {Tb D len : Nat} {zs : List Int} {k : Nat} {W W' : World} (h : LInv B w Tb D len zs k W) (hx : Ext B W W') (hp : Pool B W' Tb k (fun j => zs.getD j 0)) : LInv B w Tb D len zs k W' := by
  obtain ⟨c, h1, h2, h3⟩ := h.idx
  exact ⟨h.bel.trans hx.1, hp, h.db, c, hx.2 _ _ 27 (Or.inl rfl) h1, h2, h3⟩
theorem LInv.cell {B : Nat} {w : World} {Tb D len : Nat} {zs : List Int} {k : Nat} {W : World} (h : LInv B w Tb D len zs k W) (j : Nat) (hj : j < k) : W.cell? ⟨D, j, none⟩ = some (.int .u32 ((j : Int) + 1)) := by
  obtain ⟨c, h1, h2, h3⟩ := h.idx
  rw [cells_of_block h1]; exact h3 j hj
theorem LInv.old {B : Nat} {w : World} {Tb D len : Nat} {zs : List Int} {k : Nat} {W : World} (h : LInv B w Tb D len zs k W) {p : Addr} (hp : p.block < B) {v : Value} (hv : w.cell? p = some v) : W.cell? p = some v := by
  rw [← hv]; unfold World.cell?; rw [h.bel.block _ hp]

theorem make_idx (n : Nat) (hn : n ≤ 4096) (w : World) : (Instr.makeSlice 26 (.int .i64 n) (.int .i64 n)).run Try.prog w = .ok (.slice (some ⟨w.heap.size, 0, none⟩) n n) (w.alloc (.cells (madeCells #[.int .u32 0] n) 27)) := by
  obtain ⟨i, hi, hzz⟩ := Option.map_eq_some_iff.1 info27
  simp only [Prod.mk.injEq] at hzz
  obtain ⟨hz, hs, hbb⟩ := hzz
  have hr := run_make (P := Try.prog) w 26 27 i (.int .u32 0) Try.underlying26 hi hz .i64 .i64 n n (by omega) (by omega) (by rw [hbb]; omega) (by omega)
  rw [hs, Nat.mul_one] at hr
  exact hr

theorem idx_x (x : Addr) (n cap k : Nat) (hk : k < n) (w' : World) : (Instr.indexAt 22 (.slice (some x) n cap) (.int .i64 (k : Int))).run Try.prog w' = .ok (.pointer (some (x.add k))) w' := by
  have he : Try.prog.elem 22 = 2 := by simp [Program.elem, Try.underlying22]
  rw [run_indexAt_slice (h := by rw [he]; exact Try.underlying22), if_pos (by omega), he, sized2 w']
  simp [Result.andThen]

/-- What is known of the slice that came in. -/
def InRow (w : World) (a : Option Addr) (len cap : Nat) (zs : List Int) : Prop := ∀ k, k < len → ∃ p : Addr, p.block < w.heap.size ∧ w.cell? p = some (.int .i64 (zs.getD k 0)) ∧ ∀ w', (Instr.indexAt 22 (.slice a len cap) (.int .i64 (k : Int))).run Try.prog w' = .ok (.pointer (some p)) w'

theorem build30 (w : World) : (Instr.build 30 #[]).run Try.prog w = .ok (.agg z32) w := by
  simp [go_sem]
  rfl

set_option maxRecDepth 100000 in
set_option maxHeartbeats 4000000 in
theorem law3 (a0 : Option Addr) (len cap : Nat) (zs : List Int) (w : World) (hlen : len ≤ 9223372036854775807) (hin : InRow w a0 len cap zs) :
    Calls Try.prog 3 #[.slice a0 len cap] w fun e w' => e = .returned (.bool true) ∧ Below w.heap.size w w' := by
  have HIN := hid hin
  clear hin
  have hb30 := build30
  go_enter Try.func3, Try.ntmps3
  go_wp2_with fail
  refine (zz5_any a0 len cap hlen w).mono ?_
  rintro e w' ⟨⟨b, rfl⟩, rfl⟩
  cases b
  · go_wp2
    go_ret
    exact ⟨rfl, Below.refl _ _⟩
  by_cases h4 : len ≤ 4096
  · have h4' : ¬ (4096 : Int) < (len : Int) := by omega
    go_wp2_with fail
    refine (empty_any w).mono ?_
    rintro r w1 ⟨rfl, HP1, HX1⟩
    have hmk := make_idx len h4 w1
    have hB1 : w.heap.size ≤ w1.heap.size := HX1.out.1.size
    have HI0 : Hid (LInv w.heap.size w w.heap.size w1.heap.size len zs 0 (w1.alloc (.cells (madeCells #[.int .u32 0] len) 27))) := by
      obtain ⟨x2, x3, x4, G, cp, S, hP⟩ := HP1.out.alloc (.cells (madeCells #[.int .u32 0] len) 27)
      refine ⟨HX1.out.1.alloc hB1 _, ⟨x2, x3, x4, G, cp, S, hP.tb, hP.tab, hP.row, fun i hi => ?_, hP.inj⟩, hB1, madeCells #[.int .u32 0] len, ?_, ?_, fun j hj => by omega⟩
      · simp [nSlabs] at hi
      · show (w1.heap.push _)[w1.heap.size]? = _; simp
      · simp [madeCells]
    go_wp2_with fail
    clear HP1 HX1 hmk
    obtain ⟨D, hD⟩ : ∃ D, D = w1.heap.size := ⟨_, rfl⟩
    rw [← hD] at HI0 hB1 ⊢
    generalize w1.alloc (.cells (madeCells #[.int .u32 0] len) 27) = W1 at HI0 ⊢
    clear hD
    have HIX : Hid (∀ k, k < len → ∀ w', (Instr.indexAt 26 (.slice (some ⟨D, 0, none⟩) len len) (.int .i64 (k : Int))).run Try.prog w' = .ok (.pointer (some ⟨D, k, none⟩)) w') := fun k hk w' => by
      have := idx_eq Try.underlying26 sized27 .i64 D 0 len len k hk w'
      simpa using this
    go_loopg [6] len (fun g i wr => ∃ k : Nat, Hid (k + g = len) ∧ i = .int .i64 k ∧ Hid (LInv w.heap.size w w.heap.size D len zs k wr))
    case atStart => exact ⟨0, Nat.zero_add _, rfl, HI0⟩
    case round =>
      clear HI0
      obtain ⟨k, HG, rfl, HI⟩ := hrel
      rename World => wr
      have hk : k ≤ len := by have := HG.out; omega
      by_cases hlt : k < len
      · obtain ⟨p, hpb, hpc, hpx⟩ := HIN.out k hlt
        have hix := HIX.out k hlt
        have hBr : w.heap.size ≤ wr.heap.size := HI.out.bel.size
        obtain ⟨d, hd⟩ : ∃ d, d = zs.getD k 0 := ⟨_, rfl⟩
        rw [← hd] at hpc
        have HD := hid hd
        clear hd
        go_wp2_with fail
        refine (addEntry_any HI.out.pool (by omega) hBr 0).mono ?_
        rintro r w2 ⟨rfl, HP2, HX2⟩
        obtain ⟨c, hc, hcs, hcv⟩ := HI.out.idx
        have hc2 := HX2.out.2 _ _ 27 (Or.inl rfl) hc
        obtain ⟨u, hu⟩ : ∃ u, w2.cell? ⟨D, k, none⟩ = some u := by rw [cells_of_block hc2]; exact ⟨_, Array.getElem?_eq_getElem (by omega)⟩
        have hfr := free_of_block hc2 k
        have HP3 : Hid (Pool w.heap.size (w2.setCell ⟨D, k, none⟩ (.int .u32 ((k : Int) + 1))).drew w.heap.size (k + 1) (fun x => if x = k then 0 else zs.getD x 0)) := (HP2.out.setIdx hc2 _).drew
        have HB3 : Hid (Below w.heap.size w (w2.setCell ⟨D, k, none⟩ (.int .u32 ((k : Int) + 1))).drew) := ((HI.out.bel.trans HX2.out.1).setCell (p := ⟨D, k, none⟩) HI.out.db _).drew
        have HC3 : Hid ((w2.setCell ⟨D, k, none⟩ (.int .u32 ((k : Int) + 1))).heap[D]? = some (Obj.cells (c.setIfInBounds k (.int .u32 ((k : Int) + 1))) 27 (0, 0))) := heapSame hc2 _
        have HDB := hid HI.out.db
        have HCV := hid (And.intro hcs hcv)
        have hS3 : (w2.setCell ⟨D, k, none⟩ (.int .u32 ((k : Int) + 1))).drew.cell? ⟨D, k, none⟩ = some (.int .u32 ((k : Int) + 1)) ∧ (w2.setCell ⟨D, k, none⟩ (.int .u32 ((k : Int) + 1))).drew.cell? p = some (.int .i64 d) := by
          refine ⟨?_, ?_⟩
          · show (w2.setCell _ _).cell? _ = _
            rw [cells_of_block HC3.out, Array.getElem?_setIfInBounds, if_pos rfl, if_pos (by omega)]
          · rw [← hpc]; unfold World.cell?; rw [HB3.out.block _ hpb]
        clear hc hcs hcv HP2 HI hc2
        go_wp2_with fail
        have HC3d : Hid ((w2.setCell ⟨D, k, none⟩ (.int .u32 ((k : Int) + 1))).drew.heap[D]? = some (Obj.cells (c.setIfInBounds k (.int .u32 ((k : Int) + 1))) 27 (0, 0))) := HC3.out
        have HE : Hid (∀ w', Ext w.heap.size (w2.setCell ⟨D, k, none⟩ (.int .u32 ((k : Int) + 1))).drew w' → w'.cell? ⟨D, k, none⟩ = some (.int .u32 ((k : Int) + 1)) ∧ w'.cell? p = some (.int .i64 d)) := fun w' hx => by
          refine ⟨?_, ?_⟩
          · rw [cells_of_block (hx.2 _ _ 27 (Or.inl rfl) HC3d.out), ← cells_of_block HC3d.out]; exact hS3.1
          · have h2 := hS3.2
            rw [← h2]; unfold World.cell?; rw [hx.1.block _ hpb]
        go_region_held3 (fun w' => w'.cell? ⟨D, k, none⟩ = some (.int .u32 ((k : Int) + 1)) ∧ w'.cell? p = some (.int .i64 d))
          (first | exact hS3 | exact hS4)
          (first | (go_at_call 8; refine (setTaken_any HP3.out k (by omega) (by omega) d).mono ?_; rintro e w4 ⟨rfl, HP4, HX4⟩; have hS4 := HE.out _ HX4.out))
        have HI4 : Hid (LInv w.heap.size w w.heap.size D len zs (k + 1) w4) := by
          refine ⟨HB3.out.trans HX4.out.1, ?_, HDB.out, _, HX4.out.2 _ _ 27 (Or.inl rfl) HC3d.out, by simp [HCV.out.1], fun j hj => ?_⟩
          · have e : (fun x => if x = k then d else if x = k then 0 else zs.getD x 0) = fun j => zs.getD j 0 := by
              funext x
              by_cases hx : x = k
              · subst hx; simp [HD.out]
              · simp [hx]
            have h4 := HP4.out
            rw [e] at h4
            exact h4
          · rw [Array.getElem?_setIfInBounds]
            by_cases hj' : k = j
            · subst hj'; rw [if_pos rfl, if_pos (by have := HCV.out.1; omega)]
            · rw [if_neg hj']; exact HCV.out.2 j (by omega)
        clear HE HC3 HC3d HB3 HP3 hS3 hS4 HP4 HX4 HCV HDB
        go_wp2
        go_roundg (gk - 1)
        case measure => have := HG.out; omega
        case rel => exact ⟨k + 1, by have := HG.out; show _ = _; omega, by go_num, HI4⟩
      · have hkl : k = len := by omega
        have HIL : Hid (LInv w.heap.size w w.heap.size D len zs len wr) := by rw [hkl] at HI; exact HI
        have hBr : w.heap.size ≤ wr.heap.size := HIL.out.bel.size
        clear HI hkl
        go_wp2_with fail
        refine (zzOldest_none HIL.out.pool hBr).mono ?_
        rintro r w5 ⟨rfl, HP5, HX5⟩
        have HI5 := hid (HIL.out.ext HX5.out HP5.out)
        clear HIL HP5 HX5 HG hlt hk hBr
        go_wp2_with fail
        go_loopg [9] len (fun g i wr => ∃ j : Nat, Hid (j + g = len) ∧ i = .int .i64 j ∧ Hid (LInv w.heap.size w w.heap.size D len zs len wr))
        case atStart => exact ⟨0, Nat.zero_add _, rfl, HI5⟩
        case round =>
          clear HI5
          obtain ⟨j, HG, rfl, HI⟩ := hrel
          rename World => wj
          have hj : j ≤ len := by have := HG.out; omega
          by_cases hlt : j < len
          · obtain ⟨p, hpb, hpc, hpx⟩ := HIN.out j hlt
            have hix := HIX.out j hlt
            have hixl : ∀ w', (Instr.indexAt 26 (.slice (some ⟨D, 0, none⟩) len len) (.int .i64 ((len : Int) - 1))).run Try.prog w' = .ok (.pointer (some ⟨D, len - 1, none⟩)) w' := fun w' => by
              have := HIX.out (len - 1) (by omega) w'
              rw [show ((len - 1 : Nat) : Int) = (len : Int) - 1 by omega] at this
              exact this
            have hBr : w.heap.size ≤ wj.heap.size := HI.out.bel.size
            obtain ⟨d, hd⟩ : ∃ d, d = zs.getD j 0 := ⟨_, rfl⟩
            rw [← hd] at hpc
            have HD := hid hd
            clear hd
            have HId : Hid (LInv w.heap.size w w.heap.size D len zs len wj.drew) := ⟨HI.out.bel.drew, HI.out.pool.drew, HI.out.db, HI.out.idx⟩
            have HS : Hid (∀ w', LInv w.heap.size w w.heap.size D len zs len w' → w'.cell? ⟨D, j, none⟩ = some (.int .u32 ((j : Int) + 1)) ∧ w'.cell? ⟨D, len - 1, none⟩ = some (.int .u32 (len : Int)) ∧ w'.cell? p = some (.int .i64 d)) := fun w' h =>
              ⟨h.cell j hlt, by rw [h.cell (len - 1) (by omega)]; rw [show ((len - 1 : Nat) : Int) + 1 = (len : Int) by omega], h.old hpb hpc⟩
            have hSd := HS.out _ HId.out
            have hwl : IntKind.i64.wrap ((len : Int) - 1) = (len : Int) - 1 := IntWalk.i64_in _ (by omega)
            have hl1 : (1 : Int) ≤ (len : Int) := by omega
            have hl0 : (0 : Int) ≤ (len : Int) - 1 := by omega
            go_wp2_with fail
            go_region_held3 (fun w' => w'.cell? ⟨D, j, none⟩ = some (.int .u32 ((j : Int) + 1)) ∧ w'.cell? ⟨D, len - 1, none⟩ = some (.int .u32 (len : Int)) ∧ w'.cell? p = some (.int .i64 d))
              (first | exact hSd | exact hS6)
              (first | (go_at_call 9; refine (zzOldest_any HId.out.pool hBr j hlt (by omega) _).mono ?_; rintro e w6 ⟨rfl, HP6, HX6⟩; have HI6 := hid (HId.out.ext HX6.out HP6.out); have hS6 := HS.out _ HI6.out))
            have hpd := hS6.2.2
            have HDE := HD.out
            rw [List.getD_eq_getElem?_getD] at HDE
            rw [← HDE]
            clear hSd hS6 HS HId HP6 HX6 HD HDE
            go_wp2
            go_roundg (gk - 1)
            case measure => have := HG.out; omega
            case rel => exact ⟨j + 1, by have := HG.out; show _ = _; omega, by go_num, HI6⟩
          · have hge : j = len := by omega
            have HB := hid HI.out.bel
            clear HI
            go_wp2
            go_ret
            exact ⟨rfl, HB⟩
  · have h4' : (4096 : Int) < (len : Int) := by omega
    go_wp2
    go_ret
    exact ⟨rfl, Below.refl _ _⟩
end Go.Proofs.Qxb6608542a
