/-
  WALK: the law FnOldestTakenSteadyAsPoolGrows (function 4).
-/
import Derived.Test.Qxb6608542aLaw3
namespace Go.Proofs.Qxb6608542a
open Go.RowKit
set_option linter.unusedVariables false
set_option linter.unusedSimpArgs false

/-- Behind the law's first loop: the row of numbers is whole; the pool may grow. -/
structure LInv2 (B : Nat) (w : World) (Tb D len : Nat) (zs : List Int) (n : Nat) (tk : Nat → Int) (W : World) : Prop where
  bel : Below B w W
  pool : Pool B W Tb n tk
  db : B ≤ D
  idx : ∃ c, W.heap[D]? = some (Obj.cells c 27 (0, 0)) ∧ c.size = len ∧ ∀ j, j < len → c[j]? = some (.int .u32 ((j : Int) + 1))
  tks : ∀ x, x < len → tk x = zs.getD x 0
  ge : len ≤ n

theorem LInv.two {B : Nat} {w : World} {Tb D len : Nat} {zs : List Int} {W : World} (h : LInv B w Tb D len zs len W) : LInv2 B w Tb D len zs len (fun j => zs.getD j 0) W :=
  ⟨h.bel, h.pool, h.db, h.idx, fun _ _ => rfl, Nat.le_refl _⟩
theorem LInv2.ext {B : Nat} {w : World} {Tb D len : Nat} {zs : List Int} {n n' : Nat} {tk tk' : Nat → Int} {W W' : World} (h : LInv2 B w Tb D len zs n tk W) (hx : Ext B W W') (hp : Pool B W' Tb n' tk') (ht : ∀ x, x < len → tk' x = tk x) (hn : n ≤ n') : LInv2 B w Tb D len zs n' tk' W' := by
  obtain ⟨c, h1, h2, h3⟩ := h.idx
  exact ⟨h.bel.trans hx.1, hp, h.db, ⟨c, hx.2 _ _ 27 (Or.inl rfl) h1, h2, h3⟩, fun x hx => (ht x hx).trans (h.tks x hx), Nat.le_trans h.ge hn⟩
theorem LInv2.drew {B : Nat} {w : World} {Tb D len : Nat} {zs : List Int} {n : Nat} {tk : Nat → Int} {W : World} (h : LInv2 B w Tb D len zs n tk W) : LInv2 B w Tb D len zs n tk W.drew := ⟨h.bel.drew, h.pool.drew, h.db, h.idx, h.tks, h.ge⟩
theorem LInv2.cell {B : Nat} {w : World} {Tb D len : Nat} {zs : List Int} {n : Nat} {tk : Nat → Int} {W : World} (h : LInv2 B w Tb D len zs n tk W) (j : Nat) (hj : j < len) : W.cell? ⟨D, j, none⟩ = some (.int .u32 ((j : Int) + 1)) := by
  obtain ⟨c, h1, h2, h3⟩ := h.idx
  rw [cells_of_block h1]; exact h3 j hj
theorem LInv2.old {B : Nat} {w : World} {Tb D len : Nat} {zs : List Int} {n : Nat} {tk : Nat → Int} {W : World} (h : LInv2 B w Tb D len zs n tk W) {p : Addr} (hp : p.block < B) {v : Value} (hv : w.cell? p = some v) : W.cell? p = some v := by
  rw [← hv]; unfold World.cell?; rw [h.bel.block _ hp]

set_option maxRecDepth 100000 in
set_option maxHeartbeats 4000000 in
theorem law4 (a0 : Option Addr) (len cap : Nat) (zs : List Int) (a1 : Option Addr) (len1 cap1 : Nat) (zs1 : List Int) (a2 : Int) (w : World) (hlen : len ≤ 9223372036854775807) (hlen1 : len1 ≤ 9223372036854775807) (hin : InRow w a0 len cap zs) (hin1 : InRow w a1 len1 cap1 zs1) :
    Calls Try.prog 4 #[.slice a0 len cap, .slice a1 len1 cap1, .int .i64 a2] w fun e w' => e = .returned (.bool true) ∧ Below w.heap.size w w' := by
  have HIN := hid hin
  have HIN1 := hid hin1
  clear hin hin1
  have hb30 := build30
  go_enter Try.func4, Try.ntmps4
  go_wp2_with fail
  refine (zz10_any a0 a1 len cap len1 cap1 a2 hlen hlen1 w).mono ?_
  rintro e w' ⟨⟨b, rfl⟩, rfl⟩
  cases b
  · go_wp2
    go_ret
    exact ⟨rfl, Below.refl _ _⟩
  by_cases h4 : len ≤ 4096
  case neg =>
    have h4' : (4096 : Int) < (len : Int) := by omega
    go_wp2
    go_ret
    exact ⟨rfl, Below.refl _ _⟩
  have h4' : ¬ (4096 : Int) < (len : Int) := by omega
  by_cases h5 : len1 ≤ 4096
  case neg =>
    have h5' : (4096 : Int) < (len1 : Int) := by omega
    go_wp2
    go_ret
    exact ⟨rfl, Below.refl _ _⟩
  have h5' : ¬ (4096 : Int) < (len1 : Int) := by omega
  by_cases h6 : a2 < 0
  case pos =>
    go_wp2
    go_ret
    exact ⟨rfl, Below.refl _ _⟩
  by_cases h7 : (len : Int) ≤ a2
  case pos =>
    go_wp2
    go_ret
    exact ⟨rfl, Below.refl _ _⟩
  obtain ⟨m, rfl⟩ : ∃ m : Nat, a2 = (m : Int) := ⟨a2.toNat, by omega⟩
  have hm : m < len := by omega
  · go_wp2_with fail
    refine (empty_any w).mono ?_
    rintro r w1 ⟨rfl, HP1, HX1⟩
    have hmk := make_idx len h4 w1
    have hB1 : w.heap.size ≤ w1.heap.size := HX1.out.1.size
    have HI0 : Hid (LInv w.heap.size w w.heap.size w1.heap.size len zs 0 (w1.alloc (.cells (madeCells #[.int .u32 0] len) 27))) := by
      obtain ⟨x2, x3, x4, G, cp, S, hP⟩ := HP1.out.alloc (.cells (madeCells #[.int .u32 0] len) 27)
      refine ⟨HX1.out.1.alloc hB1 _, ⟨x2, x3, x4, G, cp, S, hP.tb, hP.tab, hP.row, fun i hi => ?_, hP.inj⟩, hB1, madeCells #[.int .u32 0] len, ?_, ?_, fun j hj => by omega⟩
      · simp [nSlabs] at hi
      · show (w1.heap.push _)[w1.heap.size]? = _; simp
      · simp [madeCells]
    go_wp2_with fail
    clear HP1 HX1 hmk
    obtain ⟨D, hD⟩ : ∃ D, D = w1.heap.size := ⟨_, rfl⟩
    rw [← hD] at HI0 hB1 ⊢
    generalize w1.alloc (.cells (madeCells #[.int .u32 0] len) 27) = W1 at HI0 ⊢
    clear hD
    have HIX : Hid (∀ k, k < len → ∀ w', (Instr.indexAt 26 (.slice (some ⟨D, 0, none⟩) len len) (.int .i64 (k : Int))).run Try.prog w' = .ok (.pointer (some ⟨D, k, none⟩)) w') := fun k hk w' => by
      have := idx_eq Try.underlying26 sized27 .i64 D 0 len len k hk w'
      simpa using this
    go_loopg [10] len (fun g i wr => ∃ k : Nat, Hid (k + g = len) ∧ i = .int .i64 k ∧ Hid (LInv w.heap.size w w.heap.size D len zs k wr))
    case atStart => exact ⟨0, Nat.zero_add _, rfl, HI0⟩
    case round =>
      clear HI0
      obtain ⟨k, HG, rfl, HI⟩ := hrel
      rename World => wr
      have hk : k ≤ len := by have := HG.out; omega
      by_cases hlt : k < len
      · obtain ⟨p, hpb, hpc, hpx⟩ := HIN.out k hlt
        have hix := HIX.out k hlt
        have hBr : w.heap.size ≤ wr.heap.size := HI.out.bel.size
        obtain ⟨d, hd⟩ : ∃ d, d = zs.getD k 0 := ⟨_, rfl⟩
        rw [← hd] at hpc
        have HD := hid hd
        clear hd
        go_wp2_with fail
        refine (addEntry_any HI.out.pool (by omega) hBr 0).mono ?_
        rintro r w2 ⟨rfl, HP2, HX2⟩
        obtain ⟨c, hc, hcs, hcv⟩ := HI.out.idx
        have hc2 := HX2.out.2 _ _ 27 (Or.inl rfl) hc
        obtain ⟨u, hu⟩ : ∃ u, w2.cell? ⟨D, k, none⟩ = some u := by rw [cells_of_block hc2]; exact ⟨_, Array.getElem?_eq_getElem (by omega)⟩
        have hfr := free_of_block hc2 k
        have HP3 : Hid (Pool w.heap.size (w2.setCell ⟨D, k, none⟩ (.int .u32 ((k : Int) + 1))).drew w.heap.size (k + 1) (fun x => if x = k then 0 else zs.getD x 0)) := (HP2.out.setIdx hc2 _).drew
        have HB3 : Hid (Below w.heap.size w (w2.setCell ⟨D, k, none⟩ (.int .u32 ((k : Int) + 1))).drew) := ((HI.out.bel.trans HX2.out.1).setCell (p := ⟨D, k, none⟩) HI.out.db _).drew
        have HC3 : Hid ((w2.setCell ⟨D, k, none⟩ (.int .u32 ((k : Int) + 1))).heap[D]? = some (Obj.cells (c.setIfInBounds k (.int .u32 ((k : Int) + 1))) 27 (0, 0))) := heapSame hc2 _
        have HDB := hid HI.out.db
        have HCV := hid (And.intro hcs hcv)
        have hS3 : (w2.setCell ⟨D, k, none⟩ (.int .u32 ((k : Int) + 1))).drew.cell? ⟨D, k, none⟩ = some (.int .u32 ((k : Int) + 1)) ∧ (w2.setCell ⟨D, k, none⟩ (.int .u32 ((k : Int) + 1))).drew.cell? p = some (.int .i64 d) := by
          refine ⟨?_, ?_⟩
          · show (w2.setCell _ _).cell? _ = _
            rw [cells_of_block HC3.out, Array.getElem?_setIfInBounds, if_pos rfl, if_pos (by omega)]
          · rw [← hpc]; unfold World.cell?; rw [HB3.out.block _ hpb]
        clear hc hcs hcv HP2 HI hc2
        go_wp2_with fail
        have HC3d : Hid ((w2.setCell ⟨D, k, none⟩ (.int .u32 ((k : Int) + 1))).drew.heap[D]? = some (Obj.cells (c.setIfInBounds k (.int .u32 ((k : Int) + 1))) 27 (0, 0))) := HC3.out
        have HE : Hid (∀ w', Ext w.heap.size (w2.setCell ⟨D, k, none⟩ (.int .u32 ((k : Int) + 1))).drew w' → w'.cell? ⟨D, k, none⟩ = some (.int .u32 ((k : Int) + 1)) ∧ w'.cell? p = some (.int .i64 d)) := fun w' hx => by
          refine ⟨?_, ?_⟩
          · rw [cells_of_block (hx.2 _ _ 27 (Or.inl rfl) HC3d.out), ← cells_of_block HC3d.out]; exact hS3.1
          · have h2 := hS3.2
            rw [← h2]; unfold World.cell?; rw [hx.1.block _ hpb]
        go_region_held3 (fun w' => w'.cell? ⟨D, k, none⟩ = some (.int .u32 ((k : Int) + 1)) ∧ w'.cell? p = some (.int .i64 d))
          (first | exact hS3 | exact hS4)
          (first | (go_at_call 8; refine (setTaken_any HP3.out k (by omega) (by omega) d).mono ?_; rintro e w4 ⟨rfl, HP4, HX4⟩; have hS4 := HE.out _ HX4.out))
        have HI4 : Hid (LInv w.heap.size w w.heap.size D len zs (k + 1) w4) := by
          refine ⟨HB3.out.trans HX4.out.1, ?_, HDB.out, _, HX4.out.2 _ _ 27 (Or.inl rfl) HC3d.out, by simp [HCV.out.1], fun j hj => ?_⟩
          · have e : (fun x => if x = k then d else if x = k then 0 else zs.getD x 0) = fun j => zs.getD j 0 := by
              funext x
              by_cases hx : x = k
              · subst hx; simp [HD.out]
              · simp [hx]
            have h4 := HP4.out
            rw [e] at h4
            exact h4
          · rw [Array.getElem?_setIfInBounds]
            by_cases hj' : k = j
            · subst hj'; rw [if_pos rfl, if_pos (by have := HCV.out.1; omega)]
            · rw [if_neg hj']; exact HCV.out.2 j (by omega)
        clear HE HC3 HC3d HB3 HP3 hS3 hS4 HP4 HX4 HCV HDB
        go_wp2
        go_roundg (gk - 1)
        case measure => have := HG.out; omega
        case rel => exact ⟨k + 1, by have := HG.out; show _ = _; omega, by go_num, HI4⟩
      · have hkl : k = len := by omega
        have HIL : Hid (LInv w.heap.size w w.heap.size D len zs len wr) := by rw [hkl] at HI; exact HI
        have hBr : w.heap.size ≤ wr.heap.size := HIL.out.bel.size
        have HI2 := hid HIL.out.two.drew
        clear HI hkl HIL
        obtain ⟨p, hpb, hpc, hpx⟩ := HIN.out m hm
        have hix := HIX.out m hm
        have hixl : ∀ w', (Instr.indexAt 26 (.slice (some ⟨D, 0, none⟩) len len) (.int .i64 ((len : Int) - 1))).run Try.prog w' = .ok (.pointer (some ⟨D, len - 1, none⟩)) w' := fun w' => by
          have := HIX.out (len - 1) (by omega) w'
          rw [show ((len - 1 : Nat) : Int) = (len : Int) - 1 by omega] at this
          exact this
        obtain ⟨d, hd⟩ : ∃ d, d = zs.getD m 0 := ⟨_, rfl⟩
        rw [← hd] at hpc
        have HD := hid hd
        clear hd
        have HS : Hid (∀ n tk w', LInv2 w.heap.size w w.heap.size D len zs n tk w' → w'.cell? ⟨D, m, none⟩ = some (.int .u32 ((m : Int) + 1)) ∧ w'.cell? ⟨D, len - 1, none⟩ = some (.int .u32 (len : Int)) ∧ w'.cell? p = some (.int .i64 d)) := fun n tk w' h =>
          ⟨h.cell m hm, by rw [h.cell (len - 1) (by omega)]; rw [show ((len - 1 : Nat) : Int) + 1 = (len : Int) by omega], h.old hpb hpc⟩
        have hSd := HS.out _ _ _ HI2.out
        have hwl : IntKind.i64.wrap ((len : Int) - 1) = (len : Int) - 1 := IntWalk.i64_in _ (by omega)
        have hl1 : (1 : Int) ≤ (len : Int) := by omega
        have hl0 : (0 : Int) ≤ (len : Int) - 1 := by omega
        go_wp2_with fail
        go_region_held3 (fun w' => w'.cell? ⟨D, m, none⟩ = some (.int .u32 ((m : Int) + 1)) ∧ w'.cell? ⟨D, len - 1, none⟩ = some (.int .u32 (len : Int)) ∧ w'.cell? p = some (.int .i64 d))
          (first | exact hSd | exact hS6)
          (first | (go_at_call 9; refine (zzOldest_any HI2.out.pool hBr m hm (by omega) _).mono ?_; rintro e w6 ⟨rfl, HP6, HX6⟩; have HI6 := hid (HI2.out.ext HX6.out HP6.out (fun _ _ => rfl) (Nat.le_refl _)); have hS6 := HS.out _ _ _ HI6.out))
        have HDE := HD.out
        rw [List.getD_eq_getElem?_getD] at HDE
        rw [← HDE]
        clear hSd hS6 HI2 HP6 HX6 HDE HG hlt hk hBr
        go_wp2_with fail
        go_loopg [13] len1 (fun g i wr => ∃ j : Nat, Hid (j + g = len1) ∧ i = .int .i64 j ∧ ∃ tk, Hid (LInv2 w.heap.size w w.heap.size D len zs (len + j) tk wr))
        case atStart => exact ⟨0, Nat.zero_add _, rfl, _, HI6⟩
        case round =>
          clear HI6
          obtain ⟨j, HG, rfl, tk, HI⟩ := hrel
          rename World => wj
          have hj : j ≤ len1 := by have := HG.out; omega
          by_cases hlt : j < len1
          · obtain ⟨p1, hpb1, hpc1, hpx1⟩ := HIN1.out j hlt
            have hBr : w.heap.size ≤ wj.heap.size := HI.out.bel.size
            go_wp2_with fail
            refine (addEntry_any HI.out.pool (by omega) hBr 0).mono ?_
            rintro r w2 ⟨rfl, HP2, HX2⟩
            have HI2 := hid (HI.out.ext HX2.out HP2.out (fun x hx => if_neg (by omega)) (by omega))
            have hpc2 := HI2.out.old hpb1 hpc1
            clear HI HP2 HX2
            go_wp2_with fail
            have hst := setTaken_any HI2.out.pool (len + j) (by omega) (by omega) (zs1.getD j 0)
            rw [show (((len + j : Nat) : Int) + 1) = (len : Int) + (j : Int) + 1 by omega, List.getD_eq_getElem?_getD] at hst
            refine hst.mono ?_
            rintro r w3 ⟨rfl, HP3, HX3⟩
            have HI3 := hid (HI2.out.ext HX3.out HP3.out (fun x hx => if_neg (by omega)) (Nat.le_refl _))
            clear HI2 HP3 HX3 hst
            go_wp2
            go_roundg (gk - 1)
            case measure => have := HG.out; omega
            case rel => exact ⟨j + 1, by have := HG.out; show _ = _; omega, by go_num, _, HI3⟩
          · have hBr : w.heap.size ≤ wj.heap.size := HI.out.bel.size
            have HI2 := hid HI.out.drew
            have HT : Hid (d = tk m) := by rw [HI.out.tks m hm]; exact HD
            have hln : j ≤ 4096 := by omega
            clear HI
            have hSd := HS.out _ _ _ HI2.out
            go_wp2_with fail
            go_region_held3 (fun w' => w'.cell? ⟨D, m, none⟩ = some (.int .u32 ((m : Int) + 1)) ∧ w'.cell? ⟨D, len - 1, none⟩ = some (.int .u32 (len : Int)) ∧ w'.cell? p = some (.int .i64 d))
              (first | exact hSd | exact hS6)
              (first | (go_at_call 9; refine (zzOldest_any HI2.out.pool hBr m (by omega) (by omega) _).mono ?_; rintro e w6 ⟨rfl, HP6, HX6⟩; have HI6 := hid (HI2.out.ext HX6.out HP6.out (fun _ _ => rfl) (Nat.le_refl _)); have hS6 := HS.out _ _ _ HI6.out))
            rw [← HT.out]
            have hpd := hS6.2.2
            have HB := hid HI6.out.bel
            clear hSd hS6 HI2 HP6 HX6 HI6 HG
            go_wp2
            go_ret
            exact ⟨rfl, HB⟩
end Go.Proofs.Qxb6608542a
