/-
  WALK: (*slotTable).copy (26), ZZcopy (15).
-/
import Derived.Test.Qxb6608555aCopy
namespace Go.Proofs.Qxb6608555a
open Go.RowKit Go.Maps
set_option linter.unusedVariables false
set_option linter.unusedSimpArgs false
set_option maxRecDepth 20000

theorem info28 : (Try.prog.info? 28).map (fun i => (i.zero, i.size, i.bytes)) = some (some (.int .u16 0), 1, 2) := by kernel_rfl
theorem index29 (f : Nat → Nat) (s : Nat) (hs : s < 16384) (w : World) : (Instr.index 29 (.agg (arr f).toArray) (.int .i64 (s : Int))).run Try.prog w = .ok (.int .u16 (f s)) w := by
  have h1 : (s : Int) < 16384 := by omega
  have hp : (part 28 (arr f).toArray s).run Try.prog w = .ok (.int .u16 (f s)) w := by
    simp [part, isAgg, run_underlying Try.underlying28, arr_get f s hs, Sem.run_bind, Result.andThen]
  simp [Instr.index, asIntOf, run_underlying Try.underlying29, Sem.run_bind, Result.andThen, h1, sized28 w, hp]
  omega

/-- What a copy leaves. -/
def CopyTo (W : World) (mo : Nat → ByteArray) (e : Ending) (W' : World) : Prop := ∃ C own' vc, e = .returned (.pointer (some ⟨C, 0, none⟩)) ∧ Hid (W.heap.size ≤ C ∧ Tab W.heap.size W' C own' vc (⟨#[]⟩ :: srv mo 16384) ∧ Tells own' (srv mo 16384) mo) ∧ Hid (Tch W W' (fun _ => False))

theorem build_str (ρ : Operand → Value) (w : World) (d : ByteArray) (h : ρ (.tmp 40) = .string d) : (execOp ρ ⟨some 41, .buildSlice 23 1 #[(0, .tmp 40)], 23, "", #[], none⟩).run Try.prog w.drew = .ok (.value (.slice (some ⟨w.heap.size, 0, none⟩) 1 1)) (w.alloc (.cells #[.string d] 9)).drew := by
  simp [execOp, h, go_sem]

set_option maxHeartbeats 4000000 in
theorem copy26 {B : Nat} {W : World} {T : Nat} {own : Nat → Nat} {v : Value} {L : List ByteArray} {mo : Nat → ByteArray} (hT : Tab B W T own v (⟨#[]⟩ :: L)) (ht : Tells own L mo) (hL : L.length ≤ 5000) :
    Calls Try.prog 26 #[.pointer (some ⟨T, 0, none⟩)] W fun e W' => CopyTo W mo e W' := by
  obtain ⟨av, cv, rfl, hrd⟩ := hT.shape
  obtain ⟨n, hn⟩ : ∃ n : Nat, n = L.length + 1 := ⟨_, rfl⟩
  have en : (⟨#[]⟩ :: L : List ByteArray).length = n := by rw [hn]; rfl
  have HN := hid hn
  rw [en] at hT hrd
  have HT := hid hT
  have HRd := hid hrd
  have HTe := hid ht
  have hn5 : n ≤ 5001 := by omega
  clear hT hrd ht hn en
  go_enter Try.func26, Try.ntmps26
  go_wp2_with fail
  refine (new24 W).mono ?_
  rintro e W1 ⟨C, v0, rfl, HC1, HT1⟩
  have HTa := hid (HT.out.keep HT1.out (fun x => x) (fun _ _ x => x))
  have hids := HTa.out.ids
  have hmk := make_of 66 28 (.int .u16 0) 2 Try.underlying66 info28 rfl (by omega) n (by omega) W1
  have HTb := hid (HTa.out.keep (Tch.alloc W1 (.cells (madeCells #[.int .u16 0] n) 28) (fun _ => False)) (fun x => x) (fun _ _ x => x))
  have HPl := hid (Blk.made W1 28 n (.int .u16 0))
  go_wp2_with ((with_reducible apply wpList_load29); (· rfl); (· exact HTb.out.load))
  have HW0 : Hid (CpW W C W1.heap.size n (fun _ => 0) v0 [] (fun _ => 0) (W1.alloc (.cells (madeCells #[.int .u16 0] n) 28))) :=
    ⟨HT1.out.trans (Tch.alloc W1 _ (fun _ => False)) (fun _ _ x => x), HC1.out.2.keep (Tch.alloc W1 _ (fun _ => False)) (fun x => x) (fun _ _ x => x), HPl.out, HT1.out.size⟩
  generalize W1.alloc (.cells (madeCells #[.int .u16 0] n) 28) = W2 at HW0 ⊢
  generalize W1.heap.size = PL at HW0 ⊢
  clear hmk HTa HTb HPl hids HT1
  obtain ⟨a0, c0, hv0, _⟩ := HW0.out.tab.shape
  subst hv0
  have HW0' : Hid (CpW W C PL n (fun _ => 0) (.slice a0 1 c0) [] (fun _ => 0) W2) := HW0
  clear HW0
  obtain ⟨Z, HZ⟩ : ∃ Z : Nat, Hid (Z = 16384) := ⟨_, rfl⟩
  have HTL : Hid ((srv mo 16384).length ≤ 16384) := srv_len mo 16384
  go_loopg [18] Z (fun g v18 wr => ∃ (s : Nat) (own' : Nat → Nat) (a' : Option Addr) (m' cap' : Nat) (L' : List ByteArray) (pl : Nat → Nat), Hid (s + g = Z) ∧ v18 = .int .i64 (s : Int) ∧ Hid (m' = L'.length + 1) ∧ Hid (Cp own L mo s own' L' pl) ∧ Hid (CpW W C PL n own' (.slice a' m' cap') L' pl wr))
  case atStart => exact ⟨0, _, _, 1, _, [], _, Nat.zero_add _, rfl, rfl, hid (Cp.start own L mo), HW0'⟩
  case round =>
    clear HW0'
    obtain ⟨s, own', a', m', cap', L', pl, HG, rfl, HM', HCp, HCw⟩ := hrel
    rename World => wr
    by_cases hs : s < 16384
    · have hs2 : (s : Int) < 16384 := by omega
      have hix := index29 own s hs
      have hw1 : IntKind.i64.wrap ((s : Int) + 1) = (s : Int) + 1 := IntWalk.i64_in _ (by omega)
      have HL' : Hid (L'.length ≤ s) := by rw [HCp.out.l]; exact srv_len mo s
      by_cases h0 : own s = 0
      · have HCp' := hid (HCp.out.skip HTe.out hs h0)
        rw [h0] at hix
        clear HCp
        go_wp2
        go_roundg (gk - 1)
        case measure => have := HG.out; have := HZ.out; omega
        case rel => exact ⟨s + 1, own', a', m', cap', L', pl, by have := HG.out; have := HZ.out; show _ = _; omega, by go_num, HM', HCp', HCw⟩
      · obtain ⟨j, hj⟩ : ∃ j, own s = j + 1 := ⟨own s - 1, by omega⟩
        obtain ⟨hjL, hjd, hjne⟩ := HTe.out.at hs hj
        have hjn : j + 1 < n := by have := HN.out; omega
        rw [hj] at hix
        have HJ := hid hj
        have hnz : ((j : Int) + 1 == 0) = false := by simp; omega
        have hix' : ∀ w', (Instr.index 29 (.agg (arr own).toArray) (.int .i64 (s : Int))).run Try.prog w' = .ok (.int .u16 ((j : Int) + 1)) w' := fun w' => hix w'
        have hixp : ∀ w', (Instr.indexAt 66 (.slice (some ⟨PL, 0, none⟩) n n) (.int .u16 ((j : Int) + 1))).run Try.prog w' = .ok (.pointer (some ⟨PL, j + 1, none⟩)) w' := fun w' => by
          have := idx_eq Try.underlying66 sized28 .u16 PL 0 n n (j + 1) hjn w'
          simpa using this
        have hcp : wr.cell? ⟨PL, j + 1, none⟩ = some (.int .u16 (pl (j + 1))) := HCw.out.pls.cell (j + 1) hjn
        have hfp := HCw.out.pls.free (j + 1)
        clear hix hj h0
        by_cases hp0 : pl (j + 1) = 0
        · rw [hp0] at hcp
          go_wp2_with fail
          obtain ⟨q, hqb, hq, hqc⟩ := HRd.out.at' (j + 1) hjn
          have hqx : ∀ w', (Instr.indexAt 23 (.slice av n cv) (.int .u16 ((j : Int) + 1))).run Try.prog w' = .ok (.pointer (some q)) w' := fun w' => hq .u16 w'
          obtain ⟨d, hd⟩ : ∃ d, d = mo s := ⟨_, rfl⟩
          have hqd : W.cell? q = some (.string d) := by
            rw [hqc, hd, ← hjd]
            simp
            rfl
          have hti := HT.out.ids
          have htl := HT.out.blk.lt
          have HF : Hid (∀ w', Tch W w' (fun _ => False) → w'.cell? ⟨T, 16384, none⟩ = some (.slice av n cv) ∧ w'.cell? q = some (.string d)) := fun w' h =>
            ⟨by rw [← hti]; exact World.cell?_of_block (h.block _ htl (fun x => x)), by rw [← hqd]; exact World.cell?_of_block (h.block _ hqb (fun x => x))⟩
          have hm5 : m' ≤ 100000 := by have := HM'.out; have := HL'.out; omega
          obtain ⟨a3, cap3, W3, hrun, ht3, hc3, hf3, hw3⟩ := HCw.out.app HM'.out hm5 d 23
          have HCp' := hid (HCp.out.fresh HTe.out hs HJ.out hp0)
          rw [← hd] at HCp'
          have HW3 := hid hw3
          have hS : (fun w' : World => w'.cell? ⟨C, 16384, none⟩ = some (.slice a' m' cap') ∧ w'.cell? ⟨T, 16384, none⟩ = some (.slice av n cv) ∧ w'.cell? q = some (.string d)) wr.drew := ⟨HCw.out.tab.ids, HF.out _ HCw.out.drew.tch⟩
          have hS2 : (fun w' : World => w'.cell? ⟨C, 16384, none⟩ = some (.slice a' m' cap') ∧ w'.cell? ⟨T, 16384, none⟩ = some (.slice av n cv) ∧ w'.cell? q = some (.string d)) (wr.alloc (.cells #[.string d] 9)).drew := by
            have hk : Tch wr (wr.alloc (.cells #[.string d] 9)).drew (fun _ => False) := (Tch.alloc wr _ _).trans (Tch.drew _ (fun _ => False)) (fun _ _ x => x)
            exact ⟨(HCw.out.tab.keep hk (fun x => x) (fun _ _ x => x)).ids, HF.out _ (HCw.out.tch.trans hk (fun _ _ x => x))⟩
          have hS3 : (fun w' : World => w'.cell? ⟨C, 16384, none⟩ = some (.slice a' m' cap') ∧ w'.cell? ⟨T, 16384, none⟩ = some (.slice av n cv) ∧ w'.cell? q = some (.string d)) W3 := ⟨hc3, HF.out _ ht3⟩
          clear hqc hq hqb hqd hti htl HF ht3 hw3 HCp hp0
          refine wp_region_any (by kernel_rfl) ?_
          change wpAny _ _ _ _ _ _ _ (World.drew _)
          refine wpAny_of_N (S := fun w' : World => w'.cell? ⟨C, 16384, none⟩ = some (.slice a' m' cap') ∧ w'.cell? ⟨T, 16384, none⟩ = some (.slice av n cv) ∧ w'.cell? q = some (.string d)) (N := 16) _ _ _ _ ?_
          refine wpN_takeO 0 ⟨some 29, .move (.tmp 3), 26, "", #[], none⟩ (Value.pointer (some ⟨C, 0, none⟩)) rfl rfl (by kernel_rfl) (by kernel_rfl) (by kernel_rfl) (by kernel_rfl) rfl rfl (fun _ => rfl) (fun _ _ _ h => h) hS (fun w hSw => by (try dsimp only at hSw); go_simp) ?_
          simp only [Act.put, List.setIfInBounds_toArray, List.set_cons_zero, List.set_cons_succ]
          refine wpN_takeO 1 ⟨some 30, .move (.tmp 3), 26, "", #[], none⟩ (Value.pointer (some ⟨C, 0, none⟩)) rfl rfl (by kernel_rfl) (by kernel_rfl) (by kernel_rfl) (by kernel_rfl) rfl rfl (fun _ => rfl) (fun _ _ _ h => h) hS (fun w hSw => by (try dsimp only at hSw); go_simp) ?_
          simp only [Act.put, List.setIfInBounds_toArray, List.set_cons_zero, List.set_cons_succ]
          refine wpN_takeO 2 ⟨some 31, .nilCheck (.tmp 30), 0, "", #[], none⟩ (Value.pointer (some ⟨C, 0, none⟩)) rfl rfl (by kernel_rfl) (by kernel_rfl) (by kernel_rfl) (by kernel_rfl) rfl rfl (fun _ => rfl) (fun _ _ _ h => h) hS (fun w hSw => by (try dsimp only at hSw); go_simp) ?_
          simp only [Act.put, List.setIfInBounds_toArray, List.set_cons_zero, List.set_cons_succ]
          refine wpN_takeO 3 ⟨some 32, .fieldAddr 57 (.tmp 31) 1, 0, "", #[], none⟩ (Value.pointer (some ⟨C, 16384, none⟩)) rfl rfl (by kernel_rfl) (by kernel_rfl) (by kernel_rfl) (by kernel_rfl) rfl rfl (fun _ => rfl) (fun _ _ _ h => h) hS (fun w hSw => by (try dsimp only at hSw); go_simp) ?_
          simp only [Act.put, List.setIfInBounds_toArray, List.set_cons_zero, List.set_cons_succ]
          refine wpN_takeO 4 ⟨some 33, .load 23 (.tmp 32), 23, "", #[], none⟩ (Value.slice a' m' cap') rfl rfl (by kernel_rfl) (by kernel_rfl) (by kernel_rfl) (by kernel_rfl) rfl rfl (fun _ => rfl) (fun _ _ _ h => h) hS (fun w hSw => by (try dsimp only at hSw); go_simp) ?_
          simp only [Act.put, List.setIfInBounds_toArray, List.set_cons_zero, List.set_cons_succ]
          refine wpN_takeO 5 ⟨some 34, .move (.tmp 0), 26, "", #[], none⟩ (Value.pointer (some ⟨T, 0, none⟩)) rfl rfl (by kernel_rfl) (by kernel_rfl) (by kernel_rfl) (by kernel_rfl) rfl rfl (fun _ => rfl) (fun _ _ _ h => h) hS (fun w hSw => by (try dsimp only at hSw); go_simp) ?_
          simp only [Act.put, List.setIfInBounds_toArray, List.set_cons_zero, List.set_cons_succ]
          refine wpN_takeO 6 ⟨some 35, .nilCheck (.tmp 34), 0, "", #[], none⟩ (Value.pointer (some ⟨T, 0, none⟩)) rfl rfl (by kernel_rfl) (by kernel_rfl) (by kernel_rfl) (by kernel_rfl) rfl rfl (fun _ => rfl) (fun _ _ _ h => h) hS (fun w hSw => by (try dsimp only at hSw); go_simp) ?_
          simp only [Act.put, List.setIfInBounds_toArray, List.set_cons_zero, List.set_cons_succ]
          refine wpN_takeO 7 ⟨some 36, .fieldAddr 57 (.tmp 35) 1, 0, "", #[], none⟩ (Value.pointer (some ⟨T, 16384, none⟩)) rfl rfl (by kernel_rfl) (by kernel_rfl) (by kernel_rfl) (by kernel_rfl) rfl rfl (fun _ => rfl) (fun _ _ _ h => h) hS (fun w hSw => by (try dsimp only at hSw); go_simp) ?_
          simp only [Act.put, List.setIfInBounds_toArray, List.set_cons_zero, List.set_cons_succ]
          refine wpN_takeO 8 ⟨some 37, .load 23 (.tmp 36), 23, "", #[], none⟩ (Value.slice av n cv) rfl rfl (by kernel_rfl) (by kernel_rfl) (by kernel_rfl) (by kernel_rfl) rfl rfl (fun _ => rfl) (fun _ _ _ h => h) hS (fun w hSw => by (try dsimp only at hSw); go_simp) ?_
          simp only [Act.put, List.setIfInBounds_toArray, List.set_cons_zero, List.set_cons_succ]
          refine wpN_takeO 9 ⟨some 38, .move (.tmp 6), 28, "", #[], none⟩ (Value.int .u16 ((j : Int) + 1)) rfl rfl (by kernel_rfl) (by kernel_rfl) (by kernel_rfl) (by kernel_rfl) rfl rfl (fun _ => rfl) (fun _ _ _ h => h) hS (fun w hSw => by (try dsimp only at hSw); go_simp) ?_
          simp only [Act.put, List.setIfInBounds_toArray, List.set_cons_zero, List.set_cons_succ]
          refine wpN_takeO 10 ⟨some 39, .indexAddr 23 (.tmp 37) (.tmp 38), 0, "", #[], none⟩ (Value.pointer (some q)) rfl rfl (by kernel_rfl) (by kernel_rfl) (by kernel_rfl) (by kernel_rfl) rfl rfl (fun _ => rfl) (fun _ _ _ h => h) hS (fun w hSw => by (try dsimp only at hSw); go_simp) ?_
          simp only [Act.put, List.setIfInBounds_toArray, List.set_cons_zero, List.set_cons_succ]
          refine wpN_takeO 11 ⟨some 40, .load 9 (.tmp 39), 9, "", #[], none⟩ (Value.string d) rfl rfl (by kernel_rfl) (by kernel_rfl) (by kernel_rfl) (by kernel_rfl) rfl rfl (fun _ => rfl) (fun _ _ _ h => h) hS (fun w hSw => by (try dsimp only at hSw); go_simp) ?_
          simp only [Act.put, List.setIfInBounds_toArray, List.set_cons_zero, List.set_cons_succ]
          refine wpN_one (i := 12) (by kernel_rfl) rfl (fun K hK => ?_)
          refine wp_of_run ⟨some 41, .buildSlice 23 1 #[(0, .tmp 40)], 23, "", #[], none⟩ rfl rfl (fun _ => rfl) (.slice (some ⟨wr.heap.size, 0, none⟩) 1 1) (wr.alloc (.cells #[.string d] 9)).drew (build_str _ wr d rfl) ?_
          refine hK.out _ _ hS2 (fun _ => ?_)
          clear hK K
          simp only [Act.put, List.setIfInBounds_toArray, List.set_cons_zero, List.set_cons_succ]
          refine wpN_one (i := 13) (by kernel_rfl) rfl (fun K hK => ?_)
          refine step_of_run rfl (.tmp 33) (.tmp 41) 23 rfl _ _ rfl rfl _ _ hrun ?_
          refine hK.out _ _ hS3 (fun _ => ?_)
          clear hK K
          simp only [Act.put, List.setIfInBounds_toArray, List.set_cons_zero, List.set_cons_succ]
          refine wpN_one (i := 14) (by kernel_rfl) rfl (fun K hK => ?_)
          refine wp_of_run ⟨some 43, .nilCheck (.tmp 29), 0, "", #[], none⟩ rfl rfl (fun _ => rfl) (Value.pointer (some ⟨C, 0, none⟩)) W3 (by go_simp) ?_
          refine hK.out _ _ hS3 (fun _ => ?_)
          clear hK K
          simp only [Act.put, List.setIfInBounds_toArray, List.set_cons_zero, List.set_cons_succ]
          refine wpN_one (i := 15) (by kernel_rfl) rfl (fun K hK => ?_)
          refine wp_of_run ⟨some 44, .fieldAddr 57 (.tmp 43) 1, 0, "", #[], none⟩ rfl rfl (fun _ => rfl) (Value.pointer (some ⟨C, 16384, none⟩)) W3 (by go_simp) ?_
          refine hK.out _ _ hS3 (fun _ => ?_)
          clear hK K
          simp only [Act.put, List.setIfInBounds_toArray, List.set_cons_zero, List.set_cons_succ]
          refine wpN_last (by kernel_rfl) rfl (fun K hK => ?_)
          go_simp
          refine hK.out _ _ ?_
          clear hK K
          refine wpN_done (by kernel_rfl) ?_ _
          clear hS hS2 hS3 hrun hqx hc3 hf3 hcp hfp
          rw [← HM'.out] at HCp'
          generalize W3.setCell ⟨C, 16384, none⟩ (.slice a3 (m' + 1) cap3) = W4 at HW3 ⊢
          have hi4 := HW3.out.tab.ids
          have hp4 : W4.cell? ⟨PL, j + 1, none⟩ = some (.int .u16 (pl (j + 1))) := HW3.out.pls.cell (j + 1) hjn
          have hf4 := HW3.out.pls.free (j + 1)
          have hwm : IntKind.i64.wrap ((m' : Int) + 1 - 1) = (m' : Int) := by rw [IntWalk.i64_in _ (by omega)]; omega
          have hwu : IntKind.u16.wrap (m' : Int) = (m' : Int) := IntWalk.u16_in _ (by have := HM'.out; have h2 := HCp'.out.l; have h3 := srv_prefix mo (s + 1) 16384 (by omega); have h4 := HTL.out; have h5 := h3.length_le; rw [← h2] at h5; simp at h5; omega)
          have HW5 := hid (HW3.out.setPl (j + 1) m')
          have HW5d := hid HW5.out.drew
          have HW6 := hid (HW5d.out.setOwn s m' hs)
          have hixC := idxArr Try.underlying29 sized28 .i64 C s hs
          have hS5 : (W4.setCell ⟨PL, j + 1, none⟩ (.int .u16 (m' : Int))).drew.cell? ⟨PL, j + 1, none⟩ = some (.int .u16 (m' : Int)) ∧ (W4.setCell ⟨PL, j + 1, none⟩ (.int .u16 (m' : Int))).drew.cell? ⟨C, s, none⟩ = some (.int .u16 (own' s : Int)) ∧ (W4.setCell ⟨PL, j + 1, none⟩ (.int .u16 (m' : Int))).drew.frozen? ⟨C, s, none⟩ = false := by
            have h1 := HW5d.out.pls.cell (j + 1) hjn
            simp only [upd, if_true] at h1
            exact ⟨h1, HW5d.out.tab.own s hs, HW5d.out.tab.blk.free s⟩
          have hS6 : ((W4.setCell ⟨PL, j + 1, none⟩ (.int .u16 (m' : Int))).drew.setCell ⟨C, s, none⟩ (.int .u16 (m' : Int))).cell? ⟨PL, j + 1, none⟩ = some (.int .u16 (m' : Int)) ∧ (∃ u, ((W4.setCell ⟨PL, j + 1, none⟩ (.int .u16 (m' : Int))).drew.setCell ⟨C, s, none⟩ (.int .u16 (m' : Int))).cell? ⟨C, s, none⟩ = some u) ∧ ((W4.setCell ⟨PL, j + 1, none⟩ (.int .u16 (m' : Int))).drew.setCell ⟨C, s, none⟩ (.int .u16 (m' : Int))).frozen? ⟨C, s, none⟩ = false := by
            have h1 := HW6.out.pls.cell (j + 1) hjn
            simp only [upd, if_true] at h1
            exact ⟨h1, ⟨_, HW6.out.tab.own s hs⟩, HW6.out.tab.blk.free s⟩
          go_wp2_with fail
          go_region_held3 (fun w' => w'.cell? ⟨PL, j + 1, none⟩ = some (.int .u16 (m' : Int)) ∧ (∃ u, w'.cell? ⟨C, s, none⟩ = some u) ∧ w'.frozen? ⟨C, s, none⟩ = false)
            (first | exact ⟨hS5.1, ⟨_, hS5.2.1⟩, hS5.2.2⟩ | exact hS6)
            (fail)
          have HW7 : Hid (CpW W C PL n (upd own' s m') (.slice a3 (m' + 1) cap3) (L' ++ [d]) (upd pl (j + 1) m') ((W4.setCell ⟨PL, j + 1, none⟩ (.int .u16 (m' : Int))).setCell ⟨C, s, none⟩ (.int .u16 (m' : Int))).drew) := HW6
          clear HW5 HW5d HW6 hS5 hS6 hi4 hp4 hf4 HW3 hjL hjd hjne hnz hix' hixp hixC hwm hwu hm5 hjn hs2
          go_wp2
          go_roundg (gk - 1)
          case measure => have := HG.out; have := HZ.out; omega
          case rel => exact ⟨s + 1, _, a3, m' + 1, cap3, L' ++ [d], _, by have := HG.out; have := HZ.out; show _ = _; omega, by go_num, hid (by rw [HM'.out]; simp), HCp', HW7⟩
        · --OLD
          have hp1 : ((pl (j + 1) : Int) == 0) = false := by simp; omega
          have HCp' := hid (HCp.out.old HTe.out hs HJ.out hp0)
          obtain ⟨x, hx⟩ : ∃ x, x = pl (j + 1) := ⟨_, rfl⟩
          rw [← hx] at hcp hp1 HCp'
          have HX := hid hx
          have HWd := hid HCw.out.drew
          have HW6 := hid (HWd.out.setOwn s x hs)
          have hixC := idxArr Try.underlying29 sized28 .i64 C s hs
          have hS5 : wr.drew.cell? ⟨PL, j + 1, none⟩ = some (.int .u16 (x : Int)) ∧ wr.drew.cell? ⟨C, s, none⟩ = some (.int .u16 (own' s : Int)) ∧ wr.drew.frozen? ⟨C, s, none⟩ = false := ⟨hcp, HWd.out.tab.own s hs, HWd.out.tab.blk.free s⟩
          have hS6 : (wr.drew.setCell ⟨C, s, none⟩ (.int .u16 (x : Int))).cell? ⟨PL, j + 1, none⟩ = some (.int .u16 (x : Int)) ∧ (∃ u, (wr.drew.setCell ⟨C, s, none⟩ (.int .u16 (x : Int))).cell? ⟨C, s, none⟩ = some u) ∧ (wr.drew.setCell ⟨C, s, none⟩ (.int .u16 (x : Int))).frozen? ⟨C, s, none⟩ = false := by
            have h1 := HW6.out.pls.cell (j + 1) hjn
            rw [← hx] at h1
            exact ⟨h1, ⟨_, HW6.out.tab.own s hs⟩, HW6.out.tab.blk.free s⟩
          clear hx hp0 HCp
          go_wp2_with fail
          go_region_held3 (fun w' => w'.cell? ⟨PL, j + 1, none⟩ = some (.int .u16 (x : Int)) ∧ (∃ u, w'.cell? ⟨C, s, none⟩ = some u) ∧ w'.frozen? ⟨C, s, none⟩ = false)
            (first | exact ⟨hS5.1, ⟨_, hS5.2.1⟩, hS5.2.2⟩ | exact hS6)
            (fail)
          have HW7 : Hid (CpW W C PL n (upd own' s x) (.slice a' m' cap') L' pl (wr.setCell ⟨C, s, none⟩ (.int .u16 (x : Int))).drew) := HW6
          clear HWd HW6 hS5 hS6 hcp hfp HCw hjL hjd hjne hnz hix' hixp hixC hp1 hjn hs2
          go_wp2
          go_roundg (gk - 1)
          case measure => have := HG.out; have := HZ.out; omega
          case rel => exact ⟨s + 1, _, a', m', cap', L', pl, by have := HG.out; have := HZ.out; show _ = _; omega, by go_num, HM', HCp', HW7⟩
    · have hs2 : ¬ (s : Int) < 16384 := by omega
      have hse : s = 16384 := by have := HG.out; have := HZ.out; omega
      have HE : Hid (W.heap.size ≤ C ∧ Tab W.heap.size wr C own' (.slice a' m' cap') (⟨#[]⟩ :: srv mo 16384) ∧ Tells own' (srv mo 16384) mo) := by
        have h1 := HCp.out
        rw [hse] at h1
        have h2 := h1.tells HTe.out
        have h3 := HCw.out.tab
        rw [h1.l] at h2 h3
        exact ⟨h3.tb, h3, h2⟩
      have HT2 := hid HCw.out.tch
      clear HCp HCw
      go_wp2
      go_ret
      exact ⟨C, own', _, rfl, HE, HT2⟩

theorem copy15 {B : Nat} {W : World} {T : Nat} {own : Nat → Nat} {v : Value} {L : List ByteArray} {mo : Nat → ByteArray} (hT : Tab B W T own v (⟨#[]⟩ :: L)) (ht : Tells own L mo) (hL : L.length ≤ 5000) :
    Calls Try.prog 15 #[.pointer (some ⟨T, 0, none⟩)] W fun e W' => CopyTo W mo e W' := by
  have H1 := hid hT
  have H2 := hid ht
  clear hT ht
  go_enter Try.func15, Try.ntmps15
  go_wp2_with fail
  refine (copy26 H1.out H2.out hL).mono ?_
  rintro e W' ⟨C, own', vc, rfl, h1, h2⟩
  go_wp2
  go_ret
  exact ⟨C, own', vc, rfl, h1, h2⟩
end Go.Proofs.Qxb6608555a
