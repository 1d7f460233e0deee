/-
  WALK: pool.add.
-/
import Derived.Test.Qxb6608542aTake
namespace Go.Proofs.Qxb6608542a
open Go.RowKit
set_option linter.unusedVariables false
set_option linter.unusedSimpArgs false

theorem hid {p : Prop} (h : p) : Hid p := h
/-- An append whose run is known, as one step of a region that draws. -/
theorem step_of_run {P : Program} {ops : Array Oper} {o : Oper} {a : Act} {w : World} {K : Act → World → Prop} {Q : Exit → Act → World → Prop} {E : Prop}
    (hg : o.guard = none) (s x : Operand) (t : TypeId) (hop : o.op = Op.call { callee := Callee.builtin Builtin.append, args := #[s, x], argTypes := #[t, t] })
    (v1 v2 : Value) (hs : a.eval s = v1) (hx : a.eval x = v2) (v' : Value) (w' : World) (hrun : (Builtin.append_ #[t, t] o.type #[v1, v2]).run P w = .ok v' w') (hK : K (a.put o.dst v') w') :
    if Region.wanted o (yielded ops a.tmps) = true then Oper.wp P o a w K Q else E := by
  have hw : Region.wanted o (yielded ops a.tmps) = true := by simp [Region.wanted, hg]
  rw [if_pos hw]
  unfold Oper.wp
  simp [execOp, hop, resolve, invoke, builtin, hs, hx, hrun, Result.andThen]
  exact hK

/-- The pool, and in which block entry e's slab lies. -/
def Ent2 (B : Nat) (w : World) (Tb n : Nat) (tk : Nat → Int) (e s : Nat) : Prop := ∃ r2 r3 r4 G cap S, PoolAt B w Tb r2 r3 r4 G cap S n tk ∧ S (e / 64) = s

set_option maxRecDepth 100000 in
set_option maxHeartbeats 4000000 in
theorem add_any {B : Nat} {w : World} {Tb n : Nat} {tk : Nat → Int} (h : Pool B w Tb n tk) (hn : n ≤ 99999) (hB : B ≤ w.heap.size) :
    Calls Try.prog 11 #[.pointer (some ⟨Tb, 0, none⟩)] w fun r w' => ∃ s, r = .returned (.tuple #[.int .u32 ((n : Int) + 1), .pointer (some ⟨s, n % 64 * 45, none⟩)]) ∧ Hid (Pool B w' Tb (n + 1) (fun x => if x = n then 0 else tk x)) ∧ Hid (Ent2 B w' Tb (n + 1) (fun x => if x = n then 0 else tk x) n s) ∧ Hid (Ext B w w') := by
  obtain ⟨r2, r3, r4, G, cap, S, hP⟩ := h
  have hTl := hP.lt
  have c0 : w.cell? ⟨Tb, 0, none⟩ = some (slabV n G cap) := by rw [cells_of_block hP.tab]; rfl
  have c1 : w.cell? ⟨Tb, 1, none⟩ = some (.slice none 0 0) := by rw [cells_of_block hP.tab]; rfl
  have HP : Hid (PoolAt B w Tb r2 r3 r4 G cap S n tk) := hP
  clear hP
  obtain ⟨sv, hsv⟩ : ∃ ao m cp, slabV n G cap = .slice ao m cp := by
    unfold slabV; split <;> exact ⟨_, _, _, rfl⟩
  obtain ⟨m, cp, hsv⟩ := hsv
  rw [hsv] at c0
  have HSV : Hid (slabV n G cap = .slice sv m cp) := hsv
  clear hsv
  have hm : m = nSlabs n := by
    have := HSV.out
    unfold slabV at this
    split at this
    · rename_i h0; subst h0; injection this with _ h2 _; rw [← h2]; rfl
    · injection this with _ h2 _; exact h2.symm
  have HM : Hid (m = nSlabs n) := hm
  have hmb : m ≤ 100000 := by rw [hm]; unfold nSlabs; omega
  clear hm
  go_enter Try.func11, Try.ntmps11
  go_upto_region 7 with fail
  go_cut [56] (fun b wc => b = .bool (decide (n % 64 = 0)) ∧ w = wc)
  case first =>
    by_cases h0 : n = 0
    · have hm0 : m = 0 := by rw [HM.out, h0, nSlabs]
      have hlt : (m : Int) - 1 < 0 := by omega
      have HD : Hid (decide (n % 64 = 0) = true) := decide_eq_true (by omega)
      clear h0 hm0
      go_wp2
      go_meet
      case rel => exact ⟨by rw [HD.out], rfl⟩
    · have hmp : 1 ≤ m := by rw [HM.out]; unfold nSlabs; omega
      have hmn : m - 1 = (n - 1) / 64 := by rw [HM.out]; unfold nSlabs; omega
      have hsv : sv = some ⟨G, 0, none⟩ := by
        have := HSV.out
        rw [slabV, if_neg h0] at this
        injection this with x
        exact x.symm
      subst hsv
      obtain ⟨_, c, hc, _, _, _, hci⟩ := HP.out.row (by omega)
      have cg : w.cell? ⟨G, m - 1, none⟩ = some (.slice (some ⟨S (m - 1), 0, none⟩) (slabLen n (m - 1)) 64) := by
        rw [cells_of_block hc]; exact hci _ (by rw [← HM.out]; omega)
      have hix : ∀ w', (Instr.indexAt 35 (.slice (some ⟨G, 0, none⟩) m cp) (.int .i64 ((m : Int) - 1))).run Try.prog w' = .ok (.pointer (some ⟨G, m - 1, none⟩)) w' := fun w' => by
        have := idx_eq Try.underlying35 sized61 .i64 G 0 m cp (m - 1) (by omega) w'
        rw [show ((m - 1 : Nat) : Int) = (m : Int) - 1 by omega] at this
        simpa using this
      have hge : ¬ (m : Int) - 1 < 0 := by omega
      have hl64 : ((slabLen n (m - 1) : Int) == 64) = decide (n % 64 = 0) := by
        rw [hmn]
        by_cases h64 : n % 64 = 0
        · rw [decide_eq_true h64]; simp [slabLen]; omega
        · rw [decide_eq_false h64]; simp [slabLen]; omega
      clear hc hci hmn h0
      obtain ⟨bb, hbb⟩ : ∃ bb, decide (n % 64 = 0) = bb := ⟨_, rfl⟩
      rw [hbb] at hl64
      have HBB : Hid (decide (n % 64 = 0) = bb) := hbb
      clear hbb
      generalize slabLen n (m - 1) = sl at cg hl64
      go_wp2
      go_meet
      case rel => exact ⟨by rw [HBB.out], rfl⟩
  case rest =>
    obtain ⟨rfl, hw⟩ := hcut
    subst hw
    obtain ⟨q, hq⟩ : ∃ q, q = n / 64 := ⟨_, rfl⟩
    have HQ : Hid (q = n / 64) := hq
    have hq9 : q ≤ 2000 := by omega
    clear hq
    go_upto_if 56 with fail
    go_cut [6] (fun l wc => ∃ r2' r3' r4' G' cap' S', l = .int .i64 (q : Int) ∧ Hid (PoolM B wc Tb r2' r3' r4' G' cap' S' n (n / 64 + 1) tk) ∧ Hid (Ext B w wc) ∧ B ≤ wc.heap.size)
    case first =>
      by_cases h64 : n % 64 = 0
      · obtain ⟨G', cap', W3, g1, g2, g3, g4, g5⟩ := grow_run HP.out h64 (by omega) hB
        rw [HSV.out] at g1 g2
        have H6 := hid (Nat.le_trans hB g5.1.size)
        have H4 := hid g4
        have H5 := hid g5
        have hmk := make_slab
        have HMQ : Hid (m = q) := by rw [HM.out, HQ.out]; unfold nSlabs; show _ = _; omega
        rw [decide_eq_true h64]
        clear g4 g5
        go_wp2_with fail
        go_region_law (refine step_of_run rfl (.tmp 61) (.tmp 63) 35 rfl _ _ (by simp [Act.eval, Act.put]) (by simp [Act.eval, Act.put]) _ _ g1 ?_)
        all_goals
          (go_wp2
           go_meet
           case rel => exact ⟨_, _, _, _, _, _, by first | rw [HMQ.out] | simp [HMQ.out], H4, H5, H6.out⟩)
      · have hq := PoolM.ofPool HP.out h64
        have Hq := hid hq
        rw [decide_eq_false h64]
        have hmm : (m : Int) - 1 = (q : Int) := by rw [HM.out, HQ.out]; unfold nSlabs; omega
        clear hq
        go_wp2
        go_meet
        case rel => exact ⟨_, _, _, _, _, _, by rw [hmm], Hq, Ext.refl B w, hB⟩
    case rest =>
      obtain ⟨r2', r3', r4', G', cap', S', rfl, Hq, He, hB'⟩ := hcut
      rename World => wc
      clear c0 c1 HP HSV HM
      obtain ⟨W3, g1, g2, ⟨g3, g9⟩, g4, g5, g6, g7, g8⟩ := entry_run Hq.out hB'
      have hr : n % 64 < 64 := by omega
      obtain ⟨r, hre⟩ : ∃ r, r = n % 64 := ⟨_, rfl⟩
      obtain ⟨s0, hs0⟩ : ∃ s, s = S' q := ⟨_, rfl⟩
      have d0 : wc.cell? ⟨Tb, 0, none⟩ = some (.slice (some ⟨G', 0, none⟩) (n / 64 + 1) cap') := by rw [cells_of_block Hq.out.tab]; rfl
      have d1 : wc.cell? ⟨G', n / 64, none⟩ = some (.slice (some ⟨S' (n / 64), 0, none⟩) (n % 64) 64) := by
        obtain ⟨_, c, hc, _, _, _, hci⟩ := Hq.out.row
        rw [cells_of_block hc]
        have := hci (n / 64) (by omega)
        rw [this, show slabLen n (n / 64) = n % 64 by simp [slabLen]; omega]
      have hTl : Tb < wc.heap.size := (Array.getElem?_eq_some_iff.1 Hq.out.tab).1
      have hGl : G' < wc.heap.size := by
        obtain ⟨_, c, hc, _⟩ := Hq.out.row
        exact (Array.getElem?_eq_some_iff.1 hc).1
      simp only [← HQ.out, ← hre, ← hs0] at g1 g2 g3 g4 g5 g6 g7 g8 d0 d1 hr
      have hix : ∀ w', (Instr.indexAt 35 (.slice (some ⟨G', 0, none⟩) (q + 1) cap') (.int .i64 (q : Int))).run Try.prog w' = .ok (.pointer (some ⟨G', q, none⟩)) w' := fun w' => by
        have := idx_eq Try.underlying35 sized61 .i64 G' 0 (q + 1) cap' q (by omega) w'
        simpa using this
      have hix2 : ∀ w', (Instr.indexAt 61 (.slice (some ⟨s0, 0, none⟩) (r + 1) 64) (.int .i64 (r : Int))).run Try.prog w' = .ok (.pointer (some ⟨s0, r * 45, none⟩)) w' := fun w' => by
        have := idx_eq Try.underlying61 sized54 .i64 s0 0 (r + 1) 64 r (by omega) w'
        simpa using this
      have H5 := hid g5
      have H8 := hid (He.out.trans g8)
      have HN : Hid (q * 64 + r = n) := by rw [HQ.out, hre]; show _ = _; omega
      have HR := hid hre
      have HS := hid hs0
      clear g5 g8 hre hs0
      have hi54 : (Try.prog.info? 54).map (·.size) = some zEnt.toList.length := by
        obtain ⟨i, hi, hzz⟩ := Option.map_eq_some_iff.1 info54
        simp only [Prod.mk.injEq] at hzz
        rw [hi, Option.map_some, hzz.2.1]; rfl
      go_upto_region 11 with fail
      go_cut [] (fun w9 => Hid (Pool B w9 Tb (n + 1) (fun x => if x = n then 0 else tk x)) ∧ w9.cell? ⟨G', q, none⟩ = some (.slice (some ⟨s0, 0, none⟩) (r + 1) 64) ∧ w9.cell? ⟨Tb, 0, none⟩ = some (.slice (some ⟨G', 0, none⟩) (q + 1) cap') ∧ Hid (Ext B w w9))
      case first =>
        change Code.wp _ _ _ _ (World.alloc wc (Obj.cells zEnt 54))
        have k2 : (wc.alloc (Obj.cells zEnt 54)).rangeAt wc.heap.size 0 zEnt.toList := fun j v hj => by
          have hb : (wc.alloc (Obj.cells zEnt 54)).heap[wc.heap.size]? = some (Obj.cells zEnt 54 (0, 0)) := (heap_two wc (Obj.cells zEnt 54) (Obj.cells zEnt 54)).1 |> fun _ => by show (wc.heap.push _)[wc.heap.size]? = _; simp
          rw [cells_of_block hb, Nat.zero_add, ← Array.getElem?_toList]; exact hj
        have k0 : (wc.alloc (Obj.cells zEnt 54)).cell? ⟨Tb, 0, none⟩ = some (.slice (some ⟨G', 0, none⟩) (q + 1) cap') := by rw [World.cell?_alloc_lt _ _ _ hTl]; exact d0
        have k1 : (wc.alloc (Obj.cells zEnt 54)).cell? ⟨G', q, none⟩ = some (.slice (some ⟨s0, 0, none⟩) r 64) := by rw [World.cell?_alloc_lt _ _ _ hGl]; exact d1
        have k3 : (wc.alloc (Obj.cells zEnt 54)).heap.size = wc.heap.size + 1 := by simp
        generalize wc.alloc (Obj.cells zEnt 54) = W at g1 k0 k1 k2 k3 ⊢
        refine wp_region_any (by kernel_rfl) ?_
        change wpAny _ _ _ _ _ _ _ (World.drew _)
        refine wpAny_of_N (S := fun w' => w'.cell? ⟨Tb, 0, none⟩ = some (.slice (some ⟨G', 0, none⟩) (q + 1) cap') ∧ w'.cell? ⟨G', q, none⟩ = some (.slice (some ⟨s0, 0, none⟩) r 64) ∧ w'.rangeAt wc.heap.size 0 zEnt.toList) (N := 16) _ _ _ _ ?_
        have hS : (fun w' : World => w'.cell? ⟨Tb, 0, none⟩ = some (.slice (some ⟨G', 0, none⟩) (q + 1) cap') ∧ w'.cell? ⟨G', q, none⟩ = some (.slice (some ⟨s0, 0, none⟩) r 64) ∧ w'.rangeAt wc.heap.size 0 zEnt.toList) W.drew := ⟨k0, k1, k2⟩
        rw [← k3] at g1
        have hS3 : (fun w' : World => w'.cell? ⟨Tb, 0, none⟩ = some (.slice (some ⟨G', 0, none⟩) (q + 1) cap') ∧ w'.cell? ⟨G', q, none⟩ = some (.slice (some ⟨s0, 0, none⟩) r 64) ∧ w'.rangeAt wc.heap.size 0 zEnt.toList) W3 := ⟨g2, g3, g9⟩
        have hS2 : (fun w' : World => w'.cell? ⟨Tb, 0, none⟩ = some (.slice (some ⟨G', 0, none⟩) (q + 1) cap') ∧ w'.cell? ⟨G', q, none⟩ = some (.slice (some ⟨s0, 0, none⟩) r 64) ∧ w'.rangeAt wc.heap.size 0 zEnt.toList) (W.alloc (Obj.cells zEnt 54)).drew := ⟨by show (W.alloc (Obj.cells zEnt 54)).cell? _ = _; rw [World.cell?_alloc_lt _ _ _ (show Tb < _ by omega)]; exact k0, by show (W.alloc (Obj.cells zEnt 54)).cell? _ = _; rw [World.cell?_alloc_lt _ _ _ (show G' < _ by omega)]; exact k1, (World.rangeAt_drew _ _ _ _).2 (World.rangeAt_alloc k2 _)⟩
        refine wpN_takeO 0 ⟨some 69, .move (.tmp 0), 60, "", #[], none⟩ (Value.pointer (some ⟨Tb, 0, none⟩)) rfl rfl (by kernel_rfl) (by kernel_rfl) (by kernel_rfl) (by kernel_rfl) rfl rfl (fun _ => rfl) (fun _ _ _ h => h) hS (fun w hSw => by (try dsimp only at hSw); go_simp) ?_
        simp only [Act.put, List.setIfInBounds_toArray, List.set_cons_zero, List.set_cons_succ]
        refine wpN_takeO 1 ⟨some 70, .nilCheck (.tmp 69), 0, "", #[], none⟩ (Value.pointer (some ⟨Tb, 0, none⟩)) rfl rfl (by kernel_rfl) (by kernel_rfl) (by kernel_rfl) (by kernel_rfl) rfl rfl (fun _ => rfl) (fun _ _ _ h => h) hS (fun w hSw => by (try dsimp only at hSw); go_simp) ?_
        simp only [Act.put, List.setIfInBounds_toArray, List.set_cons_zero, List.set_cons_succ]
        refine wpN_takeO 2 ⟨some 71, .fieldAddr 37 (.tmp 70) 0, 0, "", #[], none⟩ (Value.pointer (some ⟨Tb, 0, none⟩)) rfl rfl (by kernel_rfl) (by kernel_rfl) (by kernel_rfl) (by kernel_rfl) rfl rfl (fun _ => rfl) (fun _ _ _ h => h) hS (fun w hSw => by (try dsimp only at hSw); go_simp) ?_
        simp only [Act.put, List.setIfInBounds_toArray, List.set_cons_zero, List.set_cons_succ]
        refine wpN_takeO 3 ⟨some 72, .load 35 (.tmp 71), 35, "", #[], none⟩ (Value.slice (some ⟨G', 0, none⟩) (q + 1) cap') rfl rfl (by kernel_rfl) (by kernel_rfl) (by kernel_rfl) (by kernel_rfl) rfl rfl (fun _ => rfl) (fun _ _ _ h => h) hS (fun w hSw => by (try dsimp only at hSw); go_simp) ?_
        simp only [Act.put, List.setIfInBounds_toArray, List.set_cons_zero, List.set_cons_succ]
        refine wpN_takeO 4 ⟨some 73, .move (.tmp 6), 3, "", #[], none⟩ (.int .i64 (q : Int)) rfl rfl (by kernel_rfl) (by kernel_rfl) (by kernel_rfl) (by kernel_rfl) rfl rfl (fun _ => rfl) (fun _ _ _ h => h) hS (fun w hSw => by (try dsimp only at hSw); go_simp) ?_
        simp only [Act.put, List.setIfInBounds_toArray, List.set_cons_zero, List.set_cons_succ]
        refine wpN_takeO 5 ⟨some 74, .move (.tmp 0), 60, "", #[], none⟩ (Value.pointer (some ⟨Tb, 0, none⟩)) rfl rfl (by kernel_rfl) (by kernel_rfl) (by kernel_rfl) (by kernel_rfl) rfl rfl (fun _ => rfl) (fun _ _ _ h => h) hS (fun w hSw => by (try dsimp only at hSw); go_simp) ?_
        simp only [Act.put, List.setIfInBounds_toArray, List.set_cons_zero, List.set_cons_succ]
        refine wpN_takeO 6 ⟨some 75, .nilCheck (.tmp 74), 0, "", #[], none⟩ (Value.pointer (some ⟨Tb, 0, none⟩)) rfl rfl (by kernel_rfl) (by kernel_rfl) (by kernel_rfl) (by kernel_rfl) rfl rfl (fun _ => rfl) (fun _ _ _ h => h) hS (fun w hSw => by (try dsimp only at hSw); go_simp) ?_
        simp only [Act.put, List.setIfInBounds_toArray, List.set_cons_zero, List.set_cons_succ]
        refine wpN_takeO 7 ⟨some 76, .fieldAddr 37 (.tmp 75) 0, 0, "", #[], none⟩ (Value.pointer (some ⟨Tb, 0, none⟩)) rfl rfl (by kernel_rfl) (by kernel_rfl) (by kernel_rfl) (by kernel_rfl) rfl rfl (fun _ => rfl) (fun _ _ _ h => h) hS (fun w hSw => by (try dsimp only at hSw); go_simp) ?_
        simp only [Act.put, List.setIfInBounds_toArray, List.set_cons_zero, List.set_cons_succ]
        refine wpN_takeO 8 ⟨some 77, .load 35 (.tmp 76), 35, "", #[], none⟩ (Value.slice (some ⟨G', 0, none⟩) (q + 1) cap') rfl rfl (by kernel_rfl) (by kernel_rfl) (by kernel_rfl) (by kernel_rfl) rfl rfl (fun _ => rfl) (fun _ _ _ h => h) hS (fun w hSw => by (try dsimp only at hSw); go_simp) ?_
        simp only [Act.put, List.setIfInBounds_toArray, List.set_cons_zero, List.set_cons_succ]
        refine wpN_takeO 9 ⟨some 78, .move (.tmp 6), 3, "", #[], none⟩ (.int .i64 (q : Int)) rfl rfl (by kernel_rfl) (by kernel_rfl) (by kernel_rfl) (by kernel_rfl) rfl rfl (fun _ => rfl) (fun _ _ _ h => h) hS (fun w hSw => by (try dsimp only at hSw); go_simp) ?_
        simp only [Act.put, List.setIfInBounds_toArray, List.set_cons_zero, List.set_cons_succ]
        refine wpN_takeO 10 ⟨some 79, .indexAddr 35 (.tmp 77) (.tmp 78), 0, "", #[], none⟩ (Value.pointer (some ⟨G', q, none⟩)) rfl rfl (by kernel_rfl) (by kernel_rfl) (by kernel_rfl) (by kernel_rfl) rfl rfl (fun _ => rfl) (fun _ _ _ h => h) hS (fun w hSw => by (try dsimp only at hSw); go_simp) ?_
        simp only [Act.put, List.setIfInBounds_toArray, List.set_cons_zero, List.set_cons_succ]
        refine wpN_takeO 11 ⟨some 80, .load 61 (.tmp 79), 61, "", #[], none⟩ (Value.slice (some ⟨s0, 0, none⟩) r 64) rfl rfl (by kernel_rfl) (by kernel_rfl) (by kernel_rfl) (by kernel_rfl) rfl rfl (fun _ => rfl) (fun _ _ _ h => h) hS (fun w hSw => by (try dsimp only at hSw); go_simp) ?_
        simp only [Act.put, List.setIfInBounds_toArray, List.set_cons_zero, List.set_cons_succ]
        refine wpN_takeO 12 ⟨some 81, .load 54 (.tmp 7), 54, "", #[], none⟩ (.agg zEnt.toList.toArray) rfl rfl (by kernel_rfl) (by kernel_rfl) (by kernel_rfl) (by kernel_rfl) rfl rfl (fun _ => rfl) (fun _ _ _ h => h) hS (fun w hSw => by
          show (((Instr.loadAt 54 (.pointer (some ⟨wc.heap.size, 0, none⟩))) >>= fun x => pure (Next.value x) : Sem Next)).run Try.prog w = _
          rw [Sem.run_bind, run_loadAt_mid w wc.heap.size 0 54 zEnt.toList _ hSw.2.2 Try.underlying54 rfl hi54]; rfl) ?_
        simp only [Act.put, List.setIfInBounds_toArray, List.set_cons_zero, List.set_cons_succ]
        refine wpN_one (i := 13) (by kernel_rfl) rfl (fun K hK => ?_)
        refine wp_of_run ⟨some 82, .buildSlice 61 1 #[(0, .tmp 81)], 61, "", #[], none⟩ rfl rfl (fun _ => rfl) (.slice (some ⟨W.heap.size, 0, none⟩) 1 1) (W.alloc (.cells zEnt 54)).drew (build_op _ W.drew rfl) ?_
        refine hK.out _ _ hS2 (fun _ => ?_)
        clear hK K
        simp only [Act.put, List.setIfInBounds_toArray, List.set_cons_zero, List.set_cons_succ]
        refine wpN_one (i := 14) (by kernel_rfl) rfl (fun K hK => ?_)
        refine step_of_run rfl (.tmp 80) (.tmp 82) 61 rfl _ _ rfl rfl _ _ g1 ?_
        refine hK.out _ _ hS3 (fun _ => ?_)
        clear hK K
        simp only [Act.put, List.setIfInBounds_toArray, List.set_cons_zero, List.set_cons_succ]
        refine wpN_takeO 15 ⟨some 84, .indexAddr 35 (.tmp 72) (.tmp 73), 0, "", #[], none⟩ (Value.pointer (some ⟨G', q, none⟩)) rfl rfl (by kernel_rfl) (by kernel_rfl) (by kernel_rfl) (by kernel_rfl) rfl rfl (fun _ => rfl) (fun _ _ _ h => h) hS3 (fun w hSw => by (try dsimp only at hSw); go_simp) ?_
        simp only [Act.put, List.setIfInBounds_toArray, List.set_cons_zero, List.set_cons_succ]
        refine wpN_last (by kernel_rfl) rfl (fun K hK => ?_)
        go_simp
        refine hK.out _ _ ?_
        clear hK K
        refine wpN_done (by kernel_rfl) ?_ _
        go_wp2
        go_meet
        case rel => exact ⟨H5, g6, g7, H8⟩
      case rest =>
        clear d0 d1 hTl hGl hi54 H5 H8 g1 g2 g3 g4 g6 g7 g9 Hq He hB' hB
        obtain ⟨HPf, f1, f0, HEf⟩ := hcut
        rename World => w9
        have HEnt : ∀ k, Hid (Pool B (w9.drewN k) Tb (n + 1) (fun x => if x = n then 0 else tk x) ∧ Ent2 B (w9.drewN k) Tb (n + 1) (fun x => if x = n then 0 else tk x) n s0 ∧ Ext B w (w9.drewN k)) := fun k => by
          have hp := HPf.out.drewN k
          refine ⟨hp, ?_, HEf.out.drewN k⟩
          obtain ⟨x2, x3, x4, G2, cap2, S2, hP2⟩ := hp
          refine ⟨x2, x3, x4, G2, cap2, S2, hP2, ?_⟩
          have h1 := cells_of_block (o := 0) hP2.tab
          have e1 : (w9.drewN k).cell? ⟨Tb, 0, none⟩ = w9.cell? ⟨Tb, 0, none⟩ := by simp
          rw [e1, f0] at h1
          rw [slabV, if_neg (by omega)] at h1
          injection h1 with h1
          injection h1 with h1 _ _
          injection h1 with h1
          injection h1 with h1 _ _
          subst h1
          obtain ⟨_, c, hc, _, _, _, hci⟩ := hP2.row (by omega)
          have h2 := cells_of_block (o := n / 64) hc
          rw [hci _ (by unfold nSlabs; omega)] at h2
          have e2 : (w9.drewN k).cell? ⟨G', n / 64, none⟩ = w9.cell? ⟨G', n / 64, none⟩ := by simp
          rw [e2, ← HQ.out, f1] at h2
          injection h2 with h2
          injection h2 with h2 _ _
          injection h2 with h2
          injection h2 with h2 _ _
          rw [← HQ.out]
          exact h2.symm
        have hr0 : (0 : Int) ≤ (r : Int) := by omega
        have hr1 : (r : Int) < 64 := by omega
        have hq0 : (0 : Int) ≤ (q : Int) := by omega
        have hq1 : (q : Int) ≤ 2000 := by omega
        have hc1 : IntKind.i64.wrap ((q : Int) * 64) = (q : Int) * 64 := IntWalk.i64_in _ (by omega)
        have hc2 : IntKind.i64.wrap ((q : Int) * 64 + ((r : Int) + 1)) = (n : Int) + 1 := by rw [IntWalk.i64_in _ (by omega)]; have := HN.out; omega
        have hc3 : IntKind.u32.wrap ((n : Int) + 1) = (n : Int) + 1 := by rw [IntKind.wrap_u32]; omega
        clear HPf HEf
        go_wp2_with fail
        go_quiet (fail)
        go_wp2
        go_ret2
        exact ⟨s0, by rw [HR.out]; rfl, (HEnt _).out.1, (HEnt _).out.2.1, (HEnt _).out.2.2⟩
end Go.Proofs.Qxb6608542a
