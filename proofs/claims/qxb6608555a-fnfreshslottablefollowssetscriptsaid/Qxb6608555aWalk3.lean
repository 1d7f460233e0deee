/-
  WALK: the law FnFreshSlotTableFollowsSetScript (function 3), the walk itself.
-/
import Derived.Test.Qxb6608555aLaw3
namespace Go.Proofs.Qxb6608555a
open Go.RowKit Go.Maps
set_option linter.unusedVariables false
set_option linter.unusedSimpArgs false

set_option maxRecDepth 20000 in
set_option maxHeartbeats 4000000 in
theorem walk3 (w : World) (a0 : Option Addr) (n0 c0 : Nat) (zs : List Int) (a1 : Option Addr) (n1 c1 : Nat) (ss : List ByteArray) (hn0 : n0 ≤ 9223372036854775807) (hn1 : n1 ≤ 9223372036854775807)
    (h0 : RdI w a0 n0 c0 zs) (h1 : RdS w a1 n1 c1 ss) (hsz : ∀ x ∈ ss, x.size ≤ maxLen) :
    Calls Try.prog 3 #[.slice a0 n0 c0, .slice a1 n1 c1] w fun e w' => e = .returned (.bool true) ∧ Below w.heap.size w w' := by
  have H0 := hid h0
  have H1 := hid h1
  have HZ := hid hsz
  clear h0 h1 hsz
  go_enter Try.func3, Try.ntmps3
  go_wp2_with fail
  refine (zz6 a0 n0 c0 hn0 hn1 H1.out).mono ?_
  rintro e w' ⟨⟨q, rfl⟩, rfl⟩
  cases q
  · go_wp2
    go_ret
    exact ⟨rfl, Below.refl _ _⟩
  by_cases g0 : n0 ≤ 4096
  case neg =>
    have g0' : (4096 : Int) < (n0 : Int) := by omega
    go_wp2
    go_ret
    exact ⟨rfl, Below.refl _ _⟩
  have g0' : ¬ (4096 : Int) < (n0 : Int) := by omega
  by_cases g1 : n1 ≤ 4096
  case neg =>
    have g1' : (4096 : Int) < (n1 : Int) := by omega
    go_wp2
    go_ret
    exact ⟨rfl, Below.refl _ _⟩
  have g1' : ¬ (4096 : Int) < (n1 : Int) := by omega
  have hw8 : IntKind.i64.wrap (8 * (n0 : Int)) = 8 * (n0 : Int) := IntWalk.i64_in _ (by omega)
  go_wp2_with fail
  have hadd := add7 (8 * n0) (by omega) (by omega) H1.out
  rw [show ((8 * n0 : Nat) : Int) = 8 * (n0 : Int) by omega] at hadd
  refine hadd.mono ?_
  rintro e w' ⟨⟨r, rfl⟩, rfl⟩
  clear hadd
  by_cases gr : r ≤ 1048576
  case neg =>
    have gr' : (1048576 : Int) < r := by omega
    go_wp2
    go_ret
    exact ⟨rfl, Below.refl _ _⟩
  have gr' : ¬ (1048576 : Int) < r := by omega
  by_cases ge : n0 = n1
  case neg =>
    have ge' : ((n0 : Int) == (n1 : Int)) = false := by simp; omega
    go_wp2
    go_ret
    exact ⟨rfl, Below.refl _ _⟩
  subst ge
  go_wp2_with fail
  go_loopg [5] n0 (fun g v wr => ∃ k : Nat, Hid (k + g = n0) ∧ v = .int .i64 (k : Int) ∧ Hid (∀ j, j < k → 0 ≤ zs.getD j 0 ∧ zs.getD j 0 < 16384) ∧ w = wr)
  case atStart => exact ⟨0, Nat.zero_add _, rfl, hid (fun j hj => by omega), rfl⟩
  case round =>
    obtain ⟨k, HG, rfl, HK, hw⟩ := hrel
    subst hw
    have hk : k ≤ n0 := by have := HG.out; omega
    by_cases hlt : k < n0
    · obtain ⟨q, hqb, hq, hc⟩ := H0.out.at' k hlt
      obtain ⟨z, hz⟩ : ∃ z, z = zs.getD k 0 := ⟨_, rfl⟩
      rw [← hz] at hc
      have HZ2 := hid hz
      clear hz
      by_cases hz0 : z < 0
      · go_wp2
        go_ret
        exact ⟨rfl, Below.refl _ _⟩
      · by_cases hz1 : z < 16384
        · have hz1' : ¬ (16384 : Int) ≤ z := by omega
          have hw1 : IntKind.i64.wrap ((k : Int) + 1) = (k : Int) + 1 := IntWalk.i64_in _ (by omega)
          go_wp2
          go_roundg (gk - 1)
          case measure => have := HG.out; omega
          case rel => exact ⟨k + 1, by have := HG.out; show _ = _; omega, by go_num, hid (fun j hj => by
            by_cases hjk : j = k
            · rw [hjk, ← HZ2.out]; omega
            · exact HK.out j (by omega)), rfl⟩
        · have hz1' : (16384 : Int) ≤ z := by omega
          go_wp2
          go_ret
          exact ⟨rfl, Below.refl _ _⟩
    · have hkn : k = n0 := by omega
      have HRng : Hid (∀ j, j < n0 → 0 ≤ zs.getD j 0 ∧ zs.getD j 0 < 16384) := by rw [hkn] at HK; exact HK
      clear HK HG
      go_wp2_with fail
      refine (new8 w).mono ?_
      rintro e W1 ⟨T, v0, rfl, HT1, HC1⟩
      have HB1 : Hid (Below w.heap.size w W1) := Tch.below (Below.refl _ _) HC1.out (fun _ _ x => x.elim) (Nat.le_refl _)
      go_wp2_with (with_reducible apply wpList_alloc29)
      have HF2 := hid (Blk.fresh29 W1)
      have HC2 := hid (Tch.alloc W1 (.cells (arr (fun _ => 0)).toArray 29) (fun _ => False))
      have HT2 : Hid (Tab w.heap.size (W1.alloc (.cells (arr (fun _ => 0)).toArray 29)) T (fun _ => 0) v0 [⟨#[]⟩]) := HT1.out.2.keep HC2.out (fun x => x) (fun _ _ x => x)
      have HB2 : Hid (Below w.heap.size w (W1.alloc (.cells (arr (fun _ => 0)).toArray 29))) := HB1.out.alloc HB1.out.size _
      obtain ⟨N, hN⟩ : ∃ N, N = W1.heap.size := ⟨_, rfl⟩
      rw [← hN] at HF2 ⊢
      generalize W1.alloc (.cells (arr (fun _ => 0)).toArray 29) = W2 at HF2 HC2 HT2 HB2 ⊢
      clear hN HC2 HT1 HC1 HB1
      have HT2d : Hid (Tab w.heap.size W2.drew T (fun _ => 0) v0 [⟨#[]⟩]) := HT2.out.keep (Tch.drew W2 (fun _ => False)) (fun x => x) (fun _ _ x => x)
      have HF2d : Hid (Blk W2.drew N 29 16384 (gArr (fun _ => 0))) := HF2.out.keep (Tch.drew W2 (fun _ => False)) (fun x => x)
      have HLD : Hid (∀ w', Blk w' N 29 16384 (gArr (fun _ => 0)) → w'.rangeAt N 0 (arr (fun _ => 0))) := fun w' h => h.range29 (by omega) _ (fun s hs => rfl)
      have hu29 := Try.underlying29
      have hs29 : (Try.prog.info? 29).map (·.size) = some (arr (fun _ => 0)).length := by rw [arr_len]; exact size29
      have hS1 := HLD.out _ HF2d.out
      have hne := neq29 (fun _ => 0)
      have hgd := guard29
      go_region_held3 (fun w' => w'.rangeAt N 0 (arr (fun _ => 0)))
        (first | exact hS1 | exact hS2)
        (first | (go_at_call 9; refine (owner9 HT2d.out).mono ?_; rintro e W3 ⟨rfl, HC3⟩; have hS2 := HLD.out _ (HF2d.out.keep HC3.out (fun x => x))))
      have HT3 : Hid (Tab w.heap.size W3 T (fun _ => 0) v0 [⟨#[]⟩]) := HT2d.out.keep HC3.out (fun x => x) (fun _ _ x => x)
      have HB3 : Hid (Below w.heap.size w W3) := Tch.below HB2.out.drew HC3.out (fun _ _ x => x.elim) HB2.out.drew.size
      clear HT2d HF2d HLD hS1 hS2 hne hgd HC3 HT2 HF2 HB2 hu29 hs29
      obtain ⟨av, cv, rfl, hrd⟩ := HT3.out.shape
      obtain ⟨q0, hq0b, hq0, hc0⟩ := hrd.at' 0 (by decide)
      have hq0' : ∀ w', (Instr.indexAt 23 (.slice av 1 cv) (.int .i64 0)).run Try.prog w' = .ok (.pointer (some q0)) w' := fun w' => hq0 .i64 w'
      have hc0' : W3.cell? q0 = some (.string ⟨#[]⟩) := hc0
      clear hrd hq0 hc0 hq0b
      have HT3' : Hid (Tab w.heap.size W3 T (fun _ => 0) (.slice av 1 cv) [⟨#[]⟩]) := HT3
      go_wp2_with fail
      refine (ids10 HT3'.out).mono ?_
      rintro e w' ⟨rfl, rfl⟩
      have hmm := @run_makeMap Try.prog
      go_wp2_with (with_reducible apply wpList_alloc32)
      have HS0 : Hid (St w.heap.size w T W3.heap.size (W3.alloc (.cells (sarr (fun _ => ⟨#[]⟩)).toArray 32)).heap.size (fun _ => 0) (.slice av 1 cv) [] (fun _ => ⟨#[]⟩) (fun _ => ⟨#[]⟩) [] ((W3.alloc (.cells (sarr (fun _ => ⟨#[]⟩)).toArray 32)).alloc (.map #[] 0))) := by
        have k1 := Tch.alloc W3 (.cells (sarr (fun _ => ⟨#[]⟩)).toArray 32) (fun _ => False)
        have k2 := Tch.alloc (W3.alloc (.cells (sarr (fun _ => ⟨#[]⟩)).toArray 32)) (.map #[] 0) (fun _ => False)
        have hB := HB3.out.size
        refine ⟨Tch.below (Tch.below HB3.out k1 (fun _ _ x => x.elim) hB) k2 (fun _ _ x => x.elim) (Nat.le_trans hB k1.size), (HT3'.out.keep k1 (fun x => x) (fun _ _ x => x)).keep k2 (fun x => x) (fun _ _ x => x), ⟨⟨List.nodup_nil, by simp, by simp, by simp⟩, fun s hs => rfl⟩, (Blk.fresh32 W3).keep k2 (fun x => x), MSet.made _, hB, Nat.le_trans hB k1.size⟩
      have e1 : (W3.alloc (.cells (sarr (fun _ => ⟨#[]⟩)).toArray 32)).heap.size = W3.heap.size + 1 := by simp
      rw [e1] at HS0
      generalize (W3.alloc (.cells (sarr (fun _ => ⟨#[]⟩)).toArray 32)).alloc (.map #[] 0) = W4 at HS0 ⊢
      generalize W3.heap.size + 1 = K at HS0 ⊢
      generalize W3.heap.size = M at HS0 ⊢
      clear HT3 HT3' HB3 hmm hq0' hc0' e1
      go_loopg [11] n0 (fun g v wr => ∃ (k : Nat) (own : Nat → Nat) (v' : Value) (L : List ByteArray) (mo : Nat → ByteArray), Hid (k + g = n0) ∧ v = .int .i64 (k : Int) ∧ Hid (L.length ≤ k) ∧ Hid (St w.heap.size w T M K own v' L mo mo L wr))
      case atStart => exact ⟨0, _, _, [], _, Nat.zero_add _, rfl, Nat.le_refl _, HS0⟩
      case round =>
        clear HS0 hlt hkn hk
        obtain ⟨k, own, v, L, mo, HG, rfl, HL, HS⟩ := hrel
        rename World => wr
        have hk : k ≤ n0 := by have := HG.out; omega
        by_cases hlt : k < n0
        · obtain ⟨p, hpb, hp, hpc⟩ := H0.out.at' k hlt
          obtain ⟨q, hqb, hq, hqc⟩ := H1.out.at' k hlt
          obtain ⟨hz0, hz1⟩ := HRng.out k hlt
          obtain ⟨sl, hsl⟩ : ∃ sl : Nat, zs.getD k 0 = (sl : Int) := ⟨(zs.getD k 0).toNat, by omega⟩
          rw [hsl] at hz0 hz1 hpc
          have hs : sl < 16384 := by omega
          have HId : Hid ((ss.getD k ⟨#[]⟩).size ≤ maxLen) := HZ.out _ (getD_mem (by have := H1.out.len; omega))
          generalize ss.getD k ⟨#[]⟩ = id at hqc HId
          have hq' := hq .i64
          have HE : Hid (∀ w', Below w.heap.size w w' → w'.cell? p = some (.int .i64 (sl : Int)) ∧ w'.cell? q = some (.string id)) := fun w' hb =>
            ⟨by rw [← hpc]; exact World.cell?_of_block (hb.block _ hpb), by rw [← hqc]; exact World.cell?_of_block (hb.block _ hqb)⟩
          have HSd := hid HS.out.drew
          have hS1 := HE.out _ HSd.out.bel
          have hL5 : L.length + 1 ≤ 5000 := by have := HL.out; omega
          clear hq hpb hqb hz0 hz1 hsl
          go_wp2_with fail
          go_region_held3 (fun w' => w'.cell? p = some (.int .i64 (sl : Int)) ∧ w'.cell? q = some (.string id))
            (first | exact hS1 | exact hS2)
            (first | (go_at_call 11; refine (set11 HSd.out.tab HSd.out.size hL5 sl hs id).mono ?_; rintro e W5 ⟨rfl, HSet⟩; have hex5 := HSd.out.set HSet.out HId.out; have hS2 := HE.out _ (hex5.elim fun o h => h.elim fun v h => h.bel)))
          obtain ⟨own5, v5, hst5⟩ := hex5
          have HS5 := hid hst5
          have HS5d := hid hst5.drew
          clear hst5 HSet HS HSd hS1 hS2
          have hS3 := HE.out _ HS5d.out.bel
          have hixM := idxArr Try.underlying32 sized9 .i64 M sl hs
          have hS4 : W5.drew.cell? p = some (.int .i64 (sl : Int)) ∧ W5.drew.cell? q = some (.string id) ∧ W5.drew.cell? ⟨M, sl, none⟩ = some (.string (mo sl)) ∧ W5.drew.frozen? ⟨M, sl, none⟩ = false := ⟨hS3.1, hS3.2, HS5d.out.mod.cell sl hs, HS5d.out.mod.free sl⟩
          have HS6 := hid HS5d.out.store
          have hS6 := HE.out _ HS6.out.bel
          have hS7 := And.intro hS6.1 (And.intro hS6.2 (And.intro (HS6.out.mod.cell sl hs) (HS6.out.mod.free sl)))
          go_wp2_with fail
          go_region_held3 (fun w' => w'.cell? p = some (.int .i64 (sl : Int)) ∧ w'.cell? q = some (.string id) ∧ (∃ u, w'.cell? ⟨M, sl, none⟩ = some u) ∧ w'.frozen? ⟨M, sl, none⟩ = false)
            (first | exact ⟨hS4.1, hS4.2.1, ⟨_, hS4.2.2.1⟩, hS4.2.2.2⟩ | exact ⟨hS7.1, hS7.2.1, ⟨_, hS7.2.2.1⟩, hS7.2.2.2⟩)
            (fail)
          have HS8 : Hid (St w.heap.size w T M K own5 v5 (nextL id L) (fun s => if s = sl then id else mo s) (fun s => if s = sl then id else mo s) L (W5.setCell ⟨M, sl, none⟩ (.string id)).drew) := HS6
          generalize (W5.setCell ⟨M, sl, none⟩ (.string id)).drew = W8 at HS8 ⊢
          clear hS3 hS4 HS6 hS6 hS7 HS5 HS5d hixM
          have hq8 := (HE.out _ HS8.out.bel).2
          have hw1 : IntKind.i64.wrap ((k : Int) + 1) = (k : Int) + 1 := IntWalk.i64_in _ (by omega)
          by_cases hid0 : id = ⟨#[]⟩
          · have HS9 : Hid (St w.heap.size w T M K own5 v5 L (fun s => if s = sl then id else mo s) (fun s => if s = sl then id else mo s) L W8) := by
              have h := HS8.out
              rw [show nextL id L = L by unfold nextL; rw [if_pos (show id = e0 from hid0)]] at h
              exact h
            rw [hid0] at hq8
            clear HS8 HId
            go_wp2
            go_roundg (gk - 1)
            case measure => have := HG.out; omega
            case rel => exact ⟨k + 1, own5, v5, L, _, by have := HG.out; show _ = _; omega, by go_num, hid (by have := HL.out; omega), HS9⟩
          · obtain ⟨hne1, hne2⟩ := ne_empty hid0
            obtain ⟨W9, hup, hM9, hT9⟩ := HS8.out.map.put (by have := HL.out; omega) id HId.out
            have HS9 := hid (HS8.out.named hM9 hT9)
            have HS9' : Hid (St w.heap.size w T M K own5 v5 (nextL id L) (fun s => if s = sl then id else mo s) (fun s => if s = sl then id else mo s) (nextL id L) W9) := by
              have h := HS9.out
              rw [show addB id L = nextL id L by unfold nextL; rw [if_neg (show ¬ id = e0 from hid0)]] at h
              exact h
            have HL9 : Hid ((nextL id L).length ≤ k + 1) := by
              show (nextL id L).length ≤ k + 1
              unfold nextL
              rw [if_neg (show ¬ id = e0 from hid0)]
              unfold addB
              have := HL.out
              split
              · omega
              · simp; omega
            clear HS8 HS9 hM9 hT9 HId hid0
            go_wp2
            go_roundg (gk - 1)
            case measure => have := HG.out; omega
            case rel => exact ⟨k + 1, own5, v5, _, _, by have := HG.out; show _ = _; omega, by go_num, HL9, HS9'⟩
        · clear HG HRng
          go_wp2_with fail
          have hLk : L.length ≤ 4096 := by have := HL.out; omega
          refine (owner9 HS.out.tab).mono ?_
          rintro e W10 ⟨rfl, HC10⟩
          have HS10 := hid (HS.out.keep HC10.out)
          have HF := hid (Blk.fresh29 W10)
          have HST := hid (HF.out.store29 own)
          have HFO := hid (HF.out.stored29 own)
          clear HS HC10
          go_wp2_with (first | (with_reducible apply wpList_alloc29) | ((with_reducible apply wpList_store29); (· rfl); (· rfl); (· exact HST.out)))
          have HC12 : Hid (Tch W10 ((W10.alloc (.cells (arr (fun _ => 0)).toArray 29)).setCells W10.heap.size 0 (arr own)) (fun _ => False)) := (Tch.alloc W10 _ _).trans (Tch.sets _ _ _ _) (fun b hb h => by omega)
          have HS12 := hid (HS10.out.keep HC12.out)
          generalize (W10.alloc (.cells (arr (fun _ => 0)).toArray 29)).setCells W10.heap.size 0 (arr own) = W12 at HFO HS12 ⊢
          generalize W10.heap.size = O at HFO ⊢
          clear HC12 HST HF HS10
          obtain ⟨av2, cv2, hv2, hrd2⟩ := HS12.out.tab.shape
          subst hv2
          obtain ⟨m, hm⟩ : ∃ m : Nat, m = L.length + 1 := ⟨_, rfl⟩
          have e2 : (⟨#[]⟩ :: L : List ByteArray).length = m := by rw [hm]; rfl
          have HMm := hid hm
          rw [e2] at HS12 hrd2
          have HRd := hid hrd2
          clear hrd2 e2 hm
          refine (ids10 HS12.out.tab).mono ?_
          rintro e w' ⟨rfl, rfl⟩
          go_wp2_with fail
          refine (wf12 HFO.out HRd.out HS12.out.tel.wf (by have := HMm.out; omega)).mono ?_
          rintro e W13 ⟨rfl, HC13⟩
          have HS13 := hid (HS12.out.keep HC13.out)
          have HRd13 := hid (HRd.out.keepF HC13.out)
          have HFO13 := hid (HFO.out.keep HC13.out (fun x => x))
          clear HS12 HRd HFO HC13
          have hml := HS13.out.map.len
          have hcmp : ((m : Int) == 1 + (L.length : Int)) = true := by rw [beq_iff_eq]; have := HMm.out; omega
          have hwl : IntKind.i64.wrap (1 + (L.length : Int)) = 1 + (L.length : Int) := IntWalk.i64_in _ (by omega)
          go_wp2_with fail
          clear hml hcmp hwl
          go_loopg [14] L.length (fun g v wr' => ∃ j : Nat, Hid (j + g = L.length) ∧ v = .int .i64 ((j : Int) + 1) ∧ W13 = wr')
          case atStart => exact ⟨0, Nat.zero_add _, by go_num, rfl⟩
          case round =>
            obtain ⟨j, HG, rfl, hw⟩ := hrel
            subst hw
            have hjl : j ≤ L.length := by have := HG.out; omega
            by_cases hj : j < L.length
            · have hj2 : (j : Int) + 1 < (m : Int) := by have := HMm.out; omega
              obtain ⟨q, hqb, hq, hqc⟩ := HRd13.out.at' (j + 1) (by have := HMm.out; omega)
              have hq' : ∀ w', (Instr.indexAt 23 (.slice av2 m cv2) (.int .i64 ((j : Int) + 1))).run Try.prog w' = .ok (.pointer (some q)) w' := fun w' => hq .i64 w'
              obtain ⟨d, hd⟩ : ∃ d, d = L.getD j ⟨#[]⟩ := ⟨_, rfl⟩
              have hqc' : W13.cell? q = some (.string d) := by rw [hd]; simpa using hqc
              have hdm : d ∈ L := by rw [hd]; exact getD_mem hj
              have hlk := HS13.out.map.look d (HS13.out.tel.wf.sz d hdm)
              rw [inB_iff.2 hdm] at hlk
              have hw1 : IntKind.i64.wrap ((j : Int) + 1 + 1) = (j : Int) + 1 + 1 := IntWalk.i64_in _ (by omega)
              clear hq hqc hqb hd hdm
              go_wp2
              go_roundg (gk - 1)
              case measure => have := HG.out; omega
              case rel => exact ⟨j + 1, by have := HG.out; show _ = _; omega, by go_num, rfl⟩
            · have hj2 : ¬ (j : Int) + 1 < (m : Int) := by have := HMm.out; omega
              clear HG
              go_wp2_with fail
              obtain ⟨Z, HZZ⟩ : ∃ Z : Nat, Hid (Z = 16384) := ⟨_, rfl⟩
              go_loopg [15] Z (fun g v wr' => ∃ s : Nat, Hid (s + g = Z) ∧ v = .int .i64 (s : Int) ∧ Hid (Tch W13 wr' (fun _ => False)))
              case atStart => exact ⟨0, Nat.zero_add _, rfl, Tch.refl _ _⟩
              case round =>
                obtain ⟨s, HG, rfl, HW⟩ := hrel
                rename World => W14
                have hS14 := hid (HS13.out.keep HW.out)
                by_cases hs : s < 16384
                · have hs2 : (s : Int) < 16384 := by omega
                  have hixO := idxArr Try.underlying29 sized28 .i64 O s hs
                  have hixM := idxArr Try.underlying32 sized9 .i64 M s hs
                  have hos := hS14.out.tel.wf.own s hs
                  obtain ⟨q, hqb, hq, hqc⟩ := (HRd13.out.keepF HW.out).at' (own s) (by have := HMm.out; omega)
                  have hq' := hq .u16
                  have heq := hS14.out.tel.eq s hs
                  have h1 : W14.drew.cell? ⟨O, s, none⟩ = some (.int .u16 (own s)) := (HFO13.out.keep HW.out (fun x => x)).cell s hs
                  have h2 : W14.drew.cell? q = some (.string (mo s)) := by rw [← heq]; exact hqc
                  have h3 : W14.drew.cell? ⟨M, s, none⟩ = some (.string (mo s)) := hS14.out.mod.cell s hs
                  have HW' : Hid (Tch W13 W14.drew (fun _ => False)) := HW.out.trans (Tch.drew _ _) (fun _ _ x => x)
                  have hw1 : IntKind.i64.wrap ((s : Int) + 1) = (s : Int) + 1 := IntWalk.i64_in _ (by omega)
                  generalize own s = os at hq' h1
                  generalize mo s = d at h2 h3
                  clear hq hqc hqb heq hos HW
                  have hS := And.intro h1 (And.intro h2 h3)
                  go_wp2_with fail
                  go_region_held3 (fun w' => w'.cell? ⟨O, s, none⟩ = some (.int .u16 (os : Int)) ∧ w'.cell? q = some (.string d) ∧ w'.cell? ⟨M, s, none⟩ = some (.string d))
                    (exact hS)
                    (fail)
                  go_wp2
                  go_roundg (gk - 1)
                  case measure => have := HG.out; have := HZZ.out; omega
                  case rel => exact ⟨s + 1, by have := HG.out; have := HZZ.out; show _ = _; omega, by go_num, HW'⟩
                · have hs2 : ¬ (s : Int) < 16384 := by omega
                  have HBE := hid hS14.out.bel
                  clear hS14 HW
                  go_wp2
                  go_ret
                  exact ⟨rfl, HBE⟩
end Go.Proofs.Qxb6608555a
