/-
  WALK: the law FnSlotTableCopyKeepsOwnersAndNamesOnlyServers (function 4), the walk itself.
-/
import Derived.Test.Qxb6608555aLaw4
import Derived.Test.Qxb6608555aSet2
import Derived.LaidEql
namespace Go.Proofs.Qxb6608555a
open Go.RowKit Go.Maps
set_option linter.unusedVariables false
set_option linter.unusedSimpArgs false

theorem ptrIn (d : Nat) {W : World} {C T n m : Nat} {g g' : Nat → Value} (hC : Blk W C 57 n g) (hT : Blk W T 57 m g') (hne : C ≠ T) : (Op.equalIn (d + 1) 26 (.pointer (some ⟨C, 0, none⟩)) (.pointer (some ⟨T, 0, none⟩))).run Try.prog W = .ok false W := by
  obtain ⟨c1, h1, _⟩ := hC.row
  obtain ⟨c2, h2, _⟩ := hT.row
  have h3 := run_sameAddr_other (P := Try.prog) (w := W) (a := ⟨C, 0, none⟩) (b := ⟨T, 0, none⟩) (fun e => hne (by injection e)) h1 h2
  simp only [Op.equalIn, run_underlying Try.underlying26, Sem.run_bind, Result.andThen_ok, Try.sizeOf57]
  simpa using h3
theorem eqPtr {W : World} {C T n m : Nat} {g g' : Nat → Value} (hC : Blk W C 57 n g) (hT : Blk W T 57 m g') (hne : C ≠ T) : (binOp .eql 26 (.pointer (some ⟨C, 0, none⟩)) (.pointer (some ⟨T, 0, none⟩))).run Try.prog W = .ok (.bool false) W := by
  have h : (Op.equal 26 (.pointer (some ⟨C, 0, none⟩)) (.pointer (some ⟨T, 0, none⟩))).run Try.prog W = .ok false W := ptrIn 9999 hC hT hne
  simp [binOp, Sem.run_bind, h, Result.andThen]

theorem drewN_tch (W : World) (n : Nat) : Tch W (W.drewN n) (fun _ => False) := ⟨rfl, rfl, rfl, Nat.le_refl _, fun _ _ _ => rfl⟩

theorem own_rd' {W : World} {base : Nat} {v : Value} {ids : List ByteArray} (h : W.ownsRow base 9 1 v ids.length (ids.map .string)) (hne : 0 < ids.length) : ∃ x cap, v = .slice (some x) ids.length cap ∧ RdS W (some x) ids.length cap ids := by
  obtain ⟨a, cap, hv, hr⟩ := own_rd h
  cases a with
  | some x => exact ⟨x, cap, hv, hr⟩
  | none =>
    exfalso
    rcases h.2 with ⟨_, h0⟩ | ⟨g, c, cur, hv2, _⟩
    · omega
    · rw [hv] at hv2
      simp at hv2

set_option maxRecDepth 300000 in
set_option maxHeartbeats 16000000 in
theorem walk4 (w : World) (a0 : Option Addr) (n0 c0 : Nat) (zs : List Int) (a1 : Option Addr) (n1 c1 : Nat) (ss : List ByteArray) (x : Int) (id : ByteArray) (hn0 : n0 ≤ 9223372036854775807) (hn1 : n1 ≤ 9223372036854775807)
    (h0 : RdI w a0 n0 c0 zs) (h1 : RdS w a1 n1 c1 ss) (hsz : ∀ x ∈ ss, x.size ≤ maxLen) (hidz : id.size ≤ 9223372036854775807) :
    Calls Try.prog 4 #[.slice a0 n0 c0, .slice a1 n1 c1, .int .i64 x, .string id] w fun e w' => e = .returned (.bool true) ∧ Below w.heap.size w w' := by
  have H0 := hid h0
  have H1 := hid h1
  have HZ := hid hsz
  clear h0 h1 hsz
  go_enter Try.func4, Try.ntmps4
  go_wp2_with fail
  refine (zz13 a0 n0 c0 hn0 hn1 H1.out x id).mono ?_
  rintro e w' ⟨⟨q, rfl⟩, rfl⟩
  cases q
  · go_wp2
    go_ret
    exact ⟨rfl, Below.refl _ _⟩
  by_cases g0 : n0 ≤ 4096
  case neg =>
    have g0' : (4096 : Int) < (n0 : Int) := by omega
    go_wp2
    go_ret
    exact ⟨rfl, Below.refl _ _⟩
  have g0' : ¬ (4096 : Int) < (n0 : Int) := by omega
  by_cases g1 : n1 ≤ 4096
  case neg =>
    have g1' : (4096 : Int) < (n1 : Int) := by omega
    go_wp2
    go_ret
    exact ⟨rfl, Below.refl _ _⟩
  have g1' : ¬ (4096 : Int) < (n1 : Int) := by omega
  by_cases g2 : id.size ≤ 1048576
  case neg =>
    have g2' : (1048576 : Int) < (id.size : Int) := by omega
    go_wp2
    go_ret
    exact ⟨rfl, Below.refl _ _⟩
  have g2' : ¬ (1048576 : Int) < (id.size : Int) := by omega
  have hw8 : IntKind.i64.wrap (8 * (n0 : Int)) = 8 * (n0 : Int) := IntWalk.i64_in _ (by omega)
  have hw9 : IntKind.i64.wrap (8 * (n0 : Int) + (id.size : Int)) = 8 * (n0 : Int) + (id.size : Int) := IntWalk.i64_in _ (by omega)
  go_wp2_with fail
  have hadd := add7 (8 * n0 + id.size) (by omega) (by omega) H1.out
  rw [show ((8 * n0 + id.size : Nat) : Int) = 8 * (n0 : Int) + (id.size : Int) by omega] at hadd
  refine hadd.mono ?_
  rintro e w' ⟨⟨r, rfl⟩, rfl⟩
  clear hadd
  by_cases gr : r ≤ 1048576
  case neg =>
    have gr' : (1048576 : Int) < r := by omega
    go_wp2
    go_ret
    exact ⟨rfl, Below.refl _ _⟩
  have gr' : ¬ (1048576 : Int) < r := by omega
  by_cases ge : n0 = n1
  case neg =>
    have ge' : ((n0 : Int) == (n1 : Int)) = false := by simp; omega
    go_wp2
    go_ret
    exact ⟨rfl, Below.refl _ _⟩
  subst ge
  by_cases gx : 0 ≤ x
  case neg =>
    have gx' : x < 0 := by omega
    go_wp2
    go_ret
    exact ⟨rfl, Below.refl _ _⟩
  have gx' : ¬ x < 0 := by omega
  by_cases gy : x < 16384
  case neg =>
    have gy' : (16384 : Int) ≤ x := by omega
    go_wp2
    go_ret
    exact ⟨rfl, Below.refl _ _⟩
  have gy' : ¬ (16384 : Int) ≤ x := by omega
  have HIdz : Hid (id.size ≤ maxLen) := hid (by unfold maxLen; omega)
  go_wp2_with fail
  obtain ⟨sl0, hsl0⟩ : ∃ sl0 : Nat, x = (sl0 : Int) := ⟨x.toNat, by omega⟩
  have HSl : Hid (sl0 < 16384 ∧ x = (sl0 : Int)) := hid ⟨by omega, hsl0⟩
  clear gx gx' gy gy' hidz hsl0
  go_loopg [9] n0 (fun g v wr => ∃ k : Nat, Hid (k + g = n0) ∧ v = .int .i64 (k : Int) ∧ Hid (∀ j, j < k → 0 ≤ zs.getD j 0 ∧ zs.getD j 0 < 16384) ∧ w = wr)
  case atStart => exact ⟨0, Nat.zero_add _, rfl, hid (fun j hj => by omega), rfl⟩
  case round =>
    obtain ⟨k, HG, rfl, HK, hw⟩ := hrel
    subst hw
    have hk : k ≤ n0 := by have := HG.out; omega
    by_cases hlt : k < n0
    · obtain ⟨q, hqb, hq, hc⟩ := H0.out.at' k hlt
      obtain ⟨z, hz⟩ : ∃ z, z = zs.getD k 0 := ⟨_, rfl⟩
      rw [← hz] at hc
      have HZ2 := hid hz
      clear hz
      by_cases hz0 : z < 0
      · go_wp2
        go_ret
        exact ⟨rfl, Below.refl _ _⟩
      · by_cases hz1 : z < 16384
        · have hz1' : ¬ (16384 : Int) ≤ z := by omega
          have hw1 : IntKind.i64.wrap ((k : Int) + 1) = (k : Int) + 1 := IntWalk.i64_in _ (by omega)
          go_wp2
          go_roundg (gk - 1)
          case measure => have := HG.out; omega
          case rel => exact ⟨k + 1, by have := HG.out; show _ = _; omega, by go_num, hid (fun j hj => by
            by_cases hjk : j = k
            · rw [hjk, ← HZ2.out]; omega
            · exact HK.out j (by omega)), rfl⟩
        · have hz1' : (16384 : Int) ≤ z := by omega
          go_wp2
          go_ret
          exact ⟨rfl, Below.refl _ _⟩
    · have hkn : k = n0 := by omega
      have HRng : Hid (∀ j, j < n0 → 0 ≤ zs.getD j 0 ∧ zs.getD j 0 < 16384) := by rw [hkn] at HK; exact HK
      clear HK HG
      go_wp2_with fail
      refine (new8 w).mono ?_
      rintro e W1 ⟨T, v0, rfl, HT1, HC1⟩
      have HB1 : Hid (Below w.heap.size w W1) := Tch.below (Below.refl _ _) HC1.out (fun _ _ x => x.elim) (Nat.le_refl _)
      go_wp2_with (with_reducible apply wpList_alloc32)
      have HS0 : Hid (S4 w.heap.size w T W1.heap.size (fun _ => 0) v0 [] (fun _ => ⟨#[]⟩) (fun _ => ⟨#[]⟩) (W1.alloc (.cells (sarr (fun _ => ⟨#[]⟩)).toArray 32))) := by
        have k1 := Tch.alloc W1 (.cells (sarr (fun _ => ⟨#[]⟩)).toArray 32) (fun _ => False)
        exact ⟨Tch.below HB1.out k1 (fun _ _ x => x.elim) HB1.out.size, HT1.out.2.keep k1 (fun x => x) (fun _ _ x => x), ⟨⟨List.nodup_nil, by simp, by simp, by simp⟩, fun s hs => rfl⟩, Blk.fresh32 W1, HB1.out.size⟩
      generalize W1.alloc (.cells (sarr (fun _ => ⟨#[]⟩)).toArray 32) = W4 at HS0 ⊢
      generalize W1.heap.size = M at HS0 ⊢
      clear HT1 HB1 HC1 hlt hkn hk
      go_loopg [12] n0 (fun g v wr => ∃ (k : Nat) (own : Nat → Nat) (v' : Value) (L : List ByteArray) (mo : Nat → ByteArray), Hid (k + g = n0) ∧ v = .int .i64 (k : Int) ∧ Hid (L.length ≤ k) ∧ Hid (S4 w.heap.size w T M own v' L mo mo wr))
      case atStart => exact ⟨0, _, _, [], _, Nat.zero_add _, rfl, Nat.le_refl _, HS0⟩
      case round =>
        clear HS0
        obtain ⟨k, own, v, L, mo, HG, rfl, HL, HS⟩ := hrel
        rename World => wr
        have hk : k ≤ n0 := by have := HG.out; omega
        by_cases hlt : k < n0
        · obtain ⟨p, hpb, hp, hpc⟩ := H0.out.at' k hlt
          obtain ⟨q, hqb, hq, hqc⟩ := H1.out.at' k hlt
          obtain ⟨hz0, hz1⟩ := HRng.out k hlt
          obtain ⟨sl, hsl⟩ : ∃ sl : Nat, zs.getD k 0 = (sl : Int) := ⟨(zs.getD k 0).toNat, by omega⟩
          rw [hsl] at hz0 hz1 hpc
          have hs : sl < 16384 := by omega
          have HId : Hid ((ss.getD k ⟨#[]⟩).size ≤ maxLen) := HZ.out _ (getD_mem (by have := H1.out.len; omega))
          generalize ss.getD k ⟨#[]⟩ = di at hqc HId
          have hq' := hq .i64
          have HE : Hid (∀ w', Below w.heap.size w w' → w'.cell? p = some (.int .i64 (sl : Int)) ∧ w'.cell? q = some (.string di)) := fun w' hb =>
            ⟨by rw [← hpc]; exact World.cell?_of_block (hb.block _ hpb), by rw [← hqc]; exact World.cell?_of_block (hb.block _ hqb)⟩
          have HSd := hid HS.out.drew
          have hS1 := HE.out _ HSd.out.bel
          have hL5 : L.length + 1 ≤ 5000 := by have := HL.out; omega
          clear hq hpb hqb hz0 hz1 hsl
          go_wp2_with fail
          go_region_held3 (fun w' => w'.cell? p = some (.int .i64 (sl : Int)) ∧ w'.cell? q = some (.string di))
            (first | exact hS1 | exact hS2)
            (first | (go_at_call 11; refine (set11 HSd.out.tab HSd.out.size hL5 sl hs di).mono ?_; rintro e W5 ⟨rfl, HSet⟩; have hex5 := HSd.out.set HSet.out HId.out; have hS2 := HE.out _ (hex5.elim fun o h => h.elim fun v h => h.bel)))
          obtain ⟨own5, v5, hst5⟩ := hex5
          have HS5 := hid hst5
          have HS5d := hid hst5.drew
          clear hst5 HSet HS HSd hS1 hS2
          have hS3 := HE.out _ HS5d.out.bel
          have hixM := idxArr Try.underlying32 sized9 .i64 M sl hs
          have hS4 : W5.drew.cell? p = some (.int .i64 (sl : Int)) ∧ W5.drew.cell? q = some (.string di) ∧ W5.drew.cell? ⟨M, sl, none⟩ = some (.string (mo sl)) ∧ W5.drew.frozen? ⟨M, sl, none⟩ = false := ⟨hS3.1, hS3.2, HS5d.out.mod.cell sl hs, HS5d.out.mod.free sl⟩
          have HS6 := hid HS5d.out.store
          have hS6 := HE.out _ HS6.out.bel
          have hS7 := And.intro hS6.1 (And.intro hS6.2 (And.intro (HS6.out.mod.cell sl hs) (HS6.out.mod.free sl)))
          go_wp2_with fail
          go_region_held3 (fun w' => w'.cell? p = some (.int .i64 (sl : Int)) ∧ w'.cell? q = some (.string di) ∧ (∃ u, w'.cell? ⟨M, sl, none⟩ = some u) ∧ w'.frozen? ⟨M, sl, none⟩ = false)
            (first | exact ⟨hS4.1, hS4.2.1, ⟨_, hS4.2.2.1⟩, hS4.2.2.2⟩ | exact ⟨hS7.1, hS7.2.1, ⟨_, hS7.2.2.1⟩, hS7.2.2.2⟩)
            (fail)
          have HS8 : Hid (S4 w.heap.size w T M own5 v5 (nextL di L) (fun s => if s = sl then di else mo s) (fun s => if s = sl then di else mo s) (W5.setCell ⟨M, sl, none⟩ (.string di)).drew) := HS6
          generalize (W5.setCell ⟨M, sl, none⟩ (.string di)).drew = W8 at HS8 ⊢
          clear hS3 hS4 HS6 hS6 hS7 HS5 HS5d hixM
          have hw1 : IntKind.i64.wrap ((k : Int) + 1) = (k : Int) + 1 := IntWalk.i64_in _ (by omega)
          have HL8 : Hid ((nextL di L).length ≤ k + 1) := hid (by have := nextL_len di L; have := HL.out; omega)
          go_wp2
          go_roundg (gk - 1)
          case measure => have := HG.out; omega
          case rel => exact ⟨k + 1, own5, v5, _, _, by have := HG.out; show _ = _; omega, by go_num, HL8, HS8⟩
        · clear HG HRng
          have hLk : L.length ≤ 4096 := by have := HL.out; omega
          go_wp2_with fail
          refine (owner9 HS.out.tab).mono ?_
          rintro e W10 ⟨rfl, HC10⟩
          have HS10 := hid (HS.out.keep HC10.out)
          have HF := hid (Blk.fresh29 W10)
          have HST := hid (HF.out.store29 own)
          have HFO := hid (HF.out.stored29 own)
          clear HS HC10
          go_wp2_with (first | (with_reducible apply wpList_alloc29) | ((with_reducible apply wpList_store29); (· rfl); (· rfl); (· exact HST.out)))
          have HC12 : Hid (Tch W10 ((W10.alloc (.cells (arr (fun _ => 0)).toArray 29)).setCells W10.heap.size 0 (arr own)) (fun _ => False)) := (Tch.alloc W10 _ _).trans (Tch.sets _ _ _ _) (fun b hb h => by omega)
          have HS12 := hid (HS10.out.keep HC12.out)
          generalize (W10.alloc (.cells (arr (fun _ => 0)).toArray 29)).setCells W10.heap.size 0 (arr own) = W12 at HFO HS12 ⊢
          generalize W10.heap.size = O at HFO ⊢
          clear HC12 HST HF HS10
          obtain ⟨xv, cv2, hv2, hrd2⟩ := own_rd' HS12.out.tab.row (by simp)
          subst hv2
          obtain ⟨m, hm⟩ : ∃ m : Nat, m = L.length + 1 := ⟨_, rfl⟩
          have e2 : (⟨#[]⟩ :: L : List ByteArray).length = m := by rw [hm]; rfl
          have HMm := hid hm
          have hm5 : m ≤ 5000 := by omega
          rw [e2] at HS12 hrd2
          have HRd := hid hrd2
          clear hrd2 e2 hm
          refine (ids10 HS12.out.tab).mono ?_
          rintro e w' ⟨rfl, rfl⟩
          go_wp2_with fail
          refine (clone14 HRd.out (by omega)).mono ?_
          rintro e W13 ⟨R, rfl, HR13, HC13⟩
          have HS13 := hid (HS12.out.keep HC13.out)
          have HFO13 := hid (HFO.out.keep HC13.out (fun x => x))
          have HRd13 := hid (HR13.out.2.rdS (by have := HMm.out; simpa using this) m)
          clear HS12 HRd HFO HC13
          go_wp2_with fail
          refine (wf12 HFO13.out HRd13.out HS13.out.tel.wf (by omega)).mono ?_
          rintro e W14 ⟨rfl, HC14⟩
          have HB15 : Hid (Bs w.heap.size w T M O R W14.heap.size m own (.slice (some xv) m cv2) L mo (srv mo 0) (W14.alloc (.map #[] 0))) := by
            have k := HC14.out.trans (Tch.alloc W14 (.map #[] 0) (fun _ => False)) (fun _ _ x => x)
            exact ⟨HS13.out.keep k, HFO13.out.keep k (fun x => x), HR13.out.2.keep k (fun x => x), MSet.made W14, (HS13.out.keep HC14.out).size⟩
          clear HS13 HFO13 HRd13 HR13 HC14
          have hmm := @run_makeMap Try.prog
          go_wp2_with fail
          generalize W14.alloc (.map #[] 0) = W15 at HB15 ⊢
          generalize W14.heap.size = K at HB15 ⊢
          clear hmm
          obtain ⟨Z, HZZ⟩ : ∃ Z : Nat, Hid (Z = 16384) := ⟨_, rfl⟩
          have HixR : Hid (∀ u, u < m → ∀ w', (Instr.indexAt 23 (.slice (some ⟨R, 0, none⟩) m m) (.int .u16 (u : Int))).run Try.prog w' = .ok (.pointer (some ⟨R, u, none⟩)) w') := fun u hu w' => by
            have := idx_eq Try.underlying23 sized9 .u16 R 0 m m u hu w'
            simpa using this
          go_loopg [16] Z (fun g v wr => ∃ s : Nat, Hid (s + g = Z) ∧ v = .int .i64 (s : Int) ∧ Hid (Bs w.heap.size w T M O R K m own (.slice (some xv) m cv2) L mo (srv mo s) wr))
          case atStart => exact ⟨0, Nat.zero_add _, rfl, HB15⟩
          case round =>
            clear HB15
            obtain ⟨s, HG, rfl, HBs⟩ := hrel
            rename World => W16
            by_cases hs : s < 16384
            · have hs2 : (s : Int) < 16384 := by omega
              have hixO := idxArr Try.underlying29 sized28 .i64 O s hs
              have hixM := idxArr Try.underlying32 sized9 .i64 M s hs
              have hos := HBs.out.s4.tel.wf.own s hs
              have hosm : own s < m := by have := HMm.out; omega
              have hq' := HixR.out (own s) hosm
              have heq := HBs.out.s4.tel.eq s hs
              have HBd := hid (HBs.out.keep (Tch.drew W16 (fun _ => False)))
              have h1 : W16.drew.cell? ⟨O, s, none⟩ = some (.int .u16 (own s)) := HBd.out.o.cell s hs
              have h2 : W16.drew.cell? ⟨R, own s, none⟩ = some (.string (mo s)) := by
                rw [HBd.out.r.cell (own s) hosm, ← heq]
                rfl
              have h3 : W16.drew.cell? ⟨M, s, none⟩ = some (.string (mo s)) := HBd.out.s4.mod.cell s hs
              have hw1 : IntKind.i64.wrap ((s : Int) + 1) = (s : Int) + 1 := IntWalk.i64_in _ (by omega)
              have HL16 : Hid ((srv mo s).length ≤ s) := srv_len mo s
              have HNx := hid (srv_next mo s)
              have HDz : Hid (mo s ≠ e0 → (mo s).size ≤ maxLen) := hid (fun hne => by
                have h0 : own s ≠ 0 := fun z => hne ((place_empty HBs.out.s4.tel hs).1 z)
                obtain ⟨j, hj⟩ : ∃ j, own s = j + 1 := ⟨own s - 1, by omega⟩
                obtain ⟨b1, b2, _⟩ := HBs.out.s4.tel.at hs hj
                rw [← b2]
                exact HBs.out.s4.tel.wf.sz _ (getD_mem b1))
              obtain ⟨d, hd⟩ : ∃ d, d = mo s := ⟨_, rfl⟩
              rw [← hd] at h2 h3 HNx HDz
              have HDD := hid hd
              generalize own s = os at hq' h1 h2
              clear heq hos hosm hd
              have hS := And.intro h1 (And.intro h2 h3)
              go_wp2_with fail
              go_region_held3 (fun w' => w'.cell? ⟨O, s, none⟩ = some (.int .u16 (os : Int)) ∧ w'.cell? ⟨R, os, none⟩ = some (.string d) ∧ w'.cell? ⟨M, s, none⟩ = some (.string d))
                (exact hS)
                (fail)
              generalize W16.drew = W17 at HBd h1 h2 h3 hS ⊢
              clear HBs h1 h2 hS hixO hq'
              by_cases hd0 : d = ⟨#[]⟩
              · have HB' : Hid (Bs w.heap.size w T M O R K m own (.slice (some xv) m cv2) L mo (srv mo (s + 1)) W17) := by
                  rw [HNx.out, nextL_empty (show d = e0 from hd0)]
                  exact HBd
                rw [hd0] at h3
                clear HDz HNx
                go_wp2
                go_roundg (gk - 1)
                case measure => have := HG.out; have := HZZ.out; omega
                case rel => exact ⟨s + 1, by have := HG.out; have := HZZ.out; show _ = _; omega, by go_num, HB'⟩
              · obtain ⟨hne1, hne2⟩ := ne_empty hd0
                obtain ⟨W18, hup, hM18, hT18⟩ := HBd.out.k.put (by have := HL16.out; omega) d (HDz.out hd0)
                have HB' : Hid (Bs w.heap.size w T M O R K m own (.slice (some xv) m cv2) L mo (srv mo (s + 1)) W18) := by
                  have h := HBd.out.named hM18 hT18
                  rw [HNx.out]
                  unfold nextL
                  rw [if_neg (show ¬ d = e0 from hd0)]
                  exact h
                clear HDz HNx hM18 hT18 hd0
                go_wp2
                go_roundg (gk - 1)
                case measure => have := HG.out; have := HZZ.out; omega
                case rel => exact ⟨s + 1, by have := HG.out; have := HZZ.out; show _ = _; omega, by go_num, HB'⟩
            · have hs2 : ¬ (s : Int) < 16384 := by omega
              have HBf : Hid (Bs w.heap.size w T M O R K m own (.slice (some xv) m cv2) L mo (srv mo 16384) W16) := by
                have hse : s = 16384 := by have := HG.out; have := HZZ.out; omega
                rw [hse] at HBs
                exact HBs
              clear HBs HG
              go_wp2_with fail
              refine (copy15 HBf.out.s4.tab HBf.out.s4.tel (by omega)).mono ?_
              rintro e W20 hcopy
              obtain ⟨C, oc, vc, rfl, HC20, HT20⟩ := hcopy
              obtain ⟨SV, hSV⟩ : ∃ SV, SV = srv mo 16384 := ⟨_, rfl⟩
              rw [← hSV] at HC20 HBf
              have HSV := hid hSV
              clear hSV
              have HCT : Hid (C ≠ T) := hid (by have := HC20.out.1; have := HBf.out.s4.tab.blk.lt; omega)
              have hptr := eqPtr HC20.out.2.1.blk (HBf.out.s4.tab.keep HT20.out (fun x => x) (fun _ _ x => x)).blk HCT.out
              go_wp2_with fail
              clear hptr
              refine (owner9 HC20.out.2.1).mono ?_
              rintro e W21 ⟨rfl, HC21⟩
              have HF := hid (Blk.fresh29 W21)
              have HST := hid (HF.out.store29 oc)
              have HFO := hid (HF.out.stored29 oc)
              go_wp2_with (first | (with_reducible apply wpList_alloc29) | ((with_reducible apply wpList_store29); (· rfl); (· rfl); (· exact HST.out)))
              have HC22 : Hid (Tch W20 ((W21.alloc (.cells (arr (fun _ => 0)).toArray 29)).setCells W21.heap.size 0 (arr oc)) (fun _ => False)) := (HC21.out.trans (Tch.alloc W21 _ (fun _ => False)) (fun _ _ x => x)).trans (Tch.sets _ _ _ _) (fun b hb h => by have := HC21.out.size; omega)
              have HO2b : Hid (W16.heap.size ≤ W21.heap.size) := Nat.le_trans HT20.out.size HC21.out.size
              generalize (W21.alloc (.cells (arr (fun _ => 0)).toArray 29)).setCells W21.heap.size 0 (arr oc) = W22 at HFO HC22 ⊢
              generalize W21.heap.size = O2 at HFO HO2b ⊢
              clear HST HF HC21
              have HT22 := hid (HT20.out.trans HC22.out (fun _ _ x => x))
              have HTab22 := hid (HC20.out.2.1.keep HC22.out (fun x => x) (fun _ _ x => x))
              have HTel := hid HC20.out.2.2
              clear HC20 HT20 HC22
              obtain ⟨xc, cc, hvc, hrdc⟩ := own_rd' HTab22.out.row (by simp)
              subst hvc
              obtain ⟨nc, hnc⟩ : ∃ nc : Nat, nc = SV.length + 1 := ⟨_, rfl⟩
              have e3 : (⟨#[]⟩ :: SV : List ByteArray).length = nc := by rw [hnc]; rfl
              have HNC := hid hnc
              have hnc5 : nc ≤ 16385 := by
                have h := srv_len mo 16384
                rw [← HSV.out] at h
                omega
              rw [e3] at HTab22 hrdc
              have HRdc := hid hrdc
              clear hrdc e3 hnc
              refine (ids10 HTab22.out).mono ?_
              rintro e w' ⟨rfl, rfl⟩
              go_wp2_with fail
              refine (wf12 HFO.out HRdc.out HTel.out.wf (by omega)).mono ?_
              rintro e W23 ⟨rfl, HC23⟩
              have HT23 := hid (HT22.out.trans HC23.out (fun _ _ x => x))
              have HTab23 := hid (HTab22.out.keep HC23.out (fun x => x) (fun _ _ x => x))
              have HFO23 := hid (HFO.out.keep HC23.out (fun x => x))
              have HB23 := hid (HBf.out.keep HT23.out)
              clear HT22 HTab22 HFO HRdc HC23
              have hml := HB23.out.k.len
              have hcmp : ((nc : Int) == 1 + (SV.length : Int)) = true := by rw [beq_iff_eq]; have := HNC.out; omega
              have hwl : IntKind.i64.wrap (1 + (SV.length : Int)) = 1 + (SV.length : Int) := IntWalk.i64_in _ (by have := HNC.out; omega)
              have hmk := make_of 22 3 (.int .i64 0) 8 Try.underlying22 (by kernel_rfl) rfl (by omega) nc (by omega) W23
              have HA24 : Hid (Ac W16 C O2 W23.heap.size nc oc (.slice (some xc) nc cc) SV (fun _ => 0) (W23.alloc (.cells (madeCells #[.int .i64 0] nc) 3))) := by
                have k := Tch.alloc W23 (.cells (madeCells #[.int .i64 0] nc) 3) (fun _ => False)
                exact ⟨HT23.out.trans k (fun _ _ x => x), HTab23.out.keep k (fun x => x) (fun _ _ x => x), HFO23.out.keep k (fun x => x), Blk.made W23 3 nc (.int .i64 0), HT23.out.size⟩
              go_wp2_with fail
              have hbne : ((nc : Int) != 1 + (SV.length : Int)) = false := by rw [bne, hcmp]; rfl
              rw [hbne]
              clear hbne
              generalize W23.alloc (.cells (madeCells #[.int .i64 0] nc) 3) = W24 at HA24 ⊢
              generalize W23.heap.size = F at HA24 ⊢
              clear hml hcmp hwl hmk HT23 HTab23 HFO23 HB23
              have HixF : Hid (∀ u, u < nc → ∀ w', (Instr.indexAt 22 (.slice (some ⟨F, 0, none⟩) nc nc) (.int .i64 (u : Int))).run Try.prog w' = .ok (.pointer (some ⟨F, u, none⟩)) w') := fun u hu w' => by
                have := idx_eq Try.underlying22 sized3 .i64 F 0 nc nc u hu w'
                simpa using this
              go_loopg [21] nc (fun g v wr => ∃ k : Nat, Hid (k + g = nc) ∧ v = .int .i64 (k : Int) ∧ Hid (Ac W16 C O2 F nc oc (.slice (some xc) nc cc) SV (fun j => if j < k then -1 else 0) wr))
              case atStart => exact ⟨0, Nat.zero_add _, rfl, hid (HA24.out.congr (fun j hj => by rw [if_neg (by omega)]))⟩
              case round =>
                clear HA24
                obtain ⟨k, HG, rfl, HA⟩ := hrel
                rename World => W25
                have hkn : k ≤ nc := by have := HG.out; omega
                by_cases hlt : k < nc
                · have hix := HixF.out k hlt
                  have hc := HA.out.f.cell k hlt
                  have hf := HA.out.f.free k
                  have HA' : Hid (Ac W16 C O2 F nc oc (.slice (some xc) nc cc) SV (fun j => if j < k + 1 then -1 else 0) (W25.setCell ⟨F, k, none⟩ (.int .i64 (-1)))) := (HA.out.setF k (-1)).congr (fun j hj => by
                    by_cases e : j = k
                    · rw [if_pos e, if_pos (by omega)]
                    · rw [if_neg e]
                      by_cases e2 : j < k
                      · rw [if_pos e2, if_pos (by omega)]
                      · rw [if_neg e2, if_neg (by omega)])
                  have hw1 : IntKind.i64.wrap ((k : Int) + 1) = (k : Int) + 1 := IntWalk.i64_in _ (by omega)
                  clear HA
                  go_wp2
                  go_roundg (gk - 1)
                  case measure => have := HG.out; omega
                  case rel => exact ⟨k + 1, by have := HG.out; show _ = _; omega, by go_num, HA'⟩
                · have HA26 : Hid (Ac W16 C O2 F nc oc (.slice (some xc) nc cc) SV (fun _ => -1) W25) := HA.out.congr (fun j hj => by rw [if_pos (by omega)])
                  clear HA HG
                  go_wp2_with fail
                  have HFs0 : Hid (Fs mo nc 0 (fun _ => -1)) := Fs.start mo nc
                  go_loopg [22] Z (fun g v wr => ∃ (s : Nat) (f : Nat → Int), Hid (s + g = Z) ∧ v = .int .i64 (s : Int) ∧ Hid (Fs mo nc s f) ∧ Hid (Ac W16 C O2 F nc oc (.slice (some xc) nc cc) SV f wr))
                  case atStart => exact ⟨0, _, Nat.zero_add _, rfl, HFs0, HA26⟩
                  case round =>
                    clear HA26 HFs0
                    obtain ⟨s, f, HG, rfl, HFs, HA⟩ := hrel
                    rename World => W27
                    by_cases hs : s < 16384
                    · have hs2 : (s : Int) < 16384 := by omega
                      have hixO := idxArr Try.underlying29 sized28 .i64 O2 s hs
                      have hixM := idxArr Try.underlying32 sized9 .i64 M s hs
                      have hos := HTel.out.wf.own s hs
                      have hosn : oc s < nc := by have := HNC.out; omega
                      have heq := HTel.out.eq s hs
                      have HAd := hid (HA.out.keep (Tch.drew W27 (fun _ => False)))
                      obtain ⟨q, hq', hqc⟩ := own_at (k := .u16) (by have h := HAd.out.tab.row; rw [show (⟨#[]⟩ :: SV : List ByteArray).length = nc by rw [HNC.out]; rfl] at h; exact h) (oc s) hosn
                      have h1 : W27.drew.cell? ⟨O2, s, none⟩ = some (.int .u16 (oc s)) := HAd.out.o.cell s hs
                      have h2 : W27.drew.cell? q = some (.string (mo s)) := by
                        rw [hqc, ← heq, List.getElem?_map, List.getD_eq_getElem?_getD]
                        have hlt' : oc s < (e0 :: SV).length := by simp; omega
                        rw [show (⟨#[]⟩ :: SV : List ByteArray) = e0 :: SV from rfl, List.getElem?_eq_getElem hlt']
                        rfl
                      have h3 : W27.drew.cell? ⟨M, s, none⟩ = some (.string (mo s)) := (HBf.out.keep HAd.out.tch).s4.mod.cell s hs
                      have hw1 : IntKind.i64.wrap ((s : Int) + 1) = (s : Int) + 1 := IntWalk.i64_in _ (by omega)
                      have hcv : IntKind.i64.wrap (oc s : Int) = (oc s : Int) := IntWalk.i64_in _ (by omega)
                      have HStep := hid (HFs.out.step (own := oc) (by rw [← HSV.out]; exact HTel.out) (by rw [← HSV.out]; exact HNC.out) hs)
                      have hixf := HixF.out (oc s) hosn
                      have h4 : W27.drew.cell? ⟨F, oc s, none⟩ = some (.int .i64 (f (oc s))) := HAd.out.f.cell (oc s) hosn
                      have h5 := HAd.out.f.free (oc s)
                      have HSet := hid (HAd.out.setF (oc s) (s : Int))
                      generalize mo s = d at h2 h3
                      obtain ⟨os, hos'⟩ : ∃ os, os = oc s := ⟨_, rfl⟩
                      rw [← hos'] at hq' h1 hcv HStep hixf h4 h5 HSet
                      have HOS := hid hos'
                      clear heq hos hosn hqc hos' HFs HA
                      have hS := And.intro h1 (And.intro h2 h3)
                      go_wp2_with fail
                      go_region_held3 (fun w' => w'.cell? ⟨O2, s, none⟩ = some (.int .u16 (os : Int)) ∧ w'.cell? q = some (.string d) ∧ w'.cell? ⟨M, s, none⟩ = some (.string d))
                        (exact hS)
                        (fail)
                      generalize W27.drew = W28 at HAd h1 h2 h3 h4 h5 hS HSet ⊢
                      clear h2 h3 hS hq' hixM
                      by_cases hp0 : os = 0
                      · have HFs' := hid (HStep.out.1 hp0)
                        rw [hp0] at h1 hcv
                        clear h4 h5 HSet HStep hixf hp0
                        go_wp2
                        go_roundg (gk - 1)
                        case measure => have := HG.out; have := HZZ.out; omega
                        case rel => exact ⟨s + 1, f, by have := HG.out; have := HZZ.out; show _ = _; omega, by go_num, HFs', HAd⟩
                      · have hpne : ((os : Int) == 0) = false := by simp; omega
                        obtain ⟨y, hy⟩ : ∃ y, y = f os := ⟨_, rfl⟩
                        rw [← hy] at h4 HStep
                        by_cases hneg : y < 0
                        · have HFs' := hid (HStep.out.2.2 hp0 hneg)
                          have hdec : decide (y < 0) = true := decide_eq_true hneg
                          clear HStep hy hpne hneg
                          go_wp2
                          go_roundg (gk - 1)
                          case measure => have := HG.out; have := HZZ.out; omega
                          case rel => exact ⟨s + 1, _, by have := HG.out; have := HZZ.out; show _ = _; omega, by go_num, HFs', HSet⟩
                        · have HFs' := hid (HStep.out.2.1 hp0 (by omega))
                          clear HStep hy HSet hpne
                          go_wp2
                          go_roundg (gk - 1)
                          case measure => have := HG.out; have := HZZ.out; omega
                          case rel => exact ⟨s + 1, f, by have := HG.out; have := HZZ.out; show _ = _; omega, by go_num, HFs', HAd⟩
                    · have hs2 : ¬ (s : Int) < 16384 := by omega
                      have HFf : Hid (Fs mo nc 16384 f) := by
                        have hse : s = 16384 := by have := HG.out; have := HZZ.out; omega
                        rw [hse] at HFs
                        exact HFs
                      clear HFs HG
                      go_wp2_with fail
                      go_loopg [24] SV.length (fun g v wr => ∃ j : Nat, Hid (j + g = SV.length) ∧ v = .int .i64 ((j : Int) + 1) ∧ Hid (Ac W16 C O2 F nc oc (.slice (some xc) nc cc) SV f wr))
                      case atStart => exact ⟨0, Nat.zero_add _, by go_num, HA⟩
                      case round =>
                        clear HA
                        obtain ⟨j, HG, rfl, HA⟩ := hrel
                        rename World => W30
                        have hjl : j ≤ SV.length := by have := HG.out; omega
                        by_cases hj : j < SV.length
                        · have hj2 : (j : Int) + 1 < (nc : Int) := by have := HNC.out; omega
                          have hjn : j + 1 < nc := by have := HNC.out; omega
                          have hix1 : ∀ w', (Instr.indexAt 22 (.slice (some ⟨F, 0, none⟩) nc nc) (.int .i64 ((j : Int) + 1))).run Try.prog w' = .ok (.pointer (some ⟨F, j + 1, none⟩)) w' := fun w' => HixF.out (j + 1) hjn w'
                          have hix0 := HixF.out j (by omega)
                          have hc1 := HA.out.f.cell (j + 1) hjn
                          have hc0 := HA.out.f.cell j (by omega)
                          have hy := (HFf.out.hit (j + 1) (by omega) (by rw [← HSV.out]; omega)).1
                          have HInc : Hid (1 ≤ j → f j < f (j + 1)) := hid (fun h => by
                            have := HFf.out.inc (j + 1) (by omega) (by rw [← HSV.out]; omega)
                            simpa using this)
                          have hw1 : IntKind.i64.wrap ((j : Int) + 1 + 1) = (j : Int) + 1 + 1 := IntWalk.i64_in _ (by omega)
                          have hw0 : IntKind.i64.wrap ((j : Int) + 1 - 1) = (j : Int) := by rw [IntWalk.i64_in _ (by omega)]; omega
                          have HAd := fun n => hid (HA.out.keep (drewN_tch W30 n))
                          generalize f (j + 1) = y1 at hc1 hy HInc
                          generalize f j = y0 at hc0 HInc
                          have hy' : ¬ y1 < 0 := by omega
                          have hS : W30.drew.cell? ⟨F, j + 1, none⟩ = some (.int .i64 y1) ∧ W30.drew.cell? ⟨F, j, none⟩ = some (.int .i64 y0) := ⟨hc1, hc0⟩
                          clear hy hjn
                          by_cases hj0 : j = 0
                          · have hg2 : decide ((2 : Int) ≤ (j : Int) + 1) = false := decide_eq_false (by omega)
                            clear hj0
                            go_wp2_with fail
                            go_quiet (fail)
                            go_wp2
                            go_roundg (gk - 1)
                            case measure => have := HG.out; omega
                            case rel => exact ⟨j + 1, by have := HG.out; show _ = _; omega, by go_num, HAd _⟩
                          · have hg2 : decide ((2 : Int) ≤ (j : Int) + 1) = true := decide_eq_true (by omega)
                            have hle : decide (y1 ≤ y0) = false := decide_eq_false (by have := HInc.out (by omega); omega)
                            go_wp2_with fail
                            go_quiet (fail)
                            go_wp2
                            go_roundg (gk - 1)
                            case measure => have := HG.out; omega
                            case rel => exact ⟨j + 1, by have := HG.out; show _ = _; omega, by go_num, HAd _⟩
                        · have hj2 : ¬ (j : Int) + 1 < (nc : Int) := by have := HNC.out; omega
                          clear HG
                          go_wp2_with fail
                          obtain ⟨hs0, hx0⟩ := HSl.out
                          subst hx0
                          have HHs0 := hid hs0
                          refine (set11w HA.out.tab HA.out.tch.size (by have h := srv_len mo 16384; rw [← HSV.out] at h; simp; omega) sl0 hs0 id).mono ?_
                          rintro e W31 ⟨rfl, HSet⟩
                          obtain ⟨p, v', hT31, hp31, hg31, _⟩ := HSet.out.res
                          have HT31 : Hid (Tch W16 W31 (fun _ => False)) := HA.out.tch.trans HSet.out.tch (fun b hb e => by
                            rcases e with e | e
                            · have := HA.out.tab.tb; omega
                            · have := (HA.out.tab.row.lt b e).1; omega)
                          have HTab31 := hid hT31
                          have HP31 := hid (And.intro hp31 hg31)
                          clear hT31 hp31 hg31 HSet HA
                          go_wp2_with fail
                          refine (owner9 HTab31.out).mono ?_
                          rintro e W32 ⟨rfl, HC32⟩
                          have HF := hid (Blk.fresh29 W32)
                          have HST := hid (HF.out.store29 (upd oc sl0 p))
                          have HFO := hid (HF.out.stored29 (upd oc sl0 p))
                          go_wp2_with (first | (with_reducible apply wpList_alloc29) | ((with_reducible apply wpList_store29); (· rfl); (· rfl); (· exact HST.out)))
                          have HC33 : Hid (Tch W31 ((W32.alloc (.cells (arr (fun _ => 0)).toArray 29)).setCells W32.heap.size 0 (arr (upd oc sl0 p))) (fun _ => False)) := (HC32.out.trans (Tch.alloc W32 _ (fun _ => False)) (fun _ _ x => x)).trans (Tch.sets _ _ _ _) (fun b hb h => by have := HC32.out.size; omega)
                          generalize (W32.alloc (.cells (arr (fun _ => 0)).toArray 29)).setCells W32.heap.size 0 (arr (upd oc sl0 p)) = W33 at HFO HC33 ⊢
                          generalize W32.heap.size = O3 at HFO ⊢
                          clear HST HF HC32
                          have HT33 := hid (HT31.out.trans HC33.out (fun _ _ x => x))
                          have HTab33 := hid (HTab31.out.keep HC33.out (fun x => x) (fun _ _ x => x))
                          clear HTab31 HT31 HC33
                          obtain ⟨ad, cd, hvd, hrdd⟩ := HTab33.out.shape
                          subst hvd
                          obtain ⟨nd, hnd⟩ : ∃ nd : Nat, nd = (addB id (⟨#[]⟩ :: SV)).length := ⟨_, rfl⟩
                          rw [← hnd] at HTab33 hrdd HP31
                          have HND := hid hnd
                          clear hnd
                          obtain ⟨q, hqb, hq, hqc⟩ := hrdd.at' p HP31.out.1
                          have hq' := hq .u16
                          have hqi : W33.cell? q = some (.string id) := by rw [hqc, HP31.out.2]
                          have hixO3 := idxArr Try.underlying29 sized28 .i64 O3 sl0 hs0
                          have hco3 : W33.cell? ⟨O3, sl0, none⟩ = some (.int .u16 (p : Int)) := by
                            rw [HFO.out.cell sl0 hs0, gArr, upd, if_pos rfl]
                          have hpl : ¬ (nd : Int) ≤ (p : Int) := by have := HP31.out.1; omega
                          have hcvp : IntKind.i64.wrap (p : Int) = (p : Int) := IntWalk.i64_in _ (by
                            have h1 := HP31.out.1
                            have h2 := HND.out
                            rw [addB_cons] at h2
                            have h3 := nextL_len id SV
                            have h4 := srv_len mo 16384
                            rw [← HSV.out] at h4
                            simp at h2
                            omega)
                          clear hrdd hqb hq hqc hs0
                          refine (ids10 HTab33.out).mono ?_
                          rintro e w' ⟨rfl, rfl⟩
                          go_wp2_with fail
                          clear hq' hqi hixO3 hco3 hpl hcvp HTab33 HFO
                          have HB33 := hid (HBf.out.keep HT33.out)
                          have HB33d := hid (HB33.out.keep (Tch.drew W33 (fun _ => False)))
                          have HRT : Hid (∀ w', Bs w.heap.size w T M O R K m own (.slice (some xv) m cv2) L mo SV w' → RdS w' (some xv) m cv2 (⟨#[]⟩ :: L) ∧ RdS w' (some ⟨R, 0, none⟩) m m (⟨#[]⟩ :: L) ∧ w'.rangeAt O 0 (arr own)) := fun w' h => by
                            have em : m = (⟨#[]⟩ :: L : List ByteArray).length := by rw [HMm.out]; rfl
                            obtain ⟨a9, cap9, hv9, hrd9⟩ := own_rd h.s4.tab.row
                            rw [← em] at hv9 hrd9
                            injection hv9 with h91 h92 h93
                            rw [← h91, ← h93] at hrd9
                            exact ⟨hrd9, h.r.rdS em m, h.o.range29 (by omega) own (fun s hs => rfl)⟩
                          have hS1 := (HRT.out _ HB33d.out).2.2
                          have hu29 := Try.underlying29
                          have hs29 : (Try.prog.info? 29).map (·.size) = some (arr own).length := by rw [arr_len]; exact size29
                          have hne := neq29 own
                          have hgd := guard29
                          clear HB33 HT33
                          go_region_held3 (fun w' => w'.rangeAt O 0 (arr own))
                            (first | exact hS1 | exact hS2 | exact hS3)
                            (first | (go_at_call 9; refine (owner9 HB33d.out.s4.tab).mono ?_; rintro e W34 ⟨rfl, HC34⟩; have HB34 := hid (HB33d.out.keep HC34.out); have hS2 := (HRT.out _ HB34.out).2.2) | (go_at_call 10; refine (ids10 HB34.out.s4.tab).mono ?_; rintro e w' ⟨rfl, rfl⟩) | (go_at_call 16; refine (equal16 (HRT.out _ HB34.out).1 (HRT.out _ HB34.out).2.1 (by omega)).mono ?_; rintro e W35 ⟨rfl, HC35⟩; have HB35 := hid (HB34.out.keep HC35.out); have hS3 := (HRT.out _ HB35.out).2.2))
                          have HBE := hid HB35.out.s4.bel
                          clear hne hgd hu29 hs29 hS1 hS2 hS3 HB33d HB34 HB35 HRT
                          go_wp2
                          go_ret
                          exact ⟨rfl, HBE⟩
end Go.Proofs.Qxb6608555a
