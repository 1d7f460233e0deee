/-
  WALKS: ZZkeysForTags and the law FnKeysForPartitionsTheKeysByDevice.
-/
import Derived.Test.Qxb6606015aPlain
import Derived.Test.Qxb6606015aZz
namespace Go.Proofs.Qxb6606015a
open Go.RowKit
set_option linter.unusedVariables false
set_option linter.unusedSimpArgs false

set_option maxHeartbeats 1000000 in
theorem tagsFor_any {p q : Nat → Prop} (E : Nat) (vk vr vc v1 v2 : Value) (ks : List KeyD) (impl inst : List Int) (w : World) (hE : w.heap[E]? = some (.cells #[vk, vr, vc] 42 (0, 0))) (hk : KeysOwn p w vk ks)
    (h1 : Ns q .u8 w v1 impl) (h2 : Ns q .u8 w v2 inst) (hp : ∀ b, p b → b < w.heap.size) (hq : ∀ b, q b → b < w.heap.size) (hb : ∀ x ∈ ks, Byt x.impl ∧ Byt x.inst) (hb1 : Byt impl) (hb2 : Byt inst) (hn : ks.length ≤ 1048576) :
    Calls Try.prog 11 #[.pointer (some ⟨E, 0, none⟩), v1, v2] w fun e w' => ∃ ao n cp, e = .returned (.tuple #[.slice ao n cp, .bool true]) ∧ Hid (Ns (Nw w w') .i64 w' (.slice ao n cp) (selT ks impl inst)) ∧ Hid (selT ks impl inst = [] → Value.slice ao n cp = .slice none 0 0) ∧ Hid (Below w.heap.size w w') := by
  have HC : Hid (∀ e, Calls Try.prog 28 #[.pointer (some ⟨E, 0, none⟩), v1, v2] w _) := fun _ : Unit => keysFor_any E vk vr vc v1 v2 ks impl inst w hE hk h1 h2 hp hq hb hb1 hb2 hn
  have hsl : (selT ks impl inst).length ≤ 1048576 := by
    have := selT_le ks impl inst ks.length
    rw [List.take_length] at this
    omega
  clear hE hk h1 h2 hp hq hb hb1 hb2 hn
  go_enter Try.func11, Try.ntmps11
  go_wp2_with fail
  refine (HC.out ()).mono ?_
  rintro e w1 ⟨v, rfl, HO, HNil, HB⟩
  have HO' : Hid (w1.ownsRow w.heap.size 66 1 v (selT ks impl inst).length ((selT ks impl inst).map tagV)) := HO
  go_wp2_with fail
  refine (zzTags_any w.heap.size v (selT ks impl inst) w1 HO.out hsl).mono ?_
  rintro e w2 ⟨ao, n, cp, rfl, HNs, HN2, HB2⟩
  have hz := HB.out.size
  have HF : Hid (Ns (Nw w w2) .i64 w2 (.slice ao n cp) (selT ks impl inst)) := HNs.out.mono (Nw.mono hz (Nat.le_refl _))
  have HF2 : Hid (Below w.heap.size w w2) := Below.then HB.out HB2.out
  have HF3 : Hid (selT ks impl inst = [] → Value.slice ao n cp = .slice none 0 0) := fun h => HN2.out (HNil.out.2 h)
  clear HO HO' HNil HB HNs HN2 HB2
  go_wp2
  go_ret2
  exact ⟨_, _, _, rfl, HF, HF3, HF2⟩
theorem zeros_ns {W : World} {K n : Nat} (h : W.heap[K]? = some (.cells (madeCells #[Value.int .u8 0] n) 5 (0, 0))) {p : Nat → Prop} (hp : p K) (hn : n ≤ 140737488355328) : Ns p .u8 W (.slice (some ⟨K, 0, none⟩) n n) (List.replicate n 0) := by
  refine ⟨some ⟨K, 0, none⟩, n, by rw [List.length_replicate], (fun e => by cases e), by rw [List.length_replicate]; exact Nat.le_refl _, hn, fun i hi => ⟨K, 0, rfl, hp, ?_⟩⟩
  rw [List.length_replicate] at hi
  rw [Nat.zero_add, cells_of_block h]
  simp [madeCells, hi, List.getD, Nat.mod_one]

theorem mem_take_mono {α : Type} {l : List α} {i j : Nat} (h : i ≤ j) {x : α} (hx : x ∈ l.take i) : x ∈ l.take j := by
  rw [← Nat.min_eq_left h, ← List.take_take] at hx
  exact List.mem_of_mem_take hx

theorem step_true {ks : List KeyD} {d dj : KeyD} {j : Nat} (h : true = true ↔ ∀ x ∈ ks.take j, sameK x d = false) (ht : ks.take (j + 1) = ks.take j ++ [dj]) (hs : sameK dj d = false) : true = true ↔ ∀ x ∈ ks.take (j + 1), sameK x d = false := by
  refine ⟨fun _ x hx => ?_, fun _ => rfl⟩
  rw [ht] at hx
  rcases List.mem_append.1 hx with hx | hx
  · exact h.1 rfl x hx
  · rw [List.mem_singleton.1 hx]; exact hs

theorem bytesEq_b {p q : Nat → Prop} (v1 v2 : Value) (xs ys : List Int) (w : World) (b : Bool) (hd : decide (xs = ys) = b) (h1 : Ns p .u8 w v1 xs) (h2 : Ns q .u8 w v2 ys) :
    Calls Try.prog 18 #[v1, v2] w fun e w' => e = .returned (.bool b) ∧ ∃ n, w' = w.drewN n :=
  (bytesEq_any v1 v2 xs ys w h1 h2).mono fun e w' h => ⟨by rw [h.1, hd], h.2⟩

theorem getD_byt {ks : List KeyD} (hb : ∀ x ∈ ks, Byt x.impl ∧ Byt x.inst) (k : Nat) (hk : k < ks.length) : Byt (ks.getD k ⟨[], [], 0⟩).impl ∧ Byt (ks.getD k ⟨[], [], 0⟩).inst := hb _ (by simp [List.getD, hk])

/-- What the law's round is told of the world: below the world behind toEndorsements all is as it was. -/
def Past (w3 : World) (wr : World) : Prop := Below w3.heap.size w3 wr

set_option maxRecDepth 100000 in
set_option maxHeartbeats 4000000 in
theorem keysLaw_walk {p : Nat → Prop} (v0 v1 v2 : Value) (ks : List KeyD) (rs : List RvD) (cs : List CertD) (w : World) (h0 : KeysAt p w v0 ks) (h1 : RvsAt p w v1 rs) (h2 : CertsAt p w v2 cs) (hp : ∀ b, p b → b < w.heap.size) (hb : ∀ x ∈ ks, Byt x.impl ∧ Byt x.inst) (hlen : ∀ x ∈ ks, x.impl.length ≤ 140737488351232) :
    Calls Try.prog 4 #[v0, v1, v2] w fun e w' => e = .returned (.bool true) ∧ Hid (Below w.heap.size w w') := by
  obtain ⟨ao0, cap0, rfl, hl0, _⟩ := Sl.shape h0
  have H0 : Hid (KeysAt p w (.slice ao0 ks.length cap0) ks) := h0
  have H1 : Hid (RvsAt p w v1 rs) := h1
  have H2 : Hid (CertsAt p w v2 cs) := h2
  have HP : Hid (∀ b, p b → b < w.heap.size) := hp
  have HBy : Hid (∀ x ∈ ks, Byt x.impl ∧ Byt x.inst) := hb
  have hLen : Hid (∀ x ∈ ks, x.impl.length ≤ 140737488351232) := hlen
  clear h0 h1 h2 hp hb hlen
  have hl0' : ks.length ≤ 140737488355328 := by omega
  clear hl0
  go_enter Try.func4, Try.ntmps4
  go_wp2_with fail
  refine (zzBytes17_any _ v1 v2 ks rs cs w H0.out H1.out H2.out).mono ?_
  rintro e w1 ⟨⟨r, rfl⟩, rfl⟩
  cases r with
  | false =>
    go_wp2
    go_ret
    exact ⟨rfl, Below.refl _ _⟩
  | true =>
    go_wp2_with fail
    refine (sizeEnd_any _ v1 v2 ks rs cs w H0.out H1.out H2.out HP.out).mono ?_
    rintro e w1 ⟨r, rfl, hr0, hb1⟩
    have HB1 : Hid (Below w.heap.size w w1) := hb1
    clear hb1
    by_cases hr : r > 1048576
    · go_wp2
      go_ret
      exact ⟨rfl, HB1⟩
    · by_cases hk9 : ks.length > 4096
      · have hk9' : (4096 : Int) < (ks.length : Int) := by omega
        go_wp2
        go_ret
        exact ⟨rfl, HB1⟩
      · have hk9' : ¬ (4096 : Int) < (ks.length : Int) := by omega
        go_wp2_with fail
        refine (toEnd_any _ v1 v2 ks rs cs w1 (H0.out.keep (Below.keeps HB1.out HP.out)) (H1.out.keep (Below.keeps HB1.out HP.out)) (H2.out.keep (Below.keeps HB1.out HP.out)) (Below.lt_of HB1.out HP.out)).mono ?_
        rintro e w3 ⟨rfl, vk, vr, vc, HE, HKO, _, HB3⟩
        have HB03 : Hid (Below w.heap.size w w3) := Below.then HB1.out HB3.out
        have H03 : Hid (KeysAt p w3 (.slice ao0 ks.length cap0) ks) := H0.out.keep (Below.keeps HB03.out HP.out)
        have HP3 : Hid (∀ b, p b → b < w3.heap.size) := Below.lt_of HB03.out HP.out
        have HPE : Hid (∀ b, Bh w1.heap.size w3 b → b < w3.heap.size) := fun b hb => hb.2
        clear H0 H1 H2 HP HB1 HB3
        obtain ⟨E, hEe⟩ : ∃ E, E = w1.heap.size := ⟨_, rfl⟩
        rw [← hEe] at HE HKO HPE ⊢
        clear hEe
        have hlt3 : E < w3.heap.size := (Array.getElem?_eq_some_iff.1 HE.out).1
        go_wp2
        go_loopg [8, 9, 10] ks.length (fun g t l i wr => ∃ (k L T : Nat), Hid (k + g = ks.length) ∧ i = .int .i64 k ∧ l = .int .i64 L ∧ t = .int .i64 T ∧ Hid (T = covered ks k) ∧ Hid (∀ x ∈ ks.take k, x.impl.length ≤ L) ∧ L ≤ 140737488351232 ∧ Hid (Below w3.heap.size w3 wr))
        case atStart => exact ⟨0, 0, 0, Nat.zero_add _, rfl, rfl, rfl, (covered_zero ks).symm, (fun x hx => by simp at hx), by omega, Below.refl _ _⟩
        case round =>
          obtain ⟨k, L, T, HG, rfl, rfl, rfl, HT, HL, hL, HB⟩ := hrel
          have hkl : k ≤ ks.length := by have := HG.out; omega
          have hTl : T ≤ ks.length := by rw [HT.out]; exact covered_le ks k
          by_cases hlt : k < ks.length
          · obtain ⟨b, o, cls, hix, hbp, hlen, hc, c0, c1, rfl, hk0, hk1⟩ := Sl.at H03.out Try.underlying22 sized47 k hlt
            obtain ⟨e0, e1, e2⟩ := cells3 hc
            obtain ⟨a0, p0, rfl, hla0, _⟩ := hk0.shape
            obtain ⟨a1, p1, rfl, hla1, _⟩ := hk1.shape
            have HCF := covered_first ks k hlt
            have HCN := covered_not ks k hlt
            have HSH := selT_head ks k hlt
            have HBd := getD_byt HBy.out k hlt
            have hld := hLen.out (ks.getD k ⟨[], [], 0⟩) (by simp [List.getD, hlt])
            have hfk : firstK ks k ↔ ∀ x ∈ ks.take k, sameK x (ks.getD k ⟨[], [], 0⟩) = false := Iff.rfl
            have htk : ks.take (k + 1) = ks.take k ++ [ks.getD k ⟨[], [], 0⟩] := by
              rw [List.take_succ_eq_append_getElem hlt]; simp [List.getD, hlt]
            generalize hd : ks.getD k ⟨[], [], 0⟩ = d at *
            clear hd hc hlen
            have HCF' : Hid (firstK ks k → covered ks (k + 1) = covered ks k + (selT ks d.impl d.inst).length) := HCF
            have HCN' : Hid (¬ firstK ks k → covered ks (k + 1) = covered ks k) := HCN
            have HSH' : Hid (firstK ks k → ∃ r, selT ks d.impl d.inst = d.tag :: r) := HSH
            have HBd' : Hid (Byt d.impl ∧ Byt d.inst) := HBd
            have HLd : Hid (d.impl.length ≤ 140737488351232) := hld
            clear hld
            have HFK : Hid (firstK ks k ↔ ∀ x ∈ ks.take k, sameK x d = false) := hfk
            have HTK : Hid (ks.take (k + 1) = ks.take k ++ [d]) := htk
            have HK0 : Hid (Ns p .u8 w3 (.slice a0 d.impl.length p0) d.impl) := hk0
            have HK1 : Hid (Ns p .u8 w3 (.slice a1 d.inst.length p1) d.inst) := hk1
            have HCe : Hid (∀ w', Below w3.heap.size w3 w' → w'.cell? ⟨b, o, none⟩ = some (.slice a0 d.impl.length p0) ∧ w'.cell? ⟨b, o + 1, none⟩ = some (.slice a1 d.inst.length p1) ∧ w'.cell? ⟨b, o + 2, none⟩ = some (.int .i64 d.tag)) := fun w' hb' =>
              ⟨(hb'.cell (HP3.out b hbp)).trans e0, (hb'.cell (HP3.out b hbp)).trans e1, (hb'.cell (HP3.out b hbp)).trans e2⟩
            clear HCF HCN HSH HBd hfk htk hk0 hk1 e0 e1 e2 hbp
            obtain ⟨er0, er1, er2⟩ := HCe.out wr HB.out
            go_upto_if 48 with fail
            go_cut [9] (fun l wc => ∃ L' : Nat, l = .int .i64 L' ∧ L' ≤ 140737488351232 ∧ Hid (d.impl.length ≤ L' ∧ L ≤ L') ∧ Hid (Below w3.heap.size w3 wc))
            case first =>
              by_cases hgt : (L : Int) < (d.impl.length : Int)
              · go_wp2
                go_meet
                case rel => exact ⟨d.impl.length, rfl, HLd.out, ⟨Nat.le_refl _, by omega⟩, HB⟩
              · go_wp2
                go_meet
                case rel => exact ⟨L, rfl, hL, ⟨by omega, Nat.le_refl _⟩, HB⟩
            case rest =>
              obtain ⟨L', rfl, hL', HL', HBc⟩ := hcut
              clear er0 er1 er2 HB
              obtain ⟨gko, hgko⟩ : ∃ g, g = gk := ⟨gk, rfl⟩
              have HGK : Hid (gko = gk) := hgko
              rw [← hgko] at HG
              clear hgko
              go_wp2
              go_loopg [11, 12] k (fun g f h wi => ∃ (j : Nat) (bf : Bool), Hid (j + g = k) ∧ h = .int .i64 j ∧ f = .bool bf ∧ Hid (bf = true ↔ ∀ x ∈ ks.take j, sameK x d = false) ∧ Hid (Below w3.heap.size w3 wi))
              case atStart => exact ⟨0, true, Nat.zero_add _, rfl, rfl, ⟨fun _ x hx => by simp at hx, fun _ => rfl⟩, HBc⟩
              case round =>
                obtain ⟨j, bf, HGi, rfl, rfl, HF, HBi⟩ := hrel
                have hji : j ≤ k := by have := HGi.out; omega
                have hki : k < ks.length := hlt
                cases bf with
                | false =>
                  have HNF : Hid (¬ firstK ks k) := fun h => by
                    have := HF.out.2 (fun x hx => HFK.out.1 h x (mem_take_mono hji hx))
                    cases this
                  by_cases hjk : j < k
                  all_goals
                    go_wp2
                    go_roundg (gko - 1)
                    case measure => have := HG.out; have := HGK.out; omega
                    case rel =>
                      refine ⟨k + 1, L', T, by have := HG.out; show _ = _; omega, by go_num, rfl, rfl, by show _ = _; rw [HCN'.out HNF.out]; exact HT.out, ?_, hL', HBi⟩
                      intro x hx
                      rw [HTK.out] at hx
                      rcases List.mem_append.1 hx with h | h
                      · exact Nat.le_trans (HL.out x h) HL'.out.2
                      · rw [List.mem_singleton.1 h]; exact HL'.out.1
                | true =>
                  have HFT : Hid (∀ x ∈ ks.take j, sameK x d = false) := HF.out.1 rfl
                  clear HF
                  by_cases hjk : j < k
                  · obtain ⟨bj, oj, clsj, hixj, hbpj, hlenj, hcj, cj0, cj1, rfl, hkj0, hkj1⟩ := Sl.at H03.out Try.underlying22 sized47 j (by omega)
                    obtain ⟨ej0, ej1, ej2⟩ := cells3 hcj
                    obtain ⟨aj0, pj0, rfl, hlaj0, _⟩ := hkj0.shape
                    obtain ⟨aj1, pj1, rfl, hlaj1, _⟩ := hkj1.shape
                    have htj : ks.take (j + 1) = ks.take j ++ [ks.getD j ⟨[], [], 0⟩] := by
                      rw [List.take_succ_eq_append_getElem (by omega)]; simp [List.getD, show j < ks.length by omega]
                    generalize hdj : ks.getD j ⟨[], [], 0⟩ = dj at *
                    clear hdj hcj hlenj
                    have HTJ : Hid (ks.take (j + 1) = ks.take j ++ [dj]) := htj
                    obtain ⟨er0, er1, er2⟩ := HCe.out wr HBi.out
                    have erj0 : wr.cell? ⟨bj, oj, none⟩ = some (.slice aj0 dj.impl.length pj0) := (HBi.out.cell (HP3.out bj hbpj)).trans ej0
                    have erj1 : wr.cell? ⟨bj, oj + 1, none⟩ = some (.slice aj1 dj.inst.length pj1) := (HBi.out.cell (HP3.out bj hbpj)).trans ej1
                    have HJ : Hid (∀ n, Ns p .u8 (wr.drewN n) (.slice aj0 dj.impl.length pj0) dj.impl ∧ Ns p .u8 (wr.drewN n) (.slice aj1 dj.inst.length pj1) dj.inst ∧ Ns p .u8 (wr.drewN n) (.slice a0 d.impl.length p0) d.impl ∧ Ns p .u8 (wr.drewN n) (.slice a1 d.inst.length p1) d.inst) := fun n =>
                      ⟨(hkj0.keep (Below.keeps HBi.out HP3.out)).drewN n, (hkj1.keep (Below.keeps HBi.out HP3.out)).drewN n, (HK0.out.keep (Below.keeps HBi.out HP3.out)).drewN n, (HK1.out.keep (Below.keeps HBi.out HP3.out)).drewN n⟩
                    clear hkj0 hkj1 ej0 ej1 ej2 htj hbpj
                    have hjk' : (j : Int) < (k : Int) := by omega
                    by_cases hm1 : dj.impl = d.impl
                    · by_cases hm2 : dj.inst = d.inst
                      · have t1 : decide (dj.impl = d.impl) = true := decide_eq_true hm1
                        have t2 : decide (dj.inst = d.inst) = true := decide_eq_true hm2
                        have HS : Hid (sameK dj d = true) := sameK_iff.2 ⟨hm1, hm2⟩
                        clear hm1 hm2
                        go_wp2
                        go_quiet ((first | (go_at_call_of 18 (Value.slice aj0 dj.impl.length pj0); exact Calls.quiet_of (bytesEq_b _ _ _ _ _ true t1 (HJ.out _).1 (HJ.out _).2.2.1)) | (go_at_call_of 18 (Value.slice aj1 dj.inst.length pj1); exact Calls.quiet_of (bytesEq_b _ _ _ _ _ true t2 (HJ.out _).2.1 (HJ.out _).2.2.2))))
                        go_wp2
                        go_roundg (gk - 1)
                        case measure => have := HGi.out; omega
                        case rel =>
                          refine ⟨j + 1, false, by have := HGi.out; show _ = _; omega, by go_num, rfl, ?_, below_drewN HBi.out _⟩
                          constructor
                          · intro h; cases h
                          · intro h
                            have := h dj (by rw [HTJ.out]; simp)
                            rw [HS.out] at this
                            cases this
                      · have t1 : decide (dj.impl = d.impl) = true := decide_eq_true hm1
                        have t2 : decide (dj.inst = d.inst) = false := decide_eq_false hm2
                        have HS : Hid (sameK dj d = false) := by simp [sameK, Hid, t1, t2]
                        clear hm1 hm2
                        go_wp2
                        go_quiet ((first | (go_at_call_of 18 (Value.slice aj0 dj.impl.length pj0); exact Calls.quiet_of (bytesEq_b _ _ _ _ _ true t1 (HJ.out _).1 (HJ.out _).2.2.1)) | (go_at_call_of 18 (Value.slice aj1 dj.inst.length pj1); exact Calls.quiet_of (bytesEq_b _ _ _ _ _ false t2 (HJ.out _).2.1 (HJ.out _).2.2.2))))
                        go_wp2
                        go_roundg (gk - 1)
                        case measure => have := HGi.out; omega
                        case rel => exact ⟨j + 1, true, by have := HGi.out; show _ = _; omega, by go_num, rfl, step_true ⟨fun _ => HFT.out, fun _ => rfl⟩ HTJ.out HS.out, below_drewN HBi.out _⟩
                    · have t1 : decide (dj.impl = d.impl) = false := decide_eq_false hm1
                      have HS : Hid (sameK dj d = false) := by simp [sameK, Hid, t1]
                      clear hm1
                      go_wp2
                      go_quiet ((go_at_call 18; exact Calls.quiet_of (bytesEq_b _ _ _ _ _ false t1 (HJ.out _).1 (HJ.out _).2.2.1)))
                      go_wp2
                      go_roundg (gk - 1)
                      case measure => have := HGi.out; omega
                      case rel => exact ⟨j + 1, true, by have := HGi.out; show _ = _; omega, by go_num, rfl, step_true ⟨fun _ => HFT.out, fun _ => rfl⟩ HTJ.out HS.out, below_drewN HBi.out _⟩
                  · have hjk2 : j = k := by omega
                    have HFI : Hid (firstK ks k) := HFK.out.2 (fun x hx => HFT.out x (by rw [hjk2]; exact hx))
                    have hjk' : ¬ (j : Int) < (k : Int) := by omega
                    clear hjk2 hjk HGi HFT
                    have SH : Hid (∀ w', Below w3.heap.size w3 w' → w'.cell? ⟨b, o, none⟩ = some (.slice a0 d.impl.length p0) ∧ w'.cell? ⟨b, o + 1, none⟩ = some (.slice a1 d.inst.length p1) ∧ Hid (Below w3.heap.size w3 w')) := fun w' hb' => ⟨(HCe.out w' hb').1, (HCe.out w' hb').2.1, hb'⟩
                    go_wp2
                    go_region_held3 (fun w' => w'.cell? ⟨b, o, none⟩ = some (.slice a0 d.impl.length p0) ∧ w'.cell? ⟨b, o + 1, none⟩ = some (.slice a1 d.inst.length p1) ∧ Hid (Below w3.heap.size w3 w'))
                      (first | with_reducible exact SH.out _ (Below.drew HBi.out) | with_reducible exact hS1 | with_reducible exact hS2 | with_reducible exact hS3)
                      (first | (go_at_call_of 9 (Value.slice a0 d.impl.length p0); have hh := (‹_ ∧ _ ∧ Hid (Below _ _ _)›).2.2; refine (cloneBytes_val _ d.impl _ (HK0.out.keep (Below.keeps hh.out HP3.out))).mono ?_; rintro e w4 ⟨a4, n4, p4, rfl, hps4, hb4⟩; have hS1 := SH.out _ (Below.then hh.out hb4.out); clear hh) | (go_at_call_of 9 (Value.slice a1 d.inst.length p1); have hh := (‹_ ∧ _ ∧ Hid (Below _ _ _)›).2.2; refine (cloneBytes_val _ d.inst _ (HK1.out.keep (Below.keeps hh.out HP3.out))).mono ?_; rintro e w5 ⟨a5, n5, p5, rfl, hps5, hb5⟩; have hS2 := SH.out _ (Below.then hh.out hb5.out); clear hh) | (go_at_call 11; have hh := (‹_ ∧ _ ∧ Hid (Below _ _ _)›).2.2; refine (tagsFor_any (p := Bh E w3) (q := fun b => b < w5.heap.size) E vk vr vc _ _ ks d.impl d.inst w5 ((hh.out.block E hlt3).trans HE.out) (HKO.out.keep (Below.keeps hh.out HPE.out)) ((hps4.out.keep (Nw.keeps hb5.out)).mono (fun b hb => Nat.lt_of_lt_of_le hb.2 hb5.out.size)) (hps5.out.mono (fun b hb => hb.2)) (fun b hb => Nat.lt_of_lt_of_le hb.2 hh.out.size) (fun b hb => hb) HBy.out HBd'.out.1 HBd'.out.2 (by omega)).mono ?_; rintro e w6 ⟨a6, n6, p6, rfl, HN6, _, hb6⟩; have hS3 := SH.out _ (Below.then hh.out hb6.out); clear hh))
                    obtain ⟨rr, hrr⟩ := HSH'.out HFI.out
                    have hn6 : n6 = (selT ks d.impl d.inst).length := by
                      obtain ⟨_, _, e, _⟩ := HN6.out
                      injection e
                    have hpos : 0 < (selT ks d.impl d.inst).length := by rw [hrr]; simp
                    have hsle : (selT ks d.impl d.inst).length ≤ ks.length := by
                      have := selT_le ks d.impl d.inst ks.length
                      rwa [List.take_length] at this
                    obtain ⟨bt, ot, hixt, _, ect⟩ := HN6.out.at Try.underlying32 sized3 0 hpos
                    rw [hrr, List.getD_cons_zero] at ect
                    have hixt' : ∀ w', (Instr.indexAt 32 (.slice a6 n6 p6) (.int .i64 0)).run Try.prog w' = .ok (.pointer (some ⟨bt, ot, none⟩)) w' := fun w' => hixt w'
                    have HBf : Hid (Below w3.heap.size w3 w6) := hS3.2.2
                    have er2 := (HCe.out w6 HBf.out).2.2
                    have hn61 : ((n6 : Int) == 0) = false := by simp; omega
                    have hn6p : 0 < (n6 : Int) := by omega
                    have hn6b : n6 ≤ ks.length := by omega
                    have HTN : Hid (T + n6 = covered ks (k + 1)) := by
                      show _ = _
                      rw [HCF'.out HFI.out, ← HT.out, hn6]
                    have hTk : T + n6 ≤ ks.length := by rw [HTN.out]; exact covered_le _ _
                    clear hixt hS1 hS2 hS3 hps4 hps5 hb4 hb5 hb6 SH hrr hn6 hpos hsle HN6
                    rename_i hHeld
                    clear hHeld
                    go_wp2
                    go_quiet (fail)
                    go_wp2
                    go_roundg (gko - 1)
                    case measure => have := HG.out; have := HGK.out; omega
                    case rel =>
                      refine ⟨k + 1, L', T + n6, by have := HG.out; show _ = _; omega, by go_num, rfl, by go_num, HTN, ?_, hL', below_drewN HBf.out _⟩
                      intro x hx
                      rw [HTK.out] at hx
                      rcases List.mem_append.1 hx with h | h
                      · exact Nat.le_trans (HL.out x h) HL'.out.2
                      · rw [List.mem_singleton.1 h]; exact HL'.out.1
          · have e : k = ks.length := by omega
            have HTT : Hid (T = ks.length) := by
              have := HT.out
              rw [e, covered_full] at this
              exact this
            have HLL : Hid (∀ x ∈ ks, x.impl.length < (List.replicate (L + 1) (0 : Int)).length) := fun x hx => by
              have := HL.out x (by rw [e, List.take_length]; exact hx)
              rw [List.length_replicate]
              omega
            have hmk := make_eq Try.underlying25 info5 (L + 1) (by omega) (by omega)
            rw [show ((L + 1 : Nat) : Int) = (L : Int) + 1 from by omega] at hmk
            clear e HT HL
            have hq32 := fun w l c => Lib.run_eql_slice_nil (P := Try.prog) w 32 3 none l c 0 0 Try.underlying32
            have hteq : ((T : Int) == (ks.length : Int)) = true := by simp [HTT.out]
            go_wp2_with fail
            have Z0 : (wr.alloc (.cells (madeCells #[Value.int .u8 0] (L + 1)) 5)).heap[wr.heap.size]? = some (.cells (madeCells #[Value.int .u8 0] (L + 1)) 5 (0, 0)) := by show (wr.heap.push _)[wr.heap.size]? = _; simp
            have Z1 : Below w3.heap.size w3 (wr.alloc (.cells (madeCells #[Value.int .u8 0] (L + 1)) 5)) := HB.out.alloc HB.out.size _
            generalize wr.alloc (.cells (madeCells #[Value.int .u8 0] (L + 1)) 5) = W1 at Z0 Z1 ⊢
            have HZ1 : Hid (Below w3.heap.size w3 W1) := Z1
            have HZ0 : Hid (Ns (fun b => b < W1.heap.size) .u8 W1 (.slice (some ⟨wr.heap.size, 0, none⟩) (L + 1) (L + 1)) (List.replicate (L + 1) 0)) := zeros_ns Z0 (Array.getElem?_eq_some_iff.1 Z0).1 (by omega)
            clear Z0 Z1 hmk HTT
            refine (tagsFor_any (p := Bh E w3) (q := fun b => b < W1.heap.size) E vk vr vc _ _ ks (List.replicate (L + 1) 0) [] W1 ((HZ1.out.block E hlt3).trans HE.out) (HKO.out.keep (Below.keeps HZ1.out HPE.out)) HZ0.out ⟨none, 0, rfl, fun _ => ⟨rfl, rfl⟩, Nat.le_refl _, by omega, fun i hi => by simp at hi⟩ (fun b hb => Nat.lt_of_lt_of_le hb.2 HZ1.out.size) (fun b hb => hb) HBy.out (fun z hz => by rw [List.eq_of_mem_replicate hz]; omega) (fun z hz => by simp at hz) (by omega)).mono ?_
            rintro e w6 ⟨a6, n6, p6, rfl, _, HN6, hb6⟩
            have hnil := HN6.out (selT_none ks _ _ HLL.out)
            have HBF : Hid (Below w.heap.size w w6) := Below.then HB03.out (Below.then HZ1.out hb6.out)
            rw [hnil]
            clear hnil HN6 hb6
            go_wp2
            go_ret
            exact ⟨rfl, HBF⟩
end Go.Proofs.Qxb6606015a
