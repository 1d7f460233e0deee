/-
  WALK: the law FnReferenceValuesForPartitionsTheValuesByImplementation.
-/
import Derived.Test.Qxb6606015aRvFor
import Derived.Test.Qxb6606015aZzb
namespace Go.Proofs.Qxb6606015a
open Go.RowKit
set_option linter.unusedVariables false
set_option linter.unusedSimpArgs false

theorem zerosR_ns {W : World} {K n : Nat} (h : W.heap[K]? = some (.cells (madeCells #[Value.int .u8 0] n) 5 (0, 0))) {p : Nat → Prop} (hp : p K) (hn : n ≤ 140737488355328) : Ns p .u8 W (.slice (some ⟨K, 0, none⟩) n n) (List.replicate n 0) := by
  refine ⟨some ⟨K, 0, none⟩, n, by rw [List.length_replicate], (fun e => by cases e), by rw [List.length_replicate]; exact Nat.le_refl _, hn, fun i hi => ⟨K, 0, rfl, hp, ?_⟩⟩
  rw [List.length_replicate] at hi
  rw [Nat.zero_add, cells_of_block h]
  simp [madeCells, hi, List.getD, Nat.mod_one]

theorem memR_take_mono {α : Type} {l : List α} {i j : Nat} (h : i ≤ j) {x : α} (hx : x ∈ l.take i) : x ∈ l.take j := by
  rw [← Nat.min_eq_left h, ← List.take_take] at hx
  exact List.mem_of_mem_take hx

theorem stepR_true {rs : List RvD} {d dj : RvD} {j : Nat} (h : ∀ x ∈ rs.take j, sameR x d = false) (ht : rs.take (j + 1) = rs.take j ++ [dj]) (hs : sameR dj d = false) : true = true ↔ ∀ x ∈ rs.take (j + 1), sameR x d = false := by
  refine ⟨fun _ x hx => ?_, fun _ => rfl⟩
  rw [ht] at hx
  rcases List.mem_append.1 hx with hx | hx
  · exact h x hx
  · rw [List.mem_singleton.1 hx]; exact hs

theorem bytesEq_v {p q : Nat → Prop} (v1 v2 : Value) (xs ys : List Int) (w : World) (b : Bool) (hd : decide (xs = ys) = b) (h1 : Ns p .u8 w v1 xs) (h2 : Ns q .u8 w v2 ys) :
    Calls Try.prog 18 #[v1, v2] w fun e w' => e = .returned (.bool b) ∧ Hid (Below w.heap.size w w') :=
  (bytesEq_any v1 v2 xs ys w h1 h2).mono fun e w' h => ⟨by rw [h.1, hd], by obtain ⟨n, hn⟩ := h.2; rw [hn]; exact below_drewN (Below.refl _ _) _⟩

theorem own_cells {base g m cp : Nat} {w w0 : World} {p : Nat → Prop} {css : List (List Value)} {sel : List RvD} (ho : w.ownsRow base 58 5 (.slice (some ⟨g, 0, none⟩) m cp) m css.flatten) (hs : Sel p w0 css sel) (hm : m = sel.length) (j : Nat) (hj : j < m) :
    ∃ x0 x1 x2 x3 x4, RvAt p w0 (sel.getD j rv0) [x0, x1, x2, x3, x4] ∧ w.cell? ⟨g, j * 5, none⟩ = some x0 ∧ w.cell? ⟨g, j * 5 + 1, none⟩ = some x1 ∧ w.cell? ⟨g, j * 5 + 2, none⟩ = some x2 ∧ w.cell? ⟨g, j * 5 + 3, none⟩ = some x3 ∧ w.cell? ⟨g, j * 5 + 4, none⟩ = some x4 := by
  have hjs : j < sel.length := by omega
  have hjc : j < css.length := by rw [hs.1]; exact hjs
  obtain ⟨h5, hrv, _⟩ := hs.2 j hjs
  have cell : ∀ i, i < 5 → w.cell? ⟨g, j * 5 + i, none⟩ = (css.getD j [])[i]? := fun i hi => by
    rw [ho.cellAt (j * 5 + i) (by omega), flat5_get hs.all5 j i hjc hi]
  have h5' : ∃ x0 x1 x2 x3 x4, css.getD j [] = [x0, x1, x2, x3, x4] := by
    generalize css.getD j [] = l at h5
    match l, h5 with
    | [x0, x1, x2, x3, x4], _ => exact ⟨x0, x1, x2, x3, x4, rfl⟩
  obtain ⟨x0, x1, x2, x3, x4, e⟩ := h5'
  rw [e] at hrv cell
  exact ⟨x0, x1, x2, x3, x4, hrv, cell 0 (by omega), cell 1 (by omega), cell 2 (by omega), cell 3 (by omega), cell 4 (by omega)⟩

theorem RvAt.parts {p : Nat → Prop} {w : World} {r : RvD} {x0 x1 x2 x3 x4 : Value} (h : RvAt p w r [x0, x1, x2, x3, x4]) : Ns p .u8 w x0 r.impl ∧ CompAt p w x1 x2 x3 r.comp ∧ DigsAt p w x4 r.digs := by
  obtain ⟨c0, c1, c2, c3, c4, e, a, b, c⟩ := h
  simp only [List.cons.injEq, and_true] at e
  obtain ⟨rfl, rfl, rfl, rfl, rfl⟩ := e
  exact ⟨a, b, c⟩

set_option maxRecDepth 100000 in
set_option maxHeartbeats 4000000 in
theorem rvsLaw_walk {p : Nat → Prop} (v0 v1 v2 : Value) (ks : List KeyD) (rs : List RvD) (cs : List CertD) (w : World) (h0 : KeysAt p w v0 ks) (h1 : RvsAt p w v1 rs) (h2 : CertsAt p w v2 cs) (hp : ∀ b, p b → b < w.heap.size) (hb : ∀ x ∈ rs, Byt x.impl) (hlen : ∀ x ∈ rs, x.impl.length ≤ 140737488351232) :
    Calls Try.prog 5 #[v0, v1, v2] w fun e w' => e = .returned (.bool true) ∧ Hid (Below w.heap.size w w') := by
  obtain ⟨ao1, cap1, rfl, hl1, _⟩ := Sl.shape h1
  have H0 : Hid (KeysAt p w v0 ks) := h0
  have H1 : Hid (RvsAt p w (.slice ao1 rs.length cap1) rs) := h1
  have H2 : Hid (CertsAt p w v2 cs) := h2
  have HP : Hid (∀ b, p b → b < w.heap.size) := hp
  have HBy : Hid (∀ x ∈ rs, Byt x.impl) := hb
  have hLen : Hid (∀ x ∈ rs, x.impl.length ≤ 140737488351232) := hlen
  clear h0 h1 h2 hp hb hlen
  have hl1' : rs.length ≤ 140737488355328 := by omega
  clear hl1
  go_enter Try.func5, Try.ntmps5
  go_wp2_with fail
  refine (zzBytes19_any v0 _ v2 ks rs cs w H0.out H1.out H2.out).mono ?_
  rintro e w1 ⟨⟨r, rfl⟩, rfl⟩
  cases r with
  | false =>
    go_wp2
    go_ret
    exact ⟨rfl, Below.refl _ _⟩
  | true =>
    go_wp2_with fail
    refine (sizeEnd_any v0 _ v2 ks rs cs w H0.out H1.out H2.out HP.out).mono ?_
    rintro e w1 ⟨r, rfl, hr0, hb1⟩
    have HB1 : Hid (Below w.heap.size w w1) := hb1
    clear hb1
    by_cases hr : r > 1048576
    · go_wp2
      go_ret
      exact ⟨rfl, HB1⟩
    · by_cases hk9 : rs.length > 4096
      · have hk9' : (4096 : Int) < (rs.length : Int) := by omega
        go_wp2
        go_ret
        exact ⟨rfl, HB1⟩
      · have hk9' : ¬ (4096 : Int) < (rs.length : Int) := by omega
        go_wp2_with fail
        refine (toEnd_any v0 _ v2 ks rs cs w1 (H0.out.keep (Below.keeps HB1.out HP.out)) (H1.out.keep (Below.keeps HB1.out HP.out)) (H2.out.keep (Below.keeps HB1.out HP.out)) (Below.lt_of HB1.out HP.out)).mono ?_
        rintro e w3 ⟨rfl, vk, vr, vc, HE, _, HRO, HB3⟩
        have HB03 : Hid (Below w.heap.size w w3) := Below.then HB1.out HB3.out
        have H13 : Hid (RvsAt p w3 (.slice ao1 rs.length cap1) rs) := H1.out.keep (Below.keeps HB03.out HP.out)
        have HP3 : Hid (∀ b, p b → b < w3.heap.size) := Below.lt_of HB03.out HP.out
        have HPE : Hid (∀ b, Bh w1.heap.size w3 b → b < w3.heap.size) := fun b hb => hb.2
        clear H0 H1 H2 HP HB1 HB3
        obtain ⟨E, hEe⟩ : ∃ E, E = w1.heap.size := ⟨_, rfl⟩
        rw [← hEe] at HE HRO HPE ⊢
        clear hEe
        have hlt3 : E < w3.heap.size := (Array.getElem?_eq_some_iff.1 HE.out).1
        go_wp2
        go_loopg [8, 9, 10] rs.length (fun g t l i wr => ∃ (k L T : Nat), Hid (k + g = rs.length) ∧ i = .int .i64 k ∧ l = .int .i64 L ∧ t = .int .i64 T ∧ Hid (T = covR rs k) ∧ Hid (∀ x ∈ rs.take k, x.impl.length ≤ L) ∧ L ≤ 140737488351232 ∧ Hid (Below w3.heap.size w3 wr))
        case atStart => exact ⟨0, 0, 0, Nat.zero_add _, rfl, rfl, rfl, (covR_zero rs).symm, (fun x hx => by simp at hx), by omega, Below.refl _ _⟩
        case round =>
          obtain ⟨k, L, T, HG, rfl, rfl, rfl, HT, HL, hL, HB⟩ := hrel
          have hkl : k ≤ rs.length := by have := HG.out; omega
          have hTl : T ≤ rs.length := by rw [HT.out]; exact covR_le rs k
          by_cases hlt : k < rs.length
          · obtain ⟨b, o, cls, hix, hbp, hlen, hc, c0, c1, c2, c3, c4, rfl, hk0, hk1, hk4⟩ := Sl.at H13.out Try.underlying23 sized54 k hlt
            obtain ⟨e0, e1, e2, e3, e4⟩ := cells5 hc
            obtain ⟨a0, p0, rfl, hla0, _⟩ := hk0.shape
            have HCF : firstR rs k → covR rs (k + 1) = covR rs k + (selR rs (rs.getD k ⟨[], ⟨none, none, []⟩, []⟩).impl).length := covR_first rs k hlt
            have HCN := covR_not rs k hlt
            have HSH : firstR rs k → ∃ r, selR rs (rs.getD k ⟨[], ⟨none, none, []⟩, []⟩).impl = (rs.getD k ⟨[], ⟨none, none, []⟩, []⟩) :: r := selR_head rs k hlt
            have HBd := HBy.out (rs.getD k ⟨[], ⟨none, none, []⟩, []⟩) (by simp [List.getD, hlt])
            have hld := hLen.out (rs.getD k ⟨[], ⟨none, none, []⟩, []⟩) (by simp [List.getD, hlt])
            have hfk : firstR rs k ↔ ∀ x ∈ rs.take k, sameR x (rs.getD k ⟨[], ⟨none, none, []⟩, []⟩) = false := Iff.rfl
            have htk : rs.take (k + 1) = rs.take k ++ [rs.getD k ⟨[], ⟨none, none, []⟩, []⟩] := by
              rw [List.take_succ_eq_append_getElem hlt]; simp [List.getD, hlt]
            generalize hd : rs.getD k ⟨[], ⟨none, none, []⟩, []⟩ = d at *
            clear hd hc hlen
            have HCF' : Hid (firstR rs k → covR rs (k + 1) = covR rs k + (selR rs d.impl).length) := HCF
            have HCN' : Hid (¬ firstR rs k → covR rs (k + 1) = covR rs k) := HCN
            have HSH' : Hid (firstR rs k → ∃ r, selR rs d.impl = d :: r) := HSH
            have HBd' : Hid (Byt d.impl) := HBd
            have HLd : Hid (d.impl.length ≤ 140737488351232) := hld
            have HFK : Hid (firstR rs k ↔ ∀ x ∈ rs.take k, sameR x d = false) := hfk
            have HTK : Hid (rs.take (k + 1) = rs.take k ++ [d]) := htk
            have HK0 : Hid (Ns p .u8 w3 (.slice a0 d.impl.length p0) d.impl) := hk0
            have HK1 : Hid (CompAt p w3 c1 c2 c3 d.comp) := hk1
            have HK4 : Hid (DigsAt p w3 c4 d.digs) := hk4
            have HCe : Hid (∀ w', Below w3.heap.size w3 w' → w'.cell? ⟨b, o, none⟩ = some (.slice a0 d.impl.length p0) ∧ w'.cell? ⟨b, o + 1, none⟩ = some c1 ∧ w'.cell? ⟨b, o + 2, none⟩ = some c2 ∧ w'.cell? ⟨b, o + 3, none⟩ = some c3 ∧ w'.cell? ⟨b, o + 4, none⟩ = some c4) := fun w' hb' =>
              ⟨(hb'.cell (HP3.out b hbp)).trans e0, (hb'.cell (HP3.out b hbp)).trans e1, (hb'.cell (HP3.out b hbp)).trans e2, (hb'.cell (HP3.out b hbp)).trans e3, (hb'.cell (HP3.out b hbp)).trans e4⟩
            clear HCF HCN HSH HBd hfk htk hk0 hk1 hk4 e0 e1 e2 e3 e4 hbp hld
            obtain ⟨er0, _⟩ := HCe.out wr HB.out
            go_upto_if 48 with fail
            go_cut [9] (fun l wc => ∃ L' : Nat, l = .int .i64 L' ∧ L' ≤ 140737488351232 ∧ Hid (d.impl.length ≤ L' ∧ L ≤ L') ∧ Hid (Below w3.heap.size w3 wc))
            case first =>
              by_cases hgt : (L : Int) < (d.impl.length : Int)
              · go_wp2
                go_meet
                case rel => exact ⟨d.impl.length, rfl, HLd.out, ⟨Nat.le_refl _, by omega⟩, HB⟩
              · go_wp2
                go_meet
                case rel => exact ⟨L, rfl, hL, ⟨by omega, Nat.le_refl _⟩, HB⟩
            case rest =>
              obtain ⟨L', rfl, hL', HL', HBc⟩ := hcut
              clear er0 HB
              obtain ⟨gko, hgko⟩ : ∃ g, g = gk := ⟨gk, rfl⟩
              have HGK : Hid (gko = gk) := hgko
              rw [← hgko] at HG
              clear hgko
              go_wp2
              go_loopg [12, 13] k (fun g f h wi => ∃ (j : Nat) (bf : Bool), Hid (j + g = k) ∧ h = .int .i64 j ∧ f = .bool bf ∧ Hid (bf = true ↔ ∀ x ∈ rs.take j, sameR x d = false) ∧ Hid (Below w3.heap.size w3 wi))
              case atStart => exact ⟨0, true, Nat.zero_add _, rfl, rfl, ⟨fun _ x hx => by simp at hx, fun _ => rfl⟩, HBc⟩
              case round =>
                obtain ⟨j, bf, HGi, rfl, rfl, HF, HBi⟩ := hrel
                have hji : j ≤ k := by have := HGi.out; omega
                have hki : k < rs.length := hlt
                cases bf with
                | false =>
                  have HNF : Hid (¬ firstR rs k) := fun h => by
                    have := HF.out.2 (fun x hx => HFK.out.1 h x (memR_take_mono hji hx))
                    cases this
                  by_cases hjk : j < k
                  all_goals
                    go_wp2
                    go_roundg (gko - 1)
                    case measure => have := HG.out; have := HGK.out; omega
                    case rel =>
                      refine ⟨k + 1, L', T, by have := HG.out; show _ = _; omega, by go_num, rfl, rfl, by show _ = _; rw [HCN'.out HNF.out]; exact HT.out, ?_, hL', HBi⟩
                      intro x hx
                      rw [HTK.out] at hx
                      rcases List.mem_append.1 hx with h | h
                      · exact Nat.le_trans (HL.out x h) HL'.out.2
                      · rw [List.mem_singleton.1 h]; exact HL'.out.1
                | true =>
                  have HFT : Hid (∀ x ∈ rs.take j, sameR x d = false) := HF.out.1 rfl
                  clear HF
                  by_cases hjk : j < k
                  · obtain ⟨bj, oj, clsj, hixj, hbpj, hlenj, hcj, cj0, cj1, cj2, cj3, cj4, rfl, hkj0, _⟩ := Sl.at H13.out Try.underlying23 sized54 j (by omega)
                    obtain ⟨ej0, _⟩ := cells5 hcj
                    obtain ⟨aj0, pj0, rfl, hlaj0, _⟩ := hkj0.shape
                    have htj : rs.take (j + 1) = rs.take j ++ [rs.getD j ⟨[], ⟨none, none, []⟩, []⟩] := by
                      rw [List.take_succ_eq_append_getElem (by omega)]; simp [List.getD, show j < rs.length by omega]
                    generalize hdj : rs.getD j ⟨[], ⟨none, none, []⟩, []⟩ = dj at *
                    clear hdj hcj hlenj
                    have HTJ : Hid (rs.take (j + 1) = rs.take j ++ [dj]) := htj
                    have erj0 : wr.cell? ⟨bj, oj, none⟩ = some (.slice aj0 dj.impl.length pj0) := (HBi.out.cell (HP3.out bj hbpj)).trans ej0
                    have HJ : Hid (Ns p .u8 wr (.slice aj0 dj.impl.length pj0) dj.impl ∧ Ns p .u8 wr (.slice a0 d.impl.length p0) d.impl) :=
                      ⟨hkj0.keep (Below.keeps HBi.out HP3.out), HK0.out.keep (Below.keeps HBi.out HP3.out)⟩
                    clear hkj0 ej0 htj hbpj
                    have hjk' : (j : Int) < (k : Int) := by omega
                    by_cases hm1 : dj.impl = d.impl
                    · have t1 : decide (dj.impl = d.impl) = true := decide_eq_true hm1
                      have HS : Hid (sameR dj d = true) := sameR_iff.2 hm1
                      clear hm1
                      go_wp2_with fail
                      refine (bytesEq_v _ _ _ _ wr true t1 HJ.out.1 HJ.out.2).mono ?_
                      rintro e wj ⟨rfl, hbj⟩
                      have HBj : Hid (Below w3.heap.size w3 wj) := Below.then HBi.out hbj.out
                      clear hbj erj0
                      go_wp2
                      go_roundg (gk - 1)
                      case measure => have := HGi.out; omega
                      case rel =>
                        refine ⟨j + 1, false, by have := HGi.out; show _ = _; omega, by go_num, rfl, ?_, HBj⟩
                        constructor
                        · intro h; cases h
                        · intro h
                          have := h dj (by rw [HTJ.out]; simp)
                          rw [HS.out] at this
                          cases this
                    · have t1 : decide (dj.impl = d.impl) = false := decide_eq_false hm1
                      have HS : Hid (sameR dj d = false) := t1
                      clear hm1
                      go_wp2_with fail
                      refine (bytesEq_v _ _ _ _ wr false t1 HJ.out.1 HJ.out.2).mono ?_
                      rintro e wj ⟨rfl, hbj⟩
                      have HBj : Hid (Below w3.heap.size w3 wj) := Below.then HBi.out hbj.out
                      clear hbj erj0
                      go_wp2
                      go_roundg (gk - 1)
                      case measure => have := HGi.out; omega
                      case rel => exact ⟨j + 1, true, by have := HGi.out; show _ = _; omega, by go_num, rfl, stepR_true HFT.out HTJ.out HS.out, HBj⟩
                  · have hjk2 : j = k := by omega
                    have HFI : Hid (firstR rs k) := HFK.out.2 (fun x hx => HFT.out x (by rw [hjk2]; exact hx))
                    have hjk' : ¬ (j : Int) < (k : Int) := by omega
                    clear hjk2 hjk HGi HFT
                    go_wp2_with fail
                    refine (cloneBytes_val _ d.impl _ (HK0.out.keep (Below.keeps HBi.out HP3.out))).mono ?_
                    rintro e w4 ⟨a4, n4, p4, rfl, hps4, hb4⟩
                    have HB4 : Hid (Below w3.heap.size w3 w4) := Below.then HBi.out hb4.out
                    go_wp2_with fail
                    refine (rvsFor_any (p := Bh E w3) (q := fun b => b < w4.heap.size) E vk vr vc _ rs d.impl w4 ((HB4.out.block E hlt3).trans HE.out) (HRO.out.keep (Below.keeps HB4.out HPE.out)) (hps4.out.mono (fun b hb => hb.2)) (fun b hb => Nat.lt_of_lt_of_le hb.2 HB4.out.size) (fun b hb => hb) HBy.out HBd'.out (by omega)).mono ?_
                    rintro e w5 ⟨ag, mg, cg, css, rfl, HM5, HO5, HSel, HNil, hb5⟩
                    have HB5 : Hid (Below w3.heap.size w3 w5) := Below.then HB4.out hb5.out
                    obtain ⟨rr, hrr⟩ := HSH'.out HFI.out
                    have hpos : 0 < mg := by rw [HM5.out, hrr]; simp
                    have hex : ∃ g, ag = some ⟨g, 0, none⟩ ∧ g < w5.heap.size := by
                      obtain ⟨_, h | ⟨g, cp', cur, hv, _, hh, _⟩⟩ := HO5.out
                      · exact absurd h.2 (by omega)
                      · injection hv with hv
                        exact ⟨g, hv, (Array.getElem?_eq_some_iff.1 hh).1⟩
                    obtain ⟨g, rfl, hglt⟩ := hex
                    obtain ⟨x0, x1, x2, x3, x4, hrv0, q0, q1, q2, q3, q4⟩ := own_cells HO5.out HSel.out HM5.out 0 hpos
                    simp only [Nat.zero_mul, Nat.zero_add] at q0 q1 q2 q3 q4
                    rw [hrr, List.getD_cons_zero] at hrv0
                    have HRV0 : Hid (RvAt (Bh E w3) w3 d [x0, x1, x2, x3, x4]) := hrv0.keep (fun b hb => (HB4.out.block b hb.2).symm)
                    have hmle : mg ≤ rs.length := by rw [HM5.out]; exact Nat.le_trans (List.length_filter_le _ _) (Nat.le_refl _)
                    have HTN : Hid (T + mg = covR rs (k + 1)) := by
                      show _ = _
                      rw [HCF'.out HFI.out, ← HT.out, HM5.out]
                    have hTk : T + mg ≤ rs.length := by rw [HTN.out]; exact covR_le _ _
                    have hm0 : ((mg : Int) == 0) = false := by simp; omega
                    have hmp : (0 : Int) < (mg : Int) := by omega
                    have hixg : ∀ w', (Instr.indexAt 35 (.slice (some ⟨g, 0, none⟩) mg cg) (.int .i64 0)).run Try.prog w' = .ok (.pointer (some ⟨g, 0, none⟩)) w' := fun w' => by
                      have := idx_eq Try.underlying35 sized58 g 0 mg cg 0 hpos w'
                      simpa using this
                    have SH : Hid (∀ w', Below w5.heap.size w5 w' → w'.cell? ⟨b, o, none⟩ = some (.slice a0 d.impl.length p0) ∧ w'.cell? ⟨b, o + 1, none⟩ = some c1 ∧ w'.cell? ⟨b, o + 2, none⟩ = some c2 ∧ w'.cell? ⟨b, o + 3, none⟩ = some c3 ∧ w'.cell? ⟨b, o + 4, none⟩ = some c4 ∧ w'.cell? ⟨g, 0, none⟩ = some x0 ∧ w'.cell? ⟨g, 1, none⟩ = some x1 ∧ w'.cell? ⟨g, 2, none⟩ = some x2 ∧ w'.cell? ⟨g, 3, none⟩ = some x3 ∧ w'.cell? ⟨g, 4, none⟩ = some x4 ∧ Hid (Below w5.heap.size w5 w')) := fun w' hb' => by
                      have hc := HCe.out w' (Below.then HB5.out hb')
                      exact ⟨hc.1, hc.2.1, hc.2.2.1, hc.2.2.2.1, hc.2.2.2.2, (hb'.cell hglt).trans q0, (hb'.cell hglt).trans q1, (hb'.cell hglt).trans q2, (hb'.cell hglt).trans q3, (hb'.cell hglt).trans q4, hb'⟩
                    have HKa : Hid (∀ w', Below w5.heap.size w5 w' → (Ns p .u8 w' (.slice a0 d.impl.length p0) d.impl ∧ CompAt p w' c1 c2 c3 d.comp ∧ DigsAt p w' c4 d.digs ∧ ∀ b, p b → b < w'.heap.size) ∧ RvAt (Bh E w3) w' d [x0, x1, x2, x3, x4] ∧ ∀ b, Bh E w3 b → b < w'.heap.size) := fun w' hb' => by
                      have hB := Below.then HB5.out hb'
                      exact ⟨⟨HK0.out.keep (Below.keeps hB HP3.out), HK1.out.keep (Below.keeps hB HP3.out), HK4.out.keep (Below.keeps hB HP3.out), Below.lt_of hB HP3.out⟩, HRV0.out.keep (Below.keeps hB HPE.out), Below.lt_of hB HPE.out⟩
                    clear hps4 hb4 hb5 hrr hrv0 q0 q1 q2 q3 q4
                    go_wp2_with fail
                    go_region_held3 (fun w' => w'.cell? ⟨b, o, none⟩ = some (.slice a0 d.impl.length p0) ∧ w'.cell? ⟨b, o + 1, none⟩ = some c1 ∧ w'.cell? ⟨b, o + 2, none⟩ = some c2 ∧ w'.cell? ⟨b, o + 3, none⟩ = some c3 ∧ w'.cell? ⟨b, o + 4, none⟩ = some c4 ∧ w'.cell? ⟨g, 0, none⟩ = some x0 ∧ w'.cell? ⟨g, 1, none⟩ = some x1 ∧ w'.cell? ⟨g, 2, none⟩ = some x2 ∧ w'.cell? ⟨g, 3, none⟩ = some x3 ∧ w'.cell? ⟨g, 4, none⟩ = some x4 ∧ Hid (Below w5.heap.size w5 w'))
                      (first | with_reducible exact SH.out _ (Below.drew (Below.refl _ _)) | with_reducible exact hS1 | with_reducible exact hS2)
                      (first | (go_at_call 21; have hh := (‹_ ∧ _ ∧ _ ∧ _ ∧ _ ∧ _ ∧ _ ∧ _ ∧ _ ∧ _ ∧ Hid (Below _ _ _)›).2.2.2.2.2.2.2.2.2.2; refine (toRV_any _ c1 c2 c3 c4 d _ (HKa.out _ hh.out).1.1 (HKa.out _ hh.out).1.2.1 (HKa.out _ hh.out).1.2.2.1 (HKa.out _ hh.out).1.2.2.2).mono ?_; rintro e w6 ⟨b0, m0, r0, po0, po1, b3, m3, r3, b4, m4, r4, rfl, hps6, hb6⟩; have hS1 := SH.out _ (Below.then hh.out hb6.out); clear hh) | (go_at_call 20; have hh := (‹_ ∧ _ ∧ _ ∧ _ ∧ _ ∧ _ ∧ _ ∧ _ ∧ _ ∧ _ ∧ Hid (Below _ _ _)›).2.2.2.2.2.2.2.2.2.2; refine (rvSame_true (p := Bh E w3) (q := fun b => b < w6.heap.size) x0 x1 x2 x3 x4 _ _ _ _ _ d w6 (HKa.out _ hh.out).2.1 (hps6.out.mono (fun b hb => hb.2)) (HKa.out _ hh.out).2.2 (fun b hb => hb)).mono ?_; rintro e w7 ⟨rfl, hb7⟩; have hS2 := SH.out _ (Below.then hh.out hb7.out); clear hh))
                    have HB7 : Hid (Below w5.heap.size w5 w7) := hS2.2.2.2.2.2.2.2.2.2.2
                    clear hS1 hS2 hps6 hb6 hb7 SH HKa hixg
                    rename_i hHeld
                    clear hHeld
                    go_wp2
                    go_loopg [15] mg (fun g' i wi => ∃ (j : Nat), Hid (j + g' = mg) ∧ i = .int .i64 j ∧ Hid (Below w5.heap.size w5 wi))
                    case atStart => exact ⟨0, Nat.zero_add _, rfl, HB7⟩
                    case round =>
                      clear HB7
                      obtain ⟨j2, HG2, rfl, HB7⟩ := hrel
                      have hj2 : j2 ≤ mg := by have := HG2.out; omega
                      by_cases hjm : j2 < mg
                      · obtain ⟨y0, y1, y2, y3, y4, hrvj, s0, _⟩ := own_cells HO5.out HSel.out HM5.out j2 hjm
                        have himp : ((selR rs d.impl).getD j2 rv0).impl = d.impl := selR_impl (by rw [← HM5.out]; exact hjm)
                        have hny := hrvj.parts.1
                        rw [himp] at hny
                        obtain ⟨ay, py, rfl, _, _⟩ := hny.shape
                        have hB := Below.then HB5.out HB7.out
                        have HNy : Hid (Ns (Bh E w3) .u8 wr (.slice ay d.impl.length py) d.impl) := (hny.keep (fun b hb => (HB4.out.block b hb.2).symm)).keep (Below.keeps hB HPE.out)
                        have HN0 : Hid (Ns p .u8 wr (.slice a0 d.impl.length p0) d.impl) := HK0.out.keep (Below.keeps hB HP3.out)
                        have ery : wr.cell? ⟨g, j2 * 5, none⟩ = some (.slice ay d.impl.length py) := (HB7.out.cell hglt).trans s0
                        have hixj : ∀ w', (Instr.indexAt 35 (.slice (some ⟨g, 0, none⟩) mg cg) (.int .i64 (j2 : Int))).run Try.prog w' = .ok (.pointer (some ⟨g, j2 * 5, none⟩)) w' := fun w' => by
                          have := idx_eq Try.underlying35 sized58 g 0 mg cg j2 hjm w'
                          simpa using this
                        clear hrvj s0 himp hny hB
                        go_wp2_with fail
                        refine (bytesEq_v _ _ _ _ wr true (decide_eq_true rfl) HNy.out HN0.out).mono ?_
                        rintro e w8 ⟨rfl, hb8⟩
                        have HB8 : Hid (Below w5.heap.size w5 w8) := Below.then HB7.out hb8.out
                        clear hb8 ery
                        go_wp2
                        go_roundg (gk - 1)
                        case measure => have := HG2.out; omega
                        case rel => exact ⟨j2 + 1, by have := HG2.out; show _ = _; omega, by go_num, HB8⟩
                      · go_wp2
                        go_roundg (gko - 1)
                        case measure => have := HG.out; have := HGK.out; omega
                        case rel =>
                          refine ⟨k + 1, L', T + mg, by have := HG.out; show _ = _; omega, by go_num, rfl, by go_num, HTN, ?_, hL', Below.then HB5.out HB7.out⟩
                          intro x hx
                          rw [HTK.out] at hx
                          rcases List.mem_append.1 hx with h | h
                          · exact Nat.le_trans (HL.out x h) HL'.out.2
                          · rw [List.mem_singleton.1 h]; exact HL'.out.1
          · have e : k = rs.length := by omega
            have HTT : Hid (T = rs.length) := by
              have := HT.out
              rw [e, covR_full] at this
              exact this
            have HLL : Hid (∀ x ∈ rs, x.impl.length < (List.replicate (L + 1) (0 : Int)).length) := fun x hx => by
              have := HL.out x (by rw [e, List.take_length]; exact hx)
              rw [List.length_replicate]
              omega
            have hmk := make_eq Try.underlying25 info5 (L + 1) (by omega) (by omega)
            rw [show ((L + 1 : Nat) : Int) = (L : Int) + 1 from by omega] at hmk
            clear e HT HL
            have hq35 := fun w l c => Lib.run_eql_slice_nil (P := Try.prog) w 35 58 none l c 0 0 Try.underlying35
            have hteq : ((T : Int) == (rs.length : Int)) = true := by simp [HTT.out]
            go_wp2_with fail
            have Z0 : (wr.alloc (.cells (madeCells #[Value.int .u8 0] (L + 1)) 5)).heap[wr.heap.size]? = some (.cells (madeCells #[Value.int .u8 0] (L + 1)) 5 (0, 0)) := by show (wr.heap.push _)[wr.heap.size]? = _; simp
            have Z1 : Below w3.heap.size w3 (wr.alloc (.cells (madeCells #[Value.int .u8 0] (L + 1)) 5)) := HB.out.alloc HB.out.size _
            generalize wr.alloc (.cells (madeCells #[Value.int .u8 0] (L + 1)) 5) = W1 at Z0 Z1 ⊢
            have HZ1 : Hid (Below w3.heap.size w3 W1) := Z1
            have HZ0 : Hid (Ns (fun b => b < W1.heap.size) .u8 W1 (.slice (some ⟨wr.heap.size, 0, none⟩) (L + 1) (L + 1)) (List.replicate (L + 1) 0)) := zerosR_ns Z0 (Array.getElem?_eq_some_iff.1 Z0).1 (by omega)
            clear Z0 Z1 hmk HTT
            refine (rvsFor_any (p := Bh E w3) (q := fun b => b < W1.heap.size) E vk vr vc _ rs (List.replicate (L + 1) 0) W1 ((HZ1.out.block E hlt3).trans HE.out) (HRO.out.keep (Below.keeps HZ1.out HPE.out)) HZ0.out (fun b hb => Nat.lt_of_lt_of_le hb.2 HZ1.out.size) (fun b hb => hb) HBy.out (fun z hz => by rw [List.eq_of_mem_replicate hz]; omega) (by omega)).mono ?_
            rintro e w6 ⟨a6, n6, p6, _, rfl, _, _, _, HN6, hb6⟩
            have hnil := HN6.out.2 (selR_none rs _ HLL.out)
            have HBF : Hid (Below w.heap.size w w6) := Below.then HB03.out (Below.then HZ1.out hb6.out)
            rw [hnil]
            clear hnil HN6 hb6
            go_wp2
            go_ret
            exact ⟨rfl, HBF⟩
end Go.Proofs.Qxb6606015a
