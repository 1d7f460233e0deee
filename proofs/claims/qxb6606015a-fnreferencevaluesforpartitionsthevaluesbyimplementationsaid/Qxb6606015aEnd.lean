/-
  WALK: toEndorsements.
-/
import Derived.Test.Qxb6606015aInv
namespace Go.Proofs.Qxb6606015a
open Go.RowKit
set_option linter.unusedVariables false
set_option linter.unusedSimpArgs false

set_option maxRecDepth 100000 in
set_option maxHeartbeats 4000000 in
theorem toEnd_any {p : Nat → Prop} (v0 v1 v2 : Value) (ks : List KeyD) (rs : List RvD) (cs : List CertD) (w : World) (h0 : KeysAt p w v0 ks) (h1 : RvsAt p w v1 rs) (h2 : CertsAt p w v2 cs) (hp : ∀ b, p b → b < w.heap.size) :
    Calls Try.prog 10 #[v0, v1, v2] w fun e w' => e = .returned (.pointer (some ⟨w.heap.size, 0, none⟩)) ∧ ∃ vk vr vc, Hid (w'.heap[w.heap.size]? = some (.cells #[vk, vr, vc] 42 (0, 0))) ∧ Hid (KeysOwn (Bh w.heap.size w') w' vk ks) ∧ Hid (RvsAt (Bh w.heap.size w') w' vr rs) ∧ Hid (Below w.heap.size w w') := by
  obtain ⟨ao0, cap0, rfl, hl0, hn0⟩ := Sl.shape h0
  obtain ⟨ao1, cap1, rfl, hl1, hn1⟩ := Sl.shape h1
  obtain ⟨ao2, cap2, rfl, hl2, hn2⟩ := Sl.shape h2
  have HN0 : Hid (ao0 = none → ks.length = 0) := hn0
  have HN1 : Hid (ao1 = none → rs.length = 0) := hn1
  have HN2 : Hid (ao2 = none → cs.length = 0) := hn2
  have H0 : Hid (KeysAt p w _ ks) := h0
  have H1 : Hid (RvsAt p w _ rs) := h1
  have H2 : Hid (CertsAt p w _ cs) := h2
  have HP : Hid (∀ b, p b → b < w.heap.size) := hp
  clear h0 h1 h2 hp hn0 hn1 hn2
  go_enter Try.func10, Try.ntmps10
  go_upto_if 14 with fail
  have F0 : (w.alloc (.cells #[Value.slice none 0 0, Value.slice none 0 0, Value.slice none 0 0] 42)).heap[w.heap.size]? = some (.cells #[Value.slice none 0 0, Value.slice none 0 0, Value.slice none 0 0] 42 (0, 0)) := by show (w.heap.push _)[w.heap.size]? = _; simp
  have F1 : Below w.heap.size w (w.alloc (.cells #[Value.slice none 0 0, Value.slice none 0 0, Value.slice none 0 0] 42)) := (Below.refl _ _).alloc (Nat.le_refl _) _
  generalize w.alloc (.cells #[Value.slice none 0 0, Value.slice none 0 0, Value.slice none 0 0] 42) = W0 at F0 F1 ⊢
  have HF0 : Hid (W0.heap[w.heap.size]? = some (.cells #[Value.slice none 0 0, Value.slice none 0 0, Value.slice none 0 0] 42 (0, 0))) := F0
  have HF1 : Hid (Below w.heap.size w W0) := F1
  clear F0 F1
  go_cut [8] (fun _ wc => ∃ x n cp, Hid (wc.heap[w.heap.size]? = some (.cells #[.slice x n cp, Value.slice none 0 0, Value.slice none 0 0] 42 (0, 0))) ∧ Hid (Below w.heap.size w wc) ∧ Hid (KeysOwn (Bh w.heap.size wc) wc (.slice x n cp) ks))
  case first =>
    cases ao0 with
    | none =>
      have HZ : Hid (ks.length = 0) := HN0.out rfl
      go_wp2
      go_meet
      case rel => exact ⟨none, 0, 0, HF0, HF1, none, 0, by rw [HZ.out], fun _ => ⟨HZ.out, rfl⟩, by rw [HZ.out]; omega, by omega, fun i hi => by rw [HZ.out] at hi; omega⟩
    | some a =>
      have hl' : ks.length ≤ 140737488355328 := by omega
      have hmk := make_eq Try.underlying39 info68 ks.length (by omega) (by omega)
      have hElt : w.heap.size < W0.heap.size := (Array.getElem?_eq_some_iff.1 HF0.out).1
      have hEc : ∀ o, (W0.alloc o).cell? ⟨w.heap.size, 0, none⟩ = some (Value.slice none 0 0) := fun o => (World.cell?_alloc_past _ _ _ hElt).trans (by rw [cells_of_block HF0.out]; rfl)
      have hEf : ∀ o, (W0.alloc o).frozen? ⟨w.heap.size, 0, none⟩ = false := fun o => by
        have : (W0.alloc o).heap[w.heap.size]? = W0.heap[w.heap.size]? := Below.heap_alloc _ _ _ hElt
        simp only [World.frozen?, this, HF0.out]
        rfl
      go_wp2
      have hI0 := pinv_start HF0.out HF1.out #[Value.slice none 0 0, Value.slice none 0 0, Value.nilIface] 68 3 ks.length 0 (kEl W0.heap.size ks) (Value.slice (some ⟨W0.heap.size, 0, none⟩) ks.length ks.length)
      clear hmk hEc hEf
      generalize (W0.setCell ⟨w.heap.size, 0, none⟩ (Value.slice (some ⟨W0.heap.size, 0, none⟩) ks.length ks.length)).alloc (.cells (madeCells #[Value.slice none 0 0, Value.slice none 0 0, Value.nilIface] (ks.length * 3)) 68) = W1 at hI0 ⊢
      have HI0 : Hid (PInv w.heap.size #[Value.slice (some ⟨W0.heap.size, 0, none⟩) ks.length ks.length, Value.slice none 0 0, Value.slice none 0 0] w W0 W0.heap.size 68 3 ks.length 0 (kEl W0.heap.size ks) W1) := hI0
      clear hI0
      have HIX : Hid (∀ (k : Nat), k < ks.length → ∀ w', (Instr.indexAt 39 (.slice (some ⟨W0.heap.size, 0, none⟩) ks.length ks.length) (.int .i64 (k : Int))).run Try.prog w' = .ok (.pointer (some ⟨W0.heap.size, k * 3, none⟩)) w') := fun k hk w' => by
        rw [idx_eq Try.underlying39 sized68 W0.heap.size 0 ks.length ks.length k hk w', Nat.zero_add]
      go_loopg [8] ks.length (fun g i wr => ∃ k : Nat, Hid (k + g = ks.length) ∧ i = .int .i64 k ∧ Hid (PInv w.heap.size #[Value.slice (some ⟨W0.heap.size, 0, none⟩) ks.length ks.length, Value.slice none 0 0, Value.slice none 0 0] w W0 W0.heap.size 68 3 ks.length k (kEl W0.heap.size ks) wr))
      case atStart => exact ⟨0, Nat.zero_add _, rfl, HI0⟩
      case round =>
        clear HI0
        obtain ⟨k, HG, rfl, HI⟩ := hrel
        have hk : k ≤ ks.length := by have := HG.out; omega
        by_cases hlt : k < ks.length
        · obtain ⟨b, o, cls, hi, hb, hlen, hc, c0, c1, rfl, hk0, hk1⟩ := Sl.at H0.out Try.underlying22 sized47 k hlt
          obtain ⟨e0, e1, e2⟩ := cells3 hc
          obtain ⟨d, hd⟩ : ∃ d, d = ks.getD k ⟨[], [], 0⟩ := ⟨_, rfl⟩
          rw [← hd] at hk0 hk1 e2
          have HD : Hid (d = ks.getD k ⟨[], [], 0⟩) := hd
          have HK : Hid (∀ w', Hid (PInv w.heap.size #[Value.slice (some ⟨W0.heap.size, 0, none⟩) ks.length ks.length, Value.slice none 0 0, Value.slice none 0 0] w W0 W0.heap.size 68 3 ks.length k (kEl W0.heap.size ks) w') → Ns p .u8 w' c0 d.impl ∧ Ns p .u8 w' c1 d.inst) := fun w' hI => ⟨hk0.keep (hI.out.keeps HP.out), hk1.keep (hI.out.keeps HP.out)⟩
          clear hk0 hk1
          have hbE : b < w.heap.size := HP.out b hb
          have hix := HIX.out k hlt
          have SH : Hid (∀ w', PInv w.heap.size #[Value.slice (some ⟨W0.heap.size, 0, none⟩) ks.length ks.length, Value.slice none 0 0, Value.slice none 0 0] w W0 W0.heap.size 68 3 ks.length k (kEl W0.heap.size ks) w' → w'.cell? ⟨w.heap.size, 0, none⟩ = some (Value.slice (some ⟨W0.heap.size, 0, none⟩) ks.length ks.length) ∧ w'.cell? ⟨b, o, none⟩ = some c0 ∧ w'.cell? ⟨b, o + 1, none⟩ = some c1 ∧ w'.cell? ⟨b, o + 2, none⟩ = some (.int .i64 d.tag) ∧ w'.cell? ⟨W0.heap.size, k * 3, none⟩ = some (got w' W0.heap.size (k * 3)) ∧ w'.cell? ⟨W0.heap.size, k * 3 + 1, none⟩ = some (got w' W0.heap.size (k * 3 + 1)) ∧ w'.cell? ⟨W0.heap.size, k * 3 + 2, none⟩ = some (got w' W0.heap.size (k * 3 + 2)) ∧ (∀ o, w'.frozen? ⟨W0.heap.size, o, none⟩ = false) ∧ Hid (PInv w.heap.size #[Value.slice (some ⟨W0.heap.size, 0, none⟩) ks.length ks.length, Value.slice none 0 0, Value.slice none 0 0] w W0 W0.heap.size 68 3 ks.length k (kEl W0.heap.size ks) w')) := by
            intro w' hI
            refine ⟨?_, ?_, ?_, ?_, hI.got (by omega), hI.got (by omega), hI.got (by omega), hI.free, hI⟩
            · rw [hI.cellE]; rfl
            · rw [hI.old hbE]; exact e0
            · rw [hI.old hbE]; exact e1
            · rw [hI.old hbE]; exact e2
          clear hc hlen e0 e1 e2 hd hb
          go_wp2_with fail
          go_region_held3 (fun w' => w'.cell? ⟨w.heap.size, 0, none⟩ = some (Value.slice (some ⟨W0.heap.size, 0, none⟩) ks.length ks.length) ∧ w'.cell? ⟨b, o, none⟩ = some c0 ∧ w'.cell? ⟨b, o + 1, none⟩ = some c1 ∧ w'.cell? ⟨b, o + 2, none⟩ = some (.int .i64 d.tag) ∧ w'.cell? ⟨W0.heap.size, k * 3, none⟩ = some (got w' W0.heap.size (k * 3)) ∧ w'.cell? ⟨W0.heap.size, k * 3 + 1, none⟩ = some (got w' W0.heap.size (k * 3 + 1)) ∧ w'.cell? ⟨W0.heap.size, k * 3 + 2, none⟩ = some (got w' W0.heap.size (k * 3 + 2)) ∧ (∀ o, w'.frozen? ⟨W0.heap.size, o, none⟩ = false) ∧ Hid (PInv w.heap.size #[Value.slice (some ⟨W0.heap.size, 0, none⟩) ks.length ks.length, Value.slice none 0 0, Value.slice none 0 0] w W0 W0.heap.size 68 3 ks.length k (kEl W0.heap.size ks) w'))
            (first | with_reducible exact SH.out _ (HI.out.drew (kStable _ _)) | with_reducible exact hS1 | with_reducible exact hS2 | with_reducible exact hS3 | with_reducible exact SH.out _ (hS3.2.2.2.2.2.2.2.2.out.poke3 (kStable _ _) hlt _ _ _))
            (first | (go_at_call_of 9 c0; have hh := (‹_ ∧ _ ∧ _ ∧ _ ∧ _ ∧ _ ∧ _ ∧ _ ∧ Hid (PInv _ _ _ _ _ _ _ _ _ _ _)›).2.2.2.2.2.2.2.2; refine (cloneBytes_val c0 d.impl _ (HK.out _ hh).1).mono ?_; rintro e w1 ⟨a0, n0, p0, rfl, hps0, hb0⟩; have hS1 := SH.out _ (hh.out.step (kStable _ _) hb0.out); clear hh) | (go_at_call_of 9 c1; have hh := (‹_ ∧ _ ∧ _ ∧ _ ∧ _ ∧ _ ∧ _ ∧ _ ∧ Hid (PInv _ _ _ _ _ _ _ _ _ _ _)›).2.2.2.2.2.2.2.2; refine (cloneBytes_val c1 d.inst _ (HK.out _ hh).2).mono ?_; rintro e w2 ⟨a1, n1, p1, rfl, hps1, hb1⟩; have hS2 := SH.out _ (hh.out.step (kStable _ _) hb1.out); clear hh) | (go_at_call 25; have hh := (‹_ ∧ _ ∧ _ ∧ _ ∧ _ ∧ _ ∧ _ ∧ _ ∧ Hid (PInv _ _ _ _ _ _ _ _ _ _ _)›).2.2.2.2.2.2.2.2; refine (newKey_any _ _ _ _ _ _ _ _).mono ?_; rintro e w3 ⟨rfl, hb2⟩; have hS3 := SH.out _ (hh.out.step (kStable _ _) hb2.out); clear hh))
          have hI3 := hS3.2.2.2.2.2.2.2.2.out
          have hltr := HI.out.row.lt
          have hz1 : wr.heap.size ≤ w1.heap.size := hb0.out.size
          have hz2 := hb1.out.size
          have hz3 := hb2.out.size
          have HE : Hid (kEl W0.heap.size ks w3 k [.slice a0 n0 p0, .slice a1 n1 p1, .iface 3 (.int .i64 d.tag)]) := by
            have f0 := ((hps0.out.keep (Nw.keeps hb1.out)).mono (Nw.mono (a' := wr) (b' := w2) (Nat.le_refl _) hz2)).keep (Nw.keeps hb2.out)
            have f1 := hps1.out.keep (Nw.keeps hb2.out)
            rw [HD.out] at f0 f1 ⊢
            exact ⟨_, _, rfl, f0.mono (fun x hx => ⟨by have := hx.1; omega, by have := hx.2; omega⟩), f1.mono (fun x hx => ⟨by have := hx.1; omega, by have := hx.2; omega⟩)⟩
          have HI1 : Hid (PInv w.heap.size #[Value.slice (some ⟨W0.heap.size, 0, none⟩) ks.length ks.length, Value.slice none 0 0, Value.slice none 0 0] w W0 W0.heap.size 68 3 ks.length (k + 1) (kEl W0.heap.size ks) (((w3.setCell ⟨W0.heap.size, k * 3, none⟩ (.slice a0 n0 p0)).setCell ⟨W0.heap.size, k * 3 + 1, none⟩ (.slice a1 n1 p1)).setCell ⟨W0.heap.size, k * 3 + 2, none⟩ (.iface 3 (.int .i64 d.tag)))) := hI3.put3 (kStable _ _) hlt _ _ _ HE.out
          clear hS1 hS2 hS3 hps0 hps1 hb0 hb1 hb2 SH HK HD HE hI3 HI
          rename_i hHeld
          clear hHeld
          generalize (((w3.setCell ⟨W0.heap.size, k * 3, none⟩ (.slice a0 n0 p0)).setCell ⟨W0.heap.size, k * 3 + 1, none⟩ (.slice a1 n1 p1)).setCell ⟨W0.heap.size, k * 3 + 2, none⟩ (.iface 3 (.int .i64 d.tag))) = W4 at HI1 ⊢
          go_wp2
          go_roundg (gk - 1)
          case measure => have := HG.out; omega
          case rel => exact ⟨k + 1, by have := HG.out; show _ = _; omega, by go_num, HI1⟩
        · go_wp2
          go_meet
          case rel =>
            have e : k = ks.length := by omega
            subst e
            have hI := HI.out
            exact ⟨_, _, _, hI.e, hI.below, hI.row.done hl0 ⟨hI.lt, hI.row.lt⟩ (fun j cs hj ⟨c0, c1, e, h0, h1⟩ => ⟨c0, c1, e, h0.mono (fun x hx => ⟨Nat.lt_trans hI.lt hx.1, hx.2⟩), h1.mono (fun x hx => ⟨Nat.lt_trans hI.lt hx.1, hx.2⟩)⟩)⟩
  case rest =>
    obtain ⟨x, n, cp, HE1, HB1, HK1⟩ := hcut
    clear HN0 H0 HF0 HF1
    obtain ⟨W2, hW2⟩ : ∃ W2, W2 = wc := ⟨_, rfl⟩
    rw [← hW2] at HE1 HB1 HK1 ⊢
    clear hW2 wc
    go_upto_if 52 with fail
    go_cut [9] (fun _ wc => ∃ x' n' cp', Hid (wc.heap[w.heap.size]? = some (.cells #[.slice x n cp, .slice x' n' cp', Value.slice none 0 0] 42 (0, 0))) ∧ Hid (Below w.heap.size w wc) ∧ Hid (KeysOwn (Bh w.heap.size wc) wc (.slice x n cp) ks) ∧ Hid (RvsAt (Bh w.heap.size wc) wc (.slice x' n' cp') rs))
    case first =>
      cases ao1 with
      | none =>
        have HZ : Hid (rs.length = 0) := HN1.out rfl
        go_wp2
        go_meet
        case rel => exact ⟨none, 0, 0, HE1, HB1, HK1, none, 0, by rw [HZ.out], fun _ => ⟨HZ.out, rfl⟩, by rw [HZ.out]; omega, by omega, fun i hi => by rw [HZ.out] at hi; omega⟩
      | some a =>
        have hl' : rs.length ≤ 140737488355328 := by omega
        have hmk := make_eq Try.underlying35 info58 rs.length (by omega) (by omega)
        have hElt : w.heap.size < W2.heap.size := (Array.getElem?_eq_some_iff.1 HE1.out).1
        have hEc : ∀ o, (W2.alloc o).cell? ⟨w.heap.size, 1, none⟩ = some (Value.slice none 0 0) := fun o => (World.cell?_alloc_past _ _ _ hElt).trans (by rw [cells_of_block HE1.out]; rfl)
        have hEf : ∀ o, (W2.alloc o).frozen? ⟨w.heap.size, 1, none⟩ = false := fun o => by
          have : (W2.alloc o).heap[w.heap.size]? = W2.heap[w.heap.size]? := Below.heap_alloc _ _ _ hElt
          simp only [World.frozen?, this, HE1.out]
          rfl
        go_wp2
        have hI0 := pinv_start HE1.out HB1.out #[Value.slice none 0 0, Value.pointer none, Value.pointer none, Value.slice none 0 0, Value.slice none 0 0] 58 5 rs.length 1 (rEl W2.heap.size rs) (Value.slice (some ⟨W2.heap.size, 0, none⟩) rs.length rs.length)
        clear hmk hEc hEf
        generalize (W2.setCell ⟨w.heap.size, 1, none⟩ (Value.slice (some ⟨W2.heap.size, 0, none⟩) rs.length rs.length)).alloc (.cells (madeCells #[Value.slice none 0 0, Value.pointer none, Value.pointer none, Value.slice none 0 0, Value.slice none 0 0] (rs.length * 5)) 58) = W1 at hI0 ⊢
        have HI0 : Hid (PInv w.heap.size #[.slice x n cp, Value.slice (some ⟨W2.heap.size, 0, none⟩) rs.length rs.length, Value.slice none 0 0] w W2 W2.heap.size 58 5 rs.length 0 (rEl W2.heap.size rs) W1) := hI0
        clear hI0
        have HIX : Hid (∀ (k : Nat), k < rs.length → ∀ w', (Instr.indexAt 35 (.slice (some ⟨W2.heap.size, 0, none⟩) rs.length rs.length) (.int .i64 (k : Int))).run Try.prog w' = .ok (.pointer (some ⟨W2.heap.size, k * 5, none⟩)) w') := fun k hk w' => by
          rw [idx_eq Try.underlying35 sized58 W2.heap.size 0 rs.length rs.length k hk w', Nat.zero_add]
        go_loopg [9] rs.length (fun g i wr => ∃ k : Nat, Hid (k + g = rs.length) ∧ i = .int .i64 k ∧ Hid (PInv w.heap.size #[.slice x n cp, Value.slice (some ⟨W2.heap.size, 0, none⟩) rs.length rs.length, Value.slice none 0 0] w W2 W2.heap.size 58 5 rs.length k (rEl W2.heap.size rs) wr))
        case atStart => exact ⟨0, Nat.zero_add _, rfl, HI0⟩
        case round =>
          clear HI0
          obtain ⟨k, HG, rfl, HI⟩ := hrel
          have hk : k ≤ rs.length := by have := HG.out; omega
          by_cases hlt : k < rs.length
          · obtain ⟨b, o, cls, hi, hb, hlen, hc, c0, c1, c2, c3, c4, rfl, hk0, hk1, hk4⟩ := Sl.at H1.out Try.underlying23 sized54 k hlt
            obtain ⟨e0, e1, e2, e3, e4⟩ := cells5 hc
            obtain ⟨d, hd⟩ : ∃ d, d = rs.getD k ⟨[], ⟨none, none, []⟩, []⟩ := ⟨_, rfl⟩
            rw [← hd] at hk0 hk1 hk4
            have HD : Hid (d = rs.getD k ⟨[], ⟨none, none, []⟩, []⟩) := hd
            have HK : Hid (∀ w', Hid (PInv w.heap.size #[.slice x n cp, Value.slice (some ⟨W2.heap.size, 0, none⟩) rs.length rs.length, Value.slice none 0 0] w W2 W2.heap.size 58 5 rs.length k (rEl W2.heap.size rs) w') → Ns p .u8 w' c0 d.impl ∧ CompAt p w' c1 c2 c3 d.comp ∧ DigsAt p w' c4 d.digs ∧ ∀ b, p b → b < w'.heap.size) := fun w' hI => ⟨hk0.keep (hI.out.keeps HP.out), hk1.keep (hI.out.keeps HP.out), hk4.keep (hI.out.keeps HP.out), fun b hb => by have := HP.out b hb; have := hI.out.row.lt; have := hI.out.lt; omega⟩
            clear hk0 hk1 hk4
            have hbE : b < w.heap.size := HP.out b hb
            have hix := HIX.out k hlt
            have SH : Hid (∀ w', PInv w.heap.size #[.slice x n cp, Value.slice (some ⟨W2.heap.size, 0, none⟩) rs.length rs.length, Value.slice none 0 0] w W2 W2.heap.size 58 5 rs.length k (rEl W2.heap.size rs) w' → w'.cell? ⟨w.heap.size, 1, none⟩ = some (Value.slice (some ⟨W2.heap.size, 0, none⟩) rs.length rs.length) ∧ w'.cell? ⟨b, o, none⟩ = some c0 ∧ w'.cell? ⟨b, o + 1, none⟩ = some c1 ∧ w'.cell? ⟨b, o + 2, none⟩ = some c2 ∧ w'.cell? ⟨b, o + 3, none⟩ = some c3 ∧ w'.cell? ⟨b, o + 4, none⟩ = some c4 ∧ w'.cell? ⟨W2.heap.size, k * 5, none⟩ = some (got w' W2.heap.size (k * 5)) ∧ w'.cell? ⟨W2.heap.size, k * 5 + 1, none⟩ = some (got w' W2.heap.size (k * 5 + 1)) ∧ w'.cell? ⟨W2.heap.size, k * 5 + 2, none⟩ = some (got w' W2.heap.size (k * 5 + 2)) ∧ w'.cell? ⟨W2.heap.size, k * 5 + 3, none⟩ = some (got w' W2.heap.size (k * 5 + 3)) ∧ w'.cell? ⟨W2.heap.size, k * 5 + 4, none⟩ = some (got w' W2.heap.size (k * 5 + 4)) ∧ (∀ o, w'.frozen? ⟨W2.heap.size, o, none⟩ = false) ∧ Hid (PInv w.heap.size #[.slice x n cp, Value.slice (some ⟨W2.heap.size, 0, none⟩) rs.length rs.length, Value.slice none 0 0] w W2 W2.heap.size 58 5 rs.length k (rEl W2.heap.size rs) w')) := by
              intro w' hI
              refine ⟨?_, ?_, ?_, ?_, ?_, ?_, hI.got (by omega), hI.got (by omega), hI.got (by omega), hI.got (by omega), hI.got (by omega), hI.free, hI⟩
              · rw [hI.cellE]; rfl
              · rw [hI.old hbE]; exact e0
              · rw [hI.old hbE]; exact e1
              · rw [hI.old hbE]; exact e2
              · rw [hI.old hbE]; exact e3
              · rw [hI.old hbE]; exact e4
            clear hc hlen e0 e1 e2 e3 e4 hd hb
            go_wp2_with fail
            go_region_held3 (fun w' => w'.cell? ⟨w.heap.size, 1, none⟩ = some (Value.slice (some ⟨W2.heap.size, 0, none⟩) rs.length rs.length) ∧ w'.cell? ⟨b, o, none⟩ = some c0 ∧ w'.cell? ⟨b, o + 1, none⟩ = some c1 ∧ w'.cell? ⟨b, o + 2, none⟩ = some c2 ∧ w'.cell? ⟨b, o + 3, none⟩ = some c3 ∧ w'.cell? ⟨b, o + 4, none⟩ = some c4 ∧ w'.cell? ⟨W2.heap.size, k * 5, none⟩ = some (got w' W2.heap.size (k * 5)) ∧ w'.cell? ⟨W2.heap.size, k * 5 + 1, none⟩ = some (got w' W2.heap.size (k * 5 + 1)) ∧ w'.cell? ⟨W2.heap.size, k * 5 + 2, none⟩ = some (got w' W2.heap.size (k * 5 + 2)) ∧ w'.cell? ⟨W2.heap.size, k * 5 + 3, none⟩ = some (got w' W2.heap.size (k * 5 + 3)) ∧ w'.cell? ⟨W2.heap.size, k * 5 + 4, none⟩ = some (got w' W2.heap.size (k * 5 + 4)) ∧ (∀ o, w'.frozen? ⟨W2.heap.size, o, none⟩ = false) ∧ Hid (PInv w.heap.size #[.slice x n cp, Value.slice (some ⟨W2.heap.size, 0, none⟩) rs.length rs.length, Value.slice none 0 0] w W2 W2.heap.size 58 5 rs.length k (rEl W2.heap.size rs) w'))
              (first | with_reducible exact SH.out _ (HI.out.drew (rStable _ _)) | with_reducible exact hS1 | with_reducible exact SH.out _ (hS1.2.2.2.2.2.2.2.2.2.2.2.2.out.poke5 (rStable _ _) hlt _ _ _ _ _))
              (first | (go_at_call 21; have hh := (‹_ ∧ _ ∧ _ ∧ _ ∧ _ ∧ _ ∧ _ ∧ _ ∧ _ ∧ _ ∧ _ ∧ _ ∧ Hid (PInv _ _ _ _ _ _ _ _ _ _ _)›).2.2.2.2.2.2.2.2.2.2.2.2; refine (toRV_any c0 c1 c2 c3 c4 d _ (HK.out _ hh).1 (HK.out _ hh).2.1 (HK.out _ hh).2.2.1 (HK.out _ hh).2.2.2).mono ?_; rintro e w1 ⟨a0, n0, p0, po0, po1, a3, n3, p3, a4, n4, p4, rfl, hps0, hb0⟩; have hS1 := SH.out _ (hh.out.step (rStable _ _) hb0.out); clear hh))
            have hltr := HI.out.row.lt
            have HE : Hid (rEl W2.heap.size rs w1 k [.slice a0 n0 p0, .pointer po0, .pointer po1, .slice a3 n3 p3, .slice a4 n4 p4]) := by
              have f0 := hps0.out
              rw [HD.out] at f0
              exact RvAt.mono f0 (fun x hx => ⟨by have := hx.1; simp at this; omega, hx.2⟩)
            have HI1 : Hid (PInv w.heap.size #[.slice x n cp, Value.slice (some ⟨W2.heap.size, 0, none⟩) rs.length rs.length, Value.slice none 0 0] w W2 W2.heap.size 58 5 rs.length (k + 1) (rEl W2.heap.size rs) (((((w1.setCell ⟨W2.heap.size, k * 5, none⟩ (.slice a0 n0 p0)).setCell ⟨W2.heap.size, k * 5 + 1, none⟩ (.pointer po0)).setCell ⟨W2.heap.size, k * 5 + 2, none⟩ (.pointer po1)).setCell ⟨W2.heap.size, k * 5 + 3, none⟩ (.slice a3 n3 p3)).setCell ⟨W2.heap.size, k * 5 + 4, none⟩ (.slice a4 n4 p4))) := hS1.2.2.2.2.2.2.2.2.2.2.2.2.out.put5 (rStable _ _) hlt _ _ _ _ _ HE.out
            clear hS1 hps0 hb0 SH HK HD HE HI
            rename_i hHeld
            clear hHeld
            generalize (((((w1.setCell ⟨W2.heap.size, k * 5, none⟩ (.slice a0 n0 p0)).setCell ⟨W2.heap.size, k * 5 + 1, none⟩ (.pointer po0)).setCell ⟨W2.heap.size, k * 5 + 2, none⟩ (.pointer po1)).setCell ⟨W2.heap.size, k * 5 + 3, none⟩ (.slice a3 n3 p3)).setCell ⟨W2.heap.size, k * 5 + 4, none⟩ (.slice a4 n4 p4)) = W4 at HI1 ⊢
            go_wp2
            go_roundg (gk - 1)
            case measure => have := HG.out; omega
            case rel => exact ⟨k + 1, by have := HG.out; show _ = _; omega, by go_num, HI1⟩
          · go_wp2
            go_meet
            case rel =>
              have e : k = rs.length := by omega
              subst e
              have hI := HI.out
              exact ⟨_, _, _, hI.e, hI.below, (HK1.out.keep (fun b hb => hI.mid b hb.1 hb.2)).mono (fun b hb => ⟨hb.1, Nat.lt_trans hb.2 hI.row.lt⟩), hI.row.done hl1 ⟨hI.lt, hI.row.lt⟩ (fun j cs hj h => RvAt.mono h (fun x hx => ⟨Nat.lt_trans hI.lt hx.1, hx.2⟩))⟩
    case rest =>
      obtain ⟨x', n', cp', HE2, HB2, HK2, HR2⟩ := hcut
      clear HN1 H1 HE1 HB1 HK1
      obtain ⟨W3, hW3⟩ : ∃ W3, W3 = wc := ⟨_, rfl⟩
      rw [← hW3] at HE2 HB2 HK2 HR2 ⊢
      clear hW3 wc W2
      go_upto_if 77 with fail
      go_cut [10] (fun _ wc => ∃ vc, Hid (wc.heap[w.heap.size]? = some (.cells #[.slice x n cp, .slice x' n' cp', vc] 42 (0, 0))) ∧ Hid (Below w.heap.size w wc) ∧ Hid (KeysOwn (Bh w.heap.size wc) wc (.slice x n cp) ks) ∧ Hid (RvsAt (Bh w.heap.size wc) wc (.slice x' n' cp') rs))
      case first =>
        cases ao2 with
        | none =>
          go_wp2
          go_meet
          case rel => exact ⟨_, HE2, HB2, HK2, HR2⟩
        | some a =>
          have hl' : cs.length ≤ 140737488355328 := by omega
          have hmk := make_eq Try.underlying40 info72 cs.length (by omega) (by omega)
          have hElt : w.heap.size < W3.heap.size := (Array.getElem?_eq_some_iff.1 HE2.out).1
          have hEc : ∀ o, (W3.alloc o).cell? ⟨w.heap.size, 2, none⟩ = some (Value.slice none 0 0) := fun o => (World.cell?_alloc_past _ _ _ hElt).trans (by rw [cells_of_block HE2.out]; rfl)
          have hEf : ∀ o, (W3.alloc o).frozen? ⟨w.heap.size, 2, none⟩ = false := fun o => by
            have : (W3.alloc o).heap[w.heap.size]? = W3.heap[w.heap.size]? := Below.heap_alloc _ _ _ hElt
            simp only [World.frozen?, this, HE2.out]
            rfl
          go_wp2
          have hI0 := pinv_start HE2.out HB2.out #[Value.slice none 0 0, Value.slice none 0 0, Value.string ⟨#[]⟩] 72 3 cs.length 2 cEl (Value.slice (some ⟨W3.heap.size, 0, none⟩) cs.length cs.length)
          clear hmk hEc hEf
          generalize (W3.setCell ⟨w.heap.size, 2, none⟩ (Value.slice (some ⟨W3.heap.size, 0, none⟩) cs.length cs.length)).alloc (.cells (madeCells #[Value.slice none 0 0, Value.slice none 0 0, Value.string ⟨#[]⟩] (cs.length * 3)) 72) = W1 at hI0 ⊢
          have HI0 : Hid (PInv w.heap.size #[.slice x n cp, .slice x' n' cp', Value.slice (some ⟨W3.heap.size, 0, none⟩) cs.length cs.length] w W3 W3.heap.size 72 3 cs.length 0 cEl W1) := hI0
          clear hI0
          have HIX : Hid (∀ (k : Nat), k < cs.length → ∀ w', (Instr.indexAt 40 (.slice (some ⟨W3.heap.size, 0, none⟩) cs.length cs.length) (.int .i64 (k : Int))).run Try.prog w' = .ok (.pointer (some ⟨W3.heap.size, k * 3, none⟩)) w') := fun k hk w' => by
            rw [idx_eq Try.underlying40 sized72 W3.heap.size 0 cs.length cs.length k hk w', Nat.zero_add]
          go_loopg [10] cs.length (fun g i wr => ∃ k : Nat, Hid (k + g = cs.length) ∧ i = .int .i64 k ∧ Hid (PInv w.heap.size #[.slice x n cp, .slice x' n' cp', Value.slice (some ⟨W3.heap.size, 0, none⟩) cs.length cs.length] w W3 W3.heap.size 72 3 cs.length k cEl wr))
          case atStart => exact ⟨0, Nat.zero_add _, rfl, HI0⟩
          case round =>
            clear HI0
            obtain ⟨k, HG, rfl, HI⟩ := hrel
            have hk : k ≤ cs.length := by have := HG.out; omega
            by_cases hlt : k < cs.length
            · obtain ⟨b, o, cls, hi, hb, hlen, hc, c0, c1, str, rfl, hstr, hk0, hk1⟩ := Sl.at H2.out Try.underlying24 sized62 k hlt
              obtain ⟨e0, e1, e2⟩ := cells3 hc
              obtain ⟨d, hd⟩ : ∃ d, d = cs.getD k ⟨[], []⟩ := ⟨_, rfl⟩
              rw [← hd] at hk0 hk1
              have HK : Hid (∀ w', Hid (PInv w.heap.size #[.slice x n cp, .slice x' n' cp', Value.slice (some ⟨W3.heap.size, 0, none⟩) cs.length cs.length] w W3 W3.heap.size 72 3 cs.length k cEl w') → Ns p .u8 w' c0 d.impl ∧ CompsAt p w' c1 d.comps ∧ ∀ b, p b → b < w'.heap.size) := fun w' hI => ⟨hk0.keep (hI.out.keeps HP.out), hk1.keep (hI.out.keeps HP.out), fun b hb => by have := HP.out b hb; have := hI.out.row.lt; have := hI.out.lt; omega⟩
              clear hk0 hk1
              have hbE : b < w.heap.size := HP.out b hb
              have hix := HIX.out k hlt
              have SH : Hid (∀ w', PInv w.heap.size #[.slice x n cp, .slice x' n' cp', Value.slice (some ⟨W3.heap.size, 0, none⟩) cs.length cs.length] w W3 W3.heap.size 72 3 cs.length k cEl w' → w'.cell? ⟨w.heap.size, 2, none⟩ = some (Value.slice (some ⟨W3.heap.size, 0, none⟩) cs.length cs.length) ∧ w'.cell? ⟨b, o, none⟩ = some c0 ∧ w'.cell? ⟨b, o + 1, none⟩ = some c1 ∧ w'.cell? ⟨b, o + 2, none⟩ = some (.string str) ∧ w'.cell? ⟨W3.heap.size, k * 3, none⟩ = some (got w' W3.heap.size (k * 3)) ∧ w'.cell? ⟨W3.heap.size, k * 3 + 1, none⟩ = some (got w' W3.heap.size (k * 3 + 1)) ∧ w'.cell? ⟨W3.heap.size, k * 3 + 2, none⟩ = some (got w' W3.heap.size (k * 3 + 2)) ∧ (∀ o, w'.frozen? ⟨W3.heap.size, o, none⟩ = false) ∧ Hid (PInv w.heap.size #[.slice x n cp, .slice x' n' cp', Value.slice (some ⟨W3.heap.size, 0, none⟩) cs.length cs.length] w W3 W3.heap.size 72 3 cs.length k cEl w')) := by
                intro w' hI
                refine ⟨?_, ?_, ?_, ?_, hI.got (by omega), hI.got (by omega), hI.got (by omega), hI.free, hI⟩
                · rw [hI.cellE]; rfl
                · rw [hI.old hbE]; exact e0
                · rw [hI.old hbE]; exact e1
                · rw [hI.old hbE]; exact e2
              clear hc hlen e0 e1 e2 hd hb
              go_wp2_with fail
              go_region_held3 (fun w' => w'.cell? ⟨w.heap.size, 2, none⟩ = some (Value.slice (some ⟨W3.heap.size, 0, none⟩) cs.length cs.length) ∧ w'.cell? ⟨b, o, none⟩ = some c0 ∧ w'.cell? ⟨b, o + 1, none⟩ = some c1 ∧ w'.cell? ⟨b, o + 2, none⟩ = some (.string str) ∧ w'.cell? ⟨W3.heap.size, k * 3, none⟩ = some (got w' W3.heap.size (k * 3)) ∧ w'.cell? ⟨W3.heap.size, k * 3 + 1, none⟩ = some (got w' W3.heap.size (k * 3 + 1)) ∧ w'.cell? ⟨W3.heap.size, k * 3 + 2, none⟩ = some (got w' W3.heap.size (k * 3 + 2)) ∧ (∀ o, w'.frozen? ⟨W3.heap.size, o, none⟩ = false) ∧ Hid (PInv w.heap.size #[.slice x n cp, .slice x' n' cp', Value.slice (some ⟨W3.heap.size, 0, none⟩) cs.length cs.length] w W3 W3.heap.size 72 3 cs.length k cEl w'))
                (first | with_reducible exact SH.out _ (HI.out.drew (cStable _)) | with_reducible exact hS1 | with_reducible exact SH.out _ (hS1.2.2.2.2.2.2.2.2.out.poke3 (cStable _) hlt _ _ _))
                (first | (go_at_call 26; have hh := (‹_ ∧ _ ∧ _ ∧ _ ∧ _ ∧ _ ∧ _ ∧ _ ∧ Hid (PInv _ _ _ _ _ _ _ _ _ _ _)›).2.2.2.2.2.2.2.2; refine (toCert_any c0 c1 str d _ (HK.out _ hh).1 (HK.out _ hh).2.1 (HK.out _ hh).2.2).mono ?_; rintro e w1 ⟨a0, n0, p0, a1, n1, p1, rfl, hb0⟩; have hS1 := SH.out _ (hh.out.step (cStable _) hb0.out); clear hh))
              have HI1 : Hid (PInv w.heap.size #[.slice x n cp, .slice x' n' cp', Value.slice (some ⟨W3.heap.size, 0, none⟩) cs.length cs.length] w W3 W3.heap.size 72 3 cs.length (k + 1) cEl (((w1.setCell ⟨W3.heap.size, k * 3, none⟩ (.slice a0 n0 p0)).setCell ⟨W3.heap.size, k * 3 + 1, none⟩ (.slice a1 n1 p1)).setCell ⟨W3.heap.size, k * 3 + 2, none⟩ (.string str))) := hS1.2.2.2.2.2.2.2.2.out.put3 (cStable _) hlt _ _ _ trivial
              clear hS1 hb0 SH HK HI
              rename_i hHeld
              clear hHeld
              generalize (((w1.setCell ⟨W3.heap.size, k * 3, none⟩ (.slice a0 n0 p0)).setCell ⟨W3.heap.size, k * 3 + 1, none⟩ (.slice a1 n1 p1)).setCell ⟨W3.heap.size, k * 3 + 2, none⟩ (.string str)) = W4 at HI1 ⊢
              go_wp2
              go_roundg (gk - 1)
              case measure => have := HG.out; omega
              case rel => exact ⟨k + 1, by have := HG.out; show _ = _; omega, by go_num, HI1⟩
            · go_wp2
              go_meet
              case rel =>
                have e : k = cs.length := by omega
                subst e
                have hI := HI.out
                exact ⟨_, hI.e, hI.below, (HK2.out.keep (fun b hb => hI.mid b hb.1 hb.2)).mono (fun b hb => ⟨hb.1, Nat.lt_trans hb.2 hI.row.lt⟩), (HR2.out.keep (fun b hb => hI.mid b hb.1 hb.2)).mono (fun b hb => ⟨hb.1, Nat.lt_trans hb.2 hI.row.lt⟩)⟩
      case rest =>
        obtain ⟨vc, HE3, HB3, HK3, HR3⟩ := hcut
        go_wp2
        go_ret
        exact ⟨rfl, _, _, _, HE3, HK3, HR3, HB3⟩
end Go.Proofs.Qxb6606015a
