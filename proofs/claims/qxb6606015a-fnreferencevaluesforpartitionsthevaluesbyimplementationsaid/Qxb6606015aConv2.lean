/-
  WALKS: toComps, toCert, ZZnewAttestationKey.
-/
import Derived.Test.Qxb6606015aConv
namespace Go.Proofs.Qxb6606015a
open Go.RowKit
set_option linter.unusedVariables false
set_option linter.unusedSimpArgs false

theorem make_eq {t e : Nat} {z : Value} {size bytes : Nat} (ht : Try.prog.underlying t = some (.slice e)) (hinfo : (Try.prog.info? e).map (fun i => (i.zero, i.size, i.bytes)) = some (some z, size, bytes))
    (n : Nat) (hb : bytes * n ≤ 281474976710656) (h63 : n ≤ 9223372036854775807) (w : World) :
    (Instr.makeSlice t (.int .i64 (n : Int)) (.int .i64 (n : Int))).run Try.prog w = .ok (.slice (some ⟨w.heap.size, 0, none⟩) n n) (w.alloc (.cells (madeCells z.cells (n * size)) e)) := by
  obtain ⟨i, hi, hzz⟩ := Option.map_eq_some_iff.1 hinfo
  simp only [Prod.mk.injEq] at hzz
  obtain ⟨hz, hs, hbb⟩ := hzz
  have hb' : (i.bytes : Int) * (n : Int) ≤ 281474976710656 := by
    rw [hbb]
    have h : ((bytes * n : Nat) : Int) ≤ 281474976710656 := by omega
    rwa [Int.natCast_mul] at h
  have hr := run_make (P := Try.prog) w t e i z ht hi hz .i64 .i64 n n (by omega) (Int.le_refl _) hb' (by omega)
  simp only [Int.toNat_natCast, hs] at hr
  exact hr

theorem core_made (w : World) (z : Array Value) (n t : Nat) : Core w.heap.size w n t (w.alloc (.cells (madeCells z n) t)) :=
  ⟨(Below.refl _ _).alloc (Nat.le_refl _) _, madeCells z n, by show (w.heap.push _)[w.heap.size]? = _; simp, size_madeCells _ _⟩

theorem info56 : (Try.prog.info? 56).map (fun i => (i.zero, i.size, i.bytes)) = some (some (.agg #[.pointer none, .pointer none, .slice none 0 0]), 3, 40) := by kernel_rfl

set_option maxHeartbeats 1000000 in
theorem toComps_any {p : Nat → Prop} (v : Value) (ds : List CompD) (w : World) (h : CompsAt p w v ds) (hp : ∀ b, p b → b < w.heap.size) :
    Calls Try.prog 36 #[v] w fun e w' => ∃ ao n cap, e = .returned (.slice ao n cap) ∧ Hid (Below w.heap.size w w') := by
  obtain ⟨ao, cap, rfl, hl, hnil⟩ := Sl.shape h
  have hq := fun w l c => Lib.run_eql_slice_nil (P := Try.prog) w 60 51 ao l c 0 0 Try.underlying60
  cases ao with
  | none =>
    clear hnil h hp
    go_enter Try.func36, Try.ntmps36
    go_wp2
    go_ret
    exact ⟨_, _, _, rfl, Below.refl _ _⟩
  | some a =>
    clear hnil
    have hmk := make_eq Try.underlying70 info56 ds.length (by omega) (by omega)
    have hl' : ds.length ≤ 140737488355328 := by omega
    have H : Hid (CompsAt p w (.slice (some a) ds.length cap) ds) := h
    have HP : Hid (∀ b, p b → b < w.heap.size) := hp
    have hix := fun (k : Nat) (hk : k < ds.length) w' => idx_eq Try.underlying70 sized56 w.heap.size 0 ds.length ds.length k hk w'
    simp only [Nat.zero_add] at hix
    clear h hp hl
    go_enter Try.func36, Try.ntmps36
    go_wp2
    have hC0 := core_made w #[.pointer none, .pointer none, .slice none 0 0] (ds.length * 3) 56
    clear hmk hq
    generalize w.alloc (.cells (madeCells #[.pointer none, .pointer none, .slice none 0 0] (ds.length * 3)) 56) = W1 at hC0 ⊢
    have HC0 : Hid (Core w.heap.size w (ds.length * 3) 56 W1) := hC0
    clear hC0
    go_loopw [4] (fun i wr => ∃ k : Nat, k ≤ ds.length ∧ i = .int .i64 k ∧ Hid (Core w.heap.size w (ds.length * 3) 56 wr)) (fun i _ => ds.length - (intOf i).toNat)
    case atStart => exact ⟨0, Nat.zero_le _, rfl, HC0⟩
    case round =>
      obtain ⟨k, hk, rfl, HC⟩ := hrel
      clear HC0
      by_cases hlt : k < ds.length
      · have h' := CompsAt.keep H.out (Below.keeps HC.out.1 HP.out)
        have hp' := Below.lt_of HC.out.1 HP.out
        obtain ⟨b, o, cs, hi, hb, hlen, hc, c0, c1, c2, rfl, hcomp⟩ := Sl.at h' Try.underlying60 sized51 k hlt
        obtain ⟨e0, e1, e2⟩ := cells3 hc
        have hix' := hix k hlt
        have HX : Hid (CompAt p wr c0 c1 c2 _) := hcomp
        have HP' : Hid (∀ b, p b → b < wr.heap.size) := hp'
        clear hc hlen h' hcomp hp' hix
        go_wp2_with fail
        refine (toComp_any c0 c1 c2 _ wr HX.out HP'.out).mono ?_
        rintro e w1 ⟨po0, po1, ao, m, cp, rfl, HR, HB⟩
        have HC1 : Hid (Core w.heap.size w (ds.length * 3) 56 w1) := HC.out.below HB.out
        have g0 := HC1.out.got (o := k * 3) (by omega)
        have g1 := HC1.out.got (o := k * 3 + 1) (by omega)
        have g2 := HC1.out.got (o := k * 3 + 2) (by omega)
        have f0 := HC1.out.free (k * 3)
        have f1 := HC1.out.free (k * 3 + 1)
        have f2 := HC1.out.free (k * 3 + 2)
        clear e0 e1 e2 HX HP' hi hb
        go_wp2
        go_roundw
        case rel => exact ⟨k + 1, by omega, by go_num, ((HC1.out.set _ _).set _ _).set _ _⟩
        case measure => simp [intOf]; omega
      · clear hix
        go_wp2
        go_ret
        exact ⟨_, _, _, rfl, HC.out.1⟩

set_option maxHeartbeats 400000 in
theorem newKey_any (a0 a1 : Option Addr) (n0 n1 p0 p1 : Nat) (t : Int) (w : World) :
    Calls Try.prog 25 #[.slice a0 n0 p0, .slice a1 n1 p1, .int .i64 t] w fun e w' => e = .returned (.agg #[.slice a0 n0 p0, .slice a1 n1 p1, .iface 3 (.int .i64 t)]) ∧ Hid (Below w.heap.size w w') := by
  go_enter Try.func25, Try.ntmps25
  go_wp2
  exact bodyPost_ret (v := .agg #[.slice a0 n0 p0, .slice a1 n1 p1, .iface 3 (.int .i64 t)]) (by simp [results, Try.results25, go_sem]) rfl ⟨rfl, (Below.refl _ _).alloc (Nat.le_refl _) _⟩

set_option maxHeartbeats 1000000 in
theorem toCert_any {p : Nat → Prop} (c0 c1 : Value) (str : ByteArray) (d : CertD) (w : World) (h0 : Ns p .u8 w c0 d.impl) (h1 : CompsAt p w c1 d.comps) (hp : ∀ b, p b → b < w.heap.size) :
    Calls Try.prog 26 #[.agg #[c0, c1, .string str]] w fun e w' => ∃ a0 n0 p0 a1 n1 p1, e = .returned (.agg #[.slice a0 n0 p0, .slice a1 n1 p1, .string str]) ∧ Hid (Below w.heap.size w w') := by
  have H0 : Hid (Ns p .u8 w c0 d.impl) := h0
  have H1 : Hid (CompsAt p w c1 d.comps) := h1
  have HP : Hid (∀ b, p b → b < w.heap.size) := hp
  clear h0 h1 hp
  go_enter Try.func26, Try.ntmps26
  go_wp2
  have F0 := heap_two0 w #[c0, c1, .string str] #[Value.slice none 0 0, Value.slice none 0 0, Value.string ⟨#[]⟩] 62 72
  have F1 := heap_two w #[c0, c1, .string str] #[Value.slice none 0 0, Value.slice none 0 0, Value.string ⟨#[]⟩] 62 72
  have F2 := below_two w #[c0, c1, .string str] #[Value.slice none 0 0, Value.slice none 0 0, Value.string ⟨#[]⟩] 62 72
  generalize (w.alloc (.cells #[c0, c1, .string str] 62)).alloc (.cells #[Value.slice none 0 0, Value.slice none 0 0, Value.string ⟨#[]⟩] 72) = W0 at F0 F1 F2 ⊢
  have HCore : Hid (Core (w.heap.size + 1) W0 3 72 W0) := ⟨Below.refl _ _, _, F1, rfl⟩
  have HF2 : Hid (Below w.heap.size w W0) := F2
  have SH : Hid (∀ w', Core (w.heap.size + 1) W0 3 72 w' → w'.cell? ⟨w.heap.size, 0, none⟩ = some c0 ∧ w'.cell? ⟨w.heap.size, 1, none⟩ = some c1 ∧ w'.cell? ⟨w.heap.size, 2, none⟩ = some (.string str) ∧ (∀ o, o < 3 → w'.cell? ⟨w.heap.size + 1, o, none⟩ = some (got w' (w.heap.size + 1) o)) ∧ (∀ o, w'.frozen? ⟨w.heap.size + 1, o, none⟩ = false) ∧ Hid (Core (w.heap.size + 1) W0 3 72 w')) := by
    intro w' hc
    refine ⟨?_, ?_, ?_, fun o ho => hc.got ho, hc.free, hc⟩
    all_goals
      rw [hc.cell (by omega), cells_of_block F0]
      rfl
  have HK : Hid (∀ w', Hid (Core (w.heap.size + 1) W0 3 72 w') → Ns p .u8 w' c0 d.impl ∧ CompsAt p w' c1 d.comps ∧ ∀ b, p b → b < w'.heap.size) := fun w' hc => by
    have hk : Keeps p w w' := fun b hb => (hc.out.1.block b (by have := HP.out b hb; omega)).trans (F2.block b (HP.out b hb))
    exact ⟨H0.out.keep hk, H1.out.keep hk, fun b hb => by have := HP.out b hb; have := hc.out.lt; omega⟩
  clear F0 F1 F2
  go_region_held3 (fun w' => w'.cell? ⟨w.heap.size, 0, none⟩ = some c0 ∧ w'.cell? ⟨w.heap.size, 1, none⟩ = some c1 ∧ w'.cell? ⟨w.heap.size, 2, none⟩ = some (.string str) ∧ (∀ o, o < 3 → w'.cell? ⟨w.heap.size + 1, o, none⟩ = some (got w' (w.heap.size + 1) o)) ∧ (∀ o, w'.frozen? ⟨w.heap.size + 1, o, none⟩ = false) ∧ Hid (Core (w.heap.size + 1) W0 3 72 w'))
    (first | exact SH.out _ HCore.out.drew | assumption | exact SH.out _ (((Core.set (‹_ ∧ _ ∧ _ ∧ _ ∧ _ ∧ Hid (Core _ _ _ _ _)›).2.2.2.2.2.out _ _).set _ _).set _ _))
    (first | (go_at_call 9; have hh := (‹_ ∧ _ ∧ _ ∧ _ ∧ _ ∧ Hid (Core _ _ _ _ _)›).2.2.2.2.2; refine (cloneBytes_val c0 d.impl _ (HK.out _ hh).1).mono ?_; rintro e w1 ⟨a0, n0, p0, rfl, hps0, hb0⟩; have hS1 := SH.out _ (Core.below hh.out hb0.out); clear hh) | (go_at_call 36; have hh := (‹_ ∧ _ ∧ _ ∧ _ ∧ _ ∧ Hid (Core _ _ _ _ _)›).2.2.2.2.2; refine (toComps_any c1 d.comps _ (HK.out _ hh).2.1 (HK.out _ hh).2.2).mono ?_; rintro e w2 ⟨a1, n1, p1, rfl, hb1⟩; have hS2 := SH.out _ (Core.below hh.out hb1.out); clear hh))
  have G := set3 hS2.2.2.2.2.2.out (by omega) (.slice a0 n0 p0) (.slice a1 n1 p1) (.string str)
  have HBF : Hid (Below w.heap.size w (((w2.setCell ⟨w.heap.size + 1, 0, none⟩ (.slice a0 n0 p0)).setCell ⟨w.heap.size + 1, 1, none⟩ (.slice a1 n1 p1)).setCell ⟨w.heap.size + 1, 2, none⟩ (.string str))) :=
    (HF2.out.trans (hS2.2.2.2.2.2.out.1.mono (by omega))).trans (G.2.2.2.1.mono (by omega))
  obtain ⟨q0, q1, q2, _⟩ := G
  clear hS1 hS2 hps0 hb0 hb1 SH HK H0 H1 HP HCore HF2
  rename_i hHeld
  clear hHeld
  generalize (((w2.setCell ⟨w.heap.size + 1, 0, none⟩ (.slice a0 n0 p0)).setCell ⟨w.heap.size + 1, 1, none⟩ (.slice a1 n1 p1)).setCell ⟨w.heap.size + 1, 2, none⟩ (.string str)) = W4 at q0 q1 q2 HBF ⊢
  go_wp2
  exact bodyPost_ret (v := .agg #[.slice a0 n0 p0, .slice a1 n1 p1, .string str]) (by simp [results, Try.results26, go_sem, q0, q1, q2]) rfl ⟨_, _, _, _, _, _, rfl, HBF⟩
end Go.Proofs.Qxb6606015a
