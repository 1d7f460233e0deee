/-
  WALKS: sizeComps, sizeKeys, sizeRVs, sizeCerts, sizeEnd: each returns a number that is not negative; no old memory turns.
-/
import Derived.Test.Qxb6606015aLeaf2
namespace Go.Proofs.Qxb6606015a
open Go.RowKit
set_option linter.unusedVariables false
set_option linter.unusedSimpArgs false

theorem Below.lt_of {w w' : World} (h : Below w.heap.size w w') {p : Nat → Prop} (hp : ∀ b, p b → b < w.heap.size) : ∀ b, p b → b < w'.heap.size := fun b hb => Nat.lt_of_lt_of_le (hp b hb) h.size

theorem Below.then {w w1 w2 : World} (h : Below w.heap.size w w1) (h' : Below w1.heap.size w1 w2) : Below w.heap.size w w2 := h.trans (h'.mono h.size)

theorem addSat_some (n m : Int) (w : World) (hn : 0 ≤ n) (hm : 0 ≤ m) :
    Calls Try.prog 7 #[.int .i64 n, .int .i64 m] w fun e w' => (∃ r, e = .returned (.int .i64 r) ∧ 0 ≤ r ∧ r ≤ 2097152) ∧ w = w' :=
  (addSat_any n m w hn hm).mono fun e w' h => ⟨⟨_, h.1, addS_bd hn hm⟩, h.2.symm⟩

set_option maxHeartbeats 1000000 in
theorem sizeComps_any {p : Nat → Prop} (v : Value) (ds : List CompD) (w : World) (h : CompsAt p w v ds) (hp : ∀ b, p b → b < w.heap.size) :
    Calls Try.prog 35 #[v] w fun e w' => ∃ r, e = .returned (.int .i64 r) ∧ 0 ≤ r ∧ r ≤ 2097152 ∧ Below w.heap.size w w' := by
  obtain ⟨ao, cap, rfl, hl, _⟩ := Sl.shape h
  have hl' : ds.length ≤ 140737488355328 := by omega
  clear hl
  go_enter Try.func35, Try.ntmps35
  go_wp2
  go_loopw [3, 4] (fun r i wr => ∃ (k : Nat) (s : Int), k ≤ ds.length ∧ i = .int .i64 k ∧ r = .int .i64 s ∧ 0 ≤ s ∧ s ≤ 2097152 ∧ Below w.heap.size w wr) (fun _ i _ => ds.length - (intOf i).toNat)
  case atStart => exact ⟨0, 0, Nat.zero_le _, rfl, rfl, by omega, by omega, Below.refl _ _⟩
  case round =>
    obtain ⟨k, s, hk, rfl, rfl, hs0, hs1, hbel⟩ := hrel
    have hp' := Below.lt_of hbel hp
    have h' := CompsAt.keep h (Below.keeps hbel hp)
    have HB : Hid (Below w.heap.size w wr) := hbel
    by_cases hlt : k < ds.length
    · by_cases hs : s ≤ 1048576
      · obtain ⟨b, o, cs, hi, hb, hlen, hc, c0, c1, c2, rfl, hcomp⟩ := Sl.at h' Try.underlying60 sized51 k hlt
        obtain ⟨e0, e1, e2⟩ := cells3 hc
        clear hc hlen h h'
        have HP : Hid (∀ b, p b → b < wr.heap.size) := hp'
        have HC : Hid (CompAt p wr c0 c1 c2 (ds.getD k ⟨none, none, []⟩)) := hcomp
        clear hbel hp' hp hcomp
        go_wp2_with fail
        refine (sizeComp_any c0 c1 c2 _ wr HC.out HP.out).mono ?_
        rintro e w1 ⟨r, rfl, hr0, hr1, hb1⟩
        have HB1 : Hid (Below wr.heap.size wr w1) := hb1
        clear hb1
        go_wp2_with fail
        refine (addSat_any _ _ _ hs0 hr0).mono ?_
        rintro e w2 ⟨rfl, rfl⟩
        have hbd := addS_bd hs0 hr0
        go_wp2
        go_roundw
        case rel => exact ⟨k + 1, _, by omega, by go_num, rfl, hbd.1, hbd.2, Below.then HB.out HB1.out⟩
        case measure => simp [intOf]; omega
      · clear h h' hbel hp hp'
        go_wp2
        go_ret
        exact ⟨_, rfl, hs0, hs1, HB.out⟩
    · clear h h' hbel hp hp'
      go_wp2
      go_ret
      exact ⟨_, rfl, hs0, hs1, HB.out⟩

set_option maxHeartbeats 1000000 in
theorem sizeKeys_any {p : Nat → Prop} (v : Value) (ds : List KeyD) (w : World) (h : KeysAt p w v ds) (hp : ∀ b, p b → b < w.heap.size) :
    Calls Try.prog 22 #[v] w fun e w' => ∃ r, e = .returned (.int .i64 r) ∧ 0 ≤ r ∧ r ≤ 2097152 ∧ Below w.heap.size w w' := by
  obtain ⟨ao, cap, rfl, hl, _⟩ := Sl.shape h
  have hl' : ds.length ≤ 140737488355328 := by omega
  clear hl
  go_enter Try.func22, Try.ntmps22
  go_wp2
  go_loopw [3, 4] (fun r i wr => ∃ (k : Nat) (s : Int), k ≤ ds.length ∧ i = .int .i64 k ∧ r = .int .i64 s ∧ 0 ≤ s ∧ s ≤ 2097152 ∧ Below w.heap.size w wr) (fun _ i _ => ds.length - (intOf i).toNat)
  case atStart => exact ⟨0, 0, Nat.zero_le _, rfl, rfl, by omega, by omega, Below.refl _ _⟩
  case round =>
    obtain ⟨k, s, hk, rfl, rfl, hs0, hs1, hbel⟩ := hrel
    have h' := KeysAt.keep h (Below.keeps hbel hp)
    have HB : Hid (Below w.heap.size w wr) := hbel
    clear h hp hbel
    by_cases hlt : k < ds.length
    · by_cases hs : s ≤ 1048576
      · obtain ⟨b, o, cs, hi, hb, hlen, hc, c0, c1, rfl, hk0, hk1⟩ := Sl.at h' Try.underlying22 sized47 k hlt
        obtain ⟨e0, e1, e2⟩ := cells3 hc
        obtain ⟨a0, cp0, rfl, hl0, _⟩ := hk0.shape
        obtain ⟨a1, cp1, rfl, hl1, _⟩ := hk1.shape
        clear hc hlen h' hk0 hk1
        go_wp2
        go_quiet ((go_at_call 7; refine Calls.quiet_of_same (addSat_any _ _ _ ?_ ?_) <;> (repeat' (first | omega | apply addS_nn))))
        go_wp2
        go_roundw
        case rel =>
          refine ⟨k + 1, _, by omega, by go_num, rfl, ?_, ?_, below_drewN HB.out _⟩
          · repeat' (first | omega | apply addS_nn)
          · refine (addS_bd ?_ ?_).2 <;> (repeat' (first | omega | apply addS_nn))
        case measure => simp [intOf]; omega
      · clear h'
        go_wp2
        go_ret
        exact ⟨_, rfl, hs0, hs1, HB.out⟩
    · clear h'
      go_wp2
      go_ret
      exact ⟨_, rfl, hs0, hs1, HB.out⟩

set_option maxHeartbeats 2000000 in
theorem sizeRVs_any {p : Nat → Prop} (v : Value) (ds : List RvD) (w : World) (h : RvsAt p w v ds) (hp : ∀ b, p b → b < w.heap.size) :
    Calls Try.prog 23 #[v] w fun e w' => ∃ r, e = .returned (.int .i64 r) ∧ 0 ≤ r ∧ r ≤ 2097152 ∧ Below w.heap.size w w' := by
  obtain ⟨ao, cap, rfl, hl, _⟩ := Sl.shape h
  have hl' : ds.length ≤ 140737488355328 := by omega
  clear hl
  go_enter Try.func23, Try.ntmps23
  go_wp2
  go_loopw [3, 4] (fun r i wr => ∃ (k : Nat) (s : Int), k ≤ ds.length ∧ i = .int .i64 k ∧ r = .int .i64 s ∧ 0 ≤ s ∧ s ≤ 2097152 ∧ Below w.heap.size w wr) (fun _ i _ => ds.length - (intOf i).toNat)
  case atStart => exact ⟨0, 0, Nat.zero_le _, rfl, rfl, by omega, by omega, Below.refl _ _⟩
  case round =>
    obtain ⟨k, s, hk, rfl, rfl, hs0, hs1, hbel⟩ := hrel
    have hp' := Below.lt_of hbel hp
    have h' := RvsAt.keep h (Below.keeps hbel hp)
    have HB : Hid (Below w.heap.size w wr) := hbel
    clear h hp hbel
    by_cases hlt : k < ds.length
    · by_cases hs : s ≤ 1048576
      · obtain ⟨b, o, cs, hi, hb, hlen, hc, c0, c1, c2, c3, c4, rfl, hk0, hk1, hk2⟩ := Sl.at h' Try.underlying23 sized54 k hlt
        obtain ⟨e0, e1, e2, e3, e4⟩ := cells5 hc
        obtain ⟨a0, cp0, rfl, hl0, _⟩ := hk0.shape
        obtain ⟨a4, cp4, rfl, hl4, _⟩ := Sl.shape hk2
        generalize hd : ds.getD k ⟨[], ⟨none, none, []⟩, []⟩ = d at *
        clear hc hlen h' hk0 hd
        have hbw := hp' b hb
        have HP : Hid (∀ b, p b → b < wr.heap.size) := hp'
        have HC : Hid (CompAt p wr c1 c2 c3 _) := hk1
        have HD : Hid (DigsAt p wr _ _) := hk2
        clear hk1 hk2 hp'
        go_wp2_with fail
        refine (addSat_some _ _ _ (by omega) (by omega)).mono ?_
        rintro e w1 ⟨⟨r1, rfl, hr10, hr11⟩, rfl⟩
        go_wp2_with fail
        refine (addSat_some _ _ _ (by omega) (by omega)).mono ?_
        rintro e w1 ⟨⟨r2, rfl, hr20, hr21⟩, rfl⟩
        go_wp2_with fail
        refine (sizeComp_any c1 c2 c3 _ wr HC.out HP.out).mono ?_
        rintro e w1 ⟨r3, rfl, hr30, hr31, hb1⟩
        have HB1 : Hid (Below wr.heap.size wr w1) := hb1
        have e4' : w1.cell? ⟨b, o + 4, none⟩ = _ := (hb1.cell hbw).trans e4
        have HD1 : Hid (DigsAt p w1 _ _) := DigsAt.keep HD.out (Below.keeps hb1 HP.out)
        clear hb1 e0 e1 e2 e3 e4 HD
        go_wp2_with fail
        refine (addSat_some _ _ _ (by omega) (by omega)).mono ?_
        rintro e w1' ⟨⟨r4, rfl, hr40, hr41⟩, rfl⟩
        have hl4' : d.digs.length ≤ 140737488355328 := by omega
        clear hl4
        go_wp2
        go_loop [3, 6] (fun r i => ∃ (j : Nat) (t : Int), j ≤ d.digs.length ∧ i = .int .i64 j ∧ r = .int .i64 t ∧ 0 ≤ t ∧ t ≤ 2097152) (fun _ i => d.digs.length - (intOf i).toNat)
        case atStart => exact ⟨0, _, Nat.zero_le _, rfl, rfl, hr40, hr41⟩
        case round =>
          obtain ⟨j, t, hj, rfl, rfl, ht0, ht1⟩ := hrel
          by_cases hjt : j < d.digs.length
          · by_cases ht : t ≤ 1048576
            · obtain ⟨b', o', cs, hi', hb', hlen', hc', c, rfl, hkc⟩ := Sl.at HD1.out Try.underlying52 sized25 j hjt
              have ec := hc' 0 (by omega)
              simp only [Nat.add_zero, List.getD_cons_zero] at ec
              obtain ⟨a5, cp5, rfl, hl5, _⟩ := hkc.shape
              clear hc' hlen' hkc
              go_wp2_with fail
              refine (addSat_some _ _ _ (by omega) (by omega)).mono ?_
              rintro e w1' ⟨⟨r5, rfl, hr50, hr51⟩, rfl⟩
              go_wp2_with fail
              refine (addSat_some _ _ _ (by omega) (by omega)).mono ?_
              rintro e w1' ⟨⟨r6, rfl, hr60, hr61⟩, rfl⟩
              go_wp2
              go_round
              case rel => exact ⟨j + 1, _, by omega, by go_num, rfl, hr60, hr61⟩
              case measure => simp [intOf]; omega
            · go_wp2
              go_roundw
              case rel => exact ⟨k + 1, _, by omega, by go_num, rfl, ht0, ht1, Below.then HB.out HB1.out⟩
              case measure => simp [intOf]; omega
          · go_wp2
            go_roundw
            case rel => exact ⟨k + 1, _, by omega, by go_num, rfl, ht0, ht1, Below.then HB.out HB1.out⟩
            case measure => simp [intOf]; omega
      · clear h' hp'
        go_wp2
        go_ret
        exact ⟨_, rfl, hs0, hs1, HB.out⟩
    · clear h' hp'
      go_wp2
      go_ret
      exact ⟨_, rfl, hs0, hs1, HB.out⟩

set_option maxHeartbeats 2000000 in
theorem sizeCerts_any {p : Nat → Prop} (v : Value) (ds : List CertD) (w : World) (h : CertsAt p w v ds) (hp : ∀ b, p b → b < w.heap.size) :
    Calls Try.prog 24 #[v] w fun e w' => ∃ r, e = .returned (.int .i64 r) ∧ 0 ≤ r ∧ r ≤ 2097152 ∧ Below w.heap.size w w' := by
  obtain ⟨ao, cap, rfl, hl, _⟩ := Sl.shape h
  have hl' : ds.length ≤ 140737488355328 := by omega
  clear hl
  go_enter Try.func24, Try.ntmps24
  go_wp2
  go_loopw [3, 4] (fun r i wr => ∃ (k : Nat) (s : Int), k ≤ ds.length ∧ i = .int .i64 k ∧ r = .int .i64 s ∧ 0 ≤ s ∧ s ≤ 2097152 ∧ Below w.heap.size w wr) (fun _ i _ => ds.length - (intOf i).toNat)
  case atStart => exact ⟨0, 0, Nat.zero_le _, rfl, rfl, by omega, by omega, Below.refl _ _⟩
  case round =>
    obtain ⟨k, s, hk, rfl, rfl, hs0, hs1, hbel⟩ := hrel
    have hp' := Below.lt_of hbel hp
    have h' := CertsAt.keep h (Below.keeps hbel hp)
    have HB : Hid (Below w.heap.size w wr) := hbel
    clear h hp hbel
    by_cases hlt : k < ds.length
    · by_cases hs : s ≤ 1048576
      · obtain ⟨b, o, cs, hi, hb, hlen, hc, c0, c1, str, rfl, hstr, hk0, hk1⟩ := Sl.at h' Try.underlying24 sized62 k hlt
        obtain ⟨e0, e1, e2⟩ := cells3 hc
        obtain ⟨a0, cp0, rfl, hl0, _⟩ := hk0.shape
        obtain ⟨a1, cp1, hc1e, _, _⟩ := Sl.shape hk1
        generalize hd : ds.getD k ⟨[], []⟩ = d at *
        clear hc hlen h' hk0 hd
        have hbw := hp' b hb
        have HP : Hid (∀ b, p b → b < wr.heap.size) := hp'
        have HC : Hid (CompsAt p wr c1 d.comps) := hk1
        subst hc1e
        clear hk1 hp'
        go_wp2_with fail
        refine (addSat_some _ _ _ (by omega) (by omega)).mono ?_
        rintro e w1 ⟨⟨r1, rfl, hr10, hr11⟩, rfl⟩
        go_wp2_with fail
        refine (addSat_some _ _ _ (by omega) (by omega)).mono ?_
        rintro e w1 ⟨⟨r2, rfl, hr20, hr21⟩, rfl⟩
        go_wp2_with fail
        refine (sizeComps_any _ _ wr HC.out HP.out).mono ?_
        rintro e w1 ⟨r3, rfl, hr30, hr31, hb1⟩
        have HB1 : Hid (Below wr.heap.size wr w1) := hb1
        have e2' : w1.cell? ⟨b, o + 2, none⟩ = _ := (hb1.cell hbw).trans e2
        clear hb1 e0 e1 e2
        go_wp2_with fail
        refine (addSat_some _ _ _ (by omega) (by omega)).mono ?_
        rintro e w1' ⟨⟨r4, rfl, hr40, hr41⟩, rfl⟩
        go_wp2_with fail
        refine (addSat_some _ _ _ (by omega) (by omega)).mono ?_
        rintro e w1' ⟨⟨r5, rfl, hr50, hr51⟩, rfl⟩
        go_wp2
        go_roundw
        case rel => exact ⟨k + 1, _, by omega, by go_num, rfl, hr50, hr51, Below.then HB.out HB1.out⟩
        case measure => simp [intOf]; omega
      · clear h' hp'
        go_wp2
        go_ret
        exact ⟨_, rfl, hs0, hs1, HB.out⟩
    · clear h' hp'
      go_wp2
      go_ret
      exact ⟨_, rfl, hs0, hs1, HB.out⟩

set_option maxHeartbeats 1000000 in
theorem sizeEnd_any {p : Nat → Prop} (v0 v1 v2 : Value) (ks : List KeyD) (rs : List RvD) (cs : List CertD) (w : World) (h0 : KeysAt p w v0 ks) (h1 : RvsAt p w v1 rs) (h2 : CertsAt p w v2 cs) (hp : ∀ b, p b → b < w.heap.size) :
    Calls Try.prog 8 #[v0, v1, v2] w fun e w' => ∃ r, e = .returned (.int .i64 r) ∧ 0 ≤ r ∧ Below w.heap.size w w' := by
  have H0 : Hid (KeysAt p w v0 ks) := h0
  have H1 : Hid (RvsAt p w v1 rs) := h1
  have H2 : Hid (CertsAt p w v2 cs) := h2
  have HP : Hid (∀ b, p b → b < w.heap.size) := hp
  clear h0 h1 h2 hp
  go_enter Try.func8, Try.ntmps8
  go_wp2_with fail
  refine (sizeKeys_any v0 ks w H0.out HP.out).mono ?_
  rintro e w1 ⟨r1, rfl, hr10, hr11, hb1⟩
  have HB1 : Hid (Below w.heap.size w w1) := hb1
  clear hb1
  go_wp2_with fail
  refine (sizeRVs_any v1 rs w1 (H1.out.keep (Below.keeps HB1.out HP.out)) (Below.lt_of HB1.out HP.out)).mono ?_
  rintro e w2 ⟨r2, rfl, hr20, hr21, hb2⟩
  have HB2 : Hid (Below w.heap.size w w2) := Below.then HB1.out hb2
  clear hb2
  go_wp2_with fail
  refine (addSat_some _ _ _ (by omega) (by omega)).mono ?_
  rintro e w1' ⟨⟨r3, rfl, hr30, hr31⟩, rfl⟩
  go_wp2_with fail
  refine (sizeCerts_any v2 cs w2 (H2.out.keep (Below.keeps HB2.out HP.out)) (Below.lt_of HB2.out HP.out)).mono ?_
  rintro e w3 ⟨r4, rfl, hr40, hr41, hb3⟩
  have HB3 : Hid (Below w.heap.size w w3) := Below.then HB2.out hb3
  clear hb3
  go_wp2_with fail
  refine (addSat_some _ _ _ (by omega) (by omega)).mono ?_
  rintro e w1' ⟨⟨r5, rfl, hr50, hr51⟩, rfl⟩
  go_wp2
  go_ret
  exact ⟨_, rfl, hr50, HB3.out⟩
end Go.Proofs.Qxb6606015a
