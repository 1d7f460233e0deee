/-
  WALK: zzBytes (function 19): it returns some bool and leaves the world as it was.
-/
import Derived.Test.Qxb6606015aSizes
import Derived.Deep.DeepCutAuto
namespace Go.Proofs.Qxb6606015a
open Go.RowKit
set_option linter.unusedVariables false
set_option linter.unusedSimpArgs false

def SomeBool2 (e : Ending) : Prop := ∃ r, e = .returned (.bool r)

theorem Ps.shape2 {p : Nat → Prop} {w : World} {v : Value} {s : Option ByteArray} (h : Ps p w v s) : ∃ po, v = .pointer po := by
  rcases h with ⟨rfl, _⟩ | ⟨b, off, str, rfl, _⟩ <;> exact ⟨_, rfl⟩

set_option maxRecDepth 100000 in
set_option maxHeartbeats 8000000 in
theorem zzBytes19_any {p : Nat → Prop} (v0 v1 v2 : Value) (ks : List KeyD) (rs : List RvD) (cs : List CertD) (w : World) (h0 : KeysAt p w v0 ks) (h1 : RvsAt p w v1 rs) (h2 : CertsAt p w v2 cs) :
    Calls Try.prog 19 #[v0, v1, v2] w fun e w' => SomeBool2 e ∧ w = w' := by
  obtain ⟨ao0, cap0, rfl, hl0, _⟩ := Sl.shape h0
  obtain ⟨ao1, cap1, rfl, hl1, _⟩ := Sl.shape h1
  obtain ⟨ao2, cap2, rfl, hl2, _⟩ := Sl.shape h2
  have hl0' : ks.length ≤ 140737488355328 := by omega
  have hl1' : rs.length ≤ 140737488355328 := by omega
  have hl2' : cs.length ≤ 140737488355328 := by omega
  have H0 : Hid (KeysAt p w _ ks) := h0
  have H1 : Hid (RvsAt p w _ rs) := h1
  have H2 : Hid (CertsAt p w _ cs) := h2
  clear hl0 hl1 hl2 h0 h1 h2
  go_enter Try.func19, Try.ntmps19
  go_wp2
  any_goals (go_ret; exact ⟨⟨_, rfl⟩, rfl⟩)
  go_loopg [7, 8] ks.length (fun g r i wr => ∃ (k : Nat) (s : Int), Hid (k + g = ks.length) ∧ i = .int .i64 k ∧ r = .int .i64 s ∧ 0 ≤ s ∧ s ≤ 1048576 ∧ w = wr)
  case atStart => exact ⟨0, _, Nat.zero_add _, rfl, rfl, by omega, by omega, rfl⟩
  case round =>
    obtain ⟨k, s, HG, rfl, rfl, hs0, hs1, hwr⟩ := hrel
    subst hwr
    have hk : k ≤ ks.length := by have := HG.out; omega
    by_cases hlt : k < ks.length
    · as_aux_lemma =>
        obtain ⟨b, o, cls, hi, hb, hlen, hc, c0, c1, rfl, hk0, hk1⟩ := Sl.at H0.out Try.underlying22 sized47 k hlt
        obtain ⟨e0, e1, e2⟩ := cells3 hc
        obtain ⟨a0, cp0, rfl, hl0, _⟩ := hk0.shape
        obtain ⟨a1, cp1, rfl, hl1, _⟩ := hk1.shape
        generalize hd : ks.getD k ⟨[], [], 0⟩ = d at *
        clear hc hlen hk0 hk1 hd H0 H1 H2
        go_wp2
        any_goals (go_ret; exact ⟨⟨_, rfl⟩, rfl⟩)
        go_roundg (gk - 1)
        case measure => have := HG.out; omega
        case rel => exact ⟨k + 1, _, by have := HG.out; show _ = _; omega, by go_num, rfl, by omega, by omega, rfl⟩
    · go_wp2
      any_goals (go_ret; exact ⟨⟨_, rfl⟩, rfl⟩)
      clear H0 hlt hk HG
      go_loopg [7, 9] rs.length (fun g r i wr => ∃ (k : Nat) (s : Int), Hid (k + g = rs.length) ∧ i = .int .i64 k ∧ r = .int .i64 s ∧ 0 ≤ s ∧ s ≤ 1048576 ∧ w = wr)
      case atStart => exact ⟨0, _, Nat.zero_add _, rfl, rfl, by omega, by omega, rfl⟩
      case round =>
        obtain ⟨k, s', HG, rfl, rfl, hs0', hs1', hwr⟩ := hrel
        subst hwr
        have hk : k ≤ rs.length := by have := HG.out; omega
        by_cases hlt : k < rs.length
        · as_aux_lemma =>
            obtain ⟨b, o, cls, hi, hb, hlen, hc, c0, c1, c2, c3, c4, rfl, hk0, ⟨hk1, hk2, hk3⟩, hk4⟩ := Sl.at H1.out Try.underlying23 sized54 k hlt
            obtain ⟨e0, e1, e2, e3, e4⟩ := cells5 hc
            obtain ⟨a0, cp0, rfl, hl0, _⟩ := hk0.shape
            obtain ⟨a3, cp3, rfl, hl3, _⟩ := hk3.shape
            obtain ⟨a4, cp4, rfl, hl4, _⟩ := Sl.shape hk4
            generalize hd : rs.getD k ⟨[], ⟨none, none, []⟩, []⟩ = d at *
            have HD : Hid (DigsAt p w _ _) := hk4
            obtain ⟨pm1, rfl⟩ := hk1.shape2
            obtain ⟨pm2, rfl⟩ := hk2.shape2
            have HK1 : Hid (Ps p w (.pointer pm1) d.comp.mt) := hk1
            have HK2 : Hid (Ps p w (.pointer pm2) d.comp.ver) := hk2
            have hl4' : d.digs.length ≤ 140737488355328 := by omega
            clear hc hlen hk0 hk1 hk2 hk3 hk4 hd hl4 H1 H2
            go_upto_if 100 with fail
            try any_goals (go_ret; exact ⟨⟨_, rfl⟩, rfl⟩)
            go_cut [7] (fun z wc => ∃ t : Int, z = .int .i64 t ∧ 0 ≤ t ∧ t ≤ 1048576 ∧ w = wc)
            case first =>
              rcases HK1.out with ⟨e, _⟩ | ⟨bm, om, sm, e, _, hmc, hms, _⟩
              · injection e with e
                subst e
                go_wp2
                go_meet
                case rel => exact ⟨_, rfl, by omega, by omega, rfl⟩
              · injection e with e
                subst e
                go_wp2
                any_goals (go_ret; exact ⟨⟨_, rfl⟩, rfl⟩)
                go_meet
                case rel => exact ⟨_, rfl, by omega, by omega, rfl⟩
            case rest =>
              obtain ⟨t1, rfl, t10, t11, hwc⟩ := hcut
              subst hwc
              go_upto_if 130 with fail
              try any_goals (go_ret; exact ⟨⟨_, rfl⟩, rfl⟩)
              go_cut [7] (fun z wc => ∃ t : Int, z = .int .i64 t ∧ 0 ≤ t ∧ t ≤ 1048576 ∧ w = wc)
              case first =>
                rcases HK2.out with ⟨e, _⟩ | ⟨bm, om, sm, e, _, hmc, hms, _⟩
                · injection e with e
                  subst e
                  go_wp2
                  go_meet
                  case rel => exact ⟨_, rfl, by omega, by omega, rfl⟩
                · injection e with e
                  subst e
                  go_wp2
                  any_goals (go_ret; exact ⟨⟨_, rfl⟩, rfl⟩)
                  go_meet
                  case rel => exact ⟨_, rfl, by omega, by omega, rfl⟩
              case rest =>
                obtain ⟨t2, rfl, t20, t21, hwc⟩ := hcut
                subst hwc
                obtain ⟨gko, hgko⟩ : ∃ g, g = gk := ⟨gk, rfl⟩
                have HGK : Hid (gko = gk) := hgko
                rw [← hgko] at HG
                clear hgko
                go_wp2
                any_goals (go_ret; exact ⟨⟨_, rfl⟩, rfl⟩)
                go_loopg [7, 10] d.digs.length (fun g r i wr => ∃ (k : Nat) (s : Int), Hid (k + g = d.digs.length) ∧ i = .int .i64 k ∧ r = .int .i64 s ∧ 0 ≤ s ∧ s ≤ 1048576 ∧ w = wr)
                case atStart => exact ⟨0, _, Nat.zero_add _, rfl, rfl, by omega, by omega, rfl⟩
                case round =>
                  obtain ⟨j, t, HGj, rfl, rfl, ht0, ht1, hwr⟩ := hrel
                  subst hwr
                  have hj : j ≤ d.digs.length := by have := HGj.out; omega
                  by_cases hjt : j < d.digs.length
                  · obtain ⟨b', o', cls', hi', hb', hlen', hc', c, rfl, hkc⟩ := Sl.at HD.out Try.underlying52 sized25 j hjt
                    have ec := hc' 0 (by omega)
                    simp only [Nat.add_zero, List.getD_cons_zero] at ec
                    obtain ⟨a5, cp5, rfl, hl5, _⟩ := hkc.shape
                    generalize hz : d.digs.getD j [] = z at *
                    clear hc' hlen' hkc hz
                    go_wp2
                    any_goals (go_ret; exact ⟨⟨_, rfl⟩, rfl⟩)
                    go_roundg (gk - 1)
                    case measure => have := HGj.out; omega
                    case rel => exact ⟨j + 1, _, by have := HGj.out; show _ = _; omega, by go_num, rfl, by omega, by omega, rfl⟩
                  · go_wp2
                    go_roundg (gko - 1)
                    case measure => have := HG.out; have := HGK.out; omega
                    case rel => exact ⟨k + 1, _, by have := HG.out; show _ = _; omega, by go_num, rfl, by omega, by omega, rfl⟩
        · go_wp2
          any_goals (go_ret; exact ⟨⟨_, rfl⟩, rfl⟩)
          clear H1 hlt hk HG
          go_loopg [7, 11] cs.length (fun g r i wr => ∃ (k : Nat) (s : Int), Hid (k + g = cs.length) ∧ i = .int .i64 k ∧ r = .int .i64 s ∧ 0 ≤ s ∧ s ≤ 1048576 ∧ w = wr)
          case atStart => exact ⟨0, _, Nat.zero_add _, rfl, rfl, by omega, by omega, rfl⟩
          case round =>
            obtain ⟨k, s'', HG, rfl, rfl, hs0'', hs1'', hwr⟩ := hrel
            subst hwr
            have hk : k ≤ cs.length := by have := HG.out; omega
            by_cases hlt : k < cs.length
            · as_aux_lemma =>
                obtain ⟨b, o, cls, hi, hb, hlen, hc, c0, c1, str, rfl, hstr, hk0, hk1⟩ := Sl.at H2.out Try.underlying24 sized62 k hlt
                obtain ⟨e0, e1, e2⟩ := cells3 hc
                obtain ⟨a0, cp0, rfl, hl0, _⟩ := hk0.shape
                obtain ⟨a4, cp4, rfl, hl4, _⟩ := Sl.shape hk1
                generalize hd : cs.getD k ⟨[], []⟩ = d at *
                have HD : Hid (CompsAt p w _ _) := hk1
                have hl4' : d.comps.length ≤ 140737488355328 := by omega
                clear hc hlen hk0 hk1 hd hl4 H2
                obtain ⟨gko, hgko⟩ : ∃ g, g = gk := ⟨gk, rfl⟩
                have HGK : Hid (gko = gk) := hgko
                rw [← hgko] at HG
                clear hgko
                go_wp2
                any_goals (go_ret; exact ⟨⟨_, rfl⟩, rfl⟩)
                go_loopg [7, 12] d.comps.length (fun g r i wr => ∃ (k : Nat) (s : Int), Hid (k + g = d.comps.length) ∧ i = .int .i64 k ∧ r = .int .i64 s ∧ 0 ≤ s ∧ s ≤ 1048576 ∧ w = wr)
                case atStart => exact ⟨0, _, Nat.zero_add _, rfl, rfl, by omega, by omega, rfl⟩
                case round =>
                  obtain ⟨j, t, HGj, rfl, rfl, ht0, ht1, hwr⟩ := hrel
                  subst hwr
                  have hj : j ≤ d.comps.length := by have := HGj.out; omega
                  by_cases hjt : j < d.comps.length
                  · obtain ⟨b', o', cls', hi', hb', hlen', hc', c0', c1', c2', rfl, hk1, hk2, hk3⟩ := Sl.at HD.out Try.underlying60 sized51 j hjt
                    obtain ⟨e0', e1', e2'⟩ := cells3 hc'
                    obtain ⟨a3, cp3, rfl, hl3, _⟩ := hk3.shape
                    generalize hz : d.comps.getD j ⟨none, none, []⟩ = z at *
                    obtain ⟨pm1, rfl⟩ := hk1.shape2
                    obtain ⟨pm2, rfl⟩ := hk2.shape2
                    have HK1 : Hid (Ps p w (.pointer pm1) z.mt) := hk1
                    have HK2 : Hid (Ps p w (.pointer pm2) z.ver) := hk2
                    clear hc' hlen' hk1 hk2 hk3 hz
                    go_upto_if 291 with fail
                    try any_goals (go_ret; exact ⟨⟨_, rfl⟩, rfl⟩)
                    go_cut [7] (fun z wc => ∃ t : Int, z = .int .i64 t ∧ 0 ≤ t ∧ t ≤ 1048576 ∧ w = wc)
                    case first =>
                      rcases HK1.out with ⟨e, _⟩ | ⟨bm, om, sm, e, _, hmc, hms, _⟩
                      · injection e with e
                        subst e
                        go_wp2
                        go_meet
                        case rel => exact ⟨_, rfl, by omega, by omega, rfl⟩
                      · injection e with e
                        subst e
                        go_wp2
                        any_goals (go_ret; exact ⟨⟨_, rfl⟩, rfl⟩)
                        go_meet
                        case rel => exact ⟨_, rfl, by omega, by omega, rfl⟩
                    case rest =>
                      obtain ⟨t1, rfl, t10, t11, hwc⟩ := hcut
                      subst hwc
                      go_upto_if 330 with fail
                      try any_goals (go_ret; exact ⟨⟨_, rfl⟩, rfl⟩)
                      go_cut [7] (fun z wc => ∃ t : Int, z = .int .i64 t ∧ 0 ≤ t ∧ t ≤ 1048576 ∧ w = wc)
                      case first =>
                        rcases HK2.out with ⟨e, _⟩ | ⟨bm, om, sm, e, _, hmc, hms, _⟩
                        · injection e with e
                          subst e
                          go_wp2
                          go_meet
                          case rel => exact ⟨_, rfl, by omega, by omega, rfl⟩
                        · injection e with e
                          subst e
                          go_wp2
                          any_goals (go_ret; exact ⟨⟨_, rfl⟩, rfl⟩)
                          go_meet
                          case rel => exact ⟨_, rfl, by omega, by omega, rfl⟩
                      case rest =>
                        obtain ⟨t2, rfl, t20, t21, hwc⟩ := hcut
                        subst hwc
                        go_wp2
                        any_goals (go_ret; exact ⟨⟨_, rfl⟩, rfl⟩)
                        go_roundg (gk - 1)
                        case measure => have := HGj.out; omega
                        case rel => exact ⟨j + 1, _, by have := HGj.out; show _ = _; omega, by go_num, rfl, by omega, by omega, rfl⟩
                  · go_wp2
                    any_goals (go_ret; exact ⟨⟨_, rfl⟩, rfl⟩)
                    go_roundg (gko - 1)
                    case measure => have := HG.out; have := HGK.out; omega
                    case rel => exact ⟨k + 1, _, by have := HG.out; show _ = _; omega, by go_num, rfl, by omega, by omega, rfl⟩
            · go_wp2
              go_ret
              exact ⟨⟨_, rfl⟩, rfl⟩
end Go.Proofs.Qxb6606015a
