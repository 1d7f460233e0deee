/-
  WALKS: KeysFor, zzTags, ZZkeysForTags.
-/
import Derived.Test.Qxb6606015aEnd
namespace Go.Proofs.Qxb6606015a
open Go.RowKit
set_option linter.unusedVariables false
set_option linter.unusedSimpArgs false

theorem bytesEqual_val {p q : Nat → Prop} (v1 v2 : Value) (xs ys : List Int) (w : World) (b : Bool) (hd : decide (xs = ys) = b) (h1 : Ns p .u8 w v1 xs) (h2 : Ns q .u8 w v2 ys) (hx : Byt xs) (hy : Byt ys) :
    Calls Try.prog 29 #[v1, v2] w fun e w' => e = .returned (.bool b) ∧ w = w' :=
  (bytesEqual_any v1 v2 xs ys w h1 h2 hx hy).mono fun e w' h => ⟨by rw [h.1, hd], h.2.symm⟩

theorem alloc_three (w wr : World) (x0 x1 x2 : Value) (t : Nat) (hB : Below w.heap.size w wr) : (wr.alloc (.cells #[x0, x1, x2] t)).heap.size = wr.heap.size + 1 ∧ Below w.heap.size w (wr.alloc (.cells #[x0, x1, x2] t)) ∧
    (wr.alloc (.cells #[x0, x1, x2] t)).cell? ⟨wr.heap.size, 0, none⟩ = some x0 ∧ (wr.alloc (.cells #[x0, x1, x2] t)).cell? ⟨wr.heap.size, 1, none⟩ = some x1 ∧ (wr.alloc (.cells #[x0, x1, x2] t)).cell? ⟨wr.heap.size, 2, none⟩ = some x2 ∧ Below wr.heap.size wr (wr.alloc (.cells #[x0, x1, x2] t)) :=
  ⟨by simp, hB.alloc hB.size _, World.cell?_alloc_at _ _ _ _ rfl, World.cell?_alloc_at _ _ _ _ rfl, World.cell?_alloc_at _ _ _ _ rfl, (Below.refl _ _).alloc (Nat.le_refl _) _⟩

def selT (ks : List KeyD) (impl inst : List Int) : List Int := (ks.filter (fun x => decide (x.impl = impl) && decide (x.inst = inst))).map (·.tag)
def tagV (t : Int) : Value := .iface 3 (.int .i64 t)

theorem selT_le (ks : List KeyD) (impl inst : List Int) (k : Nat) : (selT (ks.take k) impl inst).length ≤ k := by
  unfold selT
  rw [List.length_map]
  exact Nat.le_trans (List.length_filter_le _ _) (List.length_take_le _ _)

theorem selT_hit (ks : List KeyD) (impl inst : List Int) (k : Nat) (hk : k < ks.length) (h1 : (ks.getD k ⟨[], [], 0⟩).impl = impl) (h2 : (ks.getD k ⟨[], [], 0⟩).inst = inst) : selT (ks.take (k + 1)) impl inst = selT (ks.take k) impl inst ++ [(ks.getD k ⟨[], [], 0⟩).tag] := by
  unfold selT
  simp only [List.getD, List.getElem?_eq_getElem hk, Option.getD_some] at h1 h2 ⊢
  rw [List.take_succ_eq_append_getElem hk, List.filter_append, List.map_append]
  simp [List.filter_cons, h1, h2]
theorem selT_miss (ks : List KeyD) (impl inst : List Int) (k : Nat) (hk : k < ks.length) (h : ¬ ((ks.getD k ⟨[], [], 0⟩).impl = impl ∧ (ks.getD k ⟨[], [], 0⟩).inst = inst)) : selT (ks.take (k + 1)) impl inst = selT (ks.take k) impl inst := by
  unfold selT
  simp only [List.getD, List.getElem?_eq_getElem hk, Option.getD_some] at h
  rw [List.take_succ_eq_append_getElem hk, List.filter_append, List.map_append]
  simp only [List.filter_cons, List.filter_nil]
  rw [if_neg (by simpa using h)]
  simp

theorem info66 : (Try.prog.info? 66).map (fun i => (i.zero, i.size, i.bytes)) = some (some .nilIface, 1, 16) := by kernel_rfl

set_option maxHeartbeats 2000000 in
theorem keysFor_any {p q : Nat → Prop} (E : Nat) (vk vr vc v1 v2 : Value) (ks : List KeyD) (impl inst : List Int) (w : World) (hE : w.heap[E]? = some (.cells #[vk, vr, vc] 42 (0, 0))) (hk : KeysOwn p w vk ks)
    (h1 : Ns q .u8 w v1 impl) (h2 : Ns q .u8 w v2 inst) (hp : ∀ b, p b → b < w.heap.size) (hq : ∀ b, q b → b < w.heap.size) (hb : ∀ x ∈ ks, Byt x.impl ∧ Byt x.inst) (hb1 : Byt impl) (hb2 : Byt inst) (hn : ks.length ≤ 1048576) :
    Calls Try.prog 28 #[.pointer (some ⟨E, 0, none⟩), v1, v2] w fun e w' => ∃ v, e = .returned v ∧ Hid (w'.ownsRow w.heap.size 66 1 v (selT ks impl inst).length ((selT ks impl inst).map tagV)) ∧ Hid (v = .slice none 0 0 ↔ selT ks impl inst = []) ∧ Hid (Below w.heap.size w w') := by
  obtain ⟨aok, capk, rfl, hlk, hnk⟩ := Sl.shape hk
  have eE : w.cell? ⟨E, 0, none⟩ = some (.slice aok ks.length capk) := by rw [cells_of_block hE]; rfl
  obtain ⟨i0, hi, hz0, hz1, hz2⟩ := info_parts info66
  go_enter Try.func28, Try.ntmps28
  go_wp2
  go_loopg [7, 15] ks.length (fun g v i wr => ∃ (k : Nat) (ao : Option Addr) (m cp : Nat), Hid (k + g = ks.length) ∧ i = .int .i64 k ∧ v = .slice ao m cp ∧ Hid (m = (selT (ks.take k) impl inst).length) ∧ Hid (wr.ownsRow w.heap.size 66 1 (.slice ao m cp) m ((selT (ks.take k) impl inst).map tagV)) ∧ Hid (Value.slice ao m cp = .slice none 0 0 ↔ selT (ks.take k) impl inst = []) ∧ Hid (Below w.heap.size w wr))
  case atStart => exact ⟨0, none, 0, 0, Nat.zero_add _, rfl, rfl, rfl, World.ownsRow_nil _ _ _ _, ⟨fun _ => rfl, fun _ => rfl⟩, Below.refl _ _⟩
  case round =>
    obtain ⟨k, ao, m, cp, HG, rfl, rfl, HM, HO, HNil, HB⟩ := hrel
    have hkl : k ≤ ks.length := by have := HG.out; omega
    by_cases hlt : k < ks.length
    · obtain ⟨b, o, cls, hix, hbp, hlen, hc, c0, c1, rfl, hk0, hk1⟩ := Sl.at hk Try.underlying39 sized68 k hlt
      obtain ⟨e0, e1, e2⟩ := cells3 hc
      have hbw := hp b hbp
      have e0r : wr.cell? ⟨b, o, none⟩ = some c0 := (HB.out.cell hbw).trans e0
      have e1r : wr.cell? ⟨b, o + 1, none⟩ = some c1 := (HB.out.cell hbw).trans e1
      have e2r : wr.cell? ⟨b, o + 2, none⟩ = some (.iface 3 (.int .i64 (ks.getD k ⟨[], [], 0⟩).tag)) := (HB.out.cell hbw).trans e2
      have hby := hb (ks.getD k ⟨[], [], 0⟩) (by simp [List.getD, hlt])
      obtain ⟨a0, p0, rfl, _, _⟩ := hk0.shape
      obtain ⟨a1, p1, rfl, _, _⟩ := hk1.shape
      have HA := selT_hit ks impl inst k hlt
      have HZ := selT_miss ks impl inst k hlt
      generalize hd : ks.getD k ⟨[], [], 0⟩ = d at *
      have HH : Hid (d.impl = impl → d.inst = inst → selT (ks.take (k + 1)) impl inst = selT (ks.take k) impl inst ++ [d.tag]) := HA
      have HMi : Hid (¬ (d.impl = impl ∧ d.inst = inst) → selT (ks.take (k + 1)) impl inst = selT (ks.take k) impl inst) := HZ
      have HK : Hid (∀ w', Below w.heap.size w w' → Ns p .u8 w' (.slice a0 d.impl.length p0) d.impl ∧ Ns p .u8 w' (.slice a1 d.inst.length p1) d.inst ∧ Ns q .u8 w' v1 impl ∧ Ns q .u8 w' v2 inst) := fun w' hb' =>
        ⟨hk0.keep (Below.keeps hb' hp), hk1.keep (Below.keeps hb' hp), h1.keep (Below.keeps hb' hq), h2.keep (Below.keeps hb' hq)⟩
      have HBy : Hid (Byt d.impl ∧ Byt d.inst) := hby
      have HBy1 : Hid (Byt impl ∧ Byt inst) := ⟨hb1, hb2⟩
      clear hc hlen hk0 hk1 e0 e1 e2 hd HA HZ hby hk h1 h2 hp hq hb hb1 hb2 hE eE
      by_cases hm1 : d.impl = impl
      · by_cases hm2 : d.inst = inst
        · have HM1 : Hid (d.impl = impl) := hm1
          have HM2 : Hid (d.inst = inst) := hm2
          have t1 : decide (d.impl = impl) = true := decide_eq_true hm1
          have t2 : decide (d.inst = inst) = true := decide_eq_true hm2
          clear hm1 hm2
          go_wp2_with fail
          obtain ⟨z0, z1, y0, y1, y2, z3⟩ := alloc_three w wr (Value.slice a0 d.impl.length p0) (Value.slice a1 d.inst.length p1) (Value.iface 3 (Value.int .i64 d.tag)) 68 HB.out
          have HO1 : Hid ((wr.alloc (.cells #[Value.slice a0 d.impl.length p0, Value.slice a1 d.inst.length p1, Value.iface 3 (Value.int .i64 d.tag)] 68)).ownsRow w.heap.size 66 1 (.slice ao m cp) m ((selT (ks.take k) impl inst).map tagV)) := HO.out.alloc _
          generalize wr.alloc (.cells #[Value.slice a0 d.impl.length p0, Value.slice a1 d.inst.length p1, Value.iface 3 (Value.int .i64 d.tag)] 68) = W1 at *
          have HB1 : Hid (Below w.heap.size w W1) := z1
          have HZ1 : Hid (W1.heap.size = wr.heap.size + 1) := z0
          clear z0 z1 z3 e0r e1r e2r HO
          refine (bytesEqual_val _ _ _ _ W1 true t1 (HK.out _ HB1.out).1 (HK.out _ HB1.out).2.2.1 HBy.out.1 HBy1.out.1).mono ?_
          rintro e w2 ⟨rfl, rfl⟩
          go_wp2_with fail
          refine (bytesEqual_val _ _ _ _ W1 true t2 (HK.out _ HB1.out).2.1 (HK.out _ HB1.out).2.2.2 HBy.out.2 HBy1.out.2).mono ?_
          rintro e w2 ⟨rfl, rfl⟩
          have hm9 : m ≤ k := by rw [HM.out]; exact selT_le ks impl inst k
          have hs9 := HB1.out.size
          go_wp2_with (at_builtin; refine wpList_append_own _ rfl _ _ 75 rfl w.heap.size 66 i0 .nilIface 1 16 Try.underlying75 hi hz0 hz1 hz2 rfl (by decide) _ _ _ rfl (HO1.out.alloc _) ⟨W1.heap.size, 0, none⟩ 1 1 [tagV d.tag] rfl rfl ?c1 ?c2 ?c3 ?c4 ?c5 ?_)
          case c1 =>
            intro j u hj
            match j, hj with
            | 0, hj =>
              simp at hj
              subst hj
              simp [Addr.add, tagV, go_sem]
          case c2 => intro u hu; simp at hu; subst hu; rfl
          case c3 => unfold maxLen; omega
          case c4 => omega
          case c5 => simp; omega
          · intro v' w3 hown' hgrow hne
            have hex : ∃ g cp', v' = .slice (some ⟨g, 0, none⟩) (m + 1) cp' := by
              obtain ⟨_, h | ⟨g, cp', cur, hv, _⟩⟩ := hown'
              · exact absurd h.2 (by omega)
              · exact ⟨g, cp', hv⟩
            obtain ⟨g, cp', hv⟩ := hex
            rw [hv] at hown' ⊢
            have HB3 : Hid (Below w.heap.size w w3) := Below.grown (HB1.out.alloc hs9 _) hgrow (by simp; omega) (fun k hk => (HO1.out.lt k hk).1)
            have HS := HH.out HM1.out HM2.out
            have HO3 : Hid (w3.ownsRow w.heap.size 66 1 (.slice (some ⟨g, 0, none⟩) (m + 1) cp') (m + 1) ((selT (ks.take (k + 1)) impl inst).map tagV)) := by
              rw [HS, List.map_append]; exact hown'
            have HM3 : Hid (m + 1 = (selT (ks.take (k + 1)) impl inst).length) := by
              rw [HS, List.length_append, ← HM.out]; rfl
            have HNil3 : Hid (Value.slice (some ⟨g, 0, none⟩) (m + 1) cp' = .slice none 0 0 ↔ selT (ks.take (k + 1)) impl inst = []) := by
              constructor
              · intro h; cases h
              · intro h; rw [HS] at h; simp at h
            clear hown' hgrow hne hv HO1 HNil HM HS
            go_wp2
            go_roundg (gk - 1)
            case measure => have := HG.out; omega
            case rel => exact ⟨k + 1, _, _, _, by have := HG.out; show _ = _; omega, by go_num, rfl, HM3, HO3, HNil3, HB3⟩
        · have HM2 : Hid (¬ d.inst = inst) := hm2
          have t1 : decide (d.impl = impl) = true := decide_eq_true hm1
          have t2 : decide (d.inst = inst) = false := decide_eq_false hm2
          clear hm1 hm2
          go_wp2_with fail
          obtain ⟨z0, z1, y0, y1, y2, z3⟩ := alloc_three w wr (Value.slice a0 d.impl.length p0) (Value.slice a1 d.inst.length p1) (Value.iface 3 (Value.int .i64 d.tag)) 68 HB.out
          have HO1 : Hid ((wr.alloc (.cells #[Value.slice a0 d.impl.length p0, Value.slice a1 d.inst.length p1, Value.iface 3 (Value.int .i64 d.tag)] 68)).ownsRow w.heap.size 66 1 (.slice ao m cp) m ((selT (ks.take k) impl inst).map tagV)) := HO.out.alloc _
          generalize wr.alloc (.cells #[Value.slice a0 d.impl.length p0, Value.slice a1 d.inst.length p1, Value.iface 3 (Value.int .i64 d.tag)] 68) = W1 at *
          have HB1 : Hid (Below w.heap.size w W1) := z1
          have HZ1 : Hid (W1.heap.size = wr.heap.size + 1) := z0
          clear z0 z1 z3 e0r e1r e2r HO
          refine (bytesEqual_val _ _ _ _ W1 true t1 (HK.out _ HB1.out).1 (HK.out _ HB1.out).2.2.1 HBy.out.1 HBy1.out.1).mono ?_
          rintro e w2 ⟨rfl, rfl⟩
          go_wp2_with fail
          refine (bytesEqual_val _ _ _ _ W1 false t2 (HK.out _ HB1.out).2.1 (HK.out _ HB1.out).2.2.2 HBy.out.2 HBy1.out.2).mono ?_
          rintro e w2 ⟨rfl, rfl⟩
          go_wp2
          go_roundg (gk - 1)
          case measure => have := HG.out; omega
          case rel =>
            have hs := HMi.out (fun h => HM2.out h.2)
            exact ⟨k + 1, ao, m, cp, by have := HG.out; show _ = _; omega, by go_num, rfl, by rw [hs]; exact HM, by rw [hs]; exact HO1, by rw [hs]; exact HNil, HB1⟩
      · have HM1 : Hid (¬ d.impl = impl) := hm1
        have t1 : decide (d.impl = impl) = false := decide_eq_false hm1
        clear hm1
        go_wp2_with fail
        obtain ⟨z0, z1, y0, y1, y2, z3⟩ := alloc_three w wr (Value.slice a0 d.impl.length p0) (Value.slice a1 d.inst.length p1) (Value.iface 3 (Value.int .i64 d.tag)) 68 HB.out
        have HO1 : Hid ((wr.alloc (.cells #[Value.slice a0 d.impl.length p0, Value.slice a1 d.inst.length p1, Value.iface 3 (Value.int .i64 d.tag)] 68)).ownsRow w.heap.size 66 1 (.slice ao m cp) m ((selT (ks.take k) impl inst).map tagV)) := HO.out.alloc _
        generalize wr.alloc (.cells #[Value.slice a0 d.impl.length p0, Value.slice a1 d.inst.length p1, Value.iface 3 (Value.int .i64 d.tag)] 68) = W1 at *
        have HB1 : Hid (Below w.heap.size w W1) := z1
        have HZ1 : Hid (W1.heap.size = wr.heap.size + 1) := z0
        clear z0 z1 z3 e0r e1r e2r HO
        refine (bytesEqual_val _ _ _ _ W1 false t1 (HK.out _ HB1.out).1 (HK.out _ HB1.out).2.2.1 HBy.out.1 HBy1.out.1).mono ?_
        rintro e w2 ⟨rfl, rfl⟩
        go_wp2
        go_roundg (gk - 1)
        case measure => have := HG.out; omega
        case rel =>
          have hs := HMi.out (fun h => HM1.out h.1)
          exact ⟨k + 1, ao, m, cp, by have := HG.out; show _ = _; omega, by go_num, rfl, by rw [hs]; exact HM, by rw [hs]; exact HO1, by rw [hs]; exact HNil, HB1⟩
    · go_wp2
      go_ret
      have e : k = ks.length := by omega
      subst e
      rw [List.take_length] at HO HM HNil
      have hm := HM.out
      subst hm
      exact ⟨_, rfl, HO, HNil, HB⟩
end Go.Proofs.Qxb6606015a
