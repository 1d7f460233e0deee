/-
  THE PLAIN LAW of the reference values, and the WALK of ReferenceValuesFor.
-/
import Derived.Test.Qxb6606015aSame
import Derived.Test.Qxb6606015aKeys
namespace Go.Proofs.Qxb6606015a
open Go.RowKit
set_option linter.unusedVariables false
set_option linter.unusedSimpArgs false

def rv0 : RvD := ⟨[], ⟨none, none, []⟩, []⟩
def sameR (x y : RvD) : Bool := decide (x.impl = y.impl)
def selR (rs : List RvD) (impl : List Int) : List RvD := rs.filter (fun x => decide (x.impl = impl))
def covR (rs : List RvD) (k : Nat) : Nat := (rs.filter (fun y => (rs.take k).any (fun x => sameR y x))).length
def firstR (rs : List RvD) (k : Nat) : Prop := ∀ x ∈ rs.take k, sameR x (rs.getD k rv0) = false

theorem sameR_iff {x y : RvD} : sameR x y = true ↔ x.impl = y.impl := by simp [sameR]
theorem covR_zero (rs : List RvD) : covR rs 0 = 0 := by simp [covR]
theorem covR_le (rs : List RvD) (k : Nat) : covR rs k ≤ rs.length := List.length_filter_le _ _
theorem covR_full (rs : List RvD) : covR rs rs.length = rs.length := by
  unfold covR
  rw [List.take_length, List.filter_eq_self.2]
  intro y hy
  exact List.any_eq_true.2 ⟨y, hy, by simp [sameR]⟩
theorem filter_or_len {α : Type} (l : List α) (p q : α → Bool) (h : ∀ y ∈ l, ¬ (p y = true ∧ q y = true)) : (l.filter (fun y => p y || q y)).length = (l.filter p).length + (l.filter q).length := by
  induction l with
  | nil => rfl
  | cons a l ih =>
    have ih' := ih (fun y hy => h y (List.mem_cons_of_mem _ hy))
    have ha := h a (by simp)
    cases hp : p a <;> cases hq : q a <;> simp_all [List.filter_cons] <;> omega
theorem anyR_succ (rs : List RvD) (k : Nat) (hk : k < rs.length) (y : RvD) : (rs.take (k + 1)).any (fun x => sameR y x) = ((rs.take k).any (fun x => sameR y x) || sameR y (rs.getD k rv0)) := by
  have hg : rs.getD k rv0 = rs[k] := by simp [List.getD, hk]
  rw [List.take_succ_eq_append_getElem hk, hg, List.any_append, List.any_cons, List.any_nil, Bool.or_false]
theorem covR_first (rs : List RvD) (k : Nat) (hk : k < rs.length) (hf : firstR rs k) : covR rs (k + 1) = covR rs k + (selR rs (rs.getD k rv0).impl).length := by
  have e : selR rs (rs.getD k rv0).impl = rs.filter (fun y => sameR y (rs.getD k rv0)) := rfl
  rw [e]
  unfold covR
  rw [← filter_or_len]
  · congr 1
    apply List.filter_congr
    intro y _
    rw [anyR_succ rs k hk]
  · rintro y _ ⟨h1, h2⟩
    obtain ⟨x, hx, hxy⟩ := List.any_eq_true.1 h1
    have h0 := hf x hx
    rw [sameR_iff] at hxy h2
    have : sameR x (rs.getD k rv0) = true := sameR_iff.2 (hxy.symm.trans h2)
    rw [this] at h0
    cases h0
theorem covR_not (rs : List RvD) (k : Nat) (hk : k < rs.length) (hf : ¬ firstR rs k) : covR rs (k + 1) = covR rs k := by
  unfold covR
  congr 1
  apply List.filter_congr
  intro y _
  rw [anyR_succ rs k hk]
  cases h : sameR y (rs.getD k rv0) with
  | false => simp
  | true =>
    have : ∃ x ∈ rs.take k, sameR x (rs.getD k rv0) = true := by
      apply Classical.byContradiction
      intro hn
      apply hf
      intro x hx
      cases e : sameR x (rs.getD k rv0) with
      | false => rfl
      | true => exact absurd ⟨x, hx, e⟩ hn
    obtain ⟨x, hx, hxy⟩ := this
    rw [sameR_iff] at h hxy
    have : (rs.take k).any (fun x => sameR y x) = true := List.any_eq_true.2 ⟨x, hx, sameR_iff.2 (h.trans hxy.symm)⟩
    simp [this]
theorem selR_head (rs : List RvD) (k : Nat) (hk : k < rs.length) (hf : firstR rs k) : ∃ r, selR rs (rs.getD k rv0).impl = rs.getD k rv0 :: r := by
  have e : rs = rs.take k ++ rs.drop k := (List.take_append_drop k rs).symm
  have hd : rs.drop k = rs[k] :: rs.drop (k + 1) := List.drop_eq_getElem_cons hk
  have hg : rs.getD k rv0 = rs[k] := by simp [List.getD, hk]
  have h1 : (rs.take k).filter (fun x => decide (x.impl = (rs.getD k rv0).impl)) = [] := by
    rw [List.filter_eq_nil_iff]
    intro x hx h
    have := hf x hx
    rw [sameR, h] at this
    cases this
  refine ⟨(rs.drop (k + 1)).filter (fun x => decide (x.impl = (rs.getD k rv0).impl)), ?_⟩
  unfold selR
  conv => lhs; arg 2; rw [e]
  rw [List.filter_append, h1, List.nil_append, hd, hg, List.filter_cons, if_pos (by simp)]
theorem selR_none (rs : List RvD) (impl : List Int) (h : ∀ x ∈ rs, x.impl.length < impl.length) : selR rs impl = [] := by
  unfold selR
  rw [List.filter_eq_nil_iff]
  intro x hx hh
  simp at hh
  have := h x hx
  rw [hh] at this
  omega
theorem selR_le (rs : List RvD) (impl : List Int) (k : Nat) : (selR (rs.take k) impl).length ≤ k := Nat.le_trans (List.length_filter_le _ _) (List.length_take_le _ _)
theorem selR_hit (rs : List RvD) (impl : List Int) (k : Nat) (hk : k < rs.length) (h : (rs.getD k rv0).impl = impl) : selR (rs.take (k + 1)) impl = selR (rs.take k) impl ++ [rs.getD k rv0] := by
  unfold selR
  have hg : rs.getD k rv0 = rs[k] := by simp [List.getD, hk]
  rw [hg] at h ⊢
  rw [List.take_succ_eq_append_getElem hk, List.filter_append, List.filter_cons, if_pos (by simpa using h), List.filter_nil]
theorem selR_miss (rs : List RvD) (impl : List Int) (k : Nat) (hk : k < rs.length) (h : ¬ (rs.getD k rv0).impl = impl) : selR (rs.take (k + 1)) impl = selR (rs.take k) impl := by
  unfold selR
  have hg : rs.getD k rv0 = rs[k] := by simp [List.getD, hk]
  rw [hg] at h
  rw [List.take_succ_eq_append_getElem hk, List.filter_append, List.filter_cons, if_neg (by simpa using h), List.filter_nil, List.append_nil]
theorem selR_impl {rs : List RvD} {impl : List Int} {j : Nat} (hj : j < (selR rs impl).length) : ((selR rs impl).getD j rv0).impl = impl := by
  have : (selR rs impl).getD j rv0 ∈ selR rs impl := by simp [List.getD, hj]
  have := (List.mem_filter.1 this).2
  simpa using this

/-! ### rows of five cells, laid end to end -/
theorem flat5_len {css : List (List Value)} (h : ∀ c ∈ css, c.length = 5) : css.flatten.length = css.length * 5 := by
  induction css with
  | nil => rfl
  | cons a l ih =>
    have ha := h a (by simp)
    have := ih (fun c hc => h c (List.mem_cons_of_mem _ hc))
    simp only [List.flatten_cons, List.length_append, List.length_cons, ha, this]
    omega
theorem flat5_get {css : List (List Value)} (h : ∀ c ∈ css, c.length = 5) (j i : Nat) (hj : j < css.length) (hi : i < 5) : css.flatten[j * 5 + i]? = (css.getD j [])[i]? := by
  induction css generalizing j with
  | nil => simp at hj
  | cons a l ih =>
    have ha := h a (by simp)
    cases j with
    | zero =>
      simp only [List.flatten_cons, Nat.zero_mul, Nat.zero_add, List.getD_cons_zero]
      rw [List.getElem?_append_left (by omega)]
    | succ j =>
      simp only [List.flatten_cons, List.getD_cons_succ]
      rw [List.getElem?_append_right (by omega), ha, show (j + 1) * 5 + i - 5 = j * 5 + i by omega]
      exact ih (fun c hc => h c (List.mem_cons_of_mem _ hc)) j (by simpa using hj)

/-- The cells of the selected values, each with its data. -/
def Sel (p : Nat → Prop) (w : World) (css : List (List Value)) (sel : List RvD) : Prop :=
  css.length = sel.length ∧ ∀ j, j < sel.length → (css.getD j []).length = 5 ∧ RvAt p w (sel.getD j rv0) (css.getD j []) ∧ ∀ u ∈ css.getD j [], u.oneCell' = true
theorem Sel.all5 {p : Nat → Prop} {w : World} {css : List (List Value)} {sel : List RvD} (h : Sel p w css sel) : ∀ c ∈ css, c.length = 5 := by
  intro c hc
  obtain ⟨j, hj, rfl⟩ := List.mem_iff_getElem.1 hc
  have := (h.2 j (by rw [← h.1]; exact hj)).1
  simpa [List.getD, hj] using this
theorem Sel.snoc {p : Nat → Prop} {w : World} {css : List (List Value)} {sel : List RvD} (h : Sel p w css sel) {cs : List Value} {d : RvD} (hl : cs.length = 5) (hd : RvAt p w d cs) (ho : ∀ u ∈ cs, u.oneCell' = true) : Sel p w (css ++ [cs]) (sel ++ [d]) := by
  refine ⟨by simp [h.1], fun j hj => ?_⟩
  by_cases e : j < sel.length
  · have := h.2 j e
    have e' : j < css.length := by rw [h.1]; exact e
    simpa [List.getD, List.getElem?_append_left, e, e'] using this
  · have ej : j = sel.length := by simp at hj; omega
    subst ej
    have e1 : (css ++ [cs]).getD sel.length [] = cs := by rw [← h.1]; simp [List.getD]
    have e2 : (sel ++ [d]).getD sel.length rv0 = d := by simp [List.getD]
    rw [e1, e2]
    exact ⟨hl, hd, ho⟩
theorem info58' : (Try.prog.info? 58).map (fun i => (i.zero, i.size, i.bytes)) = some (some (.agg #[.slice none 0 0, .pointer none, .pointer none, .slice none 0 0, .slice none 0 0]), 5, 88) := by kernel_rfl

theorem alloc_five (w wr : World) (x0 x1 x2 x3 x4 : Value) (t : Nat) (hB : Below w.heap.size w wr) : (wr.alloc (.cells #[x0, x1, x2, x3, x4] t)).heap.size = wr.heap.size + 1 ∧ Below w.heap.size w (wr.alloc (.cells #[x0, x1, x2, x3, x4] t)) ∧
    (wr.alloc (.cells #[x0, x1, x2, x3, x4] t)).cell? ⟨wr.heap.size, 0, none⟩ = some x0 ∧ (wr.alloc (.cells #[x0, x1, x2, x3, x4] t)).cell? ⟨wr.heap.size, 1, none⟩ = some x1 ∧ (wr.alloc (.cells #[x0, x1, x2, x3, x4] t)).cell? ⟨wr.heap.size, 2, none⟩ = some x2 ∧ (wr.alloc (.cells #[x0, x1, x2, x3, x4] t)).cell? ⟨wr.heap.size, 3, none⟩ = some x3 ∧ (wr.alloc (.cells #[x0, x1, x2, x3, x4] t)).cell? ⟨wr.heap.size, 4, none⟩ = some x4 :=
  ⟨by simp, hB.alloc hB.size _, World.cell?_alloc_at _ _ _ _ rfl, World.cell?_alloc_at _ _ _ _ rfl, World.cell?_alloc_at _ _ _ _ rfl, World.cell?_alloc_at _ _ _ _ rfl, World.cell?_alloc_at _ _ _ _ rfl⟩
set_option maxHeartbeats 2000000 in
theorem rvsFor_any {p q : Nat → Prop} (E : Nat) (vk vr vc v1 : Value) (rs : List RvD) (impl : List Int) (w : World) (hE : w.heap[E]? = some (.cells #[vk, vr, vc] 42 (0, 0))) (hk : RvsAt p w vr rs)
    (h1 : Ns q .u8 w v1 impl) (hp : ∀ b, p b → b < w.heap.size) (hq : ∀ b, q b → b < w.heap.size) (hb : ∀ x ∈ rs, Byt x.impl) (hb1 : Byt impl) (hn : rs.length ≤ 1048576) :
    Calls Try.prog 12 #[.pointer (some ⟨E, 0, none⟩), v1] w fun e w' => ∃ ao m cp css, e = .returned (.slice ao m cp) ∧ Hid (m = (selR rs impl).length) ∧ Hid (w'.ownsRow w.heap.size 58 5 (.slice ao m cp) m css.flatten) ∧ Hid (Sel p w css (selR rs impl)) ∧ Hid (Value.slice ao m cp = .slice none 0 0 ↔ selR rs impl = []) ∧ Hid (Below w.heap.size w w') := by
  obtain ⟨aok, capk, rfl, hlk, hnk⟩ := Sl.shape hk
  have eE : w.cell? ⟨E, 1, none⟩ = some (.slice aok rs.length capk) := by rw [cells_of_block hE]; rfl
  obtain ⟨i0, hi, hz0, hz1, hz2⟩ := info_parts info58'
  go_enter Try.func12, Try.ntmps12
  go_wp2
  go_loopg [5, 13] rs.length (fun g v i wr => ∃ (k : Nat) (ao : Option Addr) (m cp : Nat) (css : List (List Value)), Hid (k + g = rs.length) ∧ i = .int .i64 k ∧ v = .slice ao m cp ∧ Hid (m = (selR (rs.take k) impl).length) ∧ Hid (wr.ownsRow w.heap.size 58 5 (.slice ao m cp) m css.flatten) ∧ Hid (Sel p w css (selR (rs.take k) impl)) ∧ Hid (Value.slice ao m cp = .slice none 0 0 ↔ selR (rs.take k) impl = []) ∧ Hid (Below w.heap.size w wr))
  case atStart => exact ⟨0, none, 0, 0, [], Nat.zero_add _, rfl, rfl, rfl, World.ownsRow_nil _ _ _ _, ⟨rfl, fun j hj => by simp [selR] at hj⟩, ⟨fun _ => rfl, fun _ => rfl⟩, Below.refl _ _⟩
  case round =>
    obtain ⟨k, ao, m, cp, css, HG, rfl, rfl, HM, HO, HSel, HNil, HB⟩ := hrel
    have hkl : k ≤ rs.length := by have := HG.out; omega
    by_cases hlt : k < rs.length
    · obtain ⟨b, o, cls, hix, hbp, hlen, hc, c0, c1, c2, c3, c4, rfl, hk0, ⟨hk1, hk2, hk3⟩, hk4⟩ := Sl.at hk Try.underlying35 sized58 k hlt
      obtain ⟨e0, e1, e2, e3, e4⟩ := cells5 hc
      have hbw := hp b hbp
      obtain ⟨a0, p0, rfl, _, _⟩ := hk0.shape
      obtain ⟨a3, p3, rfl, _, _⟩ := hk3.shape
      obtain ⟨a4, p4, rfl, _, _⟩ := Sl.shape hk4
      have hpo1 : ∃ po, c1 = .pointer po := by rcases hk1 with ⟨rfl, _⟩ | ⟨_, _, _, rfl, _⟩ <;> exact ⟨_, rfl⟩
      have hpo2 : ∃ po, c2 = .pointer po := by rcases hk2 with ⟨rfl, _⟩ | ⟨_, _, _, rfl, _⟩ <;> exact ⟨_, rfl⟩
      obtain ⟨po1, rfl⟩ := hpo1
      obtain ⟨po2, rfl⟩ := hpo2
      have f0r := (HB.out.cell (p := ⟨b, o, none⟩) hbw).trans e0
      have f1r := (HB.out.cell (p := ⟨b, o + 1, none⟩) hbw).trans e1
      have f2r := (HB.out.cell (p := ⟨b, o + 2, none⟩) hbw).trans e2
      have f3r := (HB.out.cell (p := ⟨b, o + 3, none⟩) hbw).trans e3
      have f4r := (HB.out.cell (p := ⟨b, o + 4, none⟩) hbw).trans e4
      have hby := hb (rs.getD k ⟨[], ⟨none, none, []⟩, []⟩) (by simp [List.getD, hlt])
      have HA : (rs.getD k ⟨[], ⟨none, none, []⟩, []⟩).impl = impl → selR (rs.take (k + 1)) impl = selR (rs.take k) impl ++ [rs.getD k ⟨[], ⟨none, none, []⟩, []⟩] := selR_hit rs impl k hlt
      have HZ : ¬ (rs.getD k ⟨[], ⟨none, none, []⟩, []⟩).impl = impl → selR (rs.take (k + 1)) impl = selR (rs.take k) impl := selR_miss rs impl k hlt
      have hRV : RvAt p w (rs.getD k ⟨[], ⟨none, none, []⟩, []⟩) [_, _, _, _, _] := ⟨_, _, _, _, _, rfl, hk0, ⟨hk1, hk2, hk3⟩, hk4⟩
      generalize hd : rs.getD k ⟨[], ⟨none, none, []⟩, []⟩ = d at *
      generalize hn3 : d.comp.sig.length = n3 at f3r hRV
      generalize hn4 : d.digs.length = n4 at f4r hRV
      have HH : Hid (d.impl = impl → selR (rs.take (k + 1)) impl = selR (rs.take k) impl ++ [d]) := HA
      have HMi : Hid (¬ d.impl = impl → selR (rs.take (k + 1)) impl = selR (rs.take k) impl) := HZ
      have HK : Hid (∀ w', Below w.heap.size w w' → Ns p .u8 w' (.slice a0 d.impl.length p0) d.impl ∧ Ns q .u8 w' v1 impl) := fun w' hb' =>
        ⟨hk0.keep (Below.keeps hb' hp), h1.keep (Below.keeps hb' hq)⟩
      have HRV : Hid (RvAt p w d [Value.slice a0 d.impl.length p0, Value.pointer po1, Value.pointer po2, Value.slice a3 n3 p3, Value.slice a4 n4 p4]) := hRV
      have HBy : Hid (Byt d.impl) := hby
      have HBy1 : Hid (Byt impl) := hb1
      clear hc hlen hk0 hk1 hk2 hk3 hk4 e0 e1 e2 e3 e4 hd HA HZ hby hk h1 hp hq hb hb1 hE eE hRV hn3 hn4
      by_cases hm1 : d.impl = impl
      · have HM1 : Hid (d.impl = impl) := hm1
        have t1 : decide (d.impl = impl) = true := decide_eq_true hm1
        clear hm1
        go_wp2_with fail
        obtain ⟨z0, z1, y0, y1, y2, y3, y4⟩ := alloc_five w wr (Value.slice a0 d.impl.length p0) (Value.pointer po1) (Value.pointer po2) (Value.slice a3 n3 p3) (Value.slice a4 n4 p4) 58 HB.out
        have HO1 : Hid ((wr.alloc (.cells #[Value.slice a0 d.impl.length p0, Value.pointer po1, Value.pointer po2, Value.slice a3 n3 p3, Value.slice a4 n4 p4] 58)).ownsRow w.heap.size 58 5 (.slice ao m cp) m css.flatten) := HO.out.alloc _
        generalize wr.alloc (.cells #[Value.slice a0 d.impl.length p0, Value.pointer po1, Value.pointer po2, Value.slice a3 n3 p3, Value.slice a4 n4 p4] 58) = W1 at *
        have HB1 : Hid (Below w.heap.size w W1) := z1
        have HZ1 : Hid (W1.heap.size = wr.heap.size + 1) := z0
        clear z0 z1 f0r f1r f2r f3r f4r HO
        refine (bytesEqual_val _ _ _ _ W1 true t1 (HK.out _ HB1.out).1 (HK.out _ HB1.out).2 HBy.out HBy1.out).mono ?_
        rintro e w2 ⟨rfl, rfl⟩
        have hm9 : m ≤ k := by rw [HM.out]; exact selR_le rs impl k
        have hs9 := HB1.out.size
        go_wp2_with (at_builtin; refine wpList_append_own _ rfl _ _ 35 rfl w.heap.size 58 i0 (.agg #[.slice none 0 0, .pointer none, .pointer none, .slice none 0 0, .slice none 0 0]) 5 88 Try.underlying35 hi hz0 hz1 hz2 rfl (by decide) _ _ _ rfl (HO1.out.alloc _) ⟨W1.heap.size, 0, none⟩ 1 1 [Value.slice a0 d.impl.length p0, Value.pointer po1, Value.pointer po2, Value.slice a3 n3 p3, Value.slice a4 n4 p4] rfl rfl ?c1 ?c2 ?c3 ?c4 ?c5 ?_)
        case c1 =>
          intro j u hj
          match j, hj with
          | 0, hj => simp at hj; subst hj; simp [Addr.add, go_sem]
          | 1, hj => simp at hj; subst hj; simp [Addr.add, go_sem]
          | 2, hj => simp at hj; subst hj; simp [Addr.add, go_sem]
          | 3, hj => simp at hj; subst hj; simp [Addr.add, go_sem]
          | 4, hj => simp at hj; subst hj; simp [Addr.add, go_sem]
        case c2 =>
          intro u hu
          simp at hu
          rcases hu with rfl | rfl | rfl | rfl | rfl <;> rfl
        case c3 => unfold maxLen; omega
        case c4 => omega
        case c5 => simp; omega
        · intro v' w3 hown' hgrow hne
          have hex : ∃ g cp', v' = .slice (some ⟨g, 0, none⟩) (m + 1) cp' := by
            obtain ⟨_, h | ⟨g, cp', cur, hv, _⟩⟩ := hown'
            · exact absurd h.2 (by omega)
            · exact ⟨g, cp', hv⟩
          obtain ⟨g, cp', hv⟩ := hex
          rw [hv] at hown' ⊢
          have HB3 : Hid (Below w.heap.size w w3) := Below.grown (HB1.out.alloc hs9 _) hgrow (by simp; omega) (fun k hk => (HO1.out.lt k hk).1)
          have HS := HH.out HM1.out
          have HO3 : Hid (w3.ownsRow w.heap.size 58 5 (.slice (some ⟨g, 0, none⟩) (m + 1) cp') (m + 1) (css ++ [[Value.slice a0 d.impl.length p0, Value.pointer po1, Value.pointer po2, Value.slice a3 n3 p3, Value.slice a4 n4 p4]]).flatten) := by
            show w3.ownsRow _ _ _ _ _ _
            rw [List.flatten_append]
            simpa using hown'
          have HSel3 : Hid (Sel p w (css ++ [[Value.slice a0 d.impl.length p0, Value.pointer po1, Value.pointer po2, Value.slice a3 n3 p3, Value.slice a4 n4 p4]]) (selR (rs.take (k + 1)) impl)) := by
            rw [HS]
            refine HSel.out.snoc rfl HRV.out (fun u hu => ?_)
            simp at hu
            rcases hu with rfl | rfl | rfl | rfl | rfl <;> rfl
          have HM3 : Hid (m + 1 = (selR (rs.take (k + 1)) impl).length) := by
            rw [HS, List.length_append, ← HM.out]; rfl
          have HNil3 : Hid (Value.slice (some ⟨g, 0, none⟩) (m + 1) cp' = .slice none 0 0 ↔ selR (rs.take (k + 1)) impl = []) := by
            constructor
            · intro h; cases h
            · intro h; rw [HS] at h; simp at h
          clear hown' hgrow hne hv HO1 HNil HM HS HSel
          go_wp2
          go_roundg (gk - 1)
          case measure => have := HG.out; omega
          case rel => exact ⟨k + 1, _, _, _, _, by have := HG.out; show _ = _; omega, by go_num, rfl, HM3, HO3, HSel3, HNil3, HB3⟩
      · have HM1 : Hid (¬ d.impl = impl) := hm1
        have t1 : decide (d.impl = impl) = false := decide_eq_false hm1
        clear hm1
        go_wp2_with fail
        obtain ⟨z0, z1, y0, y1, y2, y3, y4⟩ := alloc_five w wr (Value.slice a0 d.impl.length p0) (Value.pointer po1) (Value.pointer po2) (Value.slice a3 n3 p3) (Value.slice a4 n4 p4) 58 HB.out
        have HO1 : Hid ((wr.alloc (.cells #[Value.slice a0 d.impl.length p0, Value.pointer po1, Value.pointer po2, Value.slice a3 n3 p3, Value.slice a4 n4 p4] 58)).ownsRow w.heap.size 58 5 (.slice ao m cp) m css.flatten) := HO.out.alloc _
        generalize wr.alloc (.cells #[Value.slice a0 d.impl.length p0, Value.pointer po1, Value.pointer po2, Value.slice a3 n3 p3, Value.slice a4 n4 p4] 58) = W1 at *
        have HB1 : Hid (Below w.heap.size w W1) := z1
        have HZ1 : Hid (W1.heap.size = wr.heap.size + 1) := z0
        clear z0 z1 f0r f1r f2r f3r f4r HO
        refine (bytesEqual_val _ _ _ _ W1 false t1 (HK.out _ HB1.out).1 (HK.out _ HB1.out).2 HBy.out HBy1.out).mono ?_
        rintro e w2 ⟨rfl, rfl⟩
        go_wp2
        go_roundg (gk - 1)
        case measure => have := HG.out; omega
        case rel =>
          have hs := HMi.out HM1.out
          exact ⟨k + 1, ao, m, cp, css, by have := HG.out; show _ = _; omega, by go_num, rfl, by rw [hs]; exact HM, HO1, by rw [hs]; exact HSel, by rw [hs]; exact HNil, HB1⟩
    · go_wp2
      go_ret
      have e : k = rs.length := by omega
      subst e
      rw [List.take_length] at HM HNil HSel
      exact ⟨_, _, _, css, rfl, HM, HO, HSel, HNil, HB⟩
end Go.Proofs.Qxb6606015a
