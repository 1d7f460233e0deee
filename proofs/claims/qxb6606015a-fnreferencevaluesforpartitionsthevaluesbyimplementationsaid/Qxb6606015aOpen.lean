/-
  THE ARGUMENTS, OPENED: what the row's reading of an argument gives, as this seat's predicates.
-/
import Derived.Test.Qxb6606015aParts
import Derived.Test.Qxb6606015aLeaf
import Derived.Deep.Slices
import Derived.Deep.Strs
import Derived.SizedLaws
import Derived.OpenShut
namespace Go.Proofs.Qxb6606015a
open Go.RowKit Go.Deep Go
set_option linter.unusedVariables false
set_option linter.unusedSimpArgs false

section
variable {H : Type} {enc : TypeId × Value → H} {W : World}

/-- Every weight that the datum meets is within the reach. -/
def Wt (t : Nat) (d : DataW H) : Prop := ∀ n ∈ d.weights Try.prog t, n ≤ 140737488351232

def Live (W : World) : Nat → Prop := fun b => b < W.heap.size

theorem mem_weightsAll {e : Nat} {l : List (DataW H)} {d : DataW H} (hd : d ∈ l) {n : Nat} (hn : n ∈ d.weights Try.prog e) : n ∈ DataW.weightsAll Try.prog e l := by
  induction l with
  | nil => cases hd
  | cons a l ih =>
    simp only [DataW.weightsAll, List.mem_append]
    rcases List.mem_cons.1 hd with rfl | h
    · exact .inl hn
    · exact .inr (ih h)

theorem Wt.slice {t e : Nat} (ht : Try.prog.underlying t = some (.slice e)) {el sp : List (DataW H)} (h : Wt t (.slice el sp)) : (el.length + sp.length) * Try.prog.bytesOf e ≤ 140737488351232 ∧ ∀ d ∈ el, Wt e d := by
  refine ⟨h _ (by simp [DataW.weights, ht]), fun d hd n hn => h n ?_⟩
  simp only [DataW.weights, ht, List.mem_cons, List.mem_append]
  exact .inr (.inl (mem_weightsAll hd hn))

theorem Wt.ptr {t e : Nat} (ht : Try.prog.underlying t = some (.pointer e)) {d : DataW H} (h : Wt t (.ptr d)) : Wt e d := fun n hn => h n (by simpa [DataW.weights, ht] using hn)

theorem Wt.struct3 {t : Nat} {f0 f1 f2 : Field} (ht : Try.prog.underlying t = some (.struct #[f0, f1, f2])) {d0 d1 d2 : DataW H} (h : Wt t (.agg [d0, d1, d2])) : Wt f0.type d0 ∧ Wt f1.type d1 ∧ Wt f2.type d2 := by
  refine ⟨fun n hn => h n ?_, fun n hn => h n ?_, fun n hn => h n ?_⟩ <;> simp [DataW.weights, DataW.weightsEach, ht, hn]

/-- A slice of whatever elements, each of which can be told. -/
theorem sl_of {α : Type} (dflt : α) {t e size bytes : Nat} (ht : Try.prog.underlying t = some (.slice e)) (hc : Try.prog.cellsOf e = size) (hby : Try.prog.bytesOf e = bytes) (hsz : 0 < size) {El : α → List Value → Prop} {Good : α → Prop}
    (one : ∀ cs D Pl n, DataW.trod enc Try.prog W 0 (fun _ => true) true n e cs = some (D, Pl) → Wt e D → cs.length = size → ∃ d, El d cs ∧ Good d)
    {fuel : Nat} {v : Value} {x : DataW H × List MemPlace} (h : DataW.trod enc Try.prog W 0 (fun _ => true) true fuel t [v] = some x) (hw : Wt t x.1) :
    ∃ ds : List α, (∃ ao cap, v = .slice ao ds.length cap ∧ (ao = none → ds.length = 0 ∧ cap = 0) ∧ ds.length ≤ cap ∧ cap * bytes ≤ 140737488351232 ∧
      ∀ i, i < ds.length → ∃ b off cs, ao = some ⟨b, off, none⟩ ∧ Live W b ∧ cs.length = size ∧ (∀ j, j < size → W.cell? ⟨b, off + i * size + j, none⟩ = some (cs.getD j undef)) ∧ El (ds.getD i dflt) cs) ∧ ∀ d ∈ ds, Good d := by
  rcases open_slice ht h with ⟨hcs, rfl⟩ | ⟨a, len, cap, m, n, D, Pl, hcs, _, hl, hm, hmm, rfl, hx⟩
  · simp at hcs
    subst hcs
    exact ⟨[], ⟨none, 0, rfl, fun _ => ⟨rfl, rfl⟩, Nat.le_refl _, by omega, fun i hi => by simp at hi⟩, fun d hd => by cases hd⟩
  · simp at hcs
    subst hcs
    simp only [if_true] at hmm
    subst hmm
    have hs := Wt.slice ht hw
    simp only [List.length_map, List.length_range] at hs
    rw [hby, show len + (m - len) = m by omega] at hs
    have each : ∀ i, i < len → ∃ cs d, W.cells? 0 (a.add (i * size)) size = some cs ∧ cs.length = size ∧ El d cs ∧ Good d := by
      intro i hi
      obtain ⟨cs', h1, h2⟩ := hx i (by omega)
      rw [hc] at h1
      have hl' := (World.cells?_some h1).2.1
      obtain ⟨d, hd⟩ := one cs' (D i) (Pl i) n h2 (hs.2 (D i) (List.mem_map.2 ⟨i, by simp [hi], rfl⟩)) hl'
      exact ⟨cs', d, h1, hl', hd⟩
    have pick : ∃ f : Nat → α, ∀ i, i < len → ∃ cs, W.cells? 0 (a.add (i * size)) size = some cs ∧ cs.length = size ∧ El (f i) cs ∧ Good (f i) := by
      refine ⟨fun i => if hi : i < len then Classical.choose (Classical.choose_spec (each i hi)) else dflt, fun i hi => ?_⟩
      simp only [dif_pos hi]
      exact ⟨_, Classical.choose_spec (Classical.choose_spec (each i hi))⟩
    obtain ⟨f, hf⟩ := pick
    refine ⟨(List.range len).map f, ⟨some a, m, by simp, (fun e => by cases e), by simpa using hl, hs.1, fun i hi => ?_⟩, fun d hd => ?_⟩
    · have hi' : i < len := by simpa using hi
      obtain ⟨cs0, h00, h01, _⟩ := hf 0 (by omega)
      have hspot : a.spot = none := by
        have hcell := (World.cells?_some h00).2.2 0 hsz
        rw [Nat.zero_mul] at hcell
        have ea : (a.add 0).add 0 = a := by simp [Addr.add]
        rw [ea, List.getElem?_eq_getElem (by omega)] at hcell
        unfold World.cell? at hcell
        cases hsp : a.spot with
        | none => rfl
        | some s => rw [hsp] at hcell; split at hcell <;> simp at hcell
      obtain ⟨b, off, sp⟩ := a
      simp only at hspot
      subst hspot
      obtain ⟨cs, h1, h2, h3, _⟩ := hf i hi'
      have hcell := (World.cells?_some h1).2.2
      rw [addr_plain] at hcell
      have hlive : Live W b := by
        have h0 := hcell 0 hsz
        rw [addr_plain, List.getElem?_eq_getElem (by omega)] at h0
        exact World.block_lt_of_cell? W _ h0
      refine ⟨b, off, cs, rfl, hlive, h2, fun j hj => ?_, ?_⟩
      · have := hcell j hj
        rw [addr_plain] at this
        rw [this, List.getElem?_eq_getElem (by omega)]
        simp [List.getD, show j < cs.length by omega]
      · simpa [List.getD, hi'] using h3
    · obtain ⟨i, hi, rfl⟩ := List.mem_map.1 hd
      obtain ⟨_, _, _, _, hg⟩ := hf i (by simpa using hi)
      exact hg

theorem cells5' : Try.prog.cellsOf 5 = 1 := by kernel_rfl
theorem bytes5 : Try.prog.bytesOf 5 = 1 := by kernel_rfl
theorem cells25 : Try.prog.cellsOf 25 = 1 := by kernel_rfl
theorem bytes25 : Try.prog.bytesOf 25 = 24 := by kernel_rfl
theorem cells9' : Try.prog.cellsOf 9 = 1 := by kernel_rfl
theorem cells47' : Try.prog.cellsOf 47 = 3 := by kernel_rfl
theorem bytes47 : Try.prog.bytesOf 47 = 56 := by kernel_rfl
theorem cells51' : Try.prog.cellsOf 51 = 3 := by kernel_rfl
theorem bytes51 : Try.prog.bytesOf 51 = 40 := by kernel_rfl
theorem cells54' : Try.prog.cellsOf 54 = 5 := by kernel_rfl
theorem bytes54 : Try.prog.bytesOf 54 = 88 := by kernel_rfl
theorem cells62' : Try.prog.cellsOf 62 = 3 := by kernel_rfl
theorem bytes62 : Try.prog.bytesOf 62 = 64 := by kernel_rfl
theorem cells49' : Try.prog.cellsOf 49 = 1 := by kernel_rfl
theorem cells3' : Try.prog.cellsOf 3 = 1 := by kernel_rfl
theorem cells52' : Try.prog.cellsOf 52 = 1 := by kernel_rfl
theorem cells60' : Try.prog.cellsOf 60 = 1 := by kernel_rfl

theorem list_one {cs : List Value} (h : cs.length = 1) : ∃ c, cs = [c] := by
  match cs, h with
  | [c], _ => exact ⟨c, rfl⟩
theorem list_three {cs : List Value} (h : cs.length = 3) : ∃ c0 c1 c2, cs = [c0, c1, c2] := by
  match cs, h with
  | [c0, c1, c2], _ => exact ⟨c0, c1, c2, rfl⟩
theorem list_five {cs : List Value} (h : cs.length = 5) : ∃ c0 c1 c2 c3 c4, cs = [c0, c1, c2, c3, c4] := by
  match cs, h with
  | [c0, c1, c2, c3, c4], _ => exact ⟨c0, c1, c2, c3, c4, rfl⟩

/-- A slice of bytes. -/
theorem ns_of {fuel : Nat} {v : Value} {x : DataW H × List MemPlace} (h : DataW.trod enc Try.prog W 0 (fun _ => true) true fuel 25 [v] = some x) (hw : Wt 25 x.1) : ∃ zs, Ns (Live W) .u8 W v zs ∧ Byt zs ∧ zs.length ≤ 140737488351232 := by
  obtain ⟨zs, ⟨ao, cap, hv, h1, h2, h3, h4⟩, hg⟩ := sl_of (α := Int) 0 Try.underlying25 cells5' bytes5 (by omega) (El := fun z cs => cs = [.int .u8 z]) (Good := fun z => 0 ≤ z ∧ z < 256)
    (fun cs D Pl n ht hw hl => by
      obtain ⟨z, e1, e2, e3⟩ := DataW.trod_int Try.underlying5 ht
      refine ⟨z, e1, ?_⟩
      have := bounds_u8 e3
      omega) h hw
  refine ⟨zs, ⟨ao, cap, hv, h1, h2, by omega, fun i hi => ?_⟩, hg, by omega⟩
  obtain ⟨b, off, cs, e, hb, hl, hc, rfl⟩ := h4 i hi
  refine ⟨b, off, e, hb, ?_⟩
  have := hc 0 (by omega)
  simpa using this

/-- A pointer to a string. -/
theorem ps_of {fuel : Nat} {v : Value} {x : DataW H × List MemPlace} (h : DataW.trod enc Try.prog W 0 (fun _ => true) true fuel 49 [v] = some x) (hw : Wt 49 x.1) : ∃ s, Ps (Live W) W v s := by
  rcases DataW.trod_pointer Try.underlying49 h with ⟨hcs, _⟩ | ⟨a, cs', y, n, _, hcs, rfl, hcell, hy⟩
  · simp at hcs
    exact ⟨none, .inl ⟨hcs, rfl⟩⟩
  · simp at hcs
    subst hcs
    rw [cells9'] at hcell
    obtain ⟨str, rfl, rfl, hs⟩ := DataW.trod_string Try.underlying9 hy
    have hc := (World.cells?_some hcell).2.2 0 (by omega)
    have ea : a.add 0 = a := by simp [Addr.add]
    rw [ea] at hc
    have hspot : a.spot = none := by
      unfold World.cell? at hc
      cases hsp : a.spot with
      | none => rfl
      | some s => rw [hsp] at hc; split at hc <;> simp at hc
    obtain ⟨b, off, sp⟩ := a
    simp only at hspot
    subst hspot
    have hc' : W.cell? ⟨b, off, none⟩ = some (.string str) := by simpa using hc
    have hlen : str.size ≤ 140737488351232 := by
      have := Wt.ptr Try.underlying49 hw str.data.toList.length (by simp [DataW.weights])
      simpa using this
    exact ⟨some str, .inr ⟨b, off, str, rfl, World.block_lt_of_cell? W _ hc', hc', by omega, rfl⟩⟩

theorem und47 : ∃ f0 f1 f2 : Field, Try.prog.underlying 47 = some (.struct #[f0, f1, f2]) ∧ f0.type = 25 ∧ f1.type = 25 ∧ f2.type = 3 ∧ f0.offset = 0 ∧ f1.offset = 1 ∧ f2.offset = 2 := ⟨_, _, _, Try.underlying47, rfl, rfl, rfl, rfl, rfl, rfl⟩
theorem und51 : ∃ f0 f1 f2 : Field, Try.prog.underlying 51 = some (.struct #[f0, f1, f2]) ∧ f0.type = 49 ∧ f1.type = 49 ∧ f2.type = 25 ∧ f0.offset = 0 ∧ f1.offset = 1 ∧ f2.offset = 2 := ⟨_, _, _, Try.underlying51, rfl, rfl, rfl, rfl, rfl, rfl⟩
theorem und54 : ∃ f0 f1 f2 : Field, Try.prog.underlying 54 = some (.struct #[f0, f1, f2]) ∧ f0.type = 25 ∧ f1.type = 51 ∧ f2.type = 52 ∧ f0.offset = 0 ∧ f1.offset = 1 ∧ f2.offset = 4 := ⟨_, _, _, Try.underlying54, rfl, rfl, rfl, rfl, rfl, rfl⟩
theorem und62 : ∃ f0 f1 f2 : Field, Try.prog.underlying 62 = some (.struct #[f0, f1, f2]) ∧ f0.type = 25 ∧ f1.type = 60 ∧ f2.type = 9 ∧ f0.offset = 0 ∧ f1.offset = 1 ∧ f2.offset = 2 := ⟨_, _, _, Try.underlying62, rfl, rfl, rfl, rfl, rfl, rfl⟩

/-- A struct of three one-cell fields. -/
theorem fields3 {t t0 t1 t2 : Nat} (hu : ∃ f0 f1 f2 : Field, Try.prog.underlying t = some (.struct #[f0, f1, f2]) ∧ f0.type = t0 ∧ f1.type = t1 ∧ f2.type = t2 ∧ f0.offset = 0 ∧ f1.offset = 1 ∧ f2.offset = 2) (k0 : Try.prog.cellsOf t0 = 1) (k1 : Try.prog.cellsOf t1 = 1) (k2 : Try.prog.cellsOf t2 = 1)
    {n : Nat} {c0 c1 c2 : Value} {D : DataW H} {Pl : List MemPlace} (h : DataW.trod enc Try.prog W 0 (fun _ => true) true n t [c0, c1, c2] = some (D, Pl)) (hw : Wt t D) :
    ∃ n y0 y1 y2, DataW.trod enc Try.prog W 0 (fun _ => true) true n t0 [c0] = some y0 ∧ Wt t0 y0.1 ∧ DataW.trod enc Try.prog W 0 (fun _ => true) true n t1 [c1] = some y1 ∧ Wt t1 y1.1 ∧ DataW.trod enc Try.prog W 0 (fun _ => true) true n t2 [c2] = some y2 ∧ Wt t2 y2.1 := by
  obtain ⟨f0, f1, f2, hu, rfl, rfl, rfl, o0, o1, o2⟩ := hu
  obtain ⟨y0, y1, y2, m, e, _, h0, h1, h2⟩ := trod_struct3 hu h
  injection e with e1 e2
  subst e1
  have hws := Wt.struct3 hu hw
  rw [o0, k0] at h0
  rw [o1, k1] at h1
  rw [o2, k2] at h2
  exact ⟨m, y0, y1, y2, by simpa using h0, hws.1, by simpa using h1, hws.2.1, by simpa using h2, hws.2.2⟩

theorem comp_of {n : Nat} {c0 c1 c2 : Value} {D : DataW H} {Pl : List MemPlace} (h : DataW.trod enc Try.prog W 0 (fun _ => true) true n 51 [c0, c1, c2] = some (D, Pl)) (hw : Wt 51 D) : ∃ d, CompAt (Live W) W c0 c1 c2 d ∧ Byt d.sig := by
  obtain ⟨m, y0, y1, y2, h0, w0, h1, w1, h2, w2⟩ := fields3 und51 cells49' cells49' cells25 h hw
  obtain ⟨s0, p0⟩ := ps_of h0 w0
  obtain ⟨s1, p1⟩ := ps_of h1 w1
  obtain ⟨zs, hz, hb, _⟩ := ns_of h2 w2
  exact ⟨⟨s0, s1, zs⟩, ⟨p0, p1, hz⟩, hb⟩

theorem digs_of {fuel : Nat} {v : Value} {x : DataW H × List MemPlace} (h : DataW.trod enc Try.prog W 0 (fun _ => true) true fuel 52 [v] = some x) (hw : Wt 52 x.1) : ∃ ds, DigsAt (Live W) W v ds ∧ ∀ d ∈ ds, Byt d := by
  obtain ⟨ds, ⟨ao, cap, hv, h1, h2, h3, h4⟩, hg⟩ := sl_of (α := List Int) [] Try.underlying52 cells25 bytes25 (by omega) (El := fun z cs => ∃ c, cs = [c] ∧ Ns (Live W) .u8 W c z) (Good := Byt)
    (fun cs D Pl n ht hw hl => by
      obtain ⟨c, rfl⟩ := list_one hl
      obtain ⟨zs, hz, hb, _⟩ := ns_of ht hw
      exact ⟨zs, ⟨c, rfl, hz⟩, hb⟩) h hw
  exact ⟨ds, ⟨ao, cap, hv, h1, h2, by omega, h4⟩, hg⟩

theorem comps_of {fuel : Nat} {v : Value} {x : DataW H × List MemPlace} (h : DataW.trod enc Try.prog W 0 (fun _ => true) true fuel 60 [v] = some x) (hw : Wt 60 x.1) : ∃ ds, CompsAt (Live W) W v ds := by
  obtain ⟨ds, ⟨ao, cap, hv, h1, h2, h3, h4⟩, hg⟩ := sl_of (α := CompD) ⟨none, none, []⟩ Try.underlying60 cells51' bytes51 (by omega) (El := fun z cs => ∃ c0 c1 c2, cs = [c0, c1, c2] ∧ CompAt (Live W) W c0 c1 c2 z) (Good := fun _ => True)
    (fun cs D Pl n ht hw hl => by
      obtain ⟨c0, c1, c2, rfl⟩ := list_three hl
      obtain ⟨d, hd, _⟩ := comp_of ht hw
      exact ⟨d, ⟨c0, c1, c2, rfl, hd⟩, trivial⟩) h hw
  exact ⟨ds, ⟨ao, cap, hv, h1, h2, by omega, h4⟩⟩

theorem keys_of {fuel : Nat} {v : Value} {x : DataW H × List MemPlace} (h : DataW.trod enc Try.prog W 0 (fun _ => true) true fuel 22 [v] = some x) (hw : Wt 22 x.1) :
    ∃ ks, KeysAt (Live W) W v ks ∧ ∀ k ∈ ks, (Byt k.impl ∧ Byt k.inst) ∧ k.impl.length ≤ 140737488351232 := by
  obtain ⟨ds, ⟨ao, cap, hv, h1, h2, h3, h4⟩, hg⟩ := sl_of (α := KeyD) ⟨[], [], 0⟩ Try.underlying22 cells47' bytes47 (by omega) (El := fun z cs => KeyAt (Live W) W z cs) (Good := fun k => (Byt k.impl ∧ Byt k.inst) ∧ k.impl.length ≤ 140737488351232)
    (fun cs D Pl n ht hw hl => by
      obtain ⟨c0, c1, c2, rfl⟩ := list_three hl
      obtain ⟨m, y0, y1, y2, h0, w0, h1, w1, h2, w2⟩ := fields3 und47 cells25 cells25 cells3' ht hw
      obtain ⟨z0, p0, b0, l0⟩ := ns_of h0 w0
      obtain ⟨z1, p1, b1, _⟩ := ns_of h1 w1
      obtain ⟨t, e, _, _⟩ := DataW.trod_int Try.underlying3 h2
      simp at e
      subst e
      exact ⟨⟨z0, z1, t⟩, ⟨c0, c1, rfl, p0, p1⟩, ⟨b0, b1⟩, l0⟩) h hw
  exact ⟨ds, ⟨ao, cap, hv, h1, h2, by omega, h4⟩, hg⟩

theorem rvs_of {fuel : Nat} {v : Value} {x : DataW H × List MemPlace} (h : DataW.trod enc Try.prog W 0 (fun _ => true) true fuel 23 [v] = some x) (hw : Wt 23 x.1) :
    ∃ rs, RvsAt (Live W) W v rs ∧ ∀ r ∈ rs, Byt r.impl ∧ r.impl.length ≤ 140737488351232 := by
  obtain ⟨ds, ⟨ao, cap, hv, h1, h2, h3, h4⟩, hg⟩ := sl_of (α := RvD) ⟨[], ⟨none, none, []⟩, []⟩ Try.underlying23 cells54' bytes54 (by omega) (El := fun z cs => RvAt (Live W) W z cs) (Good := fun r => Byt r.impl ∧ r.impl.length ≤ 140737488351232)
    (fun cs D Pl n ht hw hl => by
      obtain ⟨c0, c1, c2, c3, c4, rfl⟩ := list_five hl
      obtain ⟨f0, f1, f2, hu, t0, t1, t2, o0, o1, o2⟩ := und54
      obtain ⟨y0, y1, y2, m, e, _, h0, h1, h2⟩ := trod_struct3 hu ht
      injection e with e1 e2
      subst e1
      have hws := Wt.struct3 hu hw
      rw [o0, t0, cells25] at h0
      rw [o1, t1, cells51'] at h1
      rw [o2, t2, cells52'] at h2
      rw [t0, t1, t2] at hws
      simp at h0 h1 h2
      obtain ⟨z0, p0, b0, l0⟩ := ns_of h0 hws.1
      obtain ⟨d1, p1, _⟩ := comp_of h1 hws.2.1
      obtain ⟨ds, p2, _⟩ := digs_of h2 hws.2.2
      exact ⟨⟨z0, d1, ds⟩, ⟨c0, c1, c2, c3, c4, rfl, p0, p1, p2⟩, b0, l0⟩) h hw
  exact ⟨ds, ⟨ao, cap, hv, h1, h2, by omega, h4⟩, hg⟩

theorem certs_of {fuel : Nat} {v : Value} {x : DataW H × List MemPlace} (h : DataW.trod enc Try.prog W 0 (fun _ => true) true fuel 24 [v] = some x) (hw : Wt 24 x.1) : ∃ cs, CertsAt (Live W) W v cs := by
  obtain ⟨ds, ⟨ao, cap, hv, h1, h2, h3, h4⟩, hg⟩ := sl_of (α := CertD) ⟨[], []⟩ Try.underlying24 cells62' bytes62 (by omega) (El := fun z cs => CertAt (Live W) W z cs) (Good := fun _ => True)
    (fun cs D Pl n ht hw hl => by
      obtain ⟨c0, c1, c2, rfl⟩ := list_three hl
      obtain ⟨m, y0, y1, y2, h0, w0, h1, w1, h2, w2⟩ := fields3 und62 cells25 cells60' cells9' ht hw
      obtain ⟨z0, p0, _, _⟩ := ns_of h0 w0
      obtain ⟨cs, p1⟩ := comps_of h1 w1
      obtain ⟨str, e, rfl, _⟩ := DataW.trod_string Try.underlying9 h2
      simp at e
      subst e
      have hlen : str.size ≤ 140737488351232 := by
        have := w2 str.data.toList.length (by simp [DataW.weights])
        simpa using this
      exact ⟨⟨z0, cs⟩, ⟨c0, c1, str, rfl, by omega, p0, p1⟩, trivial⟩) h hw
  exact ⟨ds, ⟨ao, cap, hv, h1, h2, by omega, h4⟩⟩
end
end Go.Proofs.Qxb6606015a
