/-
  PLAIN PARTS of the proofs of this seat: what lies in memory, told as predicates over a world: slices of bytes, pointers to strings, structs, slices of structs. 'p': which blocks the cells lie in.
-/
import Derived.Test.Qxb6606015aProg
import Derived.WalkKit
import Derived.WalkSpells
import Derived.WalkLawsBesides
import Derived.BigQuiet
import Derived.Deep.QuietTactic
import Derived.Deep.LoopGhost
import Derived.Deep.RegionHeld3
import Derived.Deep.OwnRows
namespace Go.Proofs.Qxb6606015a
open Go.RowKit
set_option linter.unusedVariables false
set_option linter.unusedSimpArgs false

theorem addr_plain (b off i : Nat) : (Addr.add ⟨b, off, none⟩ i) = ⟨b, off + i, none⟩ := by
  unfold Addr.add; split <;> simp_all

/-- The size of an element type, as the walk asks it. -/
def Sized (e size : Nat) : Prop := ∀ w, (sizeOf e).run Try.prog w = .ok size w

theorem idx_eq {T e size : Nat} (hT : Try.prog.underlying T = some (.slice e)) (hs : Sized e size) (b off n cap i : Nat) (hi : i < n) (w' : World) :
    (Instr.indexAt T (.slice (some ⟨b, off, none⟩) n cap) (.int .i64 (i : Int))).run Try.prog w' = .ok (.pointer (some ⟨b, off + i * size, none⟩)) w' := by
  have he : Try.prog.elem T = e := by simp [Program.elem, hT]
  rw [run_indexAt_slice (h := by rw [he]; exact hT), if_pos (by omega), he, hs w']
  simp [Result.andThen, addr_plain]

theorem sized5 : Sized 5 1 := fun w => by simp [go_sem]
theorem sized3 : Sized 3 1 := fun w => by simp [go_sem]
theorem sized25 : Sized 25 1 := fun w => by simp [go_sem]
theorem sized47 : Sized 47 3 := fun w => by simp [go_sem]
theorem sized54 : Sized 54 5 := fun w => by simp [go_sem]
theorem sized51 : Sized 51 3 := fun w => by simp [go_sem]
theorem sized62 : Sized 62 3 := fun w => by simp [go_sem]
theorem sized68 : Sized 68 3 := fun w => by simp [go_sem]
theorem sized58 : Sized 58 5 := fun w => by simp [go_sem]
theorem sized56 : Sized 56 3 := fun w => by simp [go_sem]
theorem sized72 : Sized 72 3 := fun w => by simp [go_sem]
theorem sized66 : Sized 66 1 := fun w => by simp [go_sem]

/-- v is a slice of one-cell integers of kind k: the numbers zs, its cells in blocks that p lets. -/
def Ns (p : Nat → Prop) (k : IntKind) (w : World) (v : Value) (zs : List Int) : Prop :=
  ∃ ao cap, v = .slice ao zs.length cap ∧ (ao = none → zs.length = 0 ∧ cap = 0) ∧ zs.length ≤ cap ∧ cap ≤ 140737488355328 ∧
    ∀ i, i < zs.length → ∃ b off, ao = some ⟨b, off, none⟩ ∧ p b ∧ w.cell? ⟨b, off + i, none⟩ = some (.int k (zs.getD i 0))

/-- v is a pointer to a string, or nil. -/
def Ps (p : Nat → Prop) (w : World) (v : Value) (s : Option ByteArray) : Prop :=
  (v = .pointer none ∧ s = none) ∨ ∃ b off str, v = .pointer (some ⟨b, off, none⟩) ∧ p b ∧ w.cell? ⟨b, off, none⟩ = some (.string str) ∧ str.size ≤ 140737488355328 ∧ s = some str

/-- v is a slice of n elements of 'size' cells each; 'el i' says what element i's cells are. -/
def Sl (p : Nat → Prop) (w : World) (size bytes : Nat) (v : Value) (n : Nat) (el : Nat → List Value → Prop) : Prop :=
  ∃ ao cap, v = .slice ao n cap ∧ (ao = none → n = 0 ∧ cap = 0) ∧ n ≤ cap ∧ cap * bytes ≤ 140737488355328 ∧
    ∀ i, i < n → ∃ b off cs, ao = some ⟨b, off, none⟩ ∧ p b ∧ cs.length = size ∧ (∀ j, j < size → w.cell? ⟨b, off + i * size + j, none⟩ = some (cs.getD j undef)) ∧ el i cs

structure CompD where
  mt : Option ByteArray
  ver : Option ByteArray
  sig : List Int
structure KeyD where
  impl : List Int
  inst : List Int
  tag : Int
structure RvD where
  impl : List Int
  comp : CompD
  digs : List (List Int)
structure CertD where
  impl : List Int
  comps : List CompD

def CompAt (p : Nat → Prop) (w : World) (c0 c1 c2 : Value) (d : CompD) : Prop := Ps p w c0 d.mt ∧ Ps p w c1 d.ver ∧ Ns p .u8 w c2 d.sig
def KeyAt (p : Nat → Prop) (w : World) (k : KeyD) (cs : List Value) : Prop :=
  ∃ c0 c1, cs = [c0, c1, .int .i64 k.tag] ∧ Ns p .u8 w c0 k.impl ∧ Ns p .u8 w c1 k.inst
def DigsAt (p : Nat → Prop) (w : World) (v : Value) (ds : List (List Int)) : Prop :=
  Sl p w 1 24 v ds.length (fun j cs => ∃ c, cs = [c] ∧ Ns p .u8 w c (ds.getD j []))
def RvAt (p : Nat → Prop) (w : World) (r : RvD) (cs : List Value) : Prop :=
  ∃ c0 c1 c2 c3 c4, cs = [c0, c1, c2, c3, c4] ∧ Ns p .u8 w c0 r.impl ∧ CompAt p w c1 c2 c3 r.comp ∧ DigsAt p w c4 r.digs
def CompsAt (p : Nat → Prop) (w : World) (v : Value) (ds : List CompD) : Prop :=
  Sl p w 3 40 v ds.length (fun j cs => ∃ c0 c1 c2, cs = [c0, c1, c2] ∧ CompAt p w c0 c1 c2 (ds.getD j ⟨none, none, []⟩))
def CertAt (p : Nat → Prop) (w : World) (r : CertD) (cs : List Value) : Prop :=
  ∃ c0 c1 s, cs = [c0, c1, .string s] ∧ s.size ≤ 140737488355328 ∧ Ns p .u8 w c0 r.impl ∧ CompsAt p w c1 r.comps

def KeysAt (p : Nat → Prop) (w : World) (v : Value) (ks : List KeyD) : Prop :=
  Sl p w 3 56 v ks.length (fun i cs => KeyAt p w (ks.getD i ⟨[], [], 0⟩) cs)
def RvsAt (p : Nat → Prop) (w : World) (v : Value) (rs : List RvD) : Prop :=
  Sl p w 5 88 v rs.length (fun i cs => RvAt p w (rs.getD i ⟨[], ⟨none, none, []⟩, []⟩) cs)
def CertsAt (p : Nat → Prop) (w : World) (v : Value) (cs : List CertD) : Prop :=
  Sl p w 3 64 v cs.length (fun i x => CertAt p w (cs.getD i ⟨[], []⟩) x)

/-- The blocks that p lets are as they were. -/
def Keeps (p : Nat → Prop) (w w' : World) : Prop := ∀ b, p b → w'.heap[b]? = w.heap[b]?

theorem Keeps.cell {p : Nat → Prop} {w w' : World} (h : Keeps p w w') {b o : Nat} (hb : p b) : w'.cell? ⟨b, o, none⟩ = w.cell? ⟨b, o, none⟩ :=
  World.cell?_of_block (w := w) (h b hb)

theorem Below.keeps {B : Nat} {w w' : World} (h : Below B w w') {p : Nat → Prop} (hp : ∀ b, p b → b < B) : Keeps p w w' := fun b hb => h.block b (hp b hb)

theorem Ns.keep {p : Nat → Prop} {k : IntKind} {w w' : World} {v : Value} {zs : List Int} (h : Ns p k w v zs) (hk : Keeps p w w') : Ns p k w' v zs := by
  obtain ⟨ao, cap, e, h1, h2, h3, h4⟩ := h
  refine ⟨ao, cap, e, h1, h2, h3, fun i hi => ?_⟩
  obtain ⟨b, off, e2, hb, hc⟩ := h4 i hi
  exact ⟨b, off, e2, hb, (hk.cell hb).trans hc⟩

theorem Ns.mono {p q : Nat → Prop} {k : IntKind} {w : World} {v : Value} {zs : List Int} (h : Ns p k w v zs) (hpq : ∀ b, p b → q b) : Ns q k w v zs := by
  obtain ⟨ao, cap, e, h1, h2, h3, h4⟩ := h
  refine ⟨ao, cap, e, h1, h2, h3, fun i hi => ?_⟩
  obtain ⟨b, off, e2, hb, hc⟩ := h4 i hi
  exact ⟨b, off, e2, hpq b hb, hc⟩

theorem Ps.keep {p : Nat → Prop} {w w' : World} {v : Value} {s : Option ByteArray} (h : Ps p w v s) (hk : Keeps p w w') : Ps p w' v s := by
  rcases h with h | ⟨b, off, str, e, hb, hc, r⟩
  · exact .inl h
  · exact .inr ⟨b, off, str, e, hb, (hk.cell hb).trans hc, r⟩

theorem Ps.mono {p q : Nat → Prop} {w : World} {v : Value} {s : Option ByteArray} (h : Ps p w v s) (hpq : ∀ b, p b → q b) : Ps q w v s := by
  rcases h with h | ⟨b, off, str, e, hb, hc, r⟩
  · exact .inl h
  · exact .inr ⟨b, off, str, e, hpq b hb, hc, r⟩

theorem Sl.keep {p : Nat → Prop} {w w' : World} {size bytes : Nat} {v : Value} {n : Nat} {el el' : Nat → List Value → Prop} (h : Sl p w size bytes v n el) (hk : Keeps p w w') (hel : ∀ i cs, i < n → el i cs → el' i cs) : Sl p w' size bytes v n el' := by
  obtain ⟨ao, cap, e, h1, h2, h3, h4⟩ := h
  refine ⟨ao, cap, e, h1, h2, h3, fun i hi => ?_⟩
  obtain ⟨b, off, cs, e2, hb, hl, hc, he⟩ := h4 i hi
  exact ⟨b, off, cs, e2, hb, hl, fun j hj => (hk.cell hb).trans (hc j hj), hel i cs hi he⟩

theorem Sl.mono {p q : Nat → Prop} {w : World} {size bytes : Nat} {v : Value} {n : Nat} {el el' : Nat → List Value → Prop} (h : Sl p w size bytes v n el) (hpq : ∀ b, p b → q b) (hel : ∀ i cs, i < n → el i cs → el' i cs) : Sl q w size bytes v n el' := by
  obtain ⟨ao, cap, e, h1, h2, h3, h4⟩ := h
  refine ⟨ao, cap, e, h1, h2, h3, fun i hi => ?_⟩
  obtain ⟨b, off, cs, e2, hb, hl, hc, he⟩ := h4 i hi
  exact ⟨b, off, cs, e2, hpq b hb, hl, hc, hel i cs hi he⟩

theorem CompAt.keep {p : Nat → Prop} {w w' : World} {c0 c1 c2 : Value} {d : CompD} (h : CompAt p w c0 c1 c2 d) (hk : Keeps p w w') : CompAt p w' c0 c1 c2 d :=
  ⟨h.1.keep hk, h.2.1.keep hk, h.2.2.keep hk⟩
theorem CompAt.mono {p q : Nat → Prop} {w : World} {c0 c1 c2 : Value} {d : CompD} (h : CompAt p w c0 c1 c2 d) (hk : ∀ b, p b → q b) : CompAt q w c0 c1 c2 d :=
  ⟨h.1.mono hk, h.2.1.mono hk, h.2.2.mono hk⟩
theorem KeyAt.keep {p : Nat → Prop} {w w' : World} {k : KeyD} {cs : List Value} (h : KeyAt p w k cs) (hk : Keeps p w w') : KeyAt p w' k cs := by
  obtain ⟨c0, c1, e, h0, h1⟩ := h
  exact ⟨c0, c1, e, h0.keep hk, h1.keep hk⟩
theorem KeyAt.mono {p q : Nat → Prop} {w : World} {k : KeyD} {cs : List Value} (h : KeyAt p w k cs) (hk : ∀ b, p b → q b) : KeyAt q w k cs := by
  obtain ⟨c0, c1, e, h0, h1⟩ := h
  exact ⟨c0, c1, e, h0.mono hk, h1.mono hk⟩
theorem DigsAt.keep {p : Nat → Prop} {w w' : World} {v : Value} {ds : List (List Int)} (h : DigsAt p w v ds) (hk : Keeps p w w') : DigsAt p w' v ds :=
  Sl.keep h hk fun i cs _ ⟨c, e, hn⟩ => ⟨c, e, hn.keep hk⟩
theorem DigsAt.mono {p q : Nat → Prop} {w : World} {v : Value} {ds : List (List Int)} (h : DigsAt p w v ds) (hk : ∀ b, p b → q b) : DigsAt q w v ds :=
  Sl.mono h hk fun i cs _ ⟨c, e, hn⟩ => ⟨c, e, hn.mono hk⟩
theorem RvAt.keep {p : Nat → Prop} {w w' : World} {r : RvD} {cs : List Value} (h : RvAt p w r cs) (hk : Keeps p w w') : RvAt p w' r cs := by
  obtain ⟨c0, c1, c2, c3, c4, e, h0, h1, h2⟩ := h
  exact ⟨c0, c1, c2, c3, c4, e, h0.keep hk, h1.keep hk, h2.keep hk⟩
theorem RvAt.mono {p q : Nat → Prop} {w : World} {r : RvD} {cs : List Value} (h : RvAt p w r cs) (hk : ∀ b, p b → q b) : RvAt q w r cs := by
  obtain ⟨c0, c1, c2, c3, c4, e, h0, h1, h2⟩ := h
  exact ⟨c0, c1, c2, c3, c4, e, h0.mono hk, h1.mono hk, h2.mono hk⟩
theorem CompsAt.keep {p : Nat → Prop} {w w' : World} {v : Value} {ds : List CompD} (h : CompsAt p w v ds) (hk : Keeps p w w') : CompsAt p w' v ds :=
  Sl.keep h hk fun i cs _ ⟨c0, c1, c2, e, hn⟩ => ⟨c0, c1, c2, e, hn.keep hk⟩
theorem CertAt.keep {p : Nat → Prop} {w w' : World} {r : CertD} {cs : List Value} (h : CertAt p w r cs) (hk : Keeps p w w') : CertAt p w' r cs := by
  obtain ⟨c0, c1, s, e, hs, h0, h1⟩ := h
  exact ⟨c0, c1, s, e, hs, h0.keep hk, h1.keep hk⟩
theorem KeysAt.keep {p : Nat → Prop} {w w' : World} {v : Value} {ks : List KeyD} (h : KeysAt p w v ks) (hk : Keeps p w w') : KeysAt p w' v ks :=
  Sl.keep h hk fun _ _ _ he => he.keep hk
theorem KeysAt.mono {p q : Nat → Prop} {w : World} {v : Value} {ks : List KeyD} (h : KeysAt p w v ks) (hk : ∀ b, p b → q b) : KeysAt q w v ks :=
  Sl.mono h hk fun _ _ _ he => he.mono hk
theorem RvsAt.keep {p : Nat → Prop} {w w' : World} {v : Value} {rs : List RvD} (h : RvsAt p w v rs) (hk : Keeps p w w') : RvsAt p w' v rs :=
  Sl.keep h hk fun _ _ _ he => he.keep hk
theorem RvsAt.mono {p q : Nat → Prop} {w : World} {v : Value} {rs : List RvD} (h : RvsAt p w v rs) (hk : ∀ b, p b → q b) : RvsAt q w v rs :=
  Sl.mono h hk fun _ _ _ he => he.mono hk
theorem CertsAt.keep {p : Nat → Prop} {w w' : World} {v : Value} {cs : List CertD} (h : CertsAt p w v cs) (hk : Keeps p w w') : CertsAt p w' v cs :=
  Sl.keep h hk fun _ _ _ he => he.keep hk

/-! ### what a walk takes out of them -/
theorem Ns.shape {p : Nat → Prop} {k : IntKind} {w : World} {v : Value} {zs : List Int} (h : Ns p k w v zs) : ∃ ao cap, v = .slice ao zs.length cap ∧ zs.length ≤ 140737488355328 ∧ (ao = none → zs = []) := by
  obtain ⟨ao, cap, rfl, h1, h2, h3, h4⟩ := h
  exact ⟨ao, cap, rfl, by omega, fun e => List.eq_nil_of_length_eq_zero (h1 e).1⟩

theorem Ns.at {p : Nat → Prop} {k : IntKind} {w : World} {v : Value} {zs : List Int} (h : Ns p k w v zs) {T e : Nat} (hT : Try.prog.underlying T = some (.slice e)) (hs : Sized e 1) (i : Nat) (hi : i < zs.length) :
    ∃ b o, (∀ w', (Instr.indexAt T v (.int .i64 (i : Int))).run Try.prog w' = .ok (.pointer (some ⟨b, o, none⟩)) w') ∧ p b ∧ w.cell? ⟨b, o, none⟩ = some (.int k (zs.getD i 0)) := by
  obtain ⟨ao, cap, rfl, h1, h2, h3, h4⟩ := h
  obtain ⟨b, off, rfl, hb, hc⟩ := h4 i hi
  refine ⟨b, off + i, fun w' => ?_, hb, hc⟩
  rw [idx_eq hT hs _ _ _ _ _ hi, Nat.mul_one]

theorem Sl.shape {p : Nat → Prop} {w : World} {size bytes : Nat} {v : Value} {n : Nat} {el : Nat → List Value → Prop} (h : Sl p w size bytes v n el) : ∃ ao cap, v = .slice ao n cap ∧ n * bytes ≤ 140737488355328 ∧ (ao = none → n = 0) := by
  obtain ⟨ao, cap, rfl, h1, h2, h3, h4⟩ := h
  exact ⟨ao, cap, rfl, Nat.le_trans (Nat.mul_le_mul_right _ h2) h3, fun e => (h1 e).1⟩

theorem Sl.at {p : Nat → Prop} {w : World} {size bytes : Nat} {v : Value} {n : Nat} {el : Nat → List Value → Prop} (h : Sl p w size bytes v n el) {T e : Nat} (hT : Try.prog.underlying T = some (.slice e)) (hs : Sized e size) (i : Nat) (hi : i < n) :
    ∃ b o cs, (∀ w', (Instr.indexAt T v (.int .i64 (i : Int))).run Try.prog w' = .ok (.pointer (some ⟨b, o, none⟩)) w') ∧ p b ∧ cs.length = size ∧ (∀ j, j < size → w.cell? ⟨b, o + j, none⟩ = some (cs.getD j undef)) ∧ el i cs := by
  obtain ⟨ao, cap, rfl, h1, h2, h3, h4⟩ := h
  obtain ⟨b, off, cs, rfl, hb, hl, hc, he⟩ := h4 i hi
  exact ⟨b, off + i * size, cs, fun w' => idx_eq hT hs _ _ _ _ _ hi w', hb, hl, hc, he⟩

/-- Three cells, written out. -/
theorem cells3 {w : World} {b o : Nat} {c0 c1 c2 : Value} (h : ∀ j, j < 3 → w.cell? ⟨b, o + j, none⟩ = some ([c0, c1, c2].getD j undef)) :
    w.cell? ⟨b, o, none⟩ = some c0 ∧ w.cell? ⟨b, o + 1, none⟩ = some c1 ∧ w.cell? ⟨b, o + 2, none⟩ = some c2 :=
  ⟨h 0 (by omega), h 1 (by omega), h 2 (by omega)⟩
theorem cells5 {w : World} {b o : Nat} {c0 c1 c2 c3 c4 : Value} (h : ∀ j, j < 5 → w.cell? ⟨b, o + j, none⟩ = some ([c0, c1, c2, c3, c4].getD j undef)) :
    w.cell? ⟨b, o, none⟩ = some c0 ∧ w.cell? ⟨b, o + 1, none⟩ = some c1 ∧ w.cell? ⟨b, o + 2, none⟩ = some c2 ∧ w.cell? ⟨b, o + 3, none⟩ = some c3 ∧ w.cell? ⟨b, o + 4, none⟩ = some c4 :=
  ⟨h 0 (by omega), h 1 (by omega), h 2 (by omega), h 3 (by omega), h 4 (by omega)⟩
end Go.Proofs.Qxb6606015a
