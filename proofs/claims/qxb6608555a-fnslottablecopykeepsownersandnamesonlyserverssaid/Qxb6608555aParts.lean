/-
  PARTS: arrays of 16384 cells by value; the slot table's block; a map[string]bool of the call's own; what a step touches.
-/
import Derived.Test.Qxb6608555aProg
import Derived.WalkKit
import Derived.WalkSpells
import Derived.WalkLawsBesides
import Derived.BigQuiet
import Derived.Deep.LoopGhost
import Derived.Deep.DeepCutAuto
import Derived.Deep.MidRow
import Derived.Below
import Derived.ChangeKeysEq
import Derived.Maps.AppendAt
import Derived.Maps.OwnSet
import Derived.Laws.OwnMore
import Derived.OwnWalk
namespace Go.Proofs.Qxb6608555a
open Go.RowKit
set_option linter.unusedVariables false
set_option linter.unusedSimpArgs false
set_option maxRecDepth 100000

theorem hid {p : Prop} (h : p) : Hid p := h

/-- Cells that are known by what they read as alone (so that nothing unrolls them). -/
theorem row_exists (n : Nat) (g : Nat → Value) : ∃ l : List Value, l.length = n ∧ ∀ s, s < n → l[s]? = some (g s) :=
  ⟨(List.range n).map g, by simp, fun s hs => by rw [List.getElem?_map, List.getElem?_range hs]; rfl⟩
noncomputable def row (n : Nat) (g : Nat → Value) : List Value := Classical.choose (row_exists n g)
theorem row_len (n : Nat) (g : Nat → Value) : (row n g).length = n := (Classical.choose_spec (row_exists n g)).1
theorem row_get (n : Nat) (g : Nat → Value) (s : Nat) (h : s < n) : (row n g)[s]? = some (g s) := (Classical.choose_spec (row_exists n g)).2 s h
theorem row_const (n : Nat) (v : Value) : row n (fun _ => v) = List.replicate n v := by
  apply List.ext_getElem?
  intro s
  by_cases hs : s < n
  · rw [row_get n _ s hs, List.getElem?_replicate, if_pos hs]
  · rw [List.getElem?_eq_none (by rw [row_len]; omega), List.getElem?_eq_none (by simp; omega)]

/-- An array of 16384 places: its cells. -/
noncomputable def arr (f : Nat → Nat) : List Value := row 16384 (fun s => .int .u16 (f s))
theorem arr_len (f : Nat → Nat) : (arr f).length = 16384 := row_len _ _
theorem arr_get (f : Nat → Nat) (s : Nat) (h : s < 16384) : (arr f)[s]? = some (.int .u16 (f s)) := row_get _ _ s h
/-- .. of strings. -/
noncomputable def sarr (f : Nat → ByteArray) : List Value := row 16384 (fun s => .string (f s))
theorem sarr_len (f : Nat → ByteArray) : (sarr f).length = 16384 := row_len _ _
theorem sarr_get (f : Nat → ByteArray) (s : Nat) (h : s < 16384) : (sarr f)[s]? = some (.string (f s)) := row_get _ _ s h

theorem info29 : (Try.prog.info? 29).bind (·.zero) = some (.agg (Array.replicate 16384 (.int .u16 0))) := by kernel_rfl
theorem info32 : (Try.prog.info? 32).bind (·.zero) = some (.agg (Array.replicate 16384 (.string ⟨#[]⟩))) := by kernel_rfl
theorem info57 : (Try.prog.info? 57).bind (·.zero) = some (.agg (Array.replicate 16384 (.int .u16 0) ++ #[.slice none 0 0, .pointer none])) := by kernel_rfl
theorem size29 : (Try.prog.info? 29).map (·.size) = some 16384 := by kernel_rfl
theorem size32 : (Try.prog.info? 32).map (·.size) = some 16384 := by kernel_rfl

theorem zero_of {t : TypeId} {z : Value} (h : (Try.prog.info? t).bind (·.zero) = some z) (w : World) : (zeroValue t).run Try.prog w = .ok z w := by
  obtain ⟨i, hi, hz⟩ := Option.bind_eq_some_iff.1 h
  simp [zeroValue, typeInfo, hi, hz]

theorem rep_toArray (n : Nat) (v : Value) : (List.replicate n v).toArray = Array.replicate n v := by simp
theorem arr_zero : (arr (fun _ => 0)).toArray = Array.replicate 16384 (.int .u16 0) := by
  unfold arr
  rw [show (fun s : Nat => Value.int .u16 (((fun _ => 0) s : Nat) : Int)) = (fun _ => Value.int .u16 0) from rfl, row_const, rep_toArray]
theorem sarr_zero : (sarr (fun _ => ⟨#[]⟩)).toArray = Array.replicate 16384 (.string ⟨#[]⟩) := by
  unfold sarr
  rw [show (fun s : Nat => Value.string ((fun _ => (⟨#[]⟩ : ByteArray)) s)) = (fun _ => Value.string ⟨#[]⟩) from rfl, row_const, rep_toArray]

theorem alloc29 (w : World) : (Instr.alloc 29 true (.tuple #[])).run Try.prog w = .ok (.pointer (some ⟨w.heap.size, 0, none⟩)) (w.alloc (.cells (arr (fun _ => 0)).toArray 29)) := by
  rw [arr_zero]
  simp only [Instr.alloc, Sem.run_bind, zero_of info29 w, Result.andThen_ok]
  rfl
theorem alloc32 (w : World) : (Instr.alloc 32 true (.tuple #[])).run Try.prog w = .ok (.pointer (some ⟨w.heap.size, 0, none⟩)) (w.alloc (.cells (sarr (fun _ => ⟨#[]⟩)).toArray 32)) := by
  rw [sarr_zero]
  simp only [Instr.alloc, Sem.run_bind, zero_of info32 w, Result.andThen_ok]
  rfl

/-- A fresh table's cells. -/
noncomputable def tab0 (v : Value) : Array Value := (arr (fun _ => 0)).toArray ++ #[v, .pointer none]
theorem build57 (a : Option Addr) (n c : Nat) (w : World) : (Instr.build 57 #[(1, .slice a n c)]).run Try.prog w = .ok (.agg (tab0 (.slice a n c))) w := by
  unfold tab0
  rw [arr_zero]
  simp only [Instr.build, Sem.run_bind, zero_of info57 w, Result.andThen_ok, run_underlying Try.underlying57]
  simp [Value.cells, Try.sizeOf29, Instr.fill, go_sem]
theorem box57 (c : Array Value) (w : World) : (Instr.box 57 (.agg c)).run Try.prog w = .ok (.pointer (some ⟨w.heap.size, 0, none⟩)) (w.alloc (.cells c 57)) := rfl

/-! ### '!=' on two arrays that are alike -/
theorem equal29 (f : Nat → Nat) (w : World) : (Op.equal 29 (.agg (arr f).toArray) (.agg (arr f).toArray)).run Try.prog w = .ok true w := by
  obtain ⟨i, hi⟩ : ∃ i, Try.prog.info? 28 = some i := Option.isSome_iff_exists.1 (by kernel_rfl)
  have hc : Try.prog.cellsOf 28 = 1 := by kernel_rfl
  show (Op.equalIn (9999 + 1) 29 _ _).run Try.prog w = _
  rw [run_equalIn_array w 9999 _ _ Try.underlying29 hi, hc]
  have key : ∀ is : List Nat, (∀ s ∈ is, s < 16384) → (Op.eqItems 9999 28 1 (arr f).toArray (arr f).toArray is).run Try.prog w = .ok true w := by
    intro is
    induction is with
    | nil => intro _; simp [Op.eqItems]
    | cons s is ih =>
      intro h
      have hs := h s (by simp)
      have hp : (part 28 (arr f).toArray (s * 1)).run Try.prog w = .ok (.int .u16 (f s)) w := by
        simp [part, isAgg, run_underlying Try.underlying28, arr_get f s hs, Sem.run_bind, Result.andThen]
      simp only [Op.eqItems, Sem.run_bind, hp, Result.andThen_ok, run_equalIn_int w 9998 28 .u16 .u16 _ _ Try.underlying28]
      simp
      exact ih (fun s' hs' => h s' (by simp [hs']))
  exact key _ (fun s hs => by simpa using hs)
theorem neq29 (f : Nat → Nat) (w : World) : (binOp .neq 29 (.agg (arr f).toArray) (.agg (arr f).toArray)).run Try.prog w = .ok (.bool false) w := by
  simp [binOp, Sem.run_bind, equal29 f w, Result.andThen]
theorem guard29 (x y : Operand) (a b : Array Value) (w : World) : (eqGuard .neq 29 x y (.agg a) (.agg b)).run Try.prog w = .ok () w :=
  run_eqGuard_agg w .neq 29 x y a b (by kernel_rfl)
end Go.Proofs.Qxb6608555a
