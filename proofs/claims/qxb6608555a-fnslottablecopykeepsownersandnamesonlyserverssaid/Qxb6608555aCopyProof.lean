/-
  PROOF of 'Rows.FnSlotTableCopyKeepsOwnersAndNamesOnlyServersSaid': the guide's template for a law, by hand for a slice of ints, a slice of strings, an int and a string; the walk is walk4.
-/
import Derived.Test.Qxb6608555aRows
import Derived.Test.Qxb6608555aWalk4
import Derived.WalkKit
import Derived.ProofKit
import Derived.OpenShut
import Derived.ShutString
import Derived.ChangeOld
import Derived.SliceStrings
import Derived.Below
namespace Go.Proofs.Qxb6608555a.fnSlotTableCopyKeepsOwnersAndNamesOnlyServers
open Go.ChangeShapes Go.WideShapes Go.ChangeAt Go.RowKit
open Go.ChangeMaps (open_string shut_string)
set_option linter.unusedVariables false

theorem own : ownKnob Try.prog.godebug = none := by kernel_rfl
theorem laidOut : laidOutB Try.prog = true := by kernel_rfl

theorem idx_x (x : Addr) (n cap k : Nat) (hk : k < n) (w' : World) : (Instr.indexAt 22 (.slice (some x) n cap) (.int .i64 (k : Int))).run Try.prog w' = .ok (.pointer (some (x.add k))) w' := by
  have he : Try.prog.elem 22 = 3 := by simp [Program.elem, Try.underlying22]
  rw [run_indexAt_slice (h := by rw [he]; exact Try.underlying22), if_pos (by omega), he, sized3 w']
  simp [Result.andThen]
theorem idx_s (x : Addr) (n cap k : Nat) (q : IntKind) (hk : k < n) (w' : World) : (Instr.indexAt 23 (.slice (some x) n cap) (.int q (k : Int))).run Try.prog w' = .ok (.pointer (some (x.add k))) w' := by
  have he : Try.prog.elem 23 = 9 := by simp [Program.elem, Try.underlying23]
  rw [run_indexAt_slice (h := by rw [he]; exact Try.underlying23), if_pos (by omega), he, sized9 w']
  simp [Result.andThen]

theorem rdI_of {W : World} {x : Addr} {len cap : Nat} {zs : List Int} (hl : len ≤ cap) (hz : zs.length = cap) (hc : ∀ i, i < zs.length → W.cell? (x.add i) = some (.int .i64 (zs.getD i 0))) : RdI W (some x) len cap (zs.take len) :=
  ⟨by rw [List.length_take]; omega, fun u hu => by
    have h := hc u (by omega)
    refine ⟨x.add u, World.block_lt_of_cell? _ _ h, idx_x x _ _ u hu, ?_⟩
    rw [h]
    simp [List.getD, hu]⟩
theorem rdS_of {W : World} {x : Addr} {len cap : Nat} {ss : List ByteArray} (hl : len ≤ cap) (hz : ss.length = cap) (hc : ∀ i, i < ss.length → W.cell? (x.add i) = some (.string (ss.getD i ByteArray.empty))) : RdS W (some x) len cap (ss.take len) :=
  ⟨by rw [List.length_take]; omega, fun u hu => by
    have h := hc u (by omega)
    refine ⟨x.add u, World.block_lt_of_cell? _ _ h, fun q w' => idx_s x _ _ u q hu w', ?_⟩
    rw [h]
    have e : u < ss.length := by omega
    simp [List.getD, hu, e]⟩

set_option maxRecDepth 100000 in
theorem lifted (os : Os) (started : os.Started) (H : Type) (enc : TypeId × Value → H) :
    ReturnsInHanded {} Try.checked os 4 .any (Rows.fnSlotTableCopyKeepsOwnersAndNamesOnlyServersSpec.pre6 enc Try.prog Try.f4 Rows.fnSlotTableCopyKeepsOwnersAndNamesOnlyServersRow.domain false) (Rows.fnSlotTableCopyKeepsOwnersAndNamesOnlyServersSpec.post enc Try.prog Try.f4 false true false false) := by
  refine returnsInHanded_of_change (C := Try.checked) own started (by kernel_rfl) Try.func4
    (ChangeSpec.witness6 (enc := enc) (C := Try.checked) false ⟨#[], #[.slice none 0 0, .slice none 0 0, .int .i64 0, .string ByteArray.empty], []⟩ 8 (by kernel_rfl) (by kernel_rfl) (by kernel_rfl) (by kernel_rfl)) ?_
  intro W base args ds gs before hval0 hW hcnd _
  have hval : ∀ (j : Nat) t v, Try.f4.params[j]? = some t → args[j]? = some v → Value.okWide Try.prog W .any base t v := hval0
  have hW' := hW
  obtain ⟨p, q, hA0, hV, rfl, hfz, hnd⟩ := hW
  have hA : DataW.TrodAll enc Try.prog W 0 (fun _ => true) true Try.f4.params.toList args.toList ds p := hA0
  rw [Try.params4] at hA hval
  obtain ⟨v0, vs0, d0, ds0, p0, q0, hargs, rfl, rfl, h0, r0⟩ := trodAll_cons hA
  obtain ⟨v1, vs1, d1, ds1, p1, q1, rfl, rfl, rfl, h1, r1⟩ := trodAll_cons r0
  obtain ⟨v2, vs2, d2, ds2, p2, q2, rfl, rfl, rfl, h2, r2⟩ := trodAll_cons r1
  obtain ⟨v3, vs3, d3, ds3, p3, q3, rfl, rfl, rfl, h3, r3⟩ := trodAll_cons r2
  obtain ⟨rfl, rfl, rfl⟩ := trodAll_nil r3
  obtain rfl : args = #[v0, v1, v2, v3] := by cases args; simp_all
  obtain ⟨rfl, rfl⟩ := trodVars_none hV
  obtain ⟨a0, len0, cap0, rfl⟩ := okWide_slice Try.underlying22 (hval 0 22 v0 rfl rfl)
  obtain ⟨a1, len1, cap1, rfl⟩ := okWide_slice Try.underlying23 (hval 1 23 v1 rfl rfl)
  have k0 := h0
  have k1 := h1
  have lt0 : ∀ x ∈ p0, x.block < W.heap.size := by obtain ⟨m, hm⟩ := k0; exact DataW.trod_lt m _ _ _ hm
  have lt1 : ∀ x ∈ p1, x.block < W.heap.size := by obtain ⟨m, hm⟩ := k1; exact DataW.trod_lt m _ _ _ hm
  obtain ⟨zs, w0, b0⟩ : ∃ zs, RdI W a0 len0 cap0 zs ∧ len0 ≤ maxLen := by
    obtain ⟨fuel, hf⟩ := h0
    rcases open_ints Try.underlying22 Try.underlying3 (by kernel_rfl) hf with ⟨hcs, _⟩ | ⟨x, l, c, zs, hcs, _, hl, hm, hz, _, hcell, hwz⟩
    · simp [Value.cells] at hcs
      obtain ⟨rfl, rfl, rfl⟩ := hcs
      exact ⟨[], ⟨rfl, fun u hu => by omega⟩, by unfold maxLen; omega⟩
    · simp [Value.cells] at hcs
      obtain ⟨rfl, rfl, rfl⟩ := hcs
      exact ⟨_, rdI_of hl (by simpa using hz) hcell, by omega⟩
  obtain ⟨ss, w1, b1, s1⟩ : ∃ ss, RdS W a1 len1 cap1 ss ∧ len1 ≤ maxLen ∧ ∀ x ∈ ss, x.size ≤ maxLen := by
    obtain ⟨fuel, hf⟩ := h1
    rcases open_strings Try.underlying23 Try.underlying9 (by kernel_rfl) hf with ⟨hcs, _⟩ | ⟨x, l, c, ss, hcs, _, hl, hm, hz, _, hcell, hws⟩
    · simp [Value.cells] at hcs
      obtain ⟨rfl, rfl, rfl⟩ := hcs
      exact ⟨[], ⟨rfl, fun u hu => by omega⟩, by unfold maxLen; omega, by simp⟩
    · simp [Value.cells] at hcs
      obtain ⟨rfl, rfl, rfl⟩ := hcs
      exact ⟨_, rdS_of hl (by simpa using hz) hcell, by omega, fun x hx => hws x (List.mem_of_mem_take hx)⟩
  obtain ⟨x2, rfl, rfl, rfl, w2⟩ := open_int Try.underlying3 (hval 2 3 v2 rfl rfl) h2
  obtain ⟨x3, rfl, rfl, rfl, w3⟩ := open_string Try.underlying9 (hval 3 9 v3 rfl rfl) h3
  clear hA0 hval0
  refine (walk4 W a0 len0 cap0 zs a1 len1 cap1 ss x2 x3 (by unfold maxLen at b0; omega) (by unfold maxLen at b1; omega) w0 w1 s1 (by unfold maxLen at w3; omega)).mono fun e W' ⟨he, bel⟩ => ?_
  subst he
  exact ⟨_, rfl, _, _, _, [], _, [], hW', trodAll_mk1 (shut_bool Try.underlying4 _), (trodAll_cons_mk (Below.trod laidOut (by kernel_rfl) (of_decide_eq_true (by kernel_rfl)) k0 bel lt0) (trodAll_cons_mk (Below.trod laidOut (by kernel_rfl) (of_decide_eq_true (by kernel_rfl)) k1 bel lt1) (trodAll_cons_mk (shut_int Try.underlying3 w2) (trodAll_cons_mk (shut_string Try.underlying9 w3) trodAll_mk0)))), rfl, bel.frame _, fun h => by cases h⟩

theorem over : Rows.fnSlotTableCopyKeepsOwnersAndNamesOnlyServersRow.holds Try.pinned (OpenSpec.ofChange Rows.fnSlotTableCopyKeepsOwnersAndNamesOnlyServersSpec) :=
  OpenClaim.holds_of_wide 4 Try.f4 rfl rfl rfl rfl rfl rfl rfl ⟨rfl, rfl, rfl, rfl, rfl⟩ rfl rfl rfl rfl rfl (by kernel_rfl) Try.func4 (by kernel_rfl)
    (of_decide_eq_true (by kernel_rfl)) (by unfold Func.isWrapper; first | (rw [if_pos (by decide +kernel)]; kernel_rfl) | (rw [if_neg (by decide +kernel)]; exact ⟨rfl, rfl⟩))
    (fun os started H enc _ => lifted os started H enc)

/-- ████ THE STATEMENT ████ -/
theorem proved : Rows.FnSlotTableCopyKeepsOwnersAndNamesOnlyServersSaid := over
end Go.Proofs.Qxb6608555a.fnSlotTableCopyKeepsOwnersAndNamesOnlyServers

namespace Go.Proofs.Qxb6608555a
/-- The given statement, under a name of this seat's own space. -/
theorem copyProved : Rows.FnSlotTableCopyKeepsOwnersAndNamesOnlyServersSaid := fnSlotTableCopyKeepsOwnersAndNamesOnlyServers.proved
end Go.Proofs.Qxb6608555a
