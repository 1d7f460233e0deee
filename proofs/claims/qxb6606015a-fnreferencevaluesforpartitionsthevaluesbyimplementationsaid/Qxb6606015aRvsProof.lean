/-
  THE PROOF of Rows.FnReferenceValuesForPartitionsTheValuesByImplementationSaid.
-/
import Derived.Test.Qxb6606015aRows
import Derived.Test.Qxb6606015aMain2
import Derived.Test.Qxb6606015aOpen
import Derived.ProofKit
import Derived.ChangeOld
import Derived.Below
import Derived.Carry
namespace Go.Proofs.Qxb6606015a
open Go.ChangeShapes Go.WideShapes Go.ChangeAt Go.RowKit
set_option linter.unusedVariables false
set_option linter.unusedSimpArgs false

theorem ownR : ownKnob Try.prog.godebug = none := by kernel_rfl
theorem laidOutR : laidOutB Try.prog = true := by kernel_rfl

set_option maxRecDepth 100000 in
theorem rvsLifted (os : Os) (started : os.Started) (H : Type) (enc : TypeId × Value → H) :
    ReturnsInHanded {} Try.checked os 5 .any (Rows.fnReferenceValuesForPartitionsTheValuesByImplementationSpec.pre6 enc Try.prog Try.f5 Rows.fnReferenceValuesForPartitionsTheValuesByImplementationRow.domain false) (Rows.fnReferenceValuesForPartitionsTheValuesByImplementationSpec.post enc Try.prog Try.f5 false true false false) := by
  refine returnsInHanded_of_change_sized (C := Try.checked) ownR started (by kernel_rfl) Try.func5
    (ChangeSpec.witness6 (enc := enc) (C := Try.checked) false ⟨#[], #[.slice none 0 0, .slice none 0 0, .slice none 0 0], []⟩ 8 (by kernel_rfl) (by kernel_rfl) (by kernel_rfl) (by kernel_rfl)) ?_
  intro W base args ds gs before hval0 hW hcnd hsz0 _
  have hval : ∀ (j : Nat) t v, Try.f5.params[j]? = some t → args[j]? = some v → Value.okWide Try.prog W .any base t v := hval0
  have hW' := hW
  obtain ⟨p, q, hA0, hV, rfl, hfz, hnd⟩ := hW
  have hA : DataW.TrodAll enc Try.prog W 0 (fun _ => true) true Try.f5.params.toList args.toList ds p := hA0
  have hsz : (DataW.weightsEach Try.prog (Try.f5.params.toList ++ Rows.fnReferenceValuesForPartitionsTheValuesByImplementationSpec.plain.varTypes Try.prog) (ds ++ gs)).all (· ≤ reachBytes) = true := hsz0
  rw [Try.params5] at hA hval hsz
  obtain ⟨v0, vs0, d0, ds0, p0, q0, hargs, rfl, rfl, h0, r0⟩ := trodAll_cons hA
  obtain ⟨v1, vs1, d1, ds1, p1, q1, rfl, rfl, rfl, h1, r1⟩ := trodAll_cons r0
  obtain ⟨v2, vs2, d2, ds2, p2, q2, rfl, rfl, rfl, h2, r2⟩ := trodAll_cons r1
  obtain ⟨rfl, rfl, rfl⟩ := trodAll_nil r2
  obtain rfl : args = #[v0, v1, v2] := by cases args; simp_all
  obtain ⟨rfl, rfl⟩ := trodVars_none hV
  have W0 : Wt 22 d0 := fun n hn => by
    have := List.all_eq_true.1 hsz _ (DataW.weights_mem_each (j := 0) (t := 22) rfl rfl n hn)
    exact (of_decide_eq_true this : n ≤ reachBytes)
  have W1 : Wt 23 d1 := fun n hn => by
    have := List.all_eq_true.1 hsz _ (DataW.weights_mem_each (j := 1) (t := 23) rfl rfl n hn)
    exact (of_decide_eq_true this : n ≤ reachBytes)
  have W2 : Wt 24 d2 := fun n hn => by
    have := List.all_eq_true.1 hsz _ (DataW.weights_mem_each (j := 2) (t := 24) rfl rfl n hn)
    exact (of_decide_eq_true this : n ≤ reachBytes)
  have lt0 : ∀ x ∈ p0, x.block < W.heap.size := by obtain ⟨m, hm⟩ := h0; exact DataW.trod_lt m _ _ _ hm
  have lt1 : ∀ x ∈ p1, x.block < W.heap.size := by obtain ⟨m, hm⟩ := h1; exact DataW.trod_lt m _ _ _ hm
  have lt2 : ∀ x ∈ p2, x.block < W.heap.size := by obtain ⟨m, hm⟩ := h2; exact DataW.trod_lt m _ _ _ hm
  obtain ⟨a0, len0, cap0, rfl⟩ := okWide_slice Try.underlying22 (hval 0 22 v0 rfl rfl)
  obtain ⟨a1, len1, cap1, rfl⟩ := okWide_slice Try.underlying23 (hval 1 23 v1 rfl rfl)
  obtain ⟨a2, len2, cap2, rfl⟩ := okWide_slice Try.underlying24 (hval 2 24 v2 rfl rfl)
  obtain ⟨ks, hks, _⟩ : ∃ ks, KeysAt (Live W) W (.slice a0 len0 cap0) ks ∧ ∀ k ∈ ks, (Byt k.impl ∧ Byt k.inst) ∧ k.impl.length ≤ 140737488351232 := by
    obtain ⟨m, hm⟩ := h0
    exact keys_of (x := (d0, p0)) (by simpa [Value.cells] using hm) W0
  obtain ⟨rs, hrs, hgood⟩ : ∃ rs, RvsAt (Live W) W (.slice a1 len1 cap1) rs ∧ ∀ r ∈ rs, Byt r.impl ∧ r.impl.length ≤ 140737488351232 := by
    obtain ⟨m, hm⟩ := h1
    exact rvs_of (x := (d1, p1)) (by simpa [Value.cells] using hm) W1
  obtain ⟨cs, hcs⟩ : ∃ cs, CertsAt (Live W) W (.slice a2 len2 cap2) cs := by
    obtain ⟨m, hm⟩ := h2
    exact certs_of (x := (d2, p2)) (by simpa [Value.cells] using hm) W2
  clear hA0 hval0 hsz0
  refine (rvsLaw_walk _ _ _ ks rs cs W hks hrs hcs (fun b hb => hb) (fun x hx => (hgood x hx).1) (fun x hx => (hgood x hx).2)).mono fun e W' ⟨he, hbel⟩ => ?_
  have bel := hbel.out
  subst he
  exact ⟨_, rfl, _, _, _, [], _, [], hW', trodAll_mk1 (shut_bool Try.underlying4 _), (trodAll_cons_mk (Below.trod laidOutR (by kernel_rfl) (of_decide_eq_true (by kernel_rfl)) h0 bel lt0) (trodAll_cons_mk (Below.trod laidOutR (by kernel_rfl) (of_decide_eq_true (by kernel_rfl)) h1 bel lt1) (trodAll_cons_mk (Below.trod laidOutR (by kernel_rfl) (of_decide_eq_true (by kernel_rfl)) h2 bel lt2) trodAll_mk0))), rfl, bel.frame _, fun h => by cases h⟩

theorem rvsOver : Rows.fnReferenceValuesForPartitionsTheValuesByImplementationRow.holds Try.pinned (OpenSpec.ofChange Rows.fnReferenceValuesForPartitionsTheValuesByImplementationSpec) :=
  OpenClaim.holds_of_wide 5 Try.f5 rfl rfl rfl rfl rfl rfl rfl ⟨rfl, rfl, rfl, rfl, rfl⟩ rfl rfl rfl rfl rfl (by kernel_rfl) Try.func5 (by kernel_rfl)
    (of_decide_eq_true (by kernel_rfl)) (by unfold Func.isWrapper; first | (rw [if_pos (by decide +kernel)]; kernel_rfl) | (rw [if_neg (by decide +kernel)]; exact ⟨rfl, rfl⟩))
    (fun os started H enc _ => rvsLifted os started H enc)

/-- THE STATEMENT -/
theorem rvsProved : Rows.FnReferenceValuesForPartitionsTheValuesByImplementationSaid := rvsOver
#print axioms rvsProved
end Go.Proofs.Qxb6606015a
