/-
  OWN LAW: a region that draws its order and ENDS IN ONE WRITE of a cell that it has read ('x = append(x, ..)'): what is held of the world (S) is held up to that last operation N alone. (Typed first for the seat b6608542a.)
-/
import Derived.Test.Qxb6608555aStrs
import Derived.Deep.RegionHeld3
import Derived.Deep.RegionLaw
namespace Go.Proofs.Qxb6608555a
open Go.RowKit
set_option linter.unusedVariables false
set_option linter.unusedSimpArgs false

section
variable {P : Program} {ops : Array Oper} {Q : Exit → Act → World → Prop} {md : Region.Mode} {S : World → Prop} {N : Nat}

/-- Whatever order is picked from here on; behind every operation but the last (N) S holds. -/
def wpN (P : Program) (md : Region.Mode) (ops : Array Oper) (Q : Exit → Act → World → Prop) (S : World → Prop) (N : Nat) : Nat → Array Bool → Act → World → Prop
  | 0, l, a, w => Region.ready md ops l = [] ∧ Q .normal a w
  | f + 1, l, a, w => (Region.ready md ops l = [] → Q .normal a w) ∧
    ∀ i ∈ Region.ready md ops l, wpOp P ops Q i (fun a' w' => (i ≠ N → S w') ∧ wpN P md ops Q S N f (l.setIfInBounds i true) a' w') a w

theorem wpAny_of_N : ∀ (f : Nat) (l : Array Bool) (a : Act) (w : World), wpN P md ops Q S N f l a w → wpAny P md ops Q f l a w
  | 0, _, _, _, h => h
  | f + 1, _, _, _, h => ⟨h.1, fun i hi => wpOp_mono (fun a' w' h' => wpAny_of_N f _ a' w' h'.2) (h.2 i hi)⟩

theorem wpN_first {i : Nat} {oi oN : Oper} {v : Value} (hi : ops[i]? = some oi) (hoN : ops[N]? = some oN) (hwait : ∃ e ∈ oN.after, Region.binds md e = true ∧ e.on = i)
    (hsel : ∀ (j : Nat) (o : Oper) cs b, ops[j]? = some o → o.op ≠ .select cs b) (hQ : ∀ c a w, Q (.panic c) (a.put oi.dst v) w → Q (.panic c) a w) :
    ∀ (f : Nat) (l : Array Bool) (a : Act) (w : World),
      (∀ j oj, ops[j]? = some oj → j ≠ i → l.getD j true = false → (∀ e ∈ oj.after, Region.binds md e = true → e.on ≠ i) → oi.apart ops oj = true) →
      i ∈ Region.ready md ops l → YieldsIf P ops S oi v a → S w →
      wpN P md ops Q S N f (l.setIfInBounds i true) (a.put oi.dst v) w → wpN P md ops Q S N (f + 1) l a w := by
  intro f
  induction f with
  | zero =>
    intro l a w _ hr hy hS H
    refine ⟨fun h => (by rw [h] at hr; cases hr), fun j hj => ?_⟩
    by_cases hji : j = i
    · subst hji; exact hy.wpOp hi hS ⟨fun _ => hS, H⟩
    · have := ready_mono hj hji
      rw [H.1] at this
      cases this
  | succ f ih =>
    intro l a w hfree hr hy hS H
    refine ⟨fun h => (by rw [h] at hr; cases hr), fun j hj => ?_⟩
    by_cases hji : j = i
    · subst hji; exact hy.wpOp hi hS ⟨fun _ => hS, H⟩
    · have h1 := H.2 j (ready_mono hj hji)
      obtain ⟨hjun, oj, hoj, hall⟩ := mem_ready.1 hj
      have hun : ∀ e : _, l.getD e false = true → e ≠ i := fun e he heq => by
        have h0 := (mem_ready.1 hr).1
        rw [heq] at he
        rcases Nat.lt_or_ge i l.size with h' | h'
        · simp [h'] at h0 he; rw [h0] at he; cases he
        · simp [Array.getElem?_eq_none h'] at he
      have hnot : ∀ e ∈ oj.after, Region.binds md e = true → e.on ≠ i := fun e he hb => hun _ (hall e he hb)
      have hjN : j ≠ N := fun heq => by
        subst heq
        obtain ⟨e, he, hb, ho⟩ := hwait
        rw [hoN] at hoj
        injection hoj with hoj
        subst hoj
        exact hnot e he hb ho
      have h2 := wpOp_putIf hoj (hfree j oj hoj hji hjun hnot) (fun cs b => hsel i oi cs b hi) (fun cs b => hsel j oj cs b hoj) hQ hy h1
      have hfree' : ∀ k ok, ops[k]? = some ok → k ≠ i → (l.setIfInBounds j true).getD k true = false →
          (∀ e ∈ ok.after, Region.binds md e = true → e.on ≠ i) → oi.apart ops ok = true := fun k ok hk hki hu hno => by
        refine hfree k ok hk hki ?_ hno
        by_cases hjk : j = k
        · subst hjk; exact hjun
        · rw [getD_set_ne true hjk] at hu; exact hu
      refine wpOp_mono (fun a' w' h3 => ⟨h3.2.1, ih (l.setIfInBounds j true) a' w' hfree' (ready_mono hr (Ne.symm hji)) h3.1 (h3.2.1 hjN) ?_⟩) h2
      rw [Array.setIfInBounds_comm _ _ hji]
      exact h3.2.2

theorem wpN_take {i : Nat} {oi oN : Oper} {v : Value} {f : Nat} {l : Array Bool} {a : Act} {w : World} (hi : ops[i]? = some oi) (hoN : ops[N]? = some oN)
    (hwait : oN.after.any (fun e => Region.binds md e && e.on == i) = true)
    (hs : Region.noSelect ops = true) (hf : Region.free md ops l i = true) (hr : (Region.ready md ops l).contains i = true)
    (hQ : ∀ c a w, Q (.panic c) (a.put oi.dst v) w → Q (.panic c) a w) (hy : YieldsIf P ops S oi v a) (hS : S w)
    (h : wpN P md ops Q S N f (l.setIfInBounds i true) (a.put oi.dst v) w) : wpN P md ops Q S N (f + 1) l a w := by
  refine wpN_first hi hoN ?_ (Region.noSelect_spec hs) hQ f l a w (Region.free_spec hi hf) (by simpa using hr) hy hS h
  obtain ⟨e, he, hb⟩ := Array.any_eq_true'.1 hwait
  simp only [Bool.and_eq_true, beq_iff_eq] at hb
  exact ⟨e, he, hb.1, hb.2⟩

/-- One operation alone may come up, and it is not the last. -/
theorem wpN_one {i : Nat} {o : Oper} {f : Nat} {l : Array Bool} {a : Act} {w : World} (hr : Region.ready md ops l = [i]) (ho : ops[i]? = some o)
    (h : ∀ K' : Act → World → Prop, Shut (∀ a w, S w → (S w → wpN P md ops Q S N f (l.setIfInBounds i true) a w) → K' a w) → if Region.wanted o (yielded ops a.tmps) = true then Oper.wp P o a w K' Q else K' (a.put o.dst undef) w) :
    wpN P md ops Q S N (f + 1) l a w := by
  refine ⟨fun h0 => (by rw [hr] at h0; cases h0), fun j hj => ?_⟩
  rw [hr] at hj
  have hj' : j = i := by simpa using hj
  subst hj'
  exact wpOp_step ho (fun K' hK => h K' (fun a w hS hW => hK a w ⟨fun _ => hS, hW hS⟩))
/-- The last. -/
theorem wpN_last {o : Oper} {f : Nat} {l : Array Bool} {a : Act} {w : World} (hr : Region.ready md ops l = [N]) (ho : ops[N]? = some o)
    (h : ∀ K' : Act → World → Prop, Shut (∀ a w, wpN P md ops Q S N f (l.setIfInBounds N true) a w → K' a w) → if Region.wanted o (yielded ops a.tmps) = true then Oper.wp P o a w K' Q else K' (a.put o.dst undef) w) :
    wpN P md ops Q S N (f + 1) l a w := by
  refine ⟨fun h0 => (by rw [hr] at h0; cases h0), fun j hj => ?_⟩
  rw [hr] at hj
  have hj' : j = N := by simpa using hj
  subst hj'
  exact wpOp_step ho (fun K' hK => h K' (fun a w hW => hK a w ⟨fun hne => absurd rfl hne, hW⟩))
theorem wpN_done {l : Array Bool} {a : Act} {w : World} (hr : Region.ready md ops l = []) (h : Q .normal a w) : ∀ f, wpN P md ops Q S N f l a w
  | 0 => ⟨hr, h⟩
  | _ + 1 => ⟨fun _ => h, by rw [hr]; simp⟩

/-- A take, the operation handed over short (without its edges), its value and its run. -/
theorem wpN_takeO (i : Nat) (o' : Oper) (v : Value) {oi oN : Oper} {f : Nat} {l : Array Bool} {a : Act} {w : World} (hi : ops[i]? = some oi) (hoN : ops[N]? = some oN)
    (hwait : oN.after.any (fun e => Region.binds md e && e.on == i) = true)
    (hs : Region.noSelect ops = true) (hf : Region.free md ops l i = true) (hr : (Region.ready md ops l).contains i = true)
    (hd : oi.dst = o'.dst) (hg : oi.guard = none) (he : ∀ ρ, execOp ρ oi = execOp ρ o')
    (hQ : ∀ c a w, Q (.panic c) (a.put oi.dst v) w → Q (.panic c) a w) (hS : S w) (hrun : ∀ w, S w → (execOp a.eval o').run P w = .ok (.value v) w)
    (h : wpN P md ops Q S N f (l.setIfInBounds i true) (a.put o'.dst v) w) : wpN P md ops Q S N (f + 1) l a w :=
  wpN_take hi hoN hwait hs hf hr hQ (.inl ⟨by simp [Region.wanted, hg], fun w hw => by rw [he]; exact hrun w hw⟩) hS (by rw [hd]; exact h)
end
/-- An operation whose run is known. -/
theorem wp_of_run {P : Program} {ops : Array Oper} {o : Oper} {a : Act} {w : World} {K : Act → World → Prop} {Q : Exit → Act → World → Prop} {E : Prop} (o' : Oper) (hg : o.guard = none) (hd : o.dst = o'.dst) (he : ∀ ρ, execOp ρ o = execOp ρ o') (v : Value) (w' : World)
    (hrun : (execOp a.eval o').run P w = .ok (.value v) w') (hK : K (a.put o'.dst v) w') : if Region.wanted o (yielded ops a.tmps) = true then Oper.wp P o a w K Q else E := by
  have hw : Region.wanted o (yielded ops a.tmps) = true := by simp [Region.wanted, hg]
  rw [if_pos hw]
  unfold Oper.wp
  rw [he, hrun]
  rw [← hd] at hK
  exact hK

/-- An append whose run is known, as one step of a region that draws. -/
theorem step_of_run {P : Program} {ops : Array Oper} {o : Oper} {a : Act} {w : World} {K : Act → World → Prop} {Q : Exit → Act → World → Prop} {E : Prop}
    (hg : o.guard = none) (s x : Operand) (t : TypeId) (hop : o.op = Op.call { callee := Callee.builtin Builtin.append, args := #[s, x], argTypes := #[t, t] })
    (v1 v2 : Value) (hs : a.eval s = v1) (hx : a.eval x = v2) (v' : Value) (w' : World) (hrun : (Builtin.append_ #[t, t] o.type #[v1, v2]).run P w = .ok v' w') (hK : K (a.put o.dst v') w') :
    if Region.wanted o (yielded ops a.tmps) = true then Oper.wp P o a w K Q else E := by
  have hw : Region.wanted o (yielded ops a.tmps) = true := by simp [Region.wanted, hg]
  rw [if_pos hw]
  unfold Oper.wp
  simp [execOp, hop, resolve, invoke, builtin, hs, hx, hrun, Result.andThen]
  exact hK

end Go.Proofs.Qxb6608555a
