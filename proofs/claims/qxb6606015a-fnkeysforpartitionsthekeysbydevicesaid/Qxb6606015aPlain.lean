/-
  THE PLAIN LAW of the keys: asked once for each device, the tags partition the keys.
-/
import Derived.Test.Qxb6606015aTags
namespace Go.Proofs.Qxb6606015a
set_option linter.unusedVariables false
set_option linter.unusedSimpArgs false

def sameK (x y : KeyD) : Bool := decide (x.impl = y.impl) && decide (x.inst = y.inst)
def covered (ks : List KeyD) (k : Nat) : Nat := (ks.filter (fun y => (ks.take k).any (fun x => sameK y x))).length
/-- No key before k is of the device of key k. -/
def firstK (ks : List KeyD) (k : Nat) : Prop := ∀ x ∈ ks.take k, sameK x (ks.getD k ⟨[], [], 0⟩) = false

theorem sameK_iff {x y : KeyD} : sameK x y = true ↔ x.impl = y.impl ∧ x.inst = y.inst := by simp [sameK]

theorem covered_zero (ks : List KeyD) : covered ks 0 = 0 := by simp [covered]
theorem covered_le (ks : List KeyD) (k : Nat) : covered ks k ≤ ks.length := List.length_filter_le _ _
theorem covered_full (ks : List KeyD) : covered ks ks.length = ks.length := by
  unfold covered
  rw [List.take_length, List.filter_eq_self.2]
  intro y hy
  exact List.any_eq_true.2 ⟨y, hy, by simp [sameK]⟩

theorem filter_or_length {α : Type} (l : List α) (p q : α → Bool) (h : ∀ y ∈ l, ¬ (p y = true ∧ q y = true)) : (l.filter (fun y => p y || q y)).length = (l.filter p).length + (l.filter q).length := by
  induction l with
  | nil => rfl
  | cons a l ih =>
    have ih' := ih (fun y hy => h y (List.mem_cons_of_mem _ hy))
    have ha := h a (by simp)
    cases hp : p a <;> cases hq : q a <;> simp_all [List.filter_cons] <;> omega

theorem any_take_succ (ks : List KeyD) (k : Nat) (hk : k < ks.length) (y : KeyD) : (ks.take (k + 1)).any (fun x => sameK y x) = ((ks.take k).any (fun x => sameK y x) || sameK y (ks.getD k ⟨[], [], 0⟩)) := by
  have hg : ks.getD k ⟨[], [], 0⟩ = ks[k] := by simp [List.getD, hk]
  rw [List.take_succ_eq_append_getElem hk, hg, List.any_append, List.any_cons, List.any_nil, Bool.or_false]

theorem selT_length (ks : List KeyD) (d : KeyD) : (selT ks d.impl d.inst).length = (ks.filter (fun y => sameK y d)).length := by
  simp [selT, sameK]

theorem covered_first (ks : List KeyD) (k : Nat) (hk : k < ks.length) (hf : firstK ks k) : covered ks (k + 1) = covered ks k + (selT ks (ks.getD k ⟨[], [], 0⟩).impl (ks.getD k ⟨[], [], 0⟩).inst).length := by
  rw [selT_length]
  unfold covered
  rw [← filter_or_length]
  · congr 1
    apply List.filter_congr
    intro y _
    rw [any_take_succ ks k hk]
  · rintro y _ ⟨h1, h2⟩
    obtain ⟨x, hx, hxy⟩ := List.any_eq_true.1 h1
    have h0 := hf x hx
    rw [sameK_iff] at hxy h2
    have : sameK x (ks.getD k ⟨[], [], 0⟩) = true := sameK_iff.2 ⟨hxy.1.symm.trans h2.1, hxy.2.symm.trans h2.2⟩
    rw [this] at h0
    cases h0

theorem covered_not (ks : List KeyD) (k : Nat) (hk : k < ks.length) (hf : ¬ firstK ks k) : covered ks (k + 1) = covered ks k := by
  unfold covered
  congr 1
  apply List.filter_congr
  intro y _
  rw [any_take_succ ks k hk]
  cases h : sameK y (ks.getD k ⟨[], [], 0⟩) with
  | false => simp
  | true =>
    have : ∃ x ∈ ks.take k, sameK x (ks.getD k ⟨[], [], 0⟩) = true := by
      apply Classical.byContradiction
      intro hn
      apply hf
      intro x hx
      cases e : sameK x (ks.getD k ⟨[], [], 0⟩) with
      | false => rfl
      | true => exact absurd ⟨x, hx, e⟩ hn
    obtain ⟨x, hx, hxy⟩ := this
    rw [sameK_iff] at h hxy
    have : (ks.take k).any (fun x => sameK y x) = true := List.any_eq_true.2 ⟨x, hx, sameK_iff.2 ⟨h.1.trans hxy.1.symm, h.2.trans hxy.2.symm⟩⟩
    simp [this]

theorem selT_head (ks : List KeyD) (k : Nat) (hk : k < ks.length) (hf : firstK ks k) : ∃ r, selT ks (ks.getD k ⟨[], [], 0⟩).impl (ks.getD k ⟨[], [], 0⟩).inst = (ks.getD k ⟨[], [], 0⟩).tag :: r := by
  have e : ks = ks.take k ++ ks.drop k := (List.take_append_drop k ks).symm
  have hd : ks.drop k = ks[k] :: ks.drop (k + 1) := List.drop_eq_getElem_cons hk
  have hg : ks.getD k ⟨[], [], 0⟩ = ks[k] := by simp [List.getD, hk]
  have h1 : (ks.take k).filter (fun x => decide (x.impl = (ks.getD k ⟨[], [], 0⟩).impl) && decide (x.inst = (ks.getD k ⟨[], [], 0⟩).inst)) = [] := by
    rw [List.filter_eq_nil_iff]
    intro x hx h
    have := hf x hx
    rw [sameK, h] at this
    cases this
  refine ⟨((ks.drop (k + 1)).filter (fun x => decide (x.impl = (ks.getD k ⟨[], [], 0⟩).impl) && decide (x.inst = (ks.getD k ⟨[], [], 0⟩).inst))).map (·.tag), ?_⟩
  unfold selT
  conv => lhs; arg 2; arg 2; rw [e]
  rw [List.filter_append, h1, List.nil_append, hd, hg, List.filter_cons, if_pos (by simp), List.map_cons]

theorem selT_none (ks : List KeyD) (impl inst : List Int) (h : ∀ x ∈ ks, x.impl.length < impl.length) : selT ks impl inst = [] := by
  unfold selT
  rw [List.filter_eq_nil_iff.2, List.map_nil]
  intro x hx hh
  simp at hh
  have := h x hx
  rw [hh.1] at this
  omega
end Go.Proofs.Qxb6606015a
