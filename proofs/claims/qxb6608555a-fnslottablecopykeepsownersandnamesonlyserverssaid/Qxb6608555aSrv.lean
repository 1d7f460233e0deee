/-
  PLAIN: the servers in the order of the first slot each serves; the copy's table; the first slots.
-/
import Derived.Test.Qxb6608555aLaw3
namespace Go.Proofs.Qxb6608555a
open Go.RowKit Go.Maps
set_option linter.unusedVariables false
set_option linter.unusedSimpArgs false

/-- The IDs that serve a slot below s, in the order of the first slot each serves. -/
noncomputable def srv (mo : Nat → ByteArray) : Nat → List ByteArray
  | 0 => []
  | s + 1 => nextL (mo s) (srv mo s)

theorem nextL_empty {id : ByteArray} {L : List ByteArray} (h : id = e0) : nextL id L = L := by unfold nextL; rw [if_pos h]
theorem nextL_old {id : ByteArray} {L : List ByteArray} (h : id ∈ L) : nextL id L = L := by
  unfold nextL
  by_cases h1 : id = e0
  · rw [if_pos h1]
  · rw [if_neg h1, addB_mem h]
theorem nextL_new {id : ByteArray} {L : List ByteArray} (h1 : id ≠ e0) (h : ¬ id ∈ L) : nextL id L = L ++ [id] := by
  unfold nextL
  rw [if_neg h1, addB_new h]
theorem nextL_prefix (id : ByteArray) (L : List ByteArray) : L <+: nextL id L := by
  by_cases h1 : id = e0
  · rw [nextL_empty h1]; exact List.prefix_refl _
  · by_cases h : id ∈ L
    · rw [nextL_old h]; exact List.prefix_refl _
    · rw [nextL_new h1 h]; exact List.prefix_append _ _
theorem nextL_len (id : ByteArray) (L : List ByteArray) : (nextL id L).length ≤ L.length + 1 := by
  by_cases h1 : id = e0
  · rw [nextL_empty h1]; omega
  · by_cases h : id ∈ L
    · rw [nextL_old h]; omega
    · rw [nextL_new h1 h]; simp
theorem srv_prefix (mo : Nat → ByteArray) (s : Nat) : ∀ t, s ≤ t → srv mo s <+: srv mo t := by
  intro t h
  induction t with
  | zero => obtain rfl : s = 0 := by omega
            exact List.prefix_refl _
  | succ t ih =>
    by_cases e : s = t + 1
    · rw [e]; exact List.prefix_refl _
    · exact (ih (by omega)).trans (nextL_prefix _ _)
theorem srv_len (mo : Nat → ByteArray) : ∀ s, (srv mo s).length ≤ s
  | 0 => Nat.le_refl _
  | s + 1 => Nat.le_trans (nextL_len _ _) (Nat.succ_le_succ (srv_len mo s))
theorem srv_mem (mo : Nat → ByteArray) : ∀ s x, x ∈ srv mo s → ∃ y, y < s ∧ mo y = x ∧ x ≠ e0 := by
  intro s
  induction s with
  | zero => intro x hx; cases hx
  | succ s ih =>
    intro x hx
    have hx' : x ∈ nextL (mo s) (srv mo s) := hx
    by_cases h1 : mo s = e0
    · rw [nextL_empty h1] at hx'
      obtain ⟨y, h2, h3⟩ := ih x hx'
      exact ⟨y, by omega, h3⟩
    · by_cases h : mo s ∈ srv mo s
      · rw [nextL_old h] at hx'
        obtain ⟨y, h2, h3⟩ := ih x hx'
        exact ⟨y, by omega, h3⟩
      · rw [nextL_new h1 h] at hx'
        rcases List.mem_append.1 hx' with h2 | h2
        · obtain ⟨y, h3, h4⟩ := ih x h2
          exact ⟨y, by omega, h4⟩
        · simp at h2
          exact ⟨s, by omega, h2.symm, by rw [h2]; exact h1⟩
theorem srv_in (mo : Nat → ByteArray) {s y : Nat} (h : y < s) (hne : mo y ≠ e0) : mo y ∈ srv mo s := by
  have h1 : mo y ∈ srv mo (y + 1) := by
    show mo y ∈ nextL (mo y) (srv mo y)
    by_cases hm : mo y ∈ srv mo y
    · rw [nextL_old hm]; exact hm
    · rw [nextL_new hne hm]; simp
  exact (srv_prefix mo (y + 1) s h).subset h1
theorem srv_nodup (mo : Nat → ByteArray) : ∀ s, (srv mo s).Nodup := by
  intro s
  induction s with
  | zero => exact List.nodup_nil
  | succ s ih =>
    show (nextL (mo s) (srv mo s)).Nodup
    by_cases h1 : mo s = e0
    · rw [nextL_empty h1]; exact ih
    · by_cases h : mo s ∈ srv mo s
      · rw [nextL_old h]; exact ih
      · rw [nextL_new h1 h]
        exact List.nodup_append.2 ⟨ih, by simp, fun x hx y hy => by
          simp at hy
          subst hy
          exact fun e => h (e ▸ hx)⟩

/-- Where a string lies in a list without doubles is known by the string. -/
theorem idx_inj {L : List ByteArray} (h : L.Nodup) {i j : Nat} (hi : i < L.length) (hj : j < L.length) (e : L.getD i e0 = L.getD j e0) : i = j := by
  simp only [List.getD, List.getElem?_eq_getElem hi, List.getElem?_eq_getElem hj, Option.getD_some] at e
  exact (List.getElem_inj h).1 e
theorem prefix_getD {L L' : List ByteArray} (h : L <+: L') {i : Nat} (hi : i < L.length) : L'.getD i e0 = L.getD i e0 := by
  obtain ⟨r, rfl⟩ := h
  simp [List.getD, List.getElem?_append_left hi]

/-- A table without doubles: where slot s points. -/
theorem place_empty {own : Nat → Nat} {L : List ByteArray} {mo : Nat → ByteArray} (h : Tells own L mo) {s : Nat} (hs : s < 16384) : own s = 0 ↔ mo s = e0 := by
  have he := h.eq s hs
  constructor
  · intro h0
    rw [h0] at he
    exact he.symm
  · intro h0
    rcases Nat.eq_zero_or_pos (own s) with h1 | h1
    · exact h1
    · exfalso
      have hl := h.wf.own s hs
      rw [h0] at he
      obtain ⟨j, hj⟩ : ∃ j, own s = j + 1 := ⟨own s - 1, by omega⟩
      rw [hj, List.getD_cons_succ] at he
      have hm : L.getD j e0 ∈ L := getD_mem (by omega)
      exact h.wf.ne _ hm he
theorem place_at {own : Nat → Nat} {L : List ByteArray} {mo : Nat → ByteArray} (h : Tells own L mo) {s j : Nat} (hs : s < 16384) (hj : j < L.length) (hm : mo s = L.getD j e0) : own s = j + 1 := by
  have he := h.eq s hs
  have hne : mo s ≠ e0 := by rw [hm]; exact h.wf.ne _ (getD_mem hj)
  have h0 : own s ≠ 0 := fun x => hne ((place_empty h hs).1 x)
  have hl := h.wf.own s hs
  obtain ⟨i, hi⟩ : ∃ i, own s = i + 1 := ⟨own s - 1, by omega⟩
  rw [hi, List.getD_cons_succ, hm] at he
  rw [hi, idx_inj h.wf.nd (by omega) hj he]

/-- The copy's loop at slot s. -/
structure Cp (own : Nat → Nat) (L : List ByteArray) (mo : Nat → ByteArray) (s : Nat) (own' : Nat → Nat) (L' : List ByteArray) (pl : Nat → Nat) : Prop where
  l : L' = srv mo s
  o : ∀ x, x < s → own' x ≤ L'.length ∧ (e0 :: L').getD (own' x) e0 = mo x
  r : ∀ x, s ≤ x → own' x = 0
  p : ∀ j, j < L.length → (L.getD j e0 ∈ L' → 1 ≤ pl (j + 1) ∧ pl (j + 1) ≤ L'.length ∧ L'.getD (pl (j + 1) - 1) e0 = L.getD j e0) ∧ (¬ L.getD j e0 ∈ L' → pl (j + 1) = 0)

theorem Cp.start (own : Nat → Nat) (L : List ByteArray) (mo : Nat → ByteArray) : Cp own L mo 0 (fun _ => 0) [] (fun _ => 0) :=
  ⟨rfl, fun x hx => by omega, fun _ _ => rfl, fun j hj => ⟨fun h => (by cases h), fun _ => rfl⟩⟩
/-- No server: on. -/
theorem Cp.skip {own : Nat → Nat} {L : List ByteArray} {mo : Nat → ByteArray} {s : Nat} {own' : Nat → Nat} {L' : List ByteArray} {pl : Nat → Nat} (h : Cp own L mo s own' L' pl) (ht : Tells own L mo) (hs : s < 16384) (h0 : own s = 0) : Cp own L mo (s + 1) own' L' pl := by
  have hm := (place_empty ht hs).1 h0
  refine ⟨?_, fun x hx => ?_, fun x hx => h.r x (by omega), h.p⟩
  · rw [h.l]; exact (nextL_empty hm).symm
  · by_cases e : x = s
    · rw [e, h.r s (by omega), hm]
      exact ⟨Nat.zero_le _, rfl⟩
    · exact h.o x (by omega)
/-- The ID of slot s, by the table. -/
theorem Tells.at {own : Nat → Nat} {L : List ByteArray} {mo : Nat → ByteArray} (h : Tells own L mo) {s : Nat} (hs : s < 16384) {j : Nat} (hj : own s = j + 1) : j < L.length ∧ L.getD j e0 = mo s ∧ mo s ≠ e0 := by
  have hl := h.wf.own s hs
  have he := h.eq s hs
  rw [hj, List.getD_cons_succ] at he
  exact ⟨by omega, he, by rw [← he]; exact h.wf.ne _ (getD_mem (by omega))⟩
theorem Cp.place {own : Nat → Nat} {L : List ByteArray} {mo : Nat → ByteArray} {s : Nat} {own' : Nat → Nat} {L' : List ByteArray} {pl : Nat → Nat} (h : Cp own L mo s own' L' pl) (ht : Tells own L mo) (hs : s < 16384) {j : Nat} (hj : own s = j + 1) : pl (j + 1) = 0 ↔ ¬ mo s ∈ L' := by
  obtain ⟨h1, h2, h3⟩ := ht.at hs hj
  have hp := h.p j h1
  rw [h2] at hp
  constructor
  · intro h0 hm
    have := (hp.1 hm).1
    omega
  · exact hp.2
/-- A server that is named already. -/
theorem Cp.old {own : Nat → Nat} {L : List ByteArray} {mo : Nat → ByteArray} {s : Nat} {own' : Nat → Nat} {L' : List ByteArray} {pl : Nat → Nat} (h : Cp own L mo s own' L' pl) (ht : Tells own L mo) (hs : s < 16384) {j : Nat} (hj : own s = j + 1) (h0 : pl (j + 1) ≠ 0) : Cp own L mo (s + 1) (upd own' s (pl (j + 1))) L' pl := by
  obtain ⟨h1, h2, h3⟩ := ht.at hs hj
  have hm : mo s ∈ L' := Classical.byContradiction (fun x => h0 ((h.place ht hs hj).2 x))
  have hp := (h.p j h1).1 (by rw [h2]; exact hm)
  refine ⟨?_, fun x hx => ?_, fun x hx => ?_, h.p⟩
  · rw [h.l] at hm ⊢; exact (nextL_old hm).symm
  · unfold upd
    by_cases e : x = s
    · rw [if_pos e, e]
      refine ⟨hp.2.1, ?_⟩
      obtain ⟨i, hi⟩ : ∃ i, pl (j + 1) = i + 1 := ⟨pl (j + 1) - 1, by omega⟩
      have h5 := hp.2.2
      rw [hi] at h5 ⊢
      rw [List.getD_cons_succ, ← h2]
      exact h5
    · rw [if_neg e]; exact h.o x (by omega)
  · unfold upd
    rw [if_neg (by omega)]
    exact h.r x (by omega)
/-- A server that is new. -/
theorem Cp.fresh {own : Nat → Nat} {L : List ByteArray} {mo : Nat → ByteArray} {s : Nat} {own' : Nat → Nat} {L' : List ByteArray} {pl : Nat → Nat} (h : Cp own L mo s own' L' pl) (ht : Tells own L mo) (hs : s < 16384) {j : Nat} (hj : own s = j + 1) (h0 : pl (j + 1) = 0) :
    Cp own L mo (s + 1) (upd own' s (L'.length + 1)) (L' ++ [mo s]) (upd pl (j + 1) (L'.length + 1)) := by
  obtain ⟨h1, h2, h3⟩ := ht.at hs hj
  have hm : ¬ mo s ∈ L' := (h.place ht hs hj).1 h0
  refine ⟨?_, fun x hx => ?_, fun x hx => ?_, fun i hi => ?_⟩
  · rw [h.l] at hm ⊢; exact (nextL_new h3 hm).symm
  · unfold upd
    by_cases e : x = s
    · rw [if_pos e, e]
      refine ⟨by simp, ?_⟩
      rw [List.getD_cons_succ]
      simp [List.getD]
    · rw [if_neg e]
      obtain ⟨a1, a2⟩ := h.o x (by omega)
      refine ⟨by simp; omega, ?_⟩
      rw [← a2, ← List.cons_append, List.getD_eq_getElem?_getD, List.getD_eq_getElem?_getD, List.getElem?_append_left (by simp; omega)]
  · unfold upd
    rw [if_neg (by omega)]
    exact h.r x (by omega)
  · by_cases e : i = j
    · subst e
      refine ⟨fun _ => ?_, fun x => absurd (by rw [h2]; simp) x⟩
      have hu : upd pl (i + 1) (L'.length + 1) (i + 1) = L'.length + 1 := by unfold upd; rw [if_pos rfl]
      rw [hu]
      refine ⟨by omega, by simp, ?_⟩
      rw [h2]
      simp [List.getD]
    · have hu : upd pl (j + 1) (L'.length + 1) (i + 1) = pl (i + 1) := by unfold upd; rw [if_neg (by omega)]
      rw [hu]
      have hne : L.getD i e0 ≠ mo s := fun x => e (idx_inj ht.wf.nd hi h1 (by rw [x, h2]))
      refine ⟨fun hx => ?_, fun hx => ?_⟩
      · rcases List.mem_append.1 hx with h4 | h4
        · obtain ⟨b1, b2, b3⟩ := (h.p i hi).1 h4
          refine ⟨b1, by simp; omega, ?_⟩
          rw [← b3, List.getD_eq_getElem?_getD, List.getD_eq_getElem?_getD, List.getElem?_append_left (by omega)]
        · simp at h4
          exact absurd h4 hne
      · exact (h.p i hi).2 (fun y => hx (List.mem_append_left _ y))
/-- The copy tells what the table tells. -/
theorem Cp.tells {own : Nat → Nat} {L : List ByteArray} {mo : Nat → ByteArray} {own' : Nat → Nat} {L' : List ByteArray} {pl : Nat → Nat} (h : Cp own L mo 16384 own' L' pl) (ht : Tells own L mo) : Tells own' L' mo := by
  have hin : ∀ x ∈ L', x ∈ L := by
    intro x hx
    rw [h.l] at hx
    obtain ⟨y, hy, he, hne⟩ := srv_mem mo _ x hx
    have h0 : own y ≠ 0 := fun z => hne (by rw [← he]; exact (place_empty ht hy).1 z)
    obtain ⟨j, hj⟩ : ∃ j, own y = j + 1 := ⟨own y - 1, by omega⟩
    obtain ⟨h1, h2, _⟩ := ht.at hy hj
    rw [← he, ← h2]
    exact getD_mem h1
  exact ⟨⟨by rw [h.l]; exact srv_nodup _ _, fun x hx => ht.wf.ne x (hin x hx), fun x hx => ht.wf.sz x (hin x hx), fun s hs => (h.o s hs).1⟩, fun s hs => (h.o s hs).2⟩

/-- The loop that notes each server's first slot, at slot s: F k for place k. -/
structure Fs (mo : Nat → ByteArray) (n s : Nat) (F : Nat → Int) : Prop where
  hit : ∀ k, 1 ≤ k → k ≤ (srv mo s).length → 0 ≤ F k ∧ F k < s
  inc : ∀ k, 2 ≤ k → k ≤ (srv mo s).length → F (k - 1) < F k
  no : ∀ k, (srv mo s).length < k → k < n → F k = -1

theorem Fs.start (mo : Nat → ByteArray) (n : Nat) : Fs mo n 0 (fun _ => -1) := ⟨fun k h1 h2 => by have : k ≤ 0 := h2; omega, fun k h1 h2 => by have : k ≤ 0 := h2; omega, fun _ _ _ => rfl⟩
theorem srv_next (mo : Nat → ByteArray) (s : Nat) : srv mo (s + 1) = nextL (mo s) (srv mo s) := rfl
theorem Fs.keep {mo : Nat → ByteArray} {n s : Nat} {F : Nat → Int} (h : Fs mo n s F) (he : srv mo (s + 1) = srv mo s) : Fs mo n (s + 1) F :=
  ⟨fun k h1 h2 => by rw [he] at h2; have := h.hit k h1 h2; omega, fun k h1 h2 => by rw [he] at h2; exact h.inc k h1 h2, fun k h1 h2 => by rw [he] at h1; exact h.no k h1 h2⟩
/-- What slot s does, by the copy's own place p of it. -/
theorem Fs.step {mo : Nat → ByteArray} {n s : Nat} {F : Nat → Int} (h : Fs mo n s F) {own : Nat → Nat} (ht : Tells own (srv mo 16384) mo) (hn : n = (srv mo 16384).length + 1) (hs : s < 16384) :
    (own s = 0 → Fs mo n (s + 1) F) ∧ (own s ≠ 0 → 0 ≤ F (own s) → Fs mo n (s + 1) F) ∧ (own s ≠ 0 → F (own s) < 0 → Fs mo n (s + 1) (fun k => if k = own s then (s : Int) else F k)) := by
  have hpre := srv_prefix mo s 16384 (by omega)
  have hpre1 := srv_prefix mo (s + 1) 16384 (by omega)
  refine ⟨fun h0 => h.keep ?_, fun h0 h1 => h.keep ?_, fun h0 h1 => ?_⟩
  · exact nextL_empty ((place_empty ht hs).1 h0)
  · have hne : mo s ≠ e0 := fun x => h0 ((place_empty ht hs).2 x)
    by_cases hm : mo s ∈ srv mo s
    · exact nextL_old hm
    · exfalso
      have he : srv mo (s + 1) = srv mo s ++ [mo s] := nextL_new hne hm
      have hl : (srv mo s).length < (srv mo 16384).length := by
        have := hpre1.length_le
        rw [he] at this
        simp at this
        omega
      have hp := place_at ht hs hl (by
        rw [prefix_getD hpre1 (by rw [he]; simp), he]
        simp [List.getD])
      have := h.no (own s) (by omega) (by omega)
      omega
  · have hne : mo s ≠ e0 := fun x => h0 ((place_empty ht hs).2 x)
    by_cases hm : mo s ∈ srv mo s
    · exfalso
      obtain ⟨i, hi, hie⟩ := List.mem_iff_getElem.1 hm
      have hp := place_at ht hs (Nat.lt_of_lt_of_le hi hpre.length_le) (by
        rw [prefix_getD hpre hi]
        simp [List.getD, hi, hie])
      have := h.hit (own s) (by omega) (by omega)
      omega
    · have he : srv mo (s + 1) = srv mo s ++ [mo s] := nextL_new hne hm
      have hl1 : (srv mo (s + 1)).length = (srv mo s).length + 1 := by rw [he]; simp
      have hl : (srv mo s).length < (srv mo 16384).length := by
        have := hpre1.length_le
        omega
      have hp := place_at ht hs hl (by
        rw [prefix_getD hpre1 (by omega), he]
        simp [List.getD])
      refine ⟨fun k a1 a2 => ?_, fun k a1 a2 => ?_, fun k a1 a2 => ?_⟩
      · by_cases e : k = own s
        · rw [if_pos e]; omega
        · rw [if_neg e]
          have := h.hit k a1 (by omega)
          omega
      · by_cases e : k = own s
        · rw [if_pos e, if_neg (by omega)]
          have := h.hit (k - 1) (by omega) (by omega)
          omega
        · rw [if_neg e, if_neg (by omega)]
          exact h.inc k a1 (by omega)
      · rw [if_neg (by omega)]
        exact h.no k (by omega) a2
end Go.Proofs.Qxb6608555a
