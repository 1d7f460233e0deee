/-
  THE WORD BYTES AND THEIR RUNS: the plain law of the tokenizer.
-/
import Derived.Test.Qxb6608624aJoin
namespace Go.Proofs.Qxb6608624a
open Go.RowKit
set_option linter.unusedVariables false
set_option linter.unusedSimpArgs false

/-- Reading from k on (a space, a "||", else one byte of a word): is x a byte of a word? -/
def wd (b : ByteArray) (k x : Nat) : Bool :=
  if h : k < b.size then
    if stop b k then
      if bt b k == 32 then (if x = k then false else wd b (k + 1) x)
      else (if x ≤ k + 1 then false else wd b (k + 2) x)
    else (if x = k then true else wd b (k + 1) x)
  else false
termination_by b.size - k

theorem wd_end (b : ByteArray) (k x : Nat) (h : ¬ k < b.size) : wd b k x = false := by rw [wd, dif_neg h]
theorem wd_sp (b : ByteArray) (k : Nat) (h : k < b.size) (hs : bt b k = 32) : wd b k k = false ∧ ∀ x, k + 1 ≤ x → wd b k x = wd b (k + 1) x := by
  refine ⟨?_, fun x hx => ?_⟩
  · rw [wd, dif_pos h, if_pos (stop_sp b k hs), if_pos (by simp [hs]), if_pos rfl]
  · rw [wd, dif_pos h, if_pos (stop_sp b k hs), if_pos (by simp [hs]), if_neg (by omega)]
theorem wd_bar (b : ByteArray) (k : Nat) (h : k + 1 < b.size) (hs : bars b k = true) : wd b k k = false ∧ wd b k (k + 1) = false ∧ ∀ x, k + 2 ≤ x → wd b k x = wd b (k + 2) x := by
  have h1 : bt b k = 124 := by
    rw [bars, Bool.and_eq_true] at hs
    simpa using hs.1
  have h2 : stop b k = true := by rw [stop_in b k h (by omega), hs]
  have h3 : ¬ (bt b k == 32) = true := by simp [h1]
  refine ⟨?_, ?_, fun x hx => ?_⟩
  · rw [wd, dif_pos (by omega), if_pos h2, if_neg h3, if_pos (by omega)]
  · rw [wd, dif_pos (by omega), if_pos h2, if_neg h3, if_pos (by omega)]
  · rw [wd, dif_pos (by omega), if_pos h2, if_neg h3, if_neg (by omega)]
theorem wd_word (b : ByteArray) (k : Nat) (h : k < b.size) (hs : stop b k = false) : wd b k k = true ∧ ∀ x, k + 1 ≤ x → wd b k x = wd b (k + 1) x := by
  refine ⟨?_, fun x hx => ?_⟩
  · rw [wd, dif_pos h, if_neg (by simp [hs]), if_pos rfl]
  · rw [wd, dif_pos h, if_neg (by simp [hs]), if_neg (by omega)]

/-- A byte that is neither a space nor a pipe is one of a word. -/
theorem stop_plain (b : ByteArray) (k : Nat) (h1 : bt b k ≠ 32) (h2 : bt b k ≠ 124) : stop b k = false := by
  simp [stop, h1, h2]

/-- The pipes from k up to j: the last one alone is of a word, if their number is odd. -/
theorem wd_pipes (b : ByteArray) (j : Nat) (hj : j ≤ b.size) (hend : j < b.size → bt b j ≠ 124) : ∀ n k, j - k = n → k ≤ j → (∀ x, k ≤ x → x < j → bt b x = 124) →
    (∀ x, k ≤ x → x < j → wd b k x = (decide (x + 1 = j) && decide ((j - k) % 2 = 1))) ∧ ∀ x, j ≤ x → wd b k x = wd b j x := by
  intro n
  induction n using Nat.strongRecOn with
  | _ n ih =>
    intro k hn hk hall
    by_cases h0 : k = j
    · subst h0
      exact ⟨fun x h1 h2 => by omega, fun x _ => rfl⟩
    by_cases h1 : k + 1 = j
    · have hk124 := hall k (by omega) (by omega)
      have hst : stop b k = false := by
        unfold stop
        rw [show (bt b k == 32) = false by simp [hk124], Bool.false_or]
        by_cases hb : k + 1 < b.size
        · have := hend (by omega)
          rw [← h1] at this
          simp [this]
        · simp [hb]
      obtain ⟨e1, e2⟩ := wd_word b k (by omega) hst
      refine ⟨fun x hx1 hx2 => ?_, fun x hx => ?_⟩
      · obtain rfl : x = k := by omega
        rw [e1, show j - x = 1 by omega]
        simp [h1]
      · rw [e2 x (by omega), h1]
    · have hb : bars b k = true := by
        rw [bars, hall k (by omega) (by omega), hall (k + 1) (by omega) (by omega)]
        rfl
      obtain ⟨e1, e2, e3⟩ := wd_bar b k (by omega) hb
      obtain ⟨i1, i2⟩ := ih (j - (k + 2)) (by omega) (k + 2) rfl (by omega) (fun x hx1 hx2 => hall x (by omega) hx2)
      refine ⟨fun x hx1 hx2 => ?_, fun x hx => ?_⟩
      · by_cases hx : k + 2 ≤ x
        · rw [e3 x hx, i1 x hx hx2, show (j - (k + 2)) % 2 = (j - k) % 2 by omega]
        · have hne : ¬ x + 1 = j ∨ (j - k) % 2 = 0 := by omega
          have hF : (decide (x + 1 = j) && decide ((j - k) % 2 = 1)) = false := by
            rcases hne with h | h
            · simp [h]
            · simp [h]
          rw [hF]
          rcases (show x = k ∨ x = k + 1 by omega) with rfl | rfl
          · exact e1
          · exact e2
      · rw [e3 x (by omega), i2 x hx]

/-- Where a run of f ends. -/
def runEnd (f : Nat → Bool) (n k : Nat) : Nat := if k < n then (if f k then runEnd f n (k + 1) else k) else k
termination_by n - k

theorem runEnd_ge (f : Nat → Bool) (n : Nat) : ∀ m k, n - k = m → k ≤ runEnd f n k := by
  intro m
  induction m with
  | zero => intro k h; rw [runEnd, if_neg (by omega)]; omega
  | succ m ih =>
    intro k h
    rw [runEnd, if_pos (by omega)]
    have := ih (k + 1) (by omega)
    split <;> omega

theorem runEnd_next (f : Nat → Bool) (n k : Nat) (h : k < n) (hf : f k = true) : runEnd f n k = runEnd f n (k + 1) := by rw [runEnd, if_pos h, if_pos hf]
theorem runEnd_stop (f : Nat → Bool) (n k : Nat) (h : k < n → f k = false) : runEnd f n k = k := by
  rw [runEnd]
  by_cases hk : k < n
  · rw [if_pos hk, if_neg (by simp [h hk])]
  · rw [if_neg hk]
theorem runEnd_run (f : Nat → Bool) (n : Nat) (e : Nat) (he : e ≤ n) (hstop : e < n → f e = false) : ∀ m k, e - k = m → k ≤ e → (∀ x, k ≤ x → x < e → f x = true) → runEnd f n k = e := by
  intro m
  induction m with
  | zero =>
    intro k h hk hall
    obtain rfl : k = e := by omega
    exact runEnd_stop f n k hstop
  | succ m ih =>
    intro k h hk hall
    rw [runEnd_next f n k (by omega) (hall k (by omega) (by omega))]
    exact ih (k + 1) (by omega) (by omega) (fun x h1 h2 => hall x (by omega) h2)

/-- The runs of f from k on. -/
def runs (f : Nat → Bool) (n k : Nat) : List (Nat × Nat) :=
  if h : k < n then
    if f k then
      have : n - runEnd f n (k + 1) < n - k := by have := runEnd_ge f n _ (k + 1) rfl; omega
      (k, runEnd f n (k + 1)) :: runs f n (runEnd f n (k + 1))
    else runs f n (k + 1)
  else []
termination_by n - k

theorem runs_end (f : Nat → Bool) (n k : Nat) (h : ¬ k < n) : runs f n k = [] := by rw [runs, dif_neg h]
theorem runs_miss (f : Nat → Bool) (n k : Nat) (h : k < n) (hf : f k = false) : runs f n k = runs f n (k + 1) := by rw [runs, dif_pos h, if_neg (by simp [hf])]
theorem runs_hit (f : Nat → Bool) (n k : Nat) (h : k < n) (hf : f k = true) (e : Nat) (he : runEnd f n (k + 1) = e) : runs f n k = (k, e) :: runs f n e := by
  rw [runs, dif_pos h, if_pos hf]
  show (k, runEnd f n (k + 1)) :: runs f n (runEnd f n (k + 1)) = _
  rw [he]

/-- The runs are at most as many as the places. -/
theorem runs_len (f : Nat → Bool) (n : Nat) : ∀ m k, n - k = m → (runs f n k).length ≤ n - k := by
  intro m
  induction m using Nat.strongRecOn with
  | _ m ih =>
    intro k hm
    by_cases hk : k < n
    · cases hf : f k
      · rw [runs_miss f n k hk hf]
        have := ih (n - (k + 1)) (by omega) (k + 1) rfl
        omega
      · rw [runs_hit f n k hk hf _ rfl, List.length_cons]
        have h1 := runEnd_ge f n _ (k + 1) rfl
        have := ih (n - runEnd f n (k + 1)) (by omega) _ rfl
        omega
    · rw [runs_end f n k hk]
      simp

/-- The reader that began at i has come to k. -/
def At (b : ByteArray) (i k : Nat) : Prop := ∀ x, k ≤ x → wd b i x = wd b k x

theorem At.sp {b : ByteArray} {i k : Nat} (h : At b i k) (hk : k < b.size) (hs : bt b k = 32) : At b i (k + 1) ∧ wd b i k = false :=
  ⟨fun x hx => by rw [h x (by omega), (wd_sp b k hk hs).2 x hx], by rw [h k (by omega), (wd_sp b k hk hs).1]⟩
theorem At.bar {b : ByteArray} {i k : Nat} (h : At b i k) (hk : k + 1 < b.size) (hs : bars b k = true) : At b i (k + 2) ∧ wd b i k = false ∧ wd b i (k + 1) = false :=
  ⟨fun x hx => by rw [h x (by omega), (wd_bar b k hk hs).2.2 x hx], by rw [h k (by omega), (wd_bar b k hk hs).1], by rw [h (k + 1) (by omega), (wd_bar b k hk hs).2.1]⟩
theorem At.word {b : ByteArray} {i k : Nat} (h : At b i k) (hk : k < b.size) (hs : stop b k = false) : At b i (k + 1) ∧ wd b i k = true :=
  ⟨fun x hx => by rw [h x (by omega), (wd_word b k hk hs).2 x hx], by rw [h k (by omega), (wd_word b k hk hs).1]⟩
theorem At.stopped {b : ByteArray} {i k : Nat} (h : At b i k) (hk : k < b.size) (hs : stop b k = true) : wd b i k = false := by
  rw [h k (by omega)]
  by_cases h32 : bt b k = 32
  · exact (wd_sp b k hk h32).1
  · by_cases h1 : k + 1 < b.size
    · exact (wd_bar b k h1 (by rw [← stop_in b k h1 h32, hs])).1
    · rw [stop_last b k h1 h32] at hs
      cases hs

/-- The word at k: all its bytes are word bytes, and it ends where wordEnd says. -/
theorem At.toEnd {b : ByteArray} {i : Nat} : ∀ n k, b.size - k = n → k ≤ b.size → At b i k → At b i (wEnd b k) ∧ (∀ x, k ≤ x → x < wEnd b k → wd b i x = true) ∧ (wEnd b k < b.size → wd b i (wEnd b k) = false) := by
  intro n
  induction n with
  | zero =>
    intro k hn hk h
    rw [wEnd_end b k (by omega)]
    exact ⟨h, fun x h1 h2 => by omega, fun hlt => by omega⟩
  | succ n ih =>
    intro k hn hk h
    cases hs : stop b k
    · obtain ⟨h1, h2⟩ := h.word (by omega) hs
      obtain ⟨i1, i2, i3⟩ := ih (k + 1) (by omega) (by omega) h1
      rw [wEnd_next b k (by omega) hs]
      refine ⟨i1, fun x hx1 hx2 => ?_, i3⟩
      by_cases hx : x = k
      · subst hx; exact h2
      · exact i2 x (by omega) hx2
    · rw [wEnd_at b k (by omega) hs]
      exact ⟨h, fun x h1 h2 => by omega, fun hlt => h.stopped hlt hs⟩

/-- The tokenizer's step at a word. -/
theorem At.token {b : ByteArray} {i k : Nat} (h : At b i k) (hk : k < b.size) (hs : stop b k = false) :
    k < wEnd b k ∧ wEnd b k ≤ b.size ∧ At b i (wEnd b k) ∧ runs (wd b i) b.size k = (k, wEnd b k) :: runs (wd b i) b.size (wEnd b k) := by
  obtain ⟨h1, h2, h3⟩ := At.toEnd _ k rfl (by omega) h
  have hl := wEnd_le b _ k rfl
  have hl1 := wEnd_le b _ (k + 1) rfl
  have hlt : k < wEnd b k := by rw [wEnd_next b k hk hs]; omega
  refine ⟨hlt, hl.2 (by omega), h1, ?_⟩
  exact runs_hit _ _ k hk (h2 k (by omega) hlt) _ (runEnd_run _ _ _ (hl.2 (by omega)) h3 _ (k + 1) rfl (by omega) (fun x a c => h2 x (by omega) c))
end Go.Proofs.Qxb6608624a
