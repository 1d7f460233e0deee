/-
  THE TWO SEARCHES (b1WordEndModel) and the two length bounds.
-/
import Derived.Test.Qxb6608624aParts
namespace Go.Proofs.Qxb6608624a
open Go.RowKit
set_option linter.unusedVariables false
set_option linter.unusedSimpArgs false

/-- The first space from k on, else the length. -/
def fSp (b : ByteArray) (k : Nat) : Nat := if h : k < b.size then (if bt b k == 32 then k else fSp b (k + 1)) else b.size
termination_by b.size - k

def bars (b : ByteArray) (k : Nat) : Bool := (bt b k == 124) && (bt b (k + 1) == 124)

/-- The first "||" from k on, else the length. -/
def fBar (b : ByteArray) (k : Nat) : Nat := if h : k + 1 < b.size then (if bars b k then k else fBar b (k + 1)) else b.size
termination_by b.size - k

theorem fSp_ge (b : ByteArray) : ∀ n k, b.size - k = n → k ≤ b.size → k ≤ fSp b k ∧ fSp b k ≤ b.size := by
  intro n
  induction n with
  | zero => intro k h hk; rw [fSp, dif_neg (by omega)]; omega
  | succ n ih =>
    intro k h hk
    rw [fSp, dif_pos (by omega)]
    have := ih (k + 1) (by omega) (by omega)
    split <;> omega
theorem fBar_ge (b : ByteArray) : ∀ n k, b.size - k = n → k ≤ b.size → k ≤ fBar b k ∧ fBar b k ≤ b.size := by
  intro n
  induction n with
  | zero => intro k h hk; rw [fBar, dif_neg (by omega)]; omega
  | succ n ih =>
    intro k h hk
    rw [fBar]
    have := ih (k + 1) (by omega) (by omega)
    split
    · split <;> omega
    · omega

theorem fSp_at (b : ByteArray) (k : Nat) (h : k < b.size) (hs : bt b k = 32) : fSp b k = k := by
  rw [fSp, dif_pos h, if_pos (by simp [hs])]
theorem fSp_next (b : ByteArray) (k : Nat) (h : k < b.size) (hs : bt b k ≠ 32) : fSp b k = fSp b (k + 1) := by
  rw [fSp, dif_pos h, if_neg (by simp [hs])]
theorem fSp_end (b : ByteArray) (k : Nat) (h : ¬ k < b.size) : fSp b k = b.size := by
  rw [fSp, dif_neg h]
theorem fBar_at (b : ByteArray) (k : Nat) (h : k + 1 < b.size) (hs : bars b k = true) : fBar b k = k := by
  rw [fBar, dif_pos h, if_pos hs]
theorem fBar_next (b : ByteArray) (k : Nat) (h : k + 1 < b.size) (hs : bars b k = false) : fBar b k = fBar b (k + 1) := by
  rw [fBar, dif_pos h, if_neg (by simp [hs])]
theorem fBar_end (b : ByteArray) (k : Nat) (h : ¬ k + 1 < b.size) : fBar b k = b.size := by
  rw [fBar, dif_neg h]
theorem stop_sp (b : ByteArray) (k : Nat) (hs : bt b k = 32) : stop b k = true := by simp [stop, hs]
theorem stop_in (b : ByteArray) (k : Nat) (h : k + 1 < b.size) (hs : bt b k ≠ 32) : stop b k = bars b k := by
  rw [stop, bars, decide_eq_true h, show (bt b k == 32) = false by simp [hs], Bool.false_or, Bool.true_and]
theorem stop_last (b : ByteArray) (k : Nat) (h : ¬ k + 1 < b.size) (hs : bt b k ≠ 32) : stop b k = false := by
  rw [stop, decide_eq_false h, show (bt b k == 32) = false by simp [hs]]
  rfl
theorem wEnd_at (b : ByteArray) (k : Nat) (h : k < b.size) (hs : stop b k = true) : wEnd b k = k := by
  rw [wEnd, dif_pos h, if_pos hs]
theorem wEnd_next (b : ByteArray) (k : Nat) (h : k < b.size) (hs : stop b k = false) : wEnd b k = wEnd b (k + 1) := by
  rw [wEnd, dif_pos h, if_neg (by simp [hs])]
theorem wEnd_end (b : ByteArray) (k : Nat) (h : ¬ k < b.size) : wEnd b k = k := by
  rw [wEnd, dif_neg h]

theorem wEnd_min (b : ByteArray) : ∀ n k, b.size - k = n → k ≤ b.size → wEnd b k = if fBar b k < fSp b k then fBar b k else fSp b k := by
  intro n
  induction n with
  | zero =>
    intro k h hk
    rw [wEnd_end b k (by omega), fSp_end b k (by omega), fBar_end b k (by omega)]
    split <;> omega
  | succ n ih =>
    intro k h hk
    have hlt : k < b.size := by omega
    have i1 := ih (k + 1) (by omega) (by omega)
    have g1 := fSp_ge b _ (k + 1) rfl (by omega)
    have g2 := fBar_ge b _ (k + 1) rfl (by omega)
    have g3 := fBar_ge b _ k rfl (by omega)
    by_cases hs : bt b k = 32
    · rw [wEnd_at b k hlt (stop_sp b k hs), fSp_at b k hlt hs]
      split <;> omega
    · by_cases hb : k + 1 < b.size
      · cases hq : bars b k
        · rw [wEnd_next b k hlt (by rw [stop_in b k hb hs, hq]), fBar_next b k hb hq, fSp_next b k hlt hs, i1]
        · rw [wEnd_at b k hlt (by rw [stop_in b k hb hs, hq]), fBar_at b k hb hq, fSp_next b k hlt hs]
          split <;> omega
      · rw [wEnd_next b k hlt (stop_last b k hb hs), wEnd_end b _ hb, fBar_end b k hb, fSp_next b k hlt hs, fSp_end b _ hb]
        split <;> omega

def SomeBool (e : Ending) : Prop := ∃ q : Bool, e = .returned (.bool q)

theorem zz8_any (a b : ByteArray) (x : Int) (ha : a.size ≤ 9223372036854775807) (hb : b.size ≤ 9223372036854775807) (w : World) : Calls Try.prog 8 #[.string a, .string b, .int .i64 x] w fun e w' => SomeBool e ∧ w = w' := by
  go_enter Try.func8, Try.ntmps8
  go_wp2
  all_goals go_ret
  all_goals exact ⟨⟨_, rfl⟩, rfl⟩
theorem zz11_any (a : ByteArray) (x : Int) (ha : a.size ≤ 9223372036854775807) (w : World) : Calls Try.prog 11 #[.string a, .int .i64 x] w fun e w' => SomeBool e ∧ w = w' := by
  go_enter Try.func11, Try.ntmps11
  go_wp2
  all_goals go_ret
  all_goals exact ⟨⟨_, rfl⟩, rfl⟩
end Go.Proofs.Qxb6608624a
