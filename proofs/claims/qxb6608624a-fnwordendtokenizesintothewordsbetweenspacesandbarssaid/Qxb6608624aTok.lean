/-
  THE WALK of the tokenizer law (function 4).
-/
import Derived.Test.Qxb6608624aMem
namespace Go.Proofs.Qxb6608624a
open Go.RowKit
set_option linter.unusedVariables false
set_option linter.unusedSimpArgs false

def sV (p : Nat × Nat) : Value := .int .i64 (p.1 : Int)
def eV (p : Nat × Nat) : Value := .int .i64 (p.2 : Int)

/-- The marks that are laid before k. -/
def mk (b : ByteArray) (i k x : Nat) : Bool := decide (i + x < k) && wd b i (i + x)

theorem mk_skip {b : ByteArray} {i k : Nat} (k' : Nat) (hk : k ≤ k') (h : ∀ x, k ≤ x → x < k' → wd b i x = false) (x : Nat) : mk b i k x = mk b i k' x := by
  unfold mk
  by_cases h1 : i + x < k
  · rw [decide_eq_true h1, decide_eq_true (by omega)]
  · rw [decide_eq_false h1, Bool.false_and]
    by_cases h2 : i + x < k'
    · rw [h (i + x) (by omega) h2, Bool.and_false]
    · rw [decide_eq_false h2, Bool.false_and]
theorem mk_hit {b : ByteArray} {i k : Nat} (k' j : Nat) (hk : k ≤ j) (hj : j < k') (hi : i ≤ k) (h1 : wd b i j = true) (h : ∀ x, k ≤ x → x < k' → x ≠ j → wd b i x = false) (x : Nat) : (if x = j - i then true else mk b i k x) = mk b i k' x := by
  by_cases hx : x = j - i
  · rw [if_pos hx, mk, show i + x = j by omega, h1, decide_eq_true hj]
    rfl
  · rw [if_neg hx]
    unfold mk
    by_cases h1 : i + x < k
    · rw [decide_eq_true h1, decide_eq_true (by omega)]
    · rw [decide_eq_false h1, Bool.false_and]
      by_cases h2 : i + x < k'
      · rw [h (i + x) (by omega) h2 (by omega), Bool.and_false]
      · rw [decide_eq_false h2, Bool.false_and]

set_option maxRecDepth 100000 in
set_option maxHeartbeats 4000000 in
theorem walk4 (b : ByteArray) (x : Int) (w0 : b.size ≤ maxLen) (w1 : (Lit.int .i64 x).wf = true) (w : World) :
    Calls Try.prog 4 #[.string b, .int .i64 x] w fun e w' => e = .returned (.bool true) ∧ Below w.heap.size w w' := by
  have hx := wf_i64 w1
  have hm : maxLen = 9223372036854775807 := by decide
  rw [hm] at w0
  clear w1 hm
  go_enter Try.func4, Try.ntmps4
  go_wp2_with fail
  refine (zz11_any b x w0 w).mono ?_
  rintro e w' ⟨⟨q, rfl⟩, rfl⟩
  cases q
  · go_wp2
    go_ret
    exact ⟨rfl, Below.refl _ _⟩
  by_cases hs : b.size ≤ 1048576
  case neg =>
    go_wp2
    go_ret
    exact ⟨rfl, Below.refl _ _⟩
  by_cases h0 : 0 ≤ x
  case neg =>
    go_wp2
    go_ret
    exact ⟨rfl, Below.refl _ _⟩
  obtain ⟨i, rfl⟩ : ∃ i : Nat, x = (i : Int) := ⟨x.toNat, by omega⟩
  by_cases hi : i < b.size
  case neg =>
    go_wp2_with fail
    refine (zzWordEnd_any b i hs hx.2 w).mono ?_
    rintro e w' ⟨rfl, rfl⟩
    rw [wEnd_end b i hi]
    go_wp2
    go_ret
    exact ⟨by simp, Below.refl _ _⟩
  obtain ⟨m, HM⟩ : ∃ m, Hid (m = b.size - i) := ⟨_, rfl⟩
  have hmk : (Instr.makeSlice 25 (.int .i64 ((b.size : Int) - (i : Int))) (.int .i64 ((b.size : Int) - (i : Int)))).run Try.prog w = .ok (.slice (some ⟨w.heap.size, 0, none⟩) m m) (w.alloc (.cells (madeCells #[.bool false] m) 4)) := by
    have h := make_bools m (by have := HM.out; omega) w
    rw [show ((m : Nat) : Int) = (b.size : Int) - (i : Int) by have := HM.out; omega] at h
    exact h
  have HW0 : Hid (Wt w.heap.size w w.heap.size m (mk b i i) (w.alloc (.cells (madeCells #[.bool false] m) 4))) := by
    refine ⟨(Below.refl _ _).alloc (Nat.le_refl _) _, Nat.le_refl _, madeCells #[.bool false] m, ?_, ?_, fun x hx => ?_⟩
    · show (w.heap.push _)[w.heap.size]? = _; simp
    · simp [madeCells]
    · rw [show mk b i i x = false by rw [mk, decide_eq_false (by omega), Bool.false_and]]
      --MADE
      simp [madeCells, hx, Nat.mod_one]
  go_wp2_with fail
  obtain ⟨D, hD⟩ : ∃ D, D = w.heap.size := ⟨_, rfl⟩
  have HIX : Hid (∀ k, k < m → ∀ w', (Instr.indexAt 25 (.slice (some ⟨D, 0, none⟩) m m) (.int .i64 (k : Int))).run Try.prog w' = .ok (.pointer (some ⟨D, k, none⟩)) w') := fun k hk w' => by
    have := idx_eq Try.underlying25 sized4 .i64 D 0 m m k hk w'
    simpa using this
  have HW1 : Hid (Wt w.heap.size w D m (mk b i i) (w.alloc (.cells (madeCells #[.bool false] m) 4))) := by rw [hD]; exact HW0
  rw [← hD]
  clear hmk HW0 hD
  generalize w.alloc (.cells (madeCells #[.bool false] m) 4) = W1 at HW1 ⊢
  rw [decide_eq_false (show ¬ b.size ≤ i by omega)]
  go_loopg [8] (b.size - i) (fun g v8 wr => ∃ k : Nat, Hid (g = b.size - k) ∧ v8 = .int .i64 (k : Int) ∧ Hid (i ≤ k ∧ k ≤ b.size) ∧ Hid (At b i k) ∧ Hid (Wt w.heap.size w D m (mk b i k) wr))
  case atStart => exact ⟨i, rfl, rfl, hid ⟨Nat.le_refl _, by omega⟩, hid (fun x hx => rfl), HW1⟩
  case round =>
    clear HW1
    obtain ⟨k, HG, rfl, HK, HA, HWt⟩ := hrel
    rename World => wr
    by_cases hlt : k < b.size
    · have hix := index_str b k hlt
      have hw1 : IntKind.i64.wrap ((k : Int) + 1) = (k : Int) + 1 := IntWalk.i64_in _ (by omega)
      cases h32 : (bt b k == 32)
      · cases h124 : (bt b k == 124)
        · have HN := hid (HA.out.word hlt (stop_plain b k (by simpa using h32) (by simpa using h124)))
          have HWk : Hid (Wt w.heap.size w D m (mk b i (k + 1)) (wr.setCell ⟨D, k - i, none⟩ (.bool true))) := (HWt.out.store (k - i)).congr (fun x hx => mk_hit (k + 1) k (by omega) (by omega) HK.out.1 HN.out.2 (fun x h1 h2 h3 => by omega) x)
          have hix2 : ∀ w', (Instr.indexAt 25 (.slice (some ⟨D, 0, none⟩) m m) (.int .i64 ((k : Int) - (i : Int)))).run Try.prog w' = .ok (.pointer (some ⟨D, k - i, none⟩)) w' := fun w' => by
            have h := HIX.out (k - i) (by have := HM.out; have := HK.out.1; omega) w'
            rw [show ((k - i : Nat) : Int) = (k : Int) - (i : Int) by have := HK.out.1; omega] at h
            exact h
          have hce := HWt.out.cell (k - i) (by have := HM.out; have := HK.out.1; omega)
          have hfr := HWt.out.free (k - i)
          have hw2 : IntKind.i64.wrap ((k : Int) - (i : Int)) = (k : Int) - (i : Int) := IntWalk.i64_in _ (by omega)
          go_wp2
          go_roundg (b.size - (k + 1))
          case measure => have := HG.out; omega
          case rel => exact ⟨k + 1, rfl, by go_num, hid ⟨by have := HK.out.1; omega, by omega⟩, hid HN.out.1, HWk⟩
        · go_wp2_with fail
          go_loopg [10] (b.size - k) (fun g v wr' => ∃ j : Nat, Hid (g = b.size - j) ∧ v = .int .i64 (j : Int) ∧ Hid (k ≤ j ∧ j ≤ b.size ∧ ∀ x, k ≤ x → x < j → bt b x = 124) ∧ wr = wr')
          case atStart => exact ⟨k, rfl, rfl, hid ⟨Nat.le_refl _, by omega, fun x h1 h2 => by omega⟩, rfl⟩
          case round =>
            obtain ⟨j, HGj, rfl, HJ, hw⟩ := hrel
            subst hw
            by_cases hjl : j < b.size
            · have hixj := index_str b j hjl
              cases hj124 : (bt b j == 124)
              · have HEND : Hid (j < b.size → bt b j ≠ 124) := hid (fun _ => by simpa using hj124)
                have hkj : k < j := by
                  rcases Nat.lt_or_ge k j with h | h
                  · exact h
                  · exfalso
                    obtain rfl : j = k := by have := HJ.out.1; omega
                    rw [h124] at hj124; cases hj124
                obtain ⟨hp1, hp2⟩ := wd_pipes b j HJ.out.2.1 HEND.out _ k rfl HJ.out.1 HJ.out.2.2
                have HAj : Hid (At b i j) := fun x hx => by rw [HA.out x (by omega), hp2 x hx]
                have HPi : Hid (∀ x, k ≤ x → x < j → wd b i x = (decide (x + 1 = j) && decide ((j - k) % 2 = 1))) := fun x h1 h2 => by rw [HA.out x h1, hp1 x h1 h2]
                clear hp1 hp2
                have hwj : IntKind.i64.wrap ((j : Int) - (k : Int)) = (j : Int) - (k : Int) := IntWalk.i64_in _ (by have := HJ.out.2.1; omega)
                by_cases hodd : (j - k) % 2 = 1
                · have hod2 : (((j : Int) - (k : Int)).tmod 2) = 1 := by rw [Int.tmod_eq_emod_of_nonneg (by omega)]; omega
                  have HWS := HWt.out.store (j - 1 - i)
                  have HWj : Hid (Wt w.heap.size w D m (mk b i j) (wr.setCell ⟨D, j - 1 - i, none⟩ (.bool true))) := HWS.congr (fun x hx => mk_hit j (j - 1) (by omega) (by omega) HK.out.1 (by rw [HPi.out (j - 1) (by omega) (by omega), hodd, decide_eq_true (by omega)]; rfl) (fun x h1 h2 h3 => by rw [HPi.out x h1 h2, decide_eq_false (by omega), Bool.false_and]) x)
                  have hix2 : ∀ w', (Instr.indexAt 25 (.slice (some ⟨D, 0, none⟩) m m) (.int .i64 ((j : Int) - 1 - (i : Int)))).run Try.prog w' = .ok (.pointer (some ⟨D, j - 1 - i, none⟩)) w' := fun w' => by
                    have h := HIX.out (j - 1 - i) (by have := HM.out; have := HK.out.1; have := HJ.out.2.1; omega) w'
                    rw [show ((j - 1 - i : Nat) : Int) = (j : Int) - 1 - (i : Int) by have := HK.out.1; omega] at h
                    exact h
                  have hce := HWt.out.cell (j - 1 - i) (by have := HM.out; have := HK.out.1; have := HJ.out.2.1; omega)
                  have hfr := HWt.out.free (j - 1 - i)
                  have hj1 : IntKind.i64.wrap ((j : Int) - 1) = (j : Int) - 1 := IntWalk.i64_in _ (by have := HJ.out.2.1; omega)
                  have hj2 : IntKind.i64.wrap ((j : Int) - 1 - (i : Int)) = (j : Int) - 1 - (i : Int) := IntWalk.i64_in _ (by have := HJ.out.2.1; omega)
                  clear HWS
                  go_wp2
                  go_roundg (b.size - j)
                  case measure => have := HG.out; have := HJ.out.2.1; omega
                  case rel => exact ⟨j, rfl, by go_num, hid ⟨by have := HK.out.1; omega, HJ.out.2.1⟩, HAj, HWj⟩
                · have hod2 : ¬ (((j : Int) - (k : Int)).tmod 2) = 1 := by rw [Int.tmod_eq_emod_of_nonneg (by omega)]; omega
                  have HWj : Hid (Wt w.heap.size w D m (mk b i j) wr) := HWt.out.congr (fun x hx => mk_skip j (by omega) (fun x h1 h2 => by rw [HPi.out x h1 h2, decide_eq_false hodd, Bool.and_false]) x)
                  go_wp2
                  go_roundg (b.size - j)
                  case measure => have := HG.out; have := HJ.out.2.1; omega
                  case rel => exact ⟨j, rfl, by go_num, hid ⟨by have := HK.out.1; omega, HJ.out.2.1⟩, HAj, HWj⟩
              · have hwj1 : IntKind.i64.wrap ((j : Int) + 1) = (j : Int) + 1 := IntWalk.i64_in _ (by omega)
                go_wp2
                go_roundg (b.size - (j + 1))
                case measure => have := HGj.out; omega
                case rel => exact ⟨j + 1, rfl, by go_num, hid ⟨by have := HJ.out.1; omega, by omega, fun x h1 h2 => by
                  by_cases hxj : x = j
                  · subst hxj; simpa using hj124
                  · exact HJ.out.2.2 x h1 (by omega)⟩, rfl⟩
            · have HEND : Hid (j < b.size → bt b j ≠ 124) := hid (fun h => absurd h hjl)
              have hkj : k < j := by
                rcases Nat.lt_or_ge k j with h | h
                · exact h
                · exfalso
                  obtain rfl : j = k := by have := HJ.out.1; omega
                  omega
              obtain ⟨hp1, hp2⟩ := wd_pipes b j HJ.out.2.1 HEND.out _ k rfl HJ.out.1 HJ.out.2.2
              have HAj : Hid (At b i j) := fun x hx => by rw [HA.out x (by omega), hp2 x hx]
              have HPi : Hid (∀ x, k ≤ x → x < j → wd b i x = (decide (x + 1 = j) && decide ((j - k) % 2 = 1))) := fun x h1 h2 => by rw [HA.out x h1, hp1 x h1 h2]
              clear hp1 hp2
              have hwj : IntKind.i64.wrap ((j : Int) - (k : Int)) = (j : Int) - (k : Int) := IntWalk.i64_in _ (by have := HJ.out.2.1; omega)
              by_cases hodd : (j - k) % 2 = 1
              · have hod2 : (((j : Int) - (k : Int)).tmod 2) = 1 := by rw [Int.tmod_eq_emod_of_nonneg (by omega)]; omega
                have HWS := HWt.out.store (j - 1 - i)
                have HWj : Hid (Wt w.heap.size w D m (mk b i j) (wr.setCell ⟨D, j - 1 - i, none⟩ (.bool true))) := HWS.congr (fun x hx => mk_hit j (j - 1) (by omega) (by omega) HK.out.1 (by rw [HPi.out (j - 1) (by omega) (by omega), hodd, decide_eq_true (by omega)]; rfl) (fun x h1 h2 h3 => by rw [HPi.out x h1 h2, decide_eq_false (by omega), Bool.false_and]) x)
                have hix2 : ∀ w', (Instr.indexAt 25 (.slice (some ⟨D, 0, none⟩) m m) (.int .i64 ((j : Int) - 1 - (i : Int)))).run Try.prog w' = .ok (.pointer (some ⟨D, j - 1 - i, none⟩)) w' := fun w' => by
                  have h := HIX.out (j - 1 - i) (by have := HM.out; have := HK.out.1; have := HJ.out.2.1; omega) w'
                  rw [show ((j - 1 - i : Nat) : Int) = (j : Int) - 1 - (i : Int) by have := HK.out.1; omega] at h
                  exact h
                have hce := HWt.out.cell (j - 1 - i) (by have := HM.out; have := HK.out.1; have := HJ.out.2.1; omega)
                have hfr := HWt.out.free (j - 1 - i)
                have hj1 : IntKind.i64.wrap ((j : Int) - 1) = (j : Int) - 1 := IntWalk.i64_in _ (by have := HJ.out.2.1; omega)
                have hj2 : IntKind.i64.wrap ((j : Int) - 1 - (i : Int)) = (j : Int) - 1 - (i : Int) := IntWalk.i64_in _ (by have := HJ.out.2.1; omega)
                clear HWS
                go_wp2
                go_roundg (b.size - j)
                case measure => have := HG.out; have := HJ.out.2.1; omega
                case rel => exact ⟨j, rfl, by go_num, hid ⟨by have := HK.out.1; omega, HJ.out.2.1⟩, HAj, HWj⟩
              · have hod2 : ¬ (((j : Int) - (k : Int)).tmod 2) = 1 := by rw [Int.tmod_eq_emod_of_nonneg (by omega)]; omega
                have HWj : Hid (Wt w.heap.size w D m (mk b i j) wr) := HWt.out.congr (fun x hx => mk_skip j (by omega) (fun x h1 h2 => by rw [HPi.out x h1 h2, decide_eq_false hodd, Bool.and_false]) x)
                go_wp2
                go_roundg (b.size - j)
                case measure => have := HG.out; have := HJ.out.2.1; omega
                case rel => exact ⟨j, rfl, by go_num, hid ⟨by have := HK.out.1; omega, HJ.out.2.1⟩, HAj, HWj⟩
      · have HN := hid (HA.out.sp hlt (by simpa using h32))
        have HWk : Hid (Wt w.heap.size w D m (mk b i (k + 1)) wr) := HWt.out.congr (fun x hx => mk_skip (k + 1) (by omega) (fun x h1 h2 => by rw [show x = k by omega]; exact HN.out.2) x)
        go_wp2
        go_roundg (b.size - (k + 1))
        case measure => have := HG.out; omega
        case rel => exact ⟨k + 1, rfl, by go_num, hid ⟨by have := HK.out.1; omega, by omega⟩, hid HN.out.1, HWk⟩
    · have HW2 : Hid (Wt w.heap.size w D m (fun x => wd b i (i + x)) wr) := HWt.out.congr (fun x hx => by rw [mk, decide_eq_true (by have := HM.out; omega), Bool.true_and])
      clear HWt HA HG HK
      go_wp2_with fail
      obtain ⟨i0, hi0, hz0, hz1, hz2⟩ := info_parts info3
      have HI0 := hid (And.intro hi0 (And.intro hz0 (And.intro hz1 hz2)))
      clear hi0 hz0 hz1 hz2
      go_loopg [8, 11, 12] m (fun g v8 v11 v12 wr' => ∃ (k : Nat) (aS aE : Option Addr) (pS pE ns : Nat) (l : List (Nat × Nat)), Hid (g = m - k) ∧ v8 = .int .i64 (k : Int) ∧ v11 = .slice aS ns pS ∧ v12 = .slice aE ns pE ∧ Hid (ns = l.length) ∧ Hid (k ≤ m ∧ l ++ runs (wd b i) b.size (i + k) = runs (wd b i) b.size i) ∧ Hid (Own2 w.heap.size w D m (fun x => wd b i (i + x)) (.slice aS ns pS) ns (l.map sV) (.slice aE ns pE) ns (l.map eV) wr'))
      case atStart => exact ⟨0, none, none, 0, 0, 0, [], rfl, rfl, rfl, rfl, rfl, hid ⟨Nat.zero_le _, rfl⟩, hid ⟨HW2.out, World.ownsRow_nil _ _ _ _, World.ownsRow_nil _ _ _ _, Or.inl rfl, Or.inl rfl⟩⟩
      case round =>
        clear HW2
        obtain ⟨t, aS, aE, pS, pE, ns, l, HG, rfl, rfl, rfl, HN, HR, HO⟩ := hrel
        rename World => W
        by_cases htm : t < m
        · have htm2 : (t : Int) < (b.size : Int) - (i : Int) := by have := HM.out; omega
          have hix := HIX.out t htm
          have hce := HO.out.wt.cell t htm
          have hw1 : IntKind.i64.wrap ((t : Int) + 1) = (t : Int) + 1 := IntWalk.i64_in _ (by have := HM.out; omega)
          cases hwd : wd b i (i + t)
          · rw [hwd] at hce
            have HR' : Hid (t + 1 ≤ m ∧ l ++ runs (wd b i) b.size (i + (t + 1)) = runs (wd b i) b.size i) := hid ⟨by omega, by rw [← HR.out.2, runs_miss _ _ (i + t) (by have := HM.out; omega) hwd]; rfl⟩
            go_wp2
            go_roundg (m - (t + 1))
            case measure => have := HG.out; omega
            case rel => exact ⟨t + 1, aS, aE, pS, pE, ns, l, rfl, by go_num, rfl, rfl, HN, HR', HO⟩
          · rw [hwd] at hce
            go_wp2_with fail
            go_loopg [13] (m - t) (fun g v wr' => ∃ j : Nat, Hid (g = m - j) ∧ v = .int .i64 (j : Int) ∧ Hid (t ≤ j ∧ j ≤ m ∧ ∀ x, t ≤ x → x < j → wd b i (i + x) = true) ∧ W = wr')
            case atStart => exact ⟨t, rfl, rfl, hid ⟨Nat.le_refl _, by omega, fun x h1 h2 => by omega⟩, rfl⟩
            case round =>
              obtain ⟨j, HGj, rfl, HJ, hw⟩ := hrel
              subst hw
              by_cases hjm : j < m
              · have hjm1 : (j : Int) < (b.size : Int) - (i : Int) := by have := HM.out; omega
                have hixj := HIX.out j hjm
                have hcj := HO.out.wt.cell j hjm
                cases hwj : wd b i (i + j)
                · rw [hwj] at hcj
                  have HEND : Hid (i + j < b.size → wd b i (i + j) = false) := hid (fun _ => hwj)
                  have htj : t < j := by
                    rcases Nat.lt_or_ge t j with h | h
                    · exact h
                    · exfalso
                      obtain rfl : j = t := by have := HJ.out.1; omega
                      rw [hwd] at hwj; cases hwj
                  have HRj : Hid (j ≤ m ∧ (l ++ [(i + t, i + j)]) ++ runs (wd b i) b.size (i + j) = runs (wd b i) b.size i) := by
                    refine ⟨HJ.out.2.1, ?_⟩
                    have hjm := HJ.out.2.1
                    have hMm := HM.out
                    have he : runEnd (wd b i) b.size (i + t + 1) = i + j := runEnd_run _ _ (i + j) (by omega) (fun h => HEND.out (by omega)) _ _ rfl (by omega) (fun y h1 h2 => by
                      have h3 := HJ.out.2.2 (y - i) (by omega) (by omega)
                      rw [show i + (y - i) = y by omega] at h3
                      exact h3)
                    rw [← HR.out.2, runs_hit _ _ (i + t) (by omega) hwd _ he, List.append_assoc]
                    rfl
                  have hns : ns ≤ 1048576 := by
                    have h1 := runs_len (wd b i) b.size _ i rfl
                    rw [← HR.out.2, List.length_append] at h1
                    have := HN.out
                    omega
                  have hlt0 := HO.out.wt.lt
                  have hjm2 : j ≤ 1048576 := by have := HJ.out.2.1; have := HM.out; omega
                  have hwA : IntKind.i64.wrap ((i : Int) + (t : Int)) = (i : Int) + (t : Int) := IntWalk.i64_in _ (by have := HM.out; omega)
                  have hwB : IntKind.i64.wrap ((i : Int) + (j : Int)) = (i : Int) + (j : Int) := IntWalk.i64_in _ (by omega)
                  obtain ⟨hi0, hz0, hz1, hz2⟩ := HI0.out
                  go_wp2_with (at_builtin; refine wpList_append_own_at _ rfl _ _ 26 rfl (D + 1) 3 i0 (.int .i64 0) 1 8 Try.underlying26 hi0 hz0 hz1 hz2 rfl (by decide) _ _ _ rfl (HO.out.s.alloc _) ⟨W.heap.size, 0, none⟩ 1 1 [.int .i64 ((i : Int) + (t : Int))] rfl rfl (cell_one_new _ _ _) ?c2 ?c3 ?c4 ?c5 ?_)
                  case c2 => first | (intro u hu; simp at hu; subst hu; rfl) | rfl
                  case c3 => unfold maxLen; omega
                  case c4 => omega
                  case c5 => first | omega | (simp; omega)
                  intro v' W2 hown' hgrow hne hat
                  have HO2 := hid (HO.out.app hown' hgrow hat)
                  obtain ⟨aS', pS', hv⟩ := HO2.out.shape
                  subst hv
                  clear hown' hgrow hne hat HO hce
                  have hlt2 := HO2.out.wt.lt
                  go_wp2_with (at_builtin; refine wpList_append_own_at _ rfl _ _ 26 rfl (D + 1) 3 i0 (.int .i64 0) 1 8 Try.underlying26 hi0 hz0 hz1 hz2 rfl (by decide) _ _ _ rfl (HO2.out.e.alloc _) ⟨W2.heap.size, 0, none⟩ 1 1 [.int .i64 ((i : Int) + (j : Int))] rfl rfl (cell_one_new _ _ _) ?c2 ?c3 ?c4 ?c5 ?_)
                  case c2 => first | (intro u hu; simp at hu; subst hu; rfl) | rfl
                  case c3 => unfold maxLen; omega
                  case c4 => omega
                  case c5 => first | omega | (simp; omega)
                  intro v' W3 hown' hgrow hne hat
                  have HO3 := hid (HO2.out.swap.app hown' hgrow hat).swap
                  obtain ⟨aE', pE', hv⟩ := HO3.out.swap.shape
                  subst hv
                  have HO4 : Hid (Own2 w.heap.size w D m (fun x => wd b i (i + x)) (.slice aS' (ns + 1) pS') (ns + 1) ((l ++ [(i + t, i + j)]).map sV) (.slice aE' (ns + 1) pE') (ns + 1) ((l ++ [(i + t, i + j)]).map eV) W3) := by
                    have h := HO3.out
                    rw [List.map_append, List.map_append]
                    have e1 : [(i + t, i + j)].map sV = [.int .i64 ((i : Int) + (t : Int))] := by simp [sV]
                    have e2 : [(i + t, i + j)].map eV = [.int .i64 ((i : Int) + (j : Int))] := by simp [eV]
                    rw [e1, e2]
                    exact h
                  clear hown' hgrow hne hat HO2 HO3
                  go_wp2
                  go_roundg (m - j)
                  case measure => have := HG.out; have := HJ.out.2.1; omega
                  case rel => exact ⟨j, aS', aE', pS', pE', ns + 1, l ++ [(i + t, i + j)], rfl, by go_num, by go_num, by go_num, hid (by rw [List.length_append, ← HN.out]; rfl), HRj, HO4⟩
                · rw [hwj] at hcj
                  have hwj1 : IntKind.i64.wrap ((j : Int) + 1) = (j : Int) + 1 := IntWalk.i64_in _ (by have := HM.out; omega)
                  go_wp2
                  go_roundg (m - (j + 1))
                  case measure => have := HGj.out; omega
                  case rel => exact ⟨j + 1, rfl, by go_num, hid ⟨by have := HJ.out.1; omega, by omega, fun x h1 h2 => by
                    by_cases hxj : x = j
                    · rw [hxj]; exact hwj
                    · exact HJ.out.2.2 x h1 (by omega)⟩, rfl⟩
              · have hjm1 : ¬ (j : Int) < (b.size : Int) - (i : Int) := by have := HM.out; omega
                have HEND : Hid (i + j < b.size → wd b i (i + j) = false) := hid (fun h => by have := HM.out; omega)
                have htj : t < j := by
                  rcases Nat.lt_or_ge t j with h | h
                  · exact h
                  · exfalso
                    obtain rfl : j = t := by have := HJ.out.1; omega
                    omega
                have HRj : Hid (j ≤ m ∧ (l ++ [(i + t, i + j)]) ++ runs (wd b i) b.size (i + j) = runs (wd b i) b.size i) := by
                  refine ⟨HJ.out.2.1, ?_⟩
                  have hjm := HJ.out.2.1
                  have hMm := HM.out
                  have he : runEnd (wd b i) b.size (i + t + 1) = i + j := runEnd_run _ _ (i + j) (by omega) (fun h => HEND.out (by omega)) _ _ rfl (by omega) (fun y h1 h2 => by
                    have h3 := HJ.out.2.2 (y - i) (by omega) (by omega)
                    rw [show i + (y - i) = y by omega] at h3
                    exact h3)
                  rw [← HR.out.2, runs_hit _ _ (i + t) (by omega) hwd _ he, List.append_assoc]
                  rfl
                have hns : ns ≤ 1048576 := by
                  have h1 := runs_len (wd b i) b.size _ i rfl
                  rw [← HR.out.2, List.length_append] at h1
                  have := HN.out
                  omega
                have hlt0 := HO.out.wt.lt
                have hjm2 : j ≤ 1048576 := by have := HJ.out.2.1; have := HM.out; omega
                have hwA : IntKind.i64.wrap ((i : Int) + (t : Int)) = (i : Int) + (t : Int) := IntWalk.i64_in _ (by have := HM.out; omega)
                have hwB : IntKind.i64.wrap ((i : Int) + (j : Int)) = (i : Int) + (j : Int) := IntWalk.i64_in _ (by omega)
                obtain ⟨hi0, hz0, hz1, hz2⟩ := HI0.out
                go_wp2_with (at_builtin; refine wpList_append_own_at _ rfl _ _ 26 rfl (D + 1) 3 i0 (.int .i64 0) 1 8 Try.underlying26 hi0 hz0 hz1 hz2 rfl (by decide) _ _ _ rfl (HO.out.s.alloc _) ⟨W.heap.size, 0, none⟩ 1 1 [.int .i64 ((i : Int) + (t : Int))] rfl rfl (cell_one_new _ _ _) ?c2 ?c3 ?c4 ?c5 ?_)
                case c2 => first | (intro u hu; simp at hu; subst hu; rfl) | rfl
                case c3 => unfold maxLen; omega
                case c4 => omega
                case c5 => first | omega | (simp; omega)
                intro v' W2 hown' hgrow hne hat
                have HO2 := hid (HO.out.app hown' hgrow hat)
                obtain ⟨aS', pS', hv⟩ := HO2.out.shape
                subst hv
                clear hown' hgrow hne hat HO hce
                have hlt2 := HO2.out.wt.lt
                go_wp2_with (at_builtin; refine wpList_append_own_at _ rfl _ _ 26 rfl (D + 1) 3 i0 (.int .i64 0) 1 8 Try.underlying26 hi0 hz0 hz1 hz2 rfl (by decide) _ _ _ rfl (HO2.out.e.alloc _) ⟨W2.heap.size, 0, none⟩ 1 1 [.int .i64 ((i : Int) + (j : Int))] rfl rfl (cell_one_new _ _ _) ?c2 ?c3 ?c4 ?c5 ?_)
                case c2 => first | (intro u hu; simp at hu; subst hu; rfl) | rfl
                case c3 => unfold maxLen; omega
                case c4 => omega
                case c5 => first | omega | (simp; omega)
                intro v' W3 hown' hgrow hne hat
                have HO3 := hid (HO2.out.swap.app hown' hgrow hat).swap
                obtain ⟨aE', pE', hv⟩ := HO3.out.swap.shape
                subst hv
                have HO4 : Hid (Own2 w.heap.size w D m (fun x => wd b i (i + x)) (.slice aS' (ns + 1) pS') (ns + 1) ((l ++ [(i + t, i + j)]).map sV) (.slice aE' (ns + 1) pE') (ns + 1) ((l ++ [(i + t, i + j)]).map eV) W3) := by
                  have h := HO3.out
                  rw [List.map_append, List.map_append]
                  have e1 : [(i + t, i + j)].map sV = [.int .i64 ((i : Int) + (t : Int))] := by simp [sV]
                  have e2 : [(i + t, i + j)].map eV = [.int .i64 ((i : Int) + (j : Int))] := by simp [eV]
                  rw [e1, e2]
                  exact h
                clear hown' hgrow hne hat HO2 HO3
                go_wp2
                go_roundg (m - j)
                case measure => have := HG.out; have := HJ.out.2.1; omega
                case rel => exact ⟨j, aS', aE', pS', pE', ns + 1, l ++ [(i + t, i + j)], rfl, by go_num, by go_num, by go_num, hid (by rw [List.length_append, ← HN.out]; rfl), HRj, HO4⟩
        · have htm2 : ¬ (t : Int) < (b.size : Int) - (i : Int) := by have := HM.out; omega
          have HL : Hid (l = runs (wd b i) b.size i) := by
            have h := HR.out.2
            rw [runs_end _ _ _ (by have := HM.out; omega), List.append_nil] at h
            exact h
          have HNS : Hid (ns ≤ 1048576) := by
            have h1 := runs_len (wd b i) b.size _ i rfl
            rw [← HL.out] at h1
            have := HN.out
            show ns ≤ _
            omega
          have HB := hid HO.out.wt.bel
          have HS := hid (fun u hu => own_at HO.out.s u hu)
          have HE := hid (fun u hu => own_at HO.out.e u hu)
          clear HO HR HG
          go_wp2_with fail
          go_loopg [14, 15] (b.size - i) (fun g v14 v15 wr' => ∃ pos u : Nat, Hid (g = b.size - pos) ∧ v14 = .int .i64 (pos : Int) ∧ v15 = .int .i64 (u : Int) ∧ Hid (pos ≤ b.size ∧ At b i pos ∧ u ≤ ns ∧ runs (wd b i) b.size pos = l.drop u) ∧ W = wr')
          case atStart => exact ⟨i, 0, rfl, rfl, rfl, hid ⟨by omega, fun x hx => rfl, Nat.zero_le _, by rw [List.drop_zero]; exact HL.out.symm⟩, rfl⟩
          case round =>
            obtain ⟨pos, u, HG, rfl, rfl, HP, hw⟩ := hrel
            subst hw
            have hps := HP.out.1
            have hw1 : IntKind.i64.wrap ((pos : Int) + 1) = (pos : Int) + 1 := IntWalk.i64_in _ (by omega)
            have hw2 : IntKind.i64.wrap ((pos : Int) + 2) = (pos : Int) + 2 := IntWalk.i64_in _ (by omega)
            by_cases hlt : pos < b.size
            · have hix := index_str b pos hlt
              cases h32 : (bt b pos == 32)
              · have HN32 : Hid (bt b pos ≠ 32) := hid (by simpa using h32)
                by_cases hl1 : pos + 1 < b.size
                · have hl2 : ((pos : Int) + 1 < (b.size : Int)) := by omega
                  have hix2 : ∀ w', (Instr.index 9 (.string b) (.int .i64 ((pos : Int) + 1))).run Try.prog w' = .ok (.int .u8 (bt b (pos + 1))) w' := fun w' => index_str b (pos + 1) hl1 w'
                  cases h1 : (bt b pos == 124)
                  · have HSTOP : Hid (stop b pos = false) := by
                      show stop b pos = false
                      rw [stop_in b pos hl1 HN32.out, bars, h1]; rfl
                    obtain ⟨z1, z2, z3, z4⟩ := HP.out.2.1.token hlt HSTOP.out
                    have hd := HP.out.2.2.2.symm.trans z4
                    have hg : l[u]? = some (pos, wEnd b pos) := by
                      have h := List.getElem?_drop (xs := l) (i := u) (j := 0)
                      rw [hd] at h
                      simpa using h.symm
                    have hd2 : runs (wd b i) b.size (wEnd b pos) = l.drop (u + 1) := by
                      have h : (l.drop u).tail = l.drop (u + 1) := by simp
                      rw [hd] at h
                      exact h
                    have hul : u < ns := by
                      rw [HN.out]
                      exact (List.getElem?_eq_some_iff.1 hg).1
                    obtain ⟨qS, hqS, hcS⟩ := HS.out u hul
                    obtain ⟨qE, hqE, hcE⟩ := HE.out u hul
                    rw [List.getElem?_map, hg, Option.map_some, sV] at hcS
                    rw [List.getElem?_map, hg, Option.map_some, eV] at hcE
                    have hu9 : u ≤ 1048576 := by have := HNS.out; omega
                    have HP' : Hid (wEnd b pos ≤ b.size ∧ At b i (wEnd b pos) ∧ u + 1 ≤ ns ∧ runs (wd b i) b.size (wEnd b pos) = l.drop (u + 1)) := ⟨z2, z3, hul, hd2⟩
                    clear hd hd2 hg z3 z4
                    go_wp2_with fail
                    refine (zzWordEnd_any b pos hs (by omega) W).mono ?_
                    rintro e w' ⟨rfl, rfl⟩
                    generalize wEnd b pos = e at z1 z2 hcS hcE HP' ⊢
                    have z1' : (pos : Int) < (e : Int) := by omega
                    have z2' : (e : Int) ≤ (b.size : Int) := by omega
                    have hul' : (u : Int) < (ns : Int) := by omega
                    have hwu : IntKind.i64.wrap ((u : Int) + 1) = (u : Int) + 1 := IntWalk.i64_in _ (by omega)
                    go_wp2
                    go_roundg (b.size - e)
                    case measure => have := HG.out; omega
                    case rel => exact ⟨e, u + 1, rfl, by go_num, by go_num, HP', rfl⟩
                  · cases h2 : (bt b (pos + 1) == 124)
                    · have HSTOP : Hid (stop b pos = false) := by
                        show stop b pos = false
                        rw [stop_in b pos hl1 HN32.out, bars, h1, h2]; rfl
                      obtain ⟨z1, z2, z3, z4⟩ := HP.out.2.1.token hlt HSTOP.out
                      have hd := HP.out.2.2.2.symm.trans z4
                      have hg : l[u]? = some (pos, wEnd b pos) := by
                        have h := List.getElem?_drop (xs := l) (i := u) (j := 0)
                        rw [hd] at h
                        simpa using h.symm
                      have hd2 : runs (wd b i) b.size (wEnd b pos) = l.drop (u + 1) := by
                        have h : (l.drop u).tail = l.drop (u + 1) := by simp
                        rw [hd] at h
                        exact h
                      have hul : u < ns := by
                        rw [HN.out]
                        exact (List.getElem?_eq_some_iff.1 hg).1
                      obtain ⟨qS, hqS, hcS⟩ := HS.out u hul
                      obtain ⟨qE, hqE, hcE⟩ := HE.out u hul
                      rw [List.getElem?_map, hg, Option.map_some, sV] at hcS
                      rw [List.getElem?_map, hg, Option.map_some, eV] at hcE
                      have hu9 : u ≤ 1048576 := by have := HNS.out; omega
                      have HP' : Hid (wEnd b pos ≤ b.size ∧ At b i (wEnd b pos) ∧ u + 1 ≤ ns ∧ runs (wd b i) b.size (wEnd b pos) = l.drop (u + 1)) := ⟨z2, z3, hul, hd2⟩
                      clear hd hd2 hg z3 z4
                      go_wp2_with fail
                      refine (zzWordEnd_any b pos hs (by omega) W).mono ?_
                      rintro e w' ⟨rfl, rfl⟩
                      generalize wEnd b pos = e at z1 z2 hcS hcE HP' ⊢
                      have z1' : (pos : Int) < (e : Int) := by omega
                      have z2' : (e : Int) ≤ (b.size : Int) := by omega
                      have hul' : (u : Int) < (ns : Int) := by omega
                      have hwu : IntKind.i64.wrap ((u : Int) + 1) = (u : Int) + 1 := IntWalk.i64_in _ (by omega)
                      go_wp2
                      go_roundg (b.size - e)
                      case measure => have := HG.out; omega
                      case rel => exact ⟨e, u + 1, rfl, by go_num, by go_num, HP', rfl⟩
                    · have hb := HP.out.2.1.bar hl1 (by rw [bars, h1, h2]; rfl)
                      have HP' : Hid (pos + 2 ≤ b.size ∧ At b i (pos + 2) ∧ u ≤ ns ∧ runs (wd b i) b.size (pos + 2) = l.drop u) := ⟨by omega, hb.1, HP.out.2.2.1, by rw [← HP.out.2.2.2, runs_miss _ _ pos hlt hb.2.1, runs_miss _ _ (pos + 1) hl1 hb.2.2]⟩
                      clear hb
                      go_wp2
                      go_roundg (b.size - (pos + 2))
                      case measure => have := HG.out; omega
                      case rel => exact ⟨pos + 2, u, rfl, by go_num, by go_num, HP', rfl⟩
                · have hl2 : ¬ ((pos : Int) + 1 < (b.size : Int)) := by omega
                  have HSTOP : Hid (stop b pos = false) := stop_last b pos hl1 HN32.out
                  obtain ⟨z1, z2, z3, z4⟩ := HP.out.2.1.token hlt HSTOP.out
                  have hd := HP.out.2.2.2.symm.trans z4
                  have hg : l[u]? = some (pos, wEnd b pos) := by
                    have h := List.getElem?_drop (xs := l) (i := u) (j := 0)
                    rw [hd] at h
                    simpa using h.symm
                  have hd2 : runs (wd b i) b.size (wEnd b pos) = l.drop (u + 1) := by
                    have h : (l.drop u).tail = l.drop (u + 1) := by simp
                    rw [hd] at h
                    exact h
                  have hul : u < ns := by
                    rw [HN.out]
                    exact (List.getElem?_eq_some_iff.1 hg).1
                  obtain ⟨qS, hqS, hcS⟩ := HS.out u hul
                  obtain ⟨qE, hqE, hcE⟩ := HE.out u hul
                  rw [List.getElem?_map, hg, Option.map_some, sV] at hcS
                  rw [List.getElem?_map, hg, Option.map_some, eV] at hcE
                  have hu9 : u ≤ 1048576 := by have := HNS.out; omega
                  have HP' : Hid (wEnd b pos ≤ b.size ∧ At b i (wEnd b pos) ∧ u + 1 ≤ ns ∧ runs (wd b i) b.size (wEnd b pos) = l.drop (u + 1)) := ⟨z2, z3, hul, hd2⟩
                  clear hd hd2 hg z3 z4
                  go_wp2_with fail
                  refine (zzWordEnd_any b pos hs (by omega) W).mono ?_
                  rintro e w' ⟨rfl, rfl⟩
                  generalize wEnd b pos = e at z1 z2 hcS hcE HP' ⊢
                  have z1' : (pos : Int) < (e : Int) := by omega
                  have z2' : (e : Int) ≤ (b.size : Int) := by omega
                  have hul' : (u : Int) < (ns : Int) := by omega
                  have hwu : IntKind.i64.wrap ((u : Int) + 1) = (u : Int) + 1 := IntWalk.i64_in _ (by omega)
                  go_wp2
                  go_roundg (b.size - e)
                  case measure => have := HG.out; omega
                  case rel => exact ⟨e, u + 1, rfl, by go_num, by go_num, HP', rfl⟩
              · have hb := HP.out.2.1.sp hlt (by simpa using h32)
                have HP' : Hid (pos + 1 ≤ b.size ∧ At b i (pos + 1) ∧ u ≤ ns ∧ runs (wd b i) b.size (pos + 1) = l.drop u) := ⟨by omega, hb.1, HP.out.2.2.1, by rw [← HP.out.2.2.2, runs_miss _ _ pos hlt hb.2]⟩
                clear hb
                go_wp2
                go_roundg (b.size - (pos + 1))
                case measure => have := HG.out; omega
                case rel => exact ⟨pos + 1, u, rfl, by go_num, by go_num, HP', rfl⟩
            · have hun : u = ns := by
                have h := HP.out.2.2.2
                rw [runs_end _ _ _ hlt] at h
                have h2 := List.drop_eq_nil_iff.1 h.symm
                have := HN.out
                have := HP.out.2.2.1
                omega
              subst hun
              go_wp2
              go_ret
              exact ⟨by simp, HB⟩
end Go.Proofs.Qxb6608624a
