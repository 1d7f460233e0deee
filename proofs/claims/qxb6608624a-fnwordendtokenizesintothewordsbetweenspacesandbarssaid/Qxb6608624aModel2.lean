/-
  THE MODEL OF wordEnd (b1WordEndModel) answers as wordEnd.
-/
import Derived.Test.Qxb6608624aModel
namespace Go.Proofs.Qxb6608624a
open Go.RowKit
set_option linter.unusedVariables false
set_option linter.unusedSimpArgs false

set_option maxHeartbeats 2000000 in
theorem model_any (b : ByteArray) (i : Nat) (hb : b.size ≤ 1048576) (hi9 : (i : Int) ≤ 9223372036854775807) (w : World) : Calls Try.prog 10 #[.string b, .int .i64 (i : Int)] w fun e w' => e = .returned (.int .i64 (wEnd b i : Int)) ∧ w = w' := by
  go_enter Try.func10, Try.ntmps10
  by_cases hi : i < b.size
  · go_wp2_with fail
    go_loopg [5, 6] (b.size - i) (fun g v5 v6 wr => ∃ k : Nat, Hid (g = b.size - k) ∧ v5 = .int .i64 (b.size : Int) ∧ v6 = .int .i64 (k : Int) ∧ Hid (k ≤ b.size) ∧ Hid (fSp b k = fSp b i) ∧ w = wr)
    case atStart => exact ⟨i, rfl, by go_num, rfl, hid (by omega), rfl, rfl⟩
    case round =>
      obtain ⟨k, HG, rfl, rfl, HK, HS, hw⟩ := hrel
      subst hw
      by_cases hlt : k < b.size
      · have hix := index_str b k hlt
        cases h32 : (bt b k == 32)
        · have HE : Hid (fSp b k = fSp b (k + 1)) := fSp_next b k hlt (by simpa using h32)
          have hw1 : IntKind.i64.wrap ((k : Int) + 1) = (k : Int) + 1 := IntWalk.i64_in _ (by have := HK.out; omega)
          go_wp2
          go_roundg (gk - 1)
          case measure => have := HG.out; omega
          case rel => exact ⟨k + 1, by have := HG.out; show _ = _; omega, by go_num, by go_num, hid (by omega), HE.out.symm.trans HS.out, rfl⟩
        · have HSP : Hid (fSp b i = k) := HS.out.symm.trans (fSp_at b k hlt (by simpa using h32))
          go_wp2_with fail
          go_loopg [7, 8] (b.size - i) (fun g v7 v8 wr => ∃ k : Nat, Hid (g = b.size - k) ∧ v7 = .int .i64 (b.size : Int) ∧ v8 = .int .i64 (k : Int) ∧ Hid (k < b.size) ∧ Hid (fBar b k = fBar b i) ∧ w = wr)
          case atStart => exact ⟨i, rfl, by go_num, rfl, hid hi, rfl, rfl⟩
          case round =>
            obtain ⟨k, HG, rfl, rfl, HK, HB, hw⟩ := hrel
            subst hw
            have hw1 : IntKind.i64.wrap ((k : Int) + 1) = (k : Int) + 1 := IntWalk.i64_in _ (by have := HK.out; omega)
            by_cases hlt : k + 1 < b.size
            · have hlt2 : ((k : Int) + 1 < (b.size : Int)) := by omega
              have hix := index_str b k (by omega)
              have hix2 : ∀ w', (Instr.index 9 (.string b) (.int .i64 ((k : Int) + 1))).run Try.prog w' = .ok (.int .u8 (bt b (k + 1))) w' := fun w' => index_str b (k + 1) hlt w'
              cases h1 : (bt b k == 124)
              · have HE : Hid (fBar b k = fBar b (k + 1)) := fBar_next b k hlt (by rw [bars, h1]; rfl)
                go_wp2
                go_roundg (gk - 1)
                case measure => have := HG.out; omega
                case rel => exact ⟨k + 1, by have := HG.out; show _ = _; omega, by go_num, by go_num, hid (by omega), HE.out.symm.trans HB.out, rfl⟩
              · cases h2 : (bt b (k + 1) == 124)
                · have HE : Hid (fBar b k = fBar b (k + 1)) := fBar_next b k hlt (by rw [bars, h1, h2]; rfl)
                  go_wp2
                  go_roundg (gk - 1)
                  case measure => have := HG.out; omega
                  case rel => exact ⟨k + 1, by have := HG.out; show _ = _; omega, by go_num, by go_num, hid (by omega), HE.out.symm.trans HB.out, rfl⟩
                · have HE : Hid (fBar b k = k) := fBar_at b k hlt (by rw [bars, h1, h2]; rfl)
                  go_wp2
                  all_goals go_ret
                  all_goals exact ⟨by rw [wEnd_min b _ i rfl (by omega), ← HB.out, HE.out, HSP.out]; first | (rw [if_pos (by omega)]; rfl) | (rw [if_neg (by omega)]; rfl), rfl⟩
            · have HE : Hid (fBar b k = b.size) := fBar_end b k hlt
              have hlt2 : ¬ ((k : Int) + 1 < (b.size : Int)) := by omega
              go_wp2
              all_goals go_ret
              all_goals exact ⟨by rw [wEnd_min b _ i rfl (by omega), ← HB.out, HE.out, HSP.out]; first | (rw [if_pos (by omega)]; rfl) | (rw [if_neg (by omega)]; rfl), rfl⟩
      · have HSP : Hid (fSp b i = b.size) := HS.out.symm.trans (fSp_end b k hlt)
        go_wp2_with fail
        go_loopg [7, 8] (b.size - i) (fun g v7 v8 wr => ∃ k : Nat, Hid (g = b.size - k) ∧ v7 = .int .i64 (b.size : Int) ∧ v8 = .int .i64 (k : Int) ∧ Hid (k < b.size) ∧ Hid (fBar b k = fBar b i) ∧ w = wr)
        case atStart => exact ⟨i, rfl, by go_num, rfl, hid hi, rfl, rfl⟩
        case round =>
          obtain ⟨k, HG, rfl, rfl, HK, HB, hw⟩ := hrel
          subst hw
          have hw1 : IntKind.i64.wrap ((k : Int) + 1) = (k : Int) + 1 := IntWalk.i64_in _ (by have := HK.out; omega)
          by_cases hlt : k + 1 < b.size
          · have hlt2 : ((k : Int) + 1 < (b.size : Int)) := by omega
            have hix := index_str b k (by omega)
            have hix2 : ∀ w', (Instr.index 9 (.string b) (.int .i64 ((k : Int) + 1))).run Try.prog w' = .ok (.int .u8 (bt b (k + 1))) w' := fun w' => index_str b (k + 1) hlt w'
            cases h1 : (bt b k == 124)
            · have HE : Hid (fBar b k = fBar b (k + 1)) := fBar_next b k hlt (by rw [bars, h1]; rfl)
              go_wp2
              go_roundg (gk - 1)
              case measure => have := HG.out; omega
              case rel => exact ⟨k + 1, by have := HG.out; show _ = _; omega, by go_num, by go_num, hid (by omega), HE.out.symm.trans HB.out, rfl⟩
            · cases h2 : (bt b (k + 1) == 124)
              · have HE : Hid (fBar b k = fBar b (k + 1)) := fBar_next b k hlt (by rw [bars, h1, h2]; rfl)
                go_wp2
                go_roundg (gk - 1)
                case measure => have := HG.out; omega
                case rel => exact ⟨k + 1, by have := HG.out; show _ = _; omega, by go_num, by go_num, hid (by omega), HE.out.symm.trans HB.out, rfl⟩
              · have HE : Hid (fBar b k = k) := fBar_at b k hlt (by rw [bars, h1, h2]; rfl)
                go_wp2
                all_goals go_ret
                all_goals exact ⟨by rw [wEnd_min b _ i rfl (by omega), ← HB.out, HE.out, HSP.out]; first | (rw [if_pos (by omega)]; rfl) | (rw [if_neg (by omega)]; rfl), rfl⟩
          · have HE : Hid (fBar b k = b.size) := fBar_end b k hlt
            have hlt2 : ¬ ((k : Int) + 1 < (b.size : Int)) := by omega
            go_wp2
            all_goals go_ret
            all_goals exact ⟨by rw [wEnd_min b _ i rfl (by omega), ← HB.out, HE.out, HSP.out]; first | (rw [if_pos (by omega)]; rfl) | (rw [if_neg (by omega)]; rfl), rfl⟩
  · have HE : Hid (wEnd b i = i) := wEnd_end b i hi
    go_wp2
    go_ret
    exact ⟨by rw [HE.out]; rfl, rfl⟩
end Go.Proofs.Qxb6608624a
