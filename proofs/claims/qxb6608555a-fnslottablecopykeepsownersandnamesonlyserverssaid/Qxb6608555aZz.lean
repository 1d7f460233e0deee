/-
  WALKS: the length bounds (6, 13), zzAddStrings (7).
-/
import Derived.Test.Qxb6608555aWf
namespace Go.Proofs.Qxb6608555a
open Go.RowKit Go.Maps
set_option linter.unusedVariables false
set_option linter.unusedSimpArgs false
set_option maxRecDepth 20000

def SomeBool (e : Ending) : Prop := ∃ q : Bool, e = .returned (.bool q)
def SomeInt (e : Ending) : Prop := ∃ r : Int, e = .returned (.int .i64 r)

set_option maxHeartbeats 1000000 in
theorem zz6 (a0 : Option Addr) (n0 c0 : Nat) (hn0 : n0 ≤ 9223372036854775807) {W : World} {a : Option Addr} {n cap : Nat} {ss : List ByteArray} (hn : n ≤ 9223372036854775807) (h : RdS W a n cap ss) :
    Calls Try.prog 6 #[.slice a0 n0 c0, .slice a n cap] W fun e w' => SomeBool e ∧ W = w' := by
  have HR := hid h
  clear h
  go_enter Try.func6, Try.ntmps6
  by_cases h1 : n0 ≤ 1048576
  case neg =>
    have h1' : (1048576 : Int) < (n0 : Int) := by omega
    go_wp2
    go_ret
    exact ⟨⟨_, rfl⟩, rfl⟩
  have h1' : ¬ (1048576 : Int) < (n0 : Int) := by omega
  by_cases h2 : n ≤ 1048576
  case neg =>
    have h2' : (1048576 : Int) < (n : Int) := by omega
    go_wp2
    go_ret
    exact ⟨⟨_, rfl⟩, rfl⟩
  have h2' : ¬ (1048576 : Int) < (n : Int) := by omega
  have hwa : IntKind.i64.wrap ((n0 : Int) + (n : Int)) = (n0 : Int) + (n : Int) := IntWalk.i64_in _ (by omega)
  by_cases h3 : n0 + n ≤ 1048576
  case neg =>
    have h3' : (1048576 : Int) < (n0 : Int) + (n : Int) := by omega
    go_wp2
    go_ret
    exact ⟨⟨_, rfl⟩, rfl⟩
  have h3' : ¬ (1048576 : Int) < (n0 : Int) + (n : Int) := by omega
  go_wp2_with fail
  go_loopg [5, 6] n (fun g v5 v6 wr => ∃ t k : Nat, Hid (k + g = n) ∧ v5 = .int .i64 (t : Int) ∧ t ≤ 1048576 ∧ v6 = .int .i64 (k : Int) ∧ W = wr)
  case atStart => exact ⟨n0 + n, 0, Nat.zero_add _, by go_num, h3, rfl, rfl⟩
  case round =>
    obtain ⟨t, k, HG, rfl, ht, rfl, hw⟩ := hrel
    subst hw
    have hk : k ≤ n := by have := HG.out; omega
    by_cases hlt : k < n
    · obtain ⟨q, hqb, hq, hc⟩ := HR.out.at' k hlt
      have hq' := hq .i64
      generalize ss.getD k ⟨#[]⟩ = d at hc
      clear hq
      by_cases hd : d.size ≤ 1048576
      · have hd' : ¬ (1048576 : Int) < (d.size : Int) := by omega
        have hw1 : IntKind.i64.wrap ((t : Int) + (d.size : Int)) = (t : Int) + (d.size : Int) := IntWalk.i64_in _ (by omega)
        have hw2 : IntKind.i64.wrap ((k : Int) + 1) = (k : Int) + 1 := IntWalk.i64_in _ (by omega)
        by_cases hs : t + d.size ≤ 1048576
        · have hs' : ¬ (1048576 : Int) < (t : Int) + (d.size : Int) := by omega
          go_wp2
          go_roundg (gk - 1)
          case measure => have := HG.out; omega
          case rel => exact ⟨t + d.size, k + 1, by have := HG.out; show _ = _; omega, by go_num, hs, by go_num, rfl⟩
        · have hs' : (1048576 : Int) < (t : Int) + (d.size : Int) := by omega
          go_wp2
          go_ret
          exact ⟨⟨_, rfl⟩, rfl⟩
      · have hd' : (1048576 : Int) < (d.size : Int) := by omega
        go_wp2
        go_ret
        exact ⟨⟨_, rfl⟩, rfl⟩
    · go_wp2
      go_ret
      exact ⟨⟨_, rfl⟩, rfl⟩

set_option maxHeartbeats 1000000 in
theorem zz13 (a0 : Option Addr) (n0 c0 : Nat) (hn0 : n0 ≤ 9223372036854775807) {W : World} {a : Option Addr} {n cap : Nat} {ss : List ByteArray} (hn : n ≤ 9223372036854775807) (h : RdS W a n cap ss) (x : Int) (id : ByteArray) :
    Calls Try.prog 13 #[.slice a0 n0 c0, .slice a n cap, .int .i64 x, .string id] W fun e w' => SomeBool e ∧ W = w' := by
  have HR := hid h
  clear h
  go_enter Try.func13, Try.ntmps13
  by_cases h1 : n0 ≤ 1048576
  case neg =>
    have h1' : (1048576 : Int) < (n0 : Int) := by omega
    go_wp2
    go_ret
    exact ⟨⟨_, rfl⟩, rfl⟩
  have h1' : ¬ (1048576 : Int) < (n0 : Int) := by omega
  by_cases h2 : n ≤ 1048576
  case neg =>
    have h2' : (1048576 : Int) < (n : Int) := by omega
    go_wp2
    go_ret
    exact ⟨⟨_, rfl⟩, rfl⟩
  have h2' : ¬ (1048576 : Int) < (n : Int) := by omega
  have hwa : IntKind.i64.wrap ((n0 : Int) + (n : Int)) = (n0 : Int) + (n : Int) := IntWalk.i64_in _ (by omega)
  by_cases h3 : n0 + n ≤ 1048576
  case neg =>
    have h3' : (1048576 : Int) < (n0 : Int) + (n : Int) := by omega
    go_wp2
    go_ret
    exact ⟨⟨_, rfl⟩, rfl⟩
  have h3' : ¬ (1048576 : Int) < (n0 : Int) + (n : Int) := by omega
  go_wp2_with fail
  go_loopg [9, 10] n (fun g v5 v6 wr => ∃ t k : Nat, Hid (k + g = n) ∧ v5 = .int .i64 (t : Int) ∧ t ≤ 1048576 ∧ v6 = .int .i64 (k : Int) ∧ W = wr)
  case atStart => exact ⟨n0 + n, 0, Nat.zero_add _, by go_num, h3, rfl, rfl⟩
  case round =>
    obtain ⟨t, k, HG, rfl, ht, rfl, hw⟩ := hrel
    subst hw
    have hk : k ≤ n := by have := HG.out; omega
    by_cases hlt : k < n
    · obtain ⟨q, hqb, hq, hc⟩ := HR.out.at' k hlt
      have hq' := hq .i64
      generalize ss.getD k ⟨#[]⟩ = d at hc
      clear hq
      by_cases hd : d.size ≤ 1048576
      · have hd' : ¬ (1048576 : Int) < (d.size : Int) := by omega
        have hw1 : IntKind.i64.wrap ((t : Int) + (d.size : Int)) = (t : Int) + (d.size : Int) := IntWalk.i64_in _ (by omega)
        have hw2 : IntKind.i64.wrap ((k : Int) + 1) = (k : Int) + 1 := IntWalk.i64_in _ (by omega)
        by_cases hs : t + d.size ≤ 1048576
        · have hs' : ¬ (1048576 : Int) < (t : Int) + (d.size : Int) := by omega
          go_wp2
          go_roundg (gk - 1)
          case measure => have := HG.out; omega
          case rel => exact ⟨t + d.size, k + 1, by have := HG.out; show _ = _; omega, by go_num, hs, by go_num, rfl⟩
        · have hs' : (1048576 : Int) < (t : Int) + (d.size : Int) := by omega
          go_wp2
          go_ret
          exact ⟨⟨_, rfl⟩, rfl⟩
      · have hd' : (1048576 : Int) < (d.size : Int) := by omega
        go_wp2
        go_ret
        exact ⟨⟨_, rfl⟩, rfl⟩
    · by_cases hi : id.size ≤ 1048576
      · have hi' : ¬ (1048576 : Int) < (id.size : Int) := by omega
        have hw1 : IntKind.i64.wrap ((t : Int) + (id.size : Int)) = (t : Int) + (id.size : Int) := IntWalk.i64_in _ (by omega)
        by_cases hs : t + id.size ≤ 1048576
        · have hs' : ¬ (1048576 : Int) < (t : Int) + (id.size : Int) := by omega
          go_wp2
          go_ret
          exact ⟨⟨_, rfl⟩, rfl⟩
        · have hs' : (1048576 : Int) < (t : Int) + (id.size : Int) := by omega
          go_wp2
          go_ret
          exact ⟨⟨_, rfl⟩, rfl⟩
      · have hi' : (1048576 : Int) < (id.size : Int) := by omega
        go_wp2
        go_ret
        exact ⟨⟨_, rfl⟩, rfl⟩

set_option maxHeartbeats 1000000 in
theorem add7 (t0 : Nat) (ht0 : t0 ≤ 2097152) {W : World} {a : Option Addr} {n cap : Nat} {ss : List ByteArray} (hn : n ≤ 1048576) (h : RdS W a n cap ss) :
    Calls Try.prog 7 #[.int .i64 (t0 : Int), .slice a n cap] W fun e w' => SomeInt e ∧ W = w' := by
  have HR := hid h
  clear h
  go_enter Try.func7, Try.ntmps7
  go_wp2_with fail
  go_loopg [0, 5] n (fun g v0 v5 wr => ∃ t k : Nat, Hid (k + g = n) ∧ v0 = .int .i64 (t : Int) ∧ t ≤ 4194304 ∧ v5 = .int .i64 (k : Int) ∧ W = wr)
  case atStart => exact ⟨t0, 0, Nat.zero_add _, rfl, by omega, rfl, rfl⟩
  case round =>
    obtain ⟨t, k, HG, rfl, ht, rfl, hw⟩ := hrel
    subst hw
    have hk : k ≤ n := by have := HG.out; omega
    by_cases hlt : k < n
    · obtain ⟨q, hqb, hq, hc⟩ := HR.out.at' k hlt
      have hq' := hq .i64
      generalize ss.getD k ⟨#[]⟩ = d at hc
      clear hq
      by_cases hs : t ≤ 1048576
      · have hs' : ¬ (1048576 : Int) < (t : Int) := by omega
        by_cases hd : d.size ≤ 1048576
        · have hd' : ¬ (1048576 : Int) < (d.size : Int) := by omega
          have hw1 : IntKind.i64.wrap (8 + (d.size : Int)) = 8 + (d.size : Int) := IntWalk.i64_in _ (by omega)
          have hw3 : IntKind.i64.wrap ((t : Int) + (8 + (d.size : Int))) = (t : Int) + (8 + (d.size : Int)) := IntWalk.i64_in _ (by omega)
          have hw2 : IntKind.i64.wrap ((k : Int) + 1) = (k : Int) + 1 := IntWalk.i64_in _ (by omega)
          go_wp2
          go_roundg (gk - 1)
          case measure => have := HG.out; omega
          case rel => exact ⟨t + (8 + d.size), k + 1, by have := HG.out; show _ = _; omega, by go_num, by omega, by go_num, rfl⟩
        · have hd' : (1048576 : Int) < (d.size : Int) := by omega
          go_wp2
          go_ret
          exact ⟨⟨_, rfl⟩, rfl⟩
      · have hs' : (1048576 : Int) < (t : Int) := by omega
        go_wp2
        go_ret
        exact ⟨⟨_, rfl⟩, rfl⟩
    · go_wp2
      go_ret
      exact ⟨⟨_, rfl⟩, rfl⟩
end Go.Proofs.Qxb6608555a
