/-
  WALKS: pool.at, txTable.at, oldestTaken, ZZoldestTaken, ZZsetTaken.
-/
import Derived.Test.Qxb6608542aParts
namespace Go.Proofs.Qxb6608542a
open Go.RowKit
set_option linter.unusedVariables false
set_option linter.unusedSimpArgs false

/-- Where entry e lies: the slab's block s, from cell (e % 64) * 45 on. -/
def EntAt (B : Nat) (w : World) (Tb n : Nat) (tk : Nat → Int) (e s : Nat) : Prop :=
  B ≤ s ∧ (∃ c, w.heap[s]? = some (Obj.cells c 54 (0, 0)) ∧ c.size = 2880) ∧ w.cell? ⟨s, e % 64 * 45 + 43, none⟩ = some (.int .i64 (tk e)) ∧
    (∀ d, Pool B (w.setCell ⟨s, e % 64 * 45 + 43, none⟩ (.int .i64 d)) Tb n (fun x => if x = e then d else tk x)) ∧
    ∀ o v, o < 45 → o ≠ 43 → Pool B (w.setCell ⟨s, e % 64 * 45 + o, none⟩ v) Tb n tk

theorem pool_at {B : Nat} {w : World} {Tb n : Nat} {tk : Nat → Int} (h : Pool B w Tb n tk) (e : Nat) (he : e < n) :
    ∃ G cap s, w.cell? ⟨Tb, 0, none⟩ = some (.slice (some ⟨G, 0, none⟩) (nSlabs n) cap) ∧ w.cell? ⟨G, e / 64, none⟩ = some (.slice (some ⟨s, 0, none⟩) (slabLen n (e / 64)) 64) ∧ EntAt B w Tb n tk e s := by
  obtain ⟨r2, r3, r4, G, cap, S, h⟩ := h
  obtain ⟨_, c, hc, hcs, _, _, hci⟩ := h.row (by omega)
  have hi := nSlabs_at he
  obtain ⟨hBs, cs, hs, hsz, htk⟩ := h.slab (e / 64) hi
  refine ⟨G, cap, S (e / 64), ?_, ?_, hBs, ⟨cs, hs, hsz⟩, ?_, fun d => ?_, fun o v ho ho' => ?_⟩
  · rw [cells_of_block h.tab]; simp [slabV, show n ≠ 0 by omega]
  · rw [cells_of_block hc]; exact hci _ hi
  · rw [cells_of_block hs]; exact htk e he rfl
  · refine ⟨r2, r3, r4, G, cap, S, h.set (e / 64) hi _ (by omega) _ _ (fun x hx h1 h2 => ?_) (fun x hx h1 => ?_)⟩
    · have : x = e := by omega
      subst this
      simp
    · rw [if_neg (fun y => h1 (by subst y; exact ⟨rfl, rfl⟩))]
  · exact ⟨r2, r3, r4, G, cap, S, h.set (e / 64) hi _ (by omega) _ _ (fun x hx h1 h2 => by omega) (fun x hx h1 => rfl)⟩

set_option maxHeartbeats 1000000 in
theorem at_any {B : Nat} {w : World} {Tb n : Nat} {tk : Nat → Int} (h : Pool B w Tb n tk) (e : Nat) (he : e < n) (hn : n ≤ 100000) :
    Calls Try.prog 14 #[.pointer (some ⟨Tb, 0, none⟩), .int .u32 ((e : Int) + 1)] w fun r w' => ∃ s, r = .returned (.pointer (some ⟨s, e % 64 * 45, none⟩)) ∧ Hid (EntAt B w Tb n tk e s) ∧ w = w' := by
  obtain ⟨G, cap, s, c0, c1, hent⟩ := pool_at h e he
  have HE : Hid (EntAt B w Tb n tk e s) := hent
  have b1 : (e : Int) / 64 < (nSlabs n : Int) := by have := nSlabs_at he; omega
  have b2 : (e : Int) % 64 < (slabLen n (e / 64) : Int) := by have := slabLen_at he; omega
  clear h hent
  go_enter Try.func14, Try.ntmps14
  go_wp2
  go_ret
  exact ⟨s, rfl, HE, rfl⟩

set_option maxHeartbeats 1000000 in
theorem tableAt_any {B : Nat} {w : World} {Tb n : Nat} {tk : Nat → Int} (h : Pool B w Tb n tk) (e : Nat) (he : e < n) (hn : n ≤ 100000) :
    Calls Try.prog 12 #[.pointer (some ⟨Tb, 0, none⟩), .int .u32 ((e : Int) + 1)] w fun r w' => ∃ s, r = .returned (.pointer (some ⟨s, e % 64 * 45, none⟩)) ∧ Hid (EntAt B w Tb n tk e s) ∧ w = w' := by
  have HP : Hid (Pool B w Tb n tk) := h
  clear h
  go_enter Try.func12, Try.ntmps12
  go_wp2_with fail
  refine (at_any HP.out e he hn).mono ?_
  rintro r w' ⟨s, rfl, HE, rfl⟩
  go_wp2
  go_ret
  exact ⟨s, rfl, HE, rfl⟩

set_option maxHeartbeats 1000000 in
theorem setTaken_any {B : Nat} {w : World} {Tb n : Nat} {tk : Nat → Int} (h : Pool B w Tb n tk) (e : Nat) (he : e < n) (hn : n ≤ 100000) (d : Int) :
    Calls Try.prog 8 #[.pointer (some ⟨Tb, 0, none⟩), .int .u32 ((e : Int) + 1), .int .i64 d] w fun r w' => r = .returned (.tuple #[]) ∧ Hid (Pool B w' Tb n (fun x => if x = e then d else tk x)) ∧ Hid (Ext B w w') := by
  have HP : Hid (Pool B w Tb n tk) := h
  clear h
  go_enter Try.func8, Try.ntmps8
  go_wp2_with fail
  refine (tableAt_any HP.out e he hn).mono ?_
  rintro r w' ⟨s, rfl, HE, rfl⟩
  obtain ⟨hBs, ⟨c, hc, hcs⟩, hcell, hset, _⟩ := HE.out
  have hf := free_of_block hc (e % 64 * 45 + 43)
  have HF : Hid (Pool B (w.setCell ⟨s, e % 64 * 45 + 43, none⟩ (.int .i64 d)) Tb n (fun x => if x = e then d else tk x)) := hset d
  have HX : Hid (Ext B w (w.setCell ⟨s, e % 64 * 45 + 43, none⟩ (.int .i64 d))) := (Ext.refl B w).set hBs hc (by decide) _
  clear hset hc hcs hBs HE HP
  go_wp2
  go_end0
  exact ⟨rfl, HF, HX⟩

set_option maxHeartbeats 1000000 in
theorem oldest_any {B : Nat} {w : World} {Tb n : Nat} {tk : Nat → Int} (h : Pool B w Tb n tk) (e : Nat) (he : e < n) (hn : n ≤ 100000) (nw : Int) (lb : Nat) (hl : w.cell? ⟨lb, 0, none⟩ = some (.int .u32 ((e : Int) + 1))) :
    Calls Try.prog 13 #[.pointer (some ⟨lb, 0, none⟩), .pointer (some ⟨Tb, 0, none⟩)] w fun r w' => r = .returned (.tuple #[.int .i64 (tk e), .bool true]) ∧ w = w' := by
  have HP : Hid (Pool B w Tb n tk) := h
  clear h
  have hz : (((e : Int) + 1) == 0) = false := by simp; omega
  go_enter Try.func13, Try.ntmps13
  go_wp2_with fail
  refine (tableAt_any HP.out e he hn).mono ?_
  rintro r w' ⟨s, rfl, HE, rfl⟩
  obtain ⟨hBs, ⟨c, hc, hcs⟩, hcell, hset, _⟩ := HE.out
  clear hset hc hcs hBs HE HP
  go_wp2
  go_ret2
  exact ⟨rfl, rfl⟩

set_option maxHeartbeats 1000000 in
theorem zzOldest_any {B : Nat} {w : World} {Tb n : Nat} {tk : Nat → Int} (h : Pool B w Tb n tk) (hB : B ≤ w.heap.size) (e : Nat) (he : e < n) (hn : n ≤ 100000) (nw : Int) :
    Calls Try.prog 9 #[.int .u32 ((e : Int) + 1), .int .u32 nw, .pointer (some ⟨Tb, 0, none⟩)] w fun r w' => r = .returned (.tuple #[.int .i64 (tk e), .bool true]) ∧ Hid (Pool B w' Tb n tk) ∧ Hid (Ext B w w') := by
  have HP : Hid (Pool B w Tb n tk) := h
  clear h
  go_enter Try.func9, Try.ntmps9
  go_wp2_with fail
  have HP1 : Hid (Pool B (w.alloc (.cells #[.int .u32 ((e : Int) + 1), .int .u32 nw] 57)) Tb n tk) := HP.out.alloc _
  have HX1 : Hid (Ext B w (w.alloc (.cells #[.int .u32 ((e : Int) + 1), .int .u32 nw] 57))) := (Ext.refl B w).alloc hB _
  have hl : (w.alloc (.cells #[.int .u32 ((e : Int) + 1), .int .u32 nw] 57)).cell? ⟨w.heap.size, 0, none⟩ = some (.int .u32 ((e : Int) + 1)) := World.cell?_alloc_at _ _ _ _ rfl
  generalize w.alloc (.cells #[.int .u32 ((e : Int) + 1), .int .u32 nw] 57) = W1 at HP1 HX1 hl ⊢
  refine (oldest_any HP1.out e he hn nw _ hl).mono ?_
  rintro r w' ⟨rfl, rfl⟩
  clear HP hl
  go_wp2
  go_ret2
  exact ⟨rfl, HP1, HX1⟩

set_option maxHeartbeats 1000000 in
theorem oldest_none {w : World} {Tb : Nat} (lb : Nat) (hl : w.cell? ⟨lb, 0, none⟩ = some (.int .u32 0)) :
    Calls Try.prog 13 #[.pointer (some ⟨lb, 0, none⟩), .pointer (some ⟨Tb, 0, none⟩)] w fun r w' => r = .returned (.tuple #[.int .i64 0, .bool false]) ∧ w = w' := by
  go_enter Try.func13, Try.ntmps13
  go_wp2
  go_ret2
  exact ⟨rfl, rfl⟩

set_option maxHeartbeats 1000000 in
theorem zzOldest_none {B : Nat} {w : World} {Tb n : Nat} {tk : Nat → Int} (h : Pool B w Tb n tk) (hB : B ≤ w.heap.size) :
    Calls Try.prog 9 #[.int .u32 0, .int .u32 0, .pointer (some ⟨Tb, 0, none⟩)] w fun r w' => r = .returned (.tuple #[.int .i64 0, .bool false]) ∧ Hid (Pool B w' Tb n tk) ∧ Hid (Ext B w w') := by
  have HP : Hid (Pool B w Tb n tk) := h
  clear h
  go_enter Try.func9, Try.ntmps9
  go_wp2_with fail
  have HP1 : Hid (Pool B (w.alloc (.cells #[.int .u32 0, .int .u32 0] 57)) Tb n tk) := HP.out.alloc _
  have HX1 : Hid (Ext B w (w.alloc (.cells #[.int .u32 0, .int .u32 0] 57))) := (Ext.refl B w).alloc hB _
  have hl : (w.alloc (.cells #[.int .u32 0, .int .u32 0] 57)).cell? ⟨w.heap.size, 0, none⟩ = some (.int .u32 0) := World.cell?_alloc_at _ _ _ _ rfl
  generalize w.alloc (.cells #[.int .u32 0, .int .u32 0] 57) = W1 at HP1 HX1 hl ⊢
  refine (oldest_none _ hl).mono ?_
  rintro r w' ⟨rfl, rfl⟩
  clear HP hl
  go_wp2
  go_ret2
  exact ⟨rfl, HP1, HX1⟩

def SomeBool (e : Ending) : Prop := ∃ r, e = .returned (.bool r)

set_option maxHeartbeats 1000000 in
theorem zz5_any (ao : Option Addr) (n cap : Nat) (hn : n ≤ 9223372036854775807) (w : World) : Calls Try.prog 5 #[.slice ao n cap] w fun e w' => SomeBool e ∧ w = w' := by
  go_enter Try.func5, Try.ntmps5
  go_wp2
  all_goals
    go_ret
    exact ⟨⟨_, rfl⟩, rfl⟩
set_option maxHeartbeats 1000000 in
theorem zz10_any (ao ao2 : Option Addr) (n cap n2 cap2 : Nat) (k : Int) (hn : n ≤ 9223372036854775807) (hn2 : n2 ≤ 9223372036854775807) (w : World) : Calls Try.prog 10 #[.slice ao n cap, .slice ao2 n2 cap2, .int .i64 k] w fun e w' => SomeBool e ∧ w = w' := by
  go_enter Try.func10, Try.ntmps10
  go_wp2
  all_goals
    go_ret
    exact ⟨⟨_, rfl⟩, rfl⟩

set_option maxHeartbeats 1000000 in
theorem empty_any (w : World) : Calls Try.prog 6 #[] w fun e w' => e = .returned (.pointer (some ⟨w.heap.size, 0, none⟩)) ∧ Hid (Pool w.heap.size w' w.heap.size 0 (fun _ => 0)) ∧ Hid (Ext w.heap.size w w') := by
  go_enter Try.func6, Try.ntmps6
  go_wp2
  go_ret
  refine ⟨rfl, ⟨_, _, _, 0, 0, fun _ => 0, Nat.le_refl _, (by show (w.heap.push _)[w.heap.size]? = _; simp; exact ⟨rfl, rfl, rfl, rfl⟩), fun h => by omega, fun i hi => by simp [nSlabs] at hi, fun i j hi => by simp [nSlabs] at hi⟩, (Ext.refl _ _).alloc (Nat.le_refl _) _⟩
end Go.Proofs.Qxb6608542a
