/-
  WALKS: zzCloneStrings (14), zzEqualStrings (16).
-/
import Derived.Test.Qxb6608555aSrv
namespace Go.Proofs.Qxb6608555a
open Go.RowKit Go.Maps
set_option linter.unusedVariables false
set_option linter.unusedSimpArgs false
set_option maxRecDepth 20000

theorem make_of (T e : TypeId) (z : Value) (bytes : Nat) (hT : Try.prog.underlying T = some (.slice e)) (hi : (Try.prog.info? e).map (fun i => (i.zero, i.size, i.bytes)) = some (some z, 1, bytes)) (hz1 : z.cells = #[z]) (hb : bytes ≤ 64) (n : Nat) (hn : n ≤ 1048576) (w : World) :
    (Instr.makeSlice T (.int .i64 n) (.int .i64 n)).run Try.prog w = .ok (.slice (some ⟨w.heap.size, 0, none⟩) n n) (w.alloc (.cells (madeCells #[z] n) e)) := by
  obtain ⟨i, hi', hz, hs, hbb⟩ := info_parts hi
  have hr := run_make (P := Try.prog) w T e i z hT hi' hz .i64 .i64 n n (by omega) (by omega) (by rw [hbb]; have := Nat.mul_le_mul_right n hb; omega) (by omega)
  rw [hs, Nat.mul_one, hz1] at hr
  exact hr
theorem Blk.made (W : World) (e n : Nat) (z : Value) : Blk (W.alloc (.cells (madeCells #[z] n) e)) W.heap.size e n (fun _ => z) :=
  Blk.new W e n _ _ (by simp [madeCells]) (fun s hs => by simp [madeCells, hs, Nat.mod_one])
theorem Blk.rdS {W : World} {R n : Nat} {ids : List ByteArray} (h : Blk W R 9 n (fun s => .string (ids.getD s ⟨#[]⟩))) (hn : n = ids.length) (cap : Nat) : RdS W (some ⟨R, 0, none⟩) n cap ids :=
  ⟨hn, fun u hu => ⟨⟨R, u, none⟩, h.lt, fun k w' => by
    have := idx_eq Try.underlying23 sized9 k R 0 n cap u hu w'
    simpa using this, h.cell u hu⟩⟩

theorem eqNilIn (d : Nat) (x : Addr) (n cap : Nat) (w : World) : (Op.equalIn (d + 1) 23 (.slice (some x) n cap) (.slice none 0 0)).run Try.prog w = .ok false w := by
  simp only [Op.equalIn, run_underlying Try.underlying23, Sem.run_bind, Result.andThen_ok]
  rfl
theorem eqNil (x : Addr) (n cap : Nat) (w : World) : (binOp .eql 23 (.slice (some x) n cap) (.slice none 0 0)).run Try.prog w = .ok (.bool false) w := by
  have h : (Op.equal 23 (.slice (some x) n cap) (.slice none 0 0)).run Try.prog w = .ok false w := by
    exact eqNilIn 9999 x n cap w
  simp [binOp, Sem.run_bind, h, Result.andThen]

set_option maxHeartbeats 1000000 in
theorem clone14 {W : World} {x : Addr} {n cap : Nat} {ids : List ByteArray} (h : RdS W (some x) n cap ids) (hn : n ≤ 1048576) :
    Calls Try.prog 14 #[.slice (some x) n cap] W fun e W' => ∃ R, e = .returned (.slice (some ⟨R, 0, none⟩) n n) ∧ Hid (W.heap.size ≤ R ∧ Blk W' R 9 n (fun s => .string (ids.getD s ⟨#[]⟩))) ∧ Hid (Tch W W' (fun _ => False)) := by
  have HR := hid h
  clear h
  have hmk := make_of 23 9 (.string ⟨#[]⟩) 16 Try.underlying23 info9 rfl (by omega) n hn W
  have HB0 := hid (Blk.made W 9 n (.string ⟨#[]⟩))
  have HT0 := hid (Tch.alloc W (.cells (madeCells #[.string ⟨#[]⟩] n) 9) (fun _ => False))
  have hnil := eqNil x n cap
  go_enter Try.func14, Try.ntmps14
  go_wp2_with fail
  obtain ⟨R, hR⟩ : ∃ R, R = W.heap.size := ⟨_, rfl⟩
  have HRW := hid hR
  rw [← hR] at HB0 ⊢
  clear hmk hR
  generalize W.alloc (.cells (madeCells #[.string ⟨#[]⟩] n) 9) = W1 at HB0 HT0 ⊢
  go_loopg [4] n (fun g v wr => ∃ k : Nat, Hid (k + g = n) ∧ v = .int .i64 (k : Int) ∧ Hid (Blk wr R 9 n (fun s => if s < k then .string (ids.getD s ⟨#[]⟩) else .string ⟨#[]⟩)) ∧ Hid (Tch W wr (fun _ => False)))
  case atStart => exact ⟨0, Nat.zero_add _, rfl, hid (HB0.out.congr (fun s hs => by rw [if_neg (by omega)])), HT0⟩
  case round =>
    clear HB0 HT0
    obtain ⟨k, HG, rfl, HB, HT⟩ := hrel
    rename World => wr
    have hk : k ≤ n := by have := HG.out; omega
    by_cases hlt : k < n
    · obtain ⟨q, hqb, hq, hqc⟩ := (HR.out.keepF HT.out).at' k hlt
      have hq' := hq .i64
      have hix : ∀ w', (Instr.indexAt 23 (.slice (some ⟨R, 0, none⟩) n n) (.int .i64 (k : Int))).run Try.prog w' = .ok (.pointer (some ⟨R, k, none⟩)) w' := fun w' => by
        have := idx_eq Try.underlying23 sized9 .i64 R 0 n n k hlt w'
        simpa using this
      obtain ⟨d, hd⟩ : ∃ d, d = ids.getD k ⟨#[]⟩ := ⟨_, rfl⟩
      rw [← hd] at hqc
      have hc := HB.out.cell k hlt
      have hf := HB.out.free k
      have HB2 : Hid (Blk (wr.setCell ⟨R, k, none⟩ (.string d)) R 9 n (fun s => if s < k + 1 then .string (ids.getD s ⟨#[]⟩) else .string ⟨#[]⟩)) := (HB.out.set k (.string d)).congr (fun s hs => by
        by_cases e : s = k
        · rw [if_pos e, if_pos (by omega), e, hd]
        · rw [if_neg e]
          by_cases e2 : s < k
          · rw [if_pos e2, if_pos (by omega)]
          · rw [if_neg e2, if_neg (by omega)])
      have HT2 : Hid (Tch W (wr.setCell ⟨R, k, none⟩ (.string d)) (fun _ => False)) := HT.out.trans (Tch.set wr _ _) (fun b hb e => by
        have := HRW.out
        have e' : b = R := e
        omega)
      have hw1 : IntKind.i64.wrap ((k : Int) + 1) = (k : Int) + 1 := IntWalk.i64_in _ (by omega)
      clear hq hqb hd HB HT
      go_wp2
      go_roundg (gk - 1)
      case measure => have := HG.out; omega
      case rel => exact ⟨k + 1, by have := HG.out; show _ = _; omega, by go_num, HB2, HT2⟩
    · go_wp2
      go_ret
      exact ⟨R, rfl, ⟨by have := HRW.out; omega, HB.out.congr (fun s hs => by rw [if_pos (by omega)])⟩, HT⟩

set_option maxHeartbeats 1000000 in
theorem equal16 {W : World} {a b : Option Addr} {n ca cb : Nat} {ids : List ByteArray} (h1 : RdS W a n ca ids) (h2 : RdS W b n cb ids) (hn : n ≤ 1048576) :
    Calls Try.prog 16 #[.slice a n ca, .slice b n cb] W fun e W' => e = .returned (.bool true) ∧ Hid (Tch W W' (fun _ => False)) := by
  have H1 := hid h1
  have H2 := hid h2
  clear h1 h2
  go_enter Try.func16, Try.ntmps16
  go_wp2_with fail
  go_loopg [5] n (fun g v wr => ∃ k : Nat, Hid (k + g = n) ∧ v = .int .i64 (k : Int) ∧ Hid (Tch W wr (fun _ => False)))
  case atStart => exact ⟨0, Nat.zero_add _, rfl, Tch.refl _ _⟩
  case round =>
    obtain ⟨k, HG, rfl, HT⟩ := hrel
    rename World => wr
    have hk : k ≤ n := by have := HG.out; omega
    by_cases hlt : k < n
    · obtain ⟨p, hpb, hp, hpc⟩ := (H1.out.keepF HT.out).at' k hlt
      obtain ⟨q, hqb, hq, hqc⟩ := (H2.out.keepF HT.out).at' k hlt
      have hp' := hp .i64
      have hq' := hq .i64
      generalize ids.getD k ⟨#[]⟩ = d at hpc hqc
      have hS : wr.drew.cell? p = some (.string d) ∧ wr.drew.cell? q = some (.string d) := ⟨hpc, hqc⟩
      have HT' : Hid (Tch W wr.drew (fun _ => False)) := HT.out.trans (Tch.drew _ _) (fun _ _ x => x)
      have hw1 : IntKind.i64.wrap ((k : Int) + 1) = (k : Int) + 1 := IntWalk.i64_in _ (by omega)
      clear hp hq hpb hqb HT hpc hqc
      go_wp2_with fail
      go_region_held3 (fun w' => w'.cell? p = some (.string d) ∧ w'.cell? q = some (.string d))
        (exact hS)
        (fail)
      go_wp2
      go_roundg (gk - 1)
      case measure => have := HG.out; omega
      case rel => exact ⟨k + 1, by have := HG.out; show _ = _; omega, by go_num, HT'⟩
    · go_wp2
      go_ret
      exact ⟨rfl, HT⟩
end Go.Proofs.Qxb6608555a
