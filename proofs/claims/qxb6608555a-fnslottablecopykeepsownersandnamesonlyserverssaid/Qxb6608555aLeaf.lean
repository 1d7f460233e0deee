/-
  THE SLOT TABLE IN MEMORY, and the small walks: slices.Index (29), newSlotTable (24, 8), ZZtableOwner (9), ZZtableIDs (10).
-/
import Derived.Test.Qxb6608555aMem
namespace Go.Proofs.Qxb6608555a
open Go.RowKit Go.Maps
set_option linter.unusedVariables false
set_option linter.unusedSimpArgs false
set_option maxRecDepth 20000

/-- A slice of strings reads as ids. -/
structure RdS (W : World) (a : Option Addr) (n cap : Nat) (ids : List ByteArray) : Prop where
  len : n = ids.length
  at' : ∀ u, u < n → ∃ q : Addr, q.block < W.heap.size ∧ (∀ (k : IntKind) (w' : World), (Instr.indexAt 23 (.slice a n cap) (.int k (u : Int))).run Try.prog w' = .ok (.pointer (some q)) w') ∧ W.cell? q = some (.string (ids.getD u ⟨#[]⟩))

theorem own_rd {W : World} {base : Nat} {v : Value} {ids : List ByteArray} (h : W.ownsRow base 9 1 v ids.length (ids.map .string)) : ∃ a cap, v = .slice a ids.length cap ∧ RdS W a ids.length cap ids := by
  rcases h.2 with ⟨hv, hn⟩ | ⟨g, cap, cur, hv, _⟩
  · exact ⟨none, 0, by rw [hv, hn], rfl, fun u hu => by omega⟩
  · refine ⟨_, _, hv, rfl, fun u hu => ?_⟩
    rw [hv] at h
    have hc := h.cellAt u (by omega)
    rw [List.getElem?_map, List.getElem?_eq_getElem hu] at hc
    refine ⟨⟨g, u, none⟩, World.block_lt_of_cell? W _ hc, fun k w' => ?_, ?_⟩
    · have := idx_eq Try.underlying23 sized9 k g 0 ids.length cap u hu w'
      simpa using this
    · rw [hc]
      simp [List.getD, hu]

/-- The slot table in block T: who owns each slot; the IDs in the row of v. -/
def tabG (own : Nat → Nat) (v : Value) (s : Nat) : Value := if s < 16384 then .int .u16 (own s) else if s = 16384 then v else .pointer none
structure Tab (B : Nat) (W : World) (T : Nat) (own : Nat → Nat) (v : Value) (ids : List ByteArray) : Prop where
  tb : B ≤ T
  blk : Blk W T 57 16386 (tabG own v)
  row : W.ownsRow B 9 1 v ids.length (ids.map .string)

theorem Tab.apart {B : Nat} {W : World} {T : Nat} {own : Nat → Nat} {v : Value} {ids : List ByteArray} (h : Tab B W T own v ids) : v.ownBlock ≠ some T := h.blk.notRow h.row (by decide)
theorem ownsRow_keep {W W' : World} {base e size n : Nat} {v : Value} {xs : List Value} {p : Nat → Prop} (h : W.ownsRow base e size v n xs) (k : Tch W W' p) (hp : ∀ g, v.ownBlock = some g → ¬ p g) : W'.ownsRow base e size v n xs := by
  refine ⟨h.1, ?_⟩
  rcases h.2 with hv | ⟨g, cap, cur, hv, hb, hg, r⟩
  · exact Or.inl hv
  · refine Or.inr ⟨g, cap, cur, hv, hb, ?_, r⟩
    rw [k.block g (Array.getElem?_eq_some_iff.1 hg).1 (hp g (by rw [hv]; rfl))]
    exact hg
theorem Tab.keep {B : Nat} {W W' : World} {T : Nat} {own : Nat → Nat} {v : Value} {ids : List ByteArray} {p : Nat → Prop} (h : Tab B W T own v ids) (k : Tch W W' p) (hT : ¬ p T) (hv : ∀ g, v.ownBlock = some g → ¬ p g) : Tab B W' T own v ids :=
  ⟨h.tb, h.blk.keep k hT, ownsRow_keep h.row k hv⟩
theorem Tab.ids {B : Nat} {W : World} {T : Nat} {own : Nat → Nat} {v : Value} {ids : List ByteArray} (h : Tab B W T own v ids) : W.cell? ⟨T, 16384, none⟩ = some v := by
  rw [h.blk.cell 16384 (by omega)]
  rfl
theorem Tab.own {B : Nat} {W : World} {T : Nat} {own : Nat → Nat} {v : Value} {ids : List ByteArray} (h : Tab B W T own v ids) (s : Nat) (hs : s < 16384) : W.cell? ⟨T, s, none⟩ = some (.int .u16 (own s)) := by
  rw [h.blk.cell s (by omega), tabG, if_pos hs]
theorem Tab.load {B : Nat} {W : World} {T : Nat} {own : Nat → Nat} {v : Value} {ids : List ByteArray} (h : Tab B W T own v ids) : (Instr.loadAt 29 (.pointer (some ⟨T, 0, none⟩))).run Try.prog W = .ok (.agg (arr own).toArray) W :=
  h.blk.load29 (by omega) own (fun s hs => by rw [tabG, if_pos hs])
def upd (own : Nat → Nat) (sl p s : Nat) : Nat := if s = sl then p else own s
theorem Tab.setOwn {B : Nat} {W : World} {T : Nat} {own : Nat → Nat} {v : Value} {ids : List ByteArray} (h : Tab B W T own v ids) (sl p : Nat) (hs : sl < 16384) : Tab B (W.setCell ⟨T, sl, none⟩ (.int .u16 p)) T (upd own sl p) v ids := by
  refine ⟨h.tb, (h.blk.set sl _).congr (fun s _ => ?_), ownsRow_keep h.row (Tch.set W ⟨T, sl, none⟩ _) (fun g hg e => h.apart (by rw [hg, e]))⟩
  unfold tabG upd
  by_cases e : s = sl
  · subst e; rw [if_pos rfl, if_pos hs, if_pos rfl]
  · rw [if_neg e, if_neg e]

theorem info9 : (Try.prog.info? 9).map (fun i => (i.zero, i.size, i.bytes)) = some (some (.string ⟨#[]⟩), 1, 16) := by kernel_rfl
theorem info_parts {t : TypeId} {z : Value} {s y : Nat} (h : (Try.prog.info? t).map (fun i => (i.zero, i.size, i.bytes)) = some (some z, s, y)) : ∃ i, Try.prog.info? t = some i ∧ i.zero = some z ∧ i.size = s ∧ i.bytes = y := by
  obtain ⟨i, hi, hzz⟩ := Option.map_eq_some_iff.1 h
  simp only [Prod.mk.injEq] at hzz
  exact ⟨i, hi, hzz.1, hzz.2.1, hzz.2.2⟩

theorem str_ne {a b : ByteArray} (h : a ≠ b) : (a.toList == b.toList) = false := by
  rw [← beq_toListBytes]
  cases a; cases b
  simp at h
  show ((_ : Array UInt8) == _) = false
  simpa using h
theorem str_eq (a : ByteArray) : (a.toList == a.toList) = true := by simp

set_option maxHeartbeats 1000000 in
theorem index_any {W : World} {a : Option Addr} {n cap : Nat} {ids : List ByteArray} (h : RdS W a n cap ids) (hn : n ≤ 1048576) (id : ByteArray) :
    Calls Try.prog 29 #[.slice a n cap, .string id] W fun e w' => ∃ r : Int, e = .returned (.int .i64 r) ∧ W = w' ∧ Hid ((∃ p : Nat, p < n ∧ r = p ∧ ids.getD p ⟨#[]⟩ = id) ∨ (r = -1 ∧ ¬ id ∈ ids)) := by
  have HR := hid h
  clear h
  go_enter Try.func29, Try.ntmps29
  go_wp2_with fail
  go_loopg [8] n (fun g v wr => ∃ k : Nat, Hid (k + g = n) ∧ v = .int .i64 (k : Int) ∧ Hid (∀ j, j < k → ids.getD j ⟨#[]⟩ ≠ id) ∧ W = wr)
  case atStart => exact ⟨0, Nat.zero_add _, rfl, hid (fun j hj => by omega), rfl⟩
  case round =>
    obtain ⟨k, HG, rfl, HN, hw⟩ := hrel
    subst hw
    have hk : k ≤ n := by have := HG.out; omega
    by_cases hlt : k < n
    · obtain ⟨q, hqb, hq, hc⟩ := HR.out.at' k hlt
      have hq' := hq .i64
      obtain ⟨d, hd⟩ : ∃ d, d = ids.getD k ⟨#[]⟩ := ⟨_, rfl⟩
      rw [← hd] at hc
      have HD := hid hd
      clear hd hq
      by_cases e : id = d
      · subst e
        go_wp2
        go_ret
        exact ⟨_, rfl, rfl, hid (Or.inl ⟨k, hlt, rfl, HD.out.symm⟩)⟩
      · have hne := str_ne e
        have hw1 : IntKind.i64.wrap ((k : Int) + 1) = (k : Int) + 1 := IntWalk.i64_in _ (by omega)
        go_wp2
        go_roundg (gk - 1)
        case measure => have := HG.out; omega
        case rel => exact ⟨k + 1, by have := HG.out; show _ = _; omega, by go_num, hid (fun j hj => by
          by_cases hjk : j = k
          · rw [hjk, ← HD.out]; exact fun x => e x.symm
          · exact HN.out j (by omega)), rfl⟩
    · go_wp2
      go_ret
      exact ⟨_, rfl, rfl, hid (Or.inr ⟨rfl, fun hm => by
        obtain ⟨j, hj, he⟩ := List.mem_iff_getElem.1 hm
        have hl := HR.out.len
        exact HN.out j (by omega) (by simp [List.getD, hj, he])⟩)⟩


/-! ### operations on whole arrays, at the list of a plain region -/
section
variable {ops : Array Oper} {rest : List Oper} {a : Act} {w : World} {Q : Exit → Act → World → Prop} {d : Option Tmp} {ty : TypeId} {pos : String} {aft : Array Edge}

theorem wpList_run {P : Program} {o : Oper} (hg : o.guard = none) (v : Value) (w' : World) (hrun : (execOp a.eval o).run P w = .ok (.value v) w') (h : wpList P ops Q rest (a.put o.dst v) w') : wpList P ops Q (o :: rest) a w := by
  refine wpList_plain hg fun K hK => ?_
  unfold Oper.wp
  simp only [hrun]
  exact hK _ _ h
theorem wpList_build57 {x : Operand} {p : Option Addr} {n c : Nat} (hx : a.eval x = .slice p n c) (h : wpList Try.prog ops Q rest (a.put d (.agg (tab0 (.slice p n c)))) w) :
    wpList Try.prog ops Q (⟨d, .build 57 #[(1, x)], ty, pos, aft, none⟩ :: rest) a w :=
  wpList_run rfl _ w (by simp [execOp, hx, build57, Sem.run_bind, Result.andThen]) h
theorem wpList_alloc29 (h : wpList Try.prog ops Q rest (a.put d (.pointer (some ⟨w.heap.size, 0, none⟩))) (w.alloc (.cells (arr (fun _ => 0)).toArray 29))) :
    wpList Try.prog ops Q (⟨d, .alloc 29, ty, pos, aft, none⟩ :: rest) a w :=
  wpList_run rfl _ _ (by simp only [execOp, Sem.run_bind, alloc29, Result.andThen_ok]; rfl) h
theorem wpList_alloc32 (h : wpList Try.prog ops Q rest (a.put d (.pointer (some ⟨w.heap.size, 0, none⟩))) (w.alloc (.cells (sarr (fun _ => ⟨#[]⟩)).toArray 32))) :
    wpList Try.prog ops Q (⟨d, .alloc 32, ty, pos, aft, none⟩ :: rest) a w :=
  wpList_run rfl _ _ (by simp only [execOp, Sem.run_bind, alloc32, Result.andThen_ok]; rfl) h
theorem wpList_load29 {x : Operand} {b : Nat} {f : Nat → Nat} (hx : a.eval x = .pointer (some ⟨b, 0, none⟩)) (hl : (Instr.loadAt 29 (.pointer (some ⟨b, 0, none⟩))).run Try.prog w = .ok (.agg (arr f).toArray) w)
    (h : wpList Try.prog ops Q rest (a.put d (.agg (arr f).toArray)) w) : wpList Try.prog ops Q (⟨d, .load 29 x, ty, pos, aft, none⟩ :: rest) a w :=
  wpList_run rfl _ _ (by simp only [execOp, hx, Sem.run_bind, hl, Result.andThen_ok]; rfl) h
theorem wpList_store29 {x y : Operand} {b : Nat} {f : Nat → Nat} {w' : World} (hx : a.eval x = .pointer (some ⟨b, 0, none⟩)) (hy : a.eval y = .agg (arr f).toArray) (hl : (Instr.storeAt 29 (.pointer (some ⟨b, 0, none⟩)) (.agg (arr f).toArray)).run Try.prog w = .ok () w')
    (h : wpList Try.prog ops Q rest (a.put d undef) w') : wpList Try.prog ops Q (⟨d, .store 29 x y, ty, pos, aft, none⟩ :: rest) a w := by
  refine wpList_plain rfl fun K hK => ?_
  unfold Oper.wp
  simp only [execOp, hx, hy, Sem.run_bind, hl, Result.andThen_ok, Sem.run_pure]
  exact hK _ _ h
end

theorem tab_new (W : World) (v : Value) : Blk (W.alloc (.cells (tab0 v) 57)) W.heap.size 57 16386 (tabG (fun _ => 0) v) := by
  refine Blk.new W 57 16386 _ _ ?_ (fun s hs => ?_)
  · unfold tab0
    rw [Array.size_append, List.size_toArray, arr_len]
    rfl
  · unfold tab0 tabG
    by_cases h : s < 16384
    · rw [if_pos h, Array.getElem?_append_left (by rw [List.size_toArray, arr_len]; exact h), List.getElem?_toArray, arr_get _ s h]
    · rw [if_neg h, Array.getElem?_append_right (by rw [List.size_toArray, arr_len]; omega), List.size_toArray, arr_len]
      by_cases h2 : s = 16384
      · rw [if_pos h2, h2, Nat.sub_self]
        rfl
      · rw [if_neg h2, show s = 16385 by omega, show 16385 - 16384 = 1 from rfl]
        rfl
theorem new24 (W : World) : Calls Try.prog 24 #[] W fun e W' => ∃ T v, e = .returned (.pointer (some ⟨T, 0, none⟩)) ∧ Hid (W.heap.size ≤ T ∧ Tab W.heap.size W' T (fun _ => 0) v [⟨#[]⟩]) ∧ Hid (Tch W W' (fun _ => False)) := by
  go_enter Try.func24, Try.ntmps24
  go_wp2_with ((with_reducible apply wpList_build57); · rfl)
  go_ret
  refine ⟨W.heap.size + 1, .slice (some ⟨W.heap.size, 0, none⟩) 1 1, rfl, ⟨by omega, by omega, ?_, ?_⟩, ?_⟩
  · have h := tab_new (W.alloc (Obj.cells #[Value.string { data := #[] }] 9)) (.slice (some ⟨W.heap.size, 0, none⟩) 1 1)
    simpa using h
  · have h1 : (W.alloc (Obj.cells #[Value.string { data := #[] }] 9)).ownsRow W.heap.size 9 1 (.slice (some ⟨W.heap.size, 0, none⟩) 1 1) 1 [.string ⟨#[]⟩] :=
      ⟨rfl, Or.inr ⟨W.heap.size, 1, #[.string ⟨#[]⟩], rfl, Nat.le_refl _, by show (W.heap.push _)[W.heap.size]? = _; simp, by omega, by unfold maxLen; omega, rfl, rfl⟩⟩
    exact ownsRow_keep h1 (Tch.alloc _ _ (fun _ => False)) (fun _ _ h => h)
  · exact (Tch.alloc W _ _).trans (Tch.alloc _ _ (fun _ => False)) (fun _ _ h => h)
theorem new8 (W : World) : Calls Try.prog 8 #[] W fun e W' => ∃ T v, e = .returned (.pointer (some ⟨T, 0, none⟩)) ∧ Hid (W.heap.size ≤ T ∧ Tab W.heap.size W' T (fun _ => 0) v [⟨#[]⟩]) ∧ Hid (Tch W W' (fun _ => False)) := by
  go_enter Try.func8, Try.ntmps8
  go_wp2_with fail
  refine (new24 W).mono ?_
  rintro e W' ⟨T, v, rfl, h1, h2⟩
  go_wp2
  go_ret
  exact ⟨T, v, rfl, h1, h2⟩

theorem results29 {fn : Func} {p : Tmp} (h : fn.results = #[.cell p 29]) (tmps : Array Value) (w : World) (b : Nat) (f : Nat → Nat) (hp : tmps.getD p undef = .pointer (some ⟨b, 0, none⟩)) (hl : (Instr.loadAt 29 (.pointer (some ⟨b, 0, none⟩))).run Try.prog w = .ok (.agg (arr f).toArray) w) :
    (results fn tmps).run Try.prog w = .ok (.agg (arr f).toArray) w := by
  have h2 : (loadVar 29 ⟨b, 0, none⟩).run Try.prog w = .ok (.agg (arr f).toArray) w := by
    simpa [Instr.loadAt, Instr.sureAddr, Sem.run_bind, Result.andThen] using hl
  simp only [results, h, List.mapM_toArray, List.mapM_cons, List.mapM_nil, hp]
  simp [asAddr, h2]
theorem owner9 {B : Nat} {W : World} {T : Nat} {own : Nat → Nat} {v : Value} {ids : List ByteArray} (h : Tab B W T own v ids) :
    Calls Try.prog 9 #[.pointer (some ⟨T, 0, none⟩)] W fun e W' => e = .returned (.agg (arr own).toArray) ∧ Hid (Tch W W' (fun _ => False)) := by
  have HT := hid h
  clear h
  go_enter Try.func9, Try.ntmps9
  have HT1 : Hid (Tab B (W.alloc (.cells (arr (fun _ => 0)).toArray 29)) T own v ids) := HT.out.keep (Tch.alloc W _ (fun _ => False)) (fun h => h) (fun _ _ h => h)
  have HF := hid (Blk.fresh29 W)
  have HS := hid (HF.out.stored29 own)
  go_wp2_with (first | (with_reducible apply wpList_alloc29) | ((with_reducible apply wpList_load29); (· rfl); (· exact HT1.out.load)) | ((with_reducible apply wpList_store29); (· rfl); (· rfl); (· exact HF.out.store29 own)))
  refine bodyPost_ret (results29 rfl _ _ W.heap.size own rfl (HS.out.load29 (by omega) own (fun s hs => rfl))) rfl ?_
  refine ⟨rfl, ?_⟩
  exact (Tch.alloc W _ _).trans (Tch.sets _ _ _ _) (fun b hb h => by omega)

theorem ids10 {B : Nat} {W : World} {T : Nat} {own : Nat → Nat} {v : Value} {ids : List ByteArray} (h : Tab B W T own v ids) :
    Calls Try.prog 10 #[.pointer (some ⟨T, 0, none⟩)] W fun e W' => e = .returned v ∧ W = W' := by
  have hc := h.ids
  clear h
  go_enter Try.func10, Try.ntmps10
  go_wp2
  go_ret
  exact ⟨rfl, rfl⟩
end Go.Proofs.Qxb6608555a
