/-
  WALK: ZZaddEntry: adds an entry, sets its id, its own number and its generation.
-/
import Derived.Test.Qxb6608542aAdd
namespace Go.Proofs.Qxb6608542a
open Go.RowKit
set_option linter.unusedVariables false
set_option linter.unusedSimpArgs false

theorem Ent2.pool {B : Nat} {w : World} {Tb n : Nat} {tk : Nat → Int} {e s : Nat} (h : Ent2 B w Tb n tk e s) : Pool B w Tb n tk := by
  obtain ⟨r2, r3, r4, G, cap, S, h, _⟩ := h
  exact ⟨r2, r3, r4, G, cap, S, h⟩
theorem Ent2.block {B : Nat} {w : World} {Tb n : Nat} {tk : Nat → Int} {e s : Nat} (h : Ent2 B w Tb n tk e s) (he : e < n) : B ≤ s ∧ ∃ c, w.heap[s]? = some (Obj.cells c 54 (0, 0)) ∧ c.size = 2880 := by
  obtain ⟨r2, r3, r4, G, cap, S, h, rfl⟩ := h
  obtain ⟨h1, c, h2, h3, _⟩ := h.slab (e / 64) (nSlabs_at he)
  exact ⟨h1, c, h2, h3⟩
theorem Ent2.set {B : Nat} {w : World} {Tb n : Nat} {tk : Nat → Int} {e s : Nat} (h : Ent2 B w Tb n tk e s) (he : e < n) (o : Nat) (ho : o < 45) (ho' : o ≠ 43) (v : Value) : Ent2 B (w.setCell ⟨s, e % 64 * 45 + o, none⟩ v) Tb n tk e s := by
  obtain ⟨r2, r3, r4, G, cap, S, h, rfl⟩ := h
  exact ⟨r2, r3, r4, G, cap, S, h.set (e / 64) (nSlabs_at he) _ (by omega) _ _ (fun x hx h1 h2 => by omega) (fun x hx h1 => rfl), rfl⟩
theorem Ent2.setCells {B : Nat} {Tb n : Nat} {tk : Nat → Int} {e s : Nat} (he : e < n) : ∀ (vs : List Value) (o : Nat) (w : World), Ent2 B w Tb n tk e s → o + vs.length ≤ 43 → Ent2 B (w.setCells s (e % 64 * 45 + o) vs) Tb n tk e s
  | [], _, _, h, _ => h
  | v :: r, o, w, h, hl => by
    simp only [List.length_cons] at hl
    exact Ent2.setCells he r (o + 1) _ (h.set he o (by omega) (by omega) v) (by omega)
theorem ext_setCells {B s : Nat} {a : World} (hB : B ≤ s) : ∀ (vs : List Value) (o : Nat) (w : World) (c : Array Value), Ext B a w → w.heap[s]? = some (Obj.cells c 54 (0, 0)) → Ext B a (w.setCells s o vs)
  | [], _, _, _, h, _ => h
  | v :: r, o, w, c, h, hc => ext_setCells hB r (o + 1) _ _ (h.set hB hc (by decide) v) (heapSame hc v)
theorem there_of_block {w : World} {s : Nat} {c : Array Value} (hc : w.heap[s]? = some (Obj.cells c 54 (0, 0))) (o n : Nat) (h : o + n ≤ c.size) : w.there s o n := fun j hj =>
  ⟨by rw [cells_of_block hc]; simp; omega, free_of_block hc _⟩

/-- 32 zero bytes. -/
def z32 : Array Value := #[.int .u8 0, .int .u8 0, .int .u8 0, .int .u8 0, .int .u8 0, .int .u8 0, .int .u8 0, .int .u8 0, .int .u8 0, .int .u8 0, .int .u8 0, .int .u8 0, .int .u8 0, .int .u8 0, .int .u8 0, .int .u8 0, .int .u8 0, .int .u8 0, .int .u8 0, .int .u8 0, .int .u8 0, .int .u8 0, .int .u8 0, .int .u8 0, .int .u8 0, .int .u8 0, .int .u8 0, .int .u8 0, .int .u8 0, .int .u8 0, .int .u8 0, .int .u8 0]
theorem info30 : (Try.prog.info? 30).map (·.size) = some 32 := by kernel_rfl
theorem z32_one : z32.all (·.oneCell') = true := by kernel_rfl

set_option maxRecDepth 100000 in
set_option maxHeartbeats 1000000 in
theorem addEntry_any {B : Nat} {w : World} {Tb n : Nat} {tk : Nat → Int} (h : Pool B w Tb n tk) (hn : n ≤ 99999) (hB : B ≤ w.heap.size) (gen : Int) :
    Calls Try.prog 7 #[.pointer (some ⟨Tb, 0, none⟩), .agg z32, .int .u32 gen] w fun r w' => r = .returned (.int .u32 ((n : Int) + 1)) ∧ Hid (Pool B w' Tb (n + 1) (fun x => if x = n then 0 else tk x)) ∧ Hid (Ext B w w') := by
  have HP := hid h
  clear h
  obtain ⟨z, hz⟩ : ∃ z, z = z32 := ⟨_, rfl⟩
  have hzs : z.size = 32 := by rw [hz]; rfl
  have hz1 : z.all (·.oneCell') = true := by rw [hz]; exact z32_one
  rw [← hz]
  clear hz
  go_enter Try.func7, Try.ntmps7
  go_wp2_with fail
  have HP1 := hid (HP.out.alloc (Obj.cells z 30))
  have HX1 := hid ((Ext.refl B w).alloc hB (Obj.cells z 30))
  have hb1 : (w.alloc (Obj.cells z 30)).heap[w.heap.size]? = some (Obj.cells z 30 (0, 0)) := by show (w.heap.push _)[w.heap.size]? = _; simp
  have hB1 : B ≤ (w.alloc (Obj.cells z 30)).heap.size := by simp; omega
  generalize w.alloc (Obj.cells z 30) = W1 at HP1 HX1 hb1 hB1 ⊢
  refine (add_any HP1.out hn hB1).mono ?_
  rintro r w2 ⟨s, rfl, HP2, HE2, HX2⟩
  have hb2 := HX2.out.2 _ _ 30 (Or.inr rfl) hb1
  have hrg : w2.rangeAt w.heap.size 0 z.toList := fun j v hj => by
    rw [cells_of_block hb2, Nat.zero_add, ← Array.getElem?_toList]; exact hj
  obtain ⟨hBs, c, hc, hcs⟩ := HE2.out.block (e := n) (by omega)
  have hth : w2.there s (n % 64 * 45) z.size := there_of_block hc _ _ (by omega)
  have HE3 : Hid (Ent2 B (w2.setCells s (n % 64 * 45) z.toList) Tb (n + 1) (fun x => if x = n then 0 else tk x) n s) := by
    have h3 := Ent2.setCells (e := n) (by omega) z.toList 0 w2 HE2.out (by simp [hzs])
    rw [Nat.add_zero] at h3
    exact h3
  have HX3 : Hid (Ext B w (w2.setCells s (n % 64 * 45) z.toList)) := ext_setCells hBs _ _ _ c (HX1.out.trans HX2.out) hc
  have hi30 : (Try.prog.info? 30).map (·.size) = some z.size := by rw [info30, hzs]
  have hi30' : (Try.prog.info? 30).map (·.size) = some z.toList.length := by rw [info30]; simp [hzs]
  clear HP HP1 HX1 hb1 hB1 hb2 HP2 HE2 HX2 hc hcs c
  go_upto_region 2 with fail
  refine wp_region_list ?_
  refine wpList_step (fun K hK => wp_of_run ⟨some 16, .move (.tmp 8), 44, "", #[], none⟩ rfl rfl (fun _ => rfl) (.pointer (some ⟨s, n % 64 * 45, none⟩)) w2 rfl (hK _ _ ?_))
  clear hK K
  simp only [Act.put, List.setIfInBounds_toArray, List.set_cons_zero, List.set_cons_succ]
  refine wpList_load_mid rfl 30 (.tmp 4) rfl w.heap.size 0 rfl z.toList _ hrg Try.underlying30 rfl hi30' ?_
  simp only [Act.put, List.setIfInBounds_toArray, List.set_cons_zero, List.set_cons_succ]
  refine wpList_step (fun K hK => wp_of_run ⟨some 18, .nilCheck (.tmp 16), 0, "", #[], none⟩ rfl rfl (fun _ => rfl) (.pointer (some ⟨s, n % 64 * 45, none⟩)) w2 rfl (hK _ _ ?_))
  clear hK K
  simp only [Act.put, List.setIfInBounds_toArray, List.set_cons_zero, List.set_cons_succ]
  refine wpList_step (fun K hK => wp_of_run ⟨some 19, .fieldAddr 54 (.tmp 18) 0, 0, "", #[], none⟩ rfl rfl (fun _ => rfl) (.pointer (some ⟨s, n % 64 * 45, none⟩)) w2 (by go_simp) (hK _ _ ?_))
  clear hK K
  simp only [Act.put, List.setIfInBounds_toArray, List.set_cons_zero, List.set_cons_succ]
  refine wpList_store_mid rfl 30 (.tmp 19) (.tmp 17) rfl s (n % 64 * 45) z rfl (by simp [Act.eval]) hth hi30 hz1 ?_
  simp only [Act.put, List.setIfInBounds_toArray, List.set_cons_zero, List.set_cons_succ]
  refine wpList_nil ?_
  clear hth hrg
  generalize w2.setCells s (n % 64 * 45) z.toList = w3 at HE3 HX3 ⊢
  have hlt : n < n + 1 := by omega
  obtain ⟨_, c3, hc3, hcs3⟩ := HE3.out.block hlt
  obtain ⟨u1, hu1⟩ : ∃ u, w3.cell? ⟨s, n % 64 * 45 + 41, none⟩ = some u := by rw [cells_of_block hc3]; exact ⟨_, Array.getElem?_eq_getElem (by omega)⟩
  obtain ⟨u2, hu2⟩ : ∃ u, w3.cell? ⟨s, n % 64 * 45 + 37, none⟩ = some u := by rw [cells_of_block hc3]; exact ⟨_, Array.getElem?_eq_getElem (by omega)⟩
  have hf1 := free_of_block hc3 (n % 64 * 45 + 41)
  have hf2 := free_of_block hc3 (n % 64 * 45 + 37)
  have H4 := hid (((HE3.out.set hlt 41 (by omega) (by omega) (.int .u32 ((n : Int) + 1))).set hlt 37 (by omega) (by omega) (.int .u32 gen)).pool)
  have X4 := hid (((HX3.out.set (o := n % 64 * 45 + 41) hBs hc3 (by decide) (.int .u32 ((n : Int) + 1))).set (o := n % 64 * 45 + 37) hBs (heapSame hc3 _) (by decide) (.int .u32 gen)))
  clear hc3 hcs3 HE3 HX3
  go_wp2
  go_ret
  exact ⟨rfl, H4, X4⟩
end Go.Proofs.Qxb6608542a
