/-
  newReassembly, matches.
-/
import Derived.Test.Qxb6604433aAddW
namespace Go.Proofs.Qxb6604433a
open Go.RowKit Go.WideShapes
set_option linter.unusedVariables false
set_option linter.unusedSimpArgs false
attribute [local go_sem ↓] Go.wp_at_zero Go.wp_at_succ

theorem new_partA (w : World) (typ seq : Int) (L k : Nat) : PartA (((w.alloc (.map #[] 0)).alloc (.cells #[.int .u8 typ, .int .u16 seq, .int .u32 L, .map (some w.heap.size), .int .i64 L, .slice none 0 0] 83)).drewN k) w.heap.size (w.heap.size + 1) typ seq L 0 L (fun _ => false) (fun _ => 0) := by
  refine ⟨w.heap.size, 0, fun _ => none, fun _ => 0, fun _ => [], Nat.le_refl _, ⟨?_, by omega, Nat.le_refl _, ⟨0, fun _ => none, ?_, fun _ => rfl⟩, fun i b h => (by cases h), fun i j b h => (by cases h), fun _ _ => rfl⟩, fun o => (by simp [cov]), fun o h => (by cases h), fun i b h => (by cases h), fun o h => (by cases h), ?_⟩
  · have := heap_alloc_new (w.alloc (.map #[] 0)) (.cells #[.int .u8 typ, .int .u16 seq, .int .u32 L, .map (some w.heap.size), .int .i64 L, .slice none 0 0] 83)
    rw [World.size_alloc] at this
    exact this
  · have h1 := (PMap.made w 27).kept (World.grownBy_alloc _ (.cells #[.int .u8 typ, .int .u16 seq, .int .u32 L, .map (some w.heap.size), .int .i64 L, .slice none 0 0] 83) none) (by simp)
    exact h1
  · have : (List.range L).countP (fun _ => false) = 0 := by simp
    rw [this]; simp

set_option maxRecDepth 100000 in
set_option maxHeartbeats 1000000 in
theorem new_any (w : World) (q L : Nat) (typ seq off : Int) (bv rv : Value) (hL : L ≤ 4294967295) (hq : w.heap[q]? = some (.cells (mcells typ L seq off bv rv).toArray 77 (0, 0))) :
    Calls Try.prog 51 #[.pointer (some ⟨q, 0, none⟩)] w fun e w' => ∃ rr, e = .returned (.pointer (some ⟨rr, 0, none⟩)) ∧ PartA w' w.heap.size rr typ seq L 0 L (fun _ => false) (fun _ => 0) ∧ Below w.heap.size w w' := by
  obtain ⟨q0, -⟩ := block_cell hq 0 (by simp [mcells])
  obtain ⟨q1, -⟩ := block_cell hq 1 (by simp [mcells])
  obtain ⟨q2, -⟩ := block_cell hq 2 (by simp [mcells])
  simp only [mcells, List.getD_eq_getElem?_getD, List.getElem?_cons_zero, List.getElem?_cons_succ, Option.getD_some] at q0 q1 q2
  have hmm := @run_makeMap Try.prog
  have hw0 : IntKind.i64.wrap (L : Int) = (L : Int) := wraps_i64 _ (by omega) (by omega)
  have hql := block_lt hq
  clear hq
  have n0 := World.new_ne w ⟨q, 0, none⟩ q0
  have n1 := World.new_ne w ⟨q, 1, none⟩ q1
  have n2 := World.new_ne w ⟨q, 2, none⟩ q2
  go_enter Try.func51, Try.ntmps51
  go_wp2
  go_region_held3 (fun w' => w'.cell? ⟨q, 0, none⟩ = some (.int .u8 typ) ∧ w'.cell? ⟨q, 1, none⟩ = some (.int .u32 L) ∧ w'.cell? ⟨q, 2, none⟩ = some (.int .u16 seq)) (go_keep) (fail)
  go_wp2
  go_ret
  exact ⟨_, rfl, new_partA w typ seq L 1, (((Below.refl _ _).alloc (Nat.le_refl _) _).alloc (by simp) _).drew⟩

set_option maxRecDepth 100000 in
set_option maxHeartbeats 1000000 in
theorem matches_yes (w : World) (q r : Nat) (typ seq len miss off : Int) (mv raw bv rv : Value) (hr : w.heap[r]? = some (.cells (rcells typ seq len mv miss raw).toArray 83 (0, 0))) (hq : w.heap[q]? = some (.cells (mcells typ len seq off bv rv).toArray 77 (0, 0))) :
    Calls Try.prog 49 #[.pointer (some ⟨r, 0, none⟩), .pointer (some ⟨q, 0, none⟩)] w fun e w' => e = .returned (.bool true) ∧ ∃ k, w' = w.drewN k := by
  obtain ⟨q0, -⟩ := block_cell hq 0 (by simp [mcells])
  obtain ⟨q1, -⟩ := block_cell hq 1 (by simp [mcells])
  obtain ⟨q2, -⟩ := block_cell hq 2 (by simp [mcells])
  obtain ⟨r0, -⟩ := block_cell hr 0 (by simp [rcells])
  obtain ⟨r1, -⟩ := block_cell hr 1 (by simp [rcells])
  obtain ⟨r2, -⟩ := block_cell hr 2 (by simp [rcells])
  simp only [mcells, rcells, List.getD_eq_getElem?_getD, List.getElem?_cons_zero, List.getElem?_cons_succ, Option.getD_some] at q0 q1 q2 r0 r1 r2
  clear hq hr
  go_enter Try.func49, Try.ntmps49
  go_wp2
  go_quiet (fail)
  go_wp2
  go_ret
  exact ⟨rfl, _, rfl⟩

end Go.Proofs.Qxb6604433a
