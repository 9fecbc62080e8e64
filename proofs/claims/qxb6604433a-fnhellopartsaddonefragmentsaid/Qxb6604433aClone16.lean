import Derived.Test.Qxb6604433aBytes
namespace Go.Proofs.Qxb6604433a
open Go.RowKit Go.WideShapes
set_option linter.unusedVariables false
set_option linter.unusedSimpArgs false

theorem make_u16s (n : Nat) (hn : n ≤ 2097152) (w : World) :
    (Instr.makeSlice 58 (.int .i64 n) (.int .i64 n)).run Try.prog w = .ok (.slice (some ⟨w.heap.size, 0, none⟩) n n) (w.alloc (.cells (zeros .u16 n).toArray 28)) := by
  obtain ⟨i0, hi, hz0, hz1, hz2⟩ := info_parts Try.info28
  have h := run_make w 58 28 i0 (.int .u16 0) Try.underlying58 hi hz0 .i64 .i64 (n : Int) (n : Int) (by omega) (by omega) (by rw [hz2]; omega) (by omega)
  rw [h]
  have e : madeCells (Value.int .u16 0).cells ((n : Int).toNat * i0.size) = (zeros .u16 n).toArray := by
    apply Array.toList_inj.1
    rw [hz1]
    simp only [Int.toNat_natCast, Nat.mul_one]
    exact toList_madeCells_one _ _
  rw [e]
  simp

set_option maxHeartbeats 400000 in
theorem zzClone16_nil (w : World) : Calls Try.prog 37 #[.slice none 0 0] w fun e w' => e = .returned (.slice none 0 0) ∧ w' = w := by
  have hq := fun (w : World) (a : Option Addr) (n c : Nat) => Lib.run_eql_slice_nil (P := Try.prog) w 58 28 a n c 0 0 Try.underlying58
  go_enter Try.func37, Try.ntmps37
  go_wp2
  go_ret
  exact ⟨rfl, rfl⟩

set_option maxRecDepth 100000 in
set_option maxHeartbeats 400000 in
theorem zzClone16_any (x : Addr) (n c : Nat) (zs : List Int) (w : World) (hz : zs.length = n) (hn : n ≤ 2097152) (h : At .u16 w (some x) zs) :
    Calls Try.prog 37 #[.slice (some x) n c] w fun e w' => e = .returned (.slice (some ⟨w.heap.size, 0, none⟩) n n) ∧ w'.heap[w.heap.size]? = some (.cells (ints .u16 zs).toArray 28 (0, 0)) ∧ Below w.heap.size w w' := by
  have hmk := fun w => make_u16s n hn w
  have Hz : Hid (zs.length = n) := hz
  have hq := fun (w : World) (a : Option Addr) (n c : Nat) => Lib.run_eql_slice_nil (P := Try.prog) w 58 28 a n c 0 0 Try.underlying58
  clear hz
  obtain ⟨w1, hrun, hg1, hgr, hs1⟩ := copy_ex (P := Try.prog) (w.alloc (.cells (zeros .u16 n).toArray 28)) 58 58 3 28 Try.underlying58 Try.size28 (some ⟨w.heap.size, 0, none⟩) (some x) n n n c w.heap.size 0 (zeros .u16 n) 28
    (heap_alloc_new _ _) (ints .u16 zs) n (by rw [length_ints, Hz.out]) (by simp) (fun hp => ⟨rfl, (h.below ((Below.refl _ _).alloc (Nat.le_refl _) _)).src hp⟩) (by rw [length_zeros]; omega) (ints_oneCell _ _)
  have hb1 := grown_trans_alloc hgr
  clear hgr
  go_enter Try.func37, Try.ntmps37
  go_wp2
  go_ret
  refine ⟨rfl, ?_, hb1⟩
  rw [hg1.out, splice_all _ _ (by rw [length_ints, length_zeros, Hz.out])]

end Go.Proofs.Qxb6604433a
