import Derived.Test.Qxb6604433aBytes
namespace Go.Proofs.Qxb6604433a
open Go.RowKit Go.WideShapes
set_option linter.unusedVariables false
set_option linter.unusedSimpArgs false

theorem make_bytes' (L : Int) (n : Nat) (hL : L = n) (hn : n ≤ 2097152) (w : World) :
    (Instr.makeSlice 22 (.int .i64 L) (.int .i64 L)).run Try.prog w = .ok (.slice (some ⟨w.heap.size, 0, none⟩) n n) (w.alloc (.cells (zeros .u8 n).toArray 5)) := by
  subst hL
  exact make_bytes n hn w

theorem copy_zero (w : World) (dp sp : Option Addr) (dLen dCap sCap : Nat) :
    (Builtin.copy_ #[22, 22] 3 #[.slice dp dLen dCap, .slice sp 0 sCap]).run Try.prog w = .ok (.int .i64 0) w :=
  run_copy_none (P := Try.prog) w 22 22 3 5 dp sp dLen dCap 0 sCap Try.underlying22 Try.size5 (by simp)

theorem splice_two (xs ys : List Int) (n m : Nat) (hx : xs.length = n) (hy : ys.length = m) :
    splice (splice (zeros .u8 (n + m)) 0 (ints .u8 xs)) n (ints .u8 ys) = ints .u8 (xs ++ ys) := by
  subst hx; subst hy
  simp [splice, ints, zeros]

theorem nil_of_length_zero {ys : List Int} (h : ys.length = 0) : ys = [] := List.eq_nil_of_length_eq_zero h

theorem Below.cells_at {k : IntKind} {w w1 : World} {b : Option Addr} {ys : List Int} (h2 : At k w b ys) (hb1 : Below w.heap.size w w1) : At k w1 b ys := h2.below hb1

set_option maxRecDepth 100000 in
set_option maxHeartbeats 400000 in
theorem zzCat_any (a b : Option Addr) (n m c d : Nat) (xs ys : List Int) (w : World) (hx : xs.length = n) (hy : ys.length = m) (hn : n ≤ 1048576) (hm : m ≤ 1048576) (h1 : At .u8 w a xs) (h2 : At .u8 w b ys) :
    Calls Try.prog 22 #[.slice a n c, .slice b m d] w fun e w' => e = .returned (.slice (some ⟨w.heap.size, 0, none⟩) (n + m) (n + m)) ∧ w'.heap[w.heap.size]? = some (.cells (ints .u8 (xs ++ ys)).toArray 5 (0, 0)) ∧ Below w.heap.size w w' := by
  have Hx : Hid (xs.length = n) := hx
  have Hy : Hid (ys.length = m) := hy
  clear hx hy
  by_cases hm0 : m = 0
  · subst hm0
    have hmk := fun w => make_bytes n (by omega) w
    have hc0 := fun w dp dLen dCap => copy_zero w dp b dLen dCap d
    obtain rfl := nil_of_length_zero Hy.out
    obtain ⟨w1, hrun, hg1, hgr, hs1⟩ := copy_ex (P := Try.prog) (w.alloc (.cells (zeros .u8 n).toArray 5)) 22 22 3 5 Try.underlying22 Try.size5 (some ⟨w.heap.size, 0, none⟩) a n n n c w.heap.size 0 (zeros .u8 n) 5
      (heap_alloc_new _ _) (ints .u8 xs) n (by rw [length_ints, Hx.out]) (by simp) (fun hp => ⟨rfl, (h1.below ((Below.refl _ _).alloc (Nat.le_refl _) _)).src hp⟩) (by rw [length_zeros]; omega) (ints_oneCell _ _)
    have hb1 := grown_trans_alloc hgr
    clear hgr
    go_enter Try.func22, Try.ntmps22
    go_wp2
    go_ret
    refine ⟨rfl, ?_, hb1⟩
    rw [hg1.out, splice_all _ _ (by rw [length_ints, length_zeros, Hx.out]), List.append_nil]
  · have hm1 : 0 < m := by omega
    have hmk := fun w => make_bytes' ((n : Int) + (m : Int)) (n + m) (by omega) (by omega) w
    obtain ⟨w1, hrun, hg1, hgr, hs1⟩ := copy_ex (P := Try.prog) (w.alloc (.cells (zeros .u8 (n + m)).toArray 5)) 22 22 3 5 Try.underlying22 Try.size5 (some ⟨w.heap.size, 0, none⟩) a (n + m) (n + m) n c w.heap.size 0 (zeros .u8 (n + m)) 5
      (heap_alloc_new _ _) (ints .u8 xs) n (by rw [length_ints, Hx.out]) (by simp) (fun hp => ⟨rfl, (h1.below ((Below.refl _ _).alloc (Nat.le_refl _) _)).src hp⟩) (by rw [length_zeros]; omega) (ints_oneCell _ _)
    have hb1 := grown_trans_alloc hgr
    have hsz : w.heap.size < w1.heap.size := by have := hgr.size; simp at this; omega
    obtain ⟨w2, hrun2, hg2, hgr2, hs2⟩ := copy_ex (P := Try.prog) w1 22 22 3 5 Try.underlying22 Try.size5 (some ⟨w.heap.size, n, none⟩) b m m m d w.heap.size n (splice (zeros .u8 (n + m)) 0 (ints .u8 xs)) 5
      hg1.out (ints .u8 ys) m (by rw [length_ints, Hy.out]) (by simp) (fun hp => ⟨rfl, (h2.below hb1).src hp⟩)
      (by rw [length_splice _ _ _ (by rw [length_ints, length_zeros, Hx.out]; omega), length_zeros]; omega) (ints_oneCell _ _)
    have hb2 : Below w.heap.size w w2 := hb1.grown hgr2 (by omega) (fun k hk => by cases hk; exact Nat.le_refl _)
    clear hgr hgr2
    go_enter Try.func22, Try.ntmps22
    go_wp2
    go_ret
    refine ⟨rfl, ?_, hb2⟩
    rw [hg2.out, splice_two xs ys n m Hx.out Hy.out]

end Go.Proofs.Qxb6604433a
