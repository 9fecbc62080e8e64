/-
  (*reassembly).add, once the message is whole: the fragment's bytes are written over raw.
-/
import Derived.Test.Qxb6604433aAdd
namespace Go.Proofs.Qxb6604433a
open Go.RowKit Go.WideShapes
set_option linter.unusedVariables false
set_option linter.unusedSimpArgs false
attribute [local go_sem ↓] Go.wp_at_zero Go.wp_at_succ

theorem slice_from' (N c l : Nat) (hl : l ≤ c) (x : Int) (hx : x = l) : ∃ dp, (l < c → dp = some ⟨N, l, none⟩) ∧ ∀ w, (Instr.sliceAt 22 (.slice (some ⟨N, 0, none⟩) c c) (some (.int .i64 x)) none none).run Try.prog w = .ok (.slice dp (c - l) (c - l)) w := by
  by_cases h : l < c
  · exact ⟨_, fun _ => rfl, fun w => slice_from N c l h x hx w⟩
  · have e : l = c := by omega
    subst e
    subst hx
    refine ⟨some ⟨N, 0, none⟩, fun h => absurd h (Nat.lt_irrefl _), fun w => ?_⟩
    have hs : (sizeOf 5).run Try.prog w = .ok 1 w := by kernel_rfl
    simp [Instr.sliceAt, run_underlying Try.underlying22, Instr.slice, Instr.sliceBounds, run_sliceBound, hs, add_plain]

set_option maxRecDepth 100000 in
set_option maxHeartbeats 1000000 in
theorem add_whole (w : World) (B r q N L off ln c : Nat) (typ seq mt ms ml : Int) (a : Option Addr) (rv : Value) (zs body : List Int)
    (hW : Whole w B r N typ seq L body) (hq : w.heap[q]? = some (.cells (mcells mt ml ms off (.slice a ln c) rv).toArray 77 (0, 0))) (hat : At .u8 w a zs) (hzl : zs.length = ln) (hlen : off + ln ≤ L) (hL : L ≤ 131072) :
    Calls Try.prog 52 #[.pointer (some ⟨r, 0, none⟩), .pointer (some ⟨q, 0, none⟩)] w fun e w' => e = .returned (.tuple #[]) ∧ Whole w' B r N typ seq L (splice body off zs) ∧ Below B w w' := by
  obtain ⟨r5, -⟩ := block_cell hW.head 5 (by simp [rcells])
  obtain ⟨q3, -⟩ := block_cell hq 3 (by simp [mcells])
  obtain ⟨q4, -⟩ := block_cell hq 4 (by simp [mcells])
  simp only [rcells, mcells, List.getD_eq_getElem?_getD, List.getElem?_cons_zero, List.getElem?_cons_succ, Option.getD_some] at r5 q3 q4
  have hnq := fun (w : World) (a : Option Addr) (n c : Nat) => run_neq_slice_nil_any (P := Try.prog) w 22 5 a n c 0 0 Try.underlying22
  have Hz : Hid (zs.length = ln) := hzl
  have hrN : r ≠ N := cells_ne_type hW.head hW.raw (by decide)
  have hqN : q ≠ N := cells_ne_type hq hW.raw (by decide)
  have hw0 : IntKind.i64.wrap (off : Int) = (off : Int) := wraps_i64 _ (by omega) (by omega)
  have hw2 : IntKind.i64.wrap (12 + (off : Int)) = 12 + (off : Int) := wraps_i64 _ (by omega) (by omega)
  obtain ⟨dp, hdp, hsl⟩ := slice_from' N (12 + L) (12 + off) (by omega) (12 + (off : Int)) (by omega)
  clear hzl hq
  go_enter Try.func52, Try.ntmps52
  go_wp2
  go_region_held3 (fun w' => w'.cell? ⟨r, 5, none⟩ = some (.slice (some ⟨N, 0, none⟩) (12 + L) (12 + L)) ∧ w'.cell? ⟨q, 3, none⟩ = some (.int .u32 off) ∧ w'.cell? ⟨q, 4, none⟩ = some (.slice a ln c)) (go_keep)
    ((refine step_copy_ex rfl (.tmp 26) (.tmp 30) 22 22 rfl 5 Try.underlying22 Try.size5 _ _ _ _ _ _ rfl rfl N (12 + off) (ints .u8 (hdr typ L seq ++ body)) 5 hW.raw (ints .u8 zs) ln (by rw [length_ints, Hz.out]) (by rw [show 12 + L - (12 + off) = L - off from by omega]; exact (Nat.min_eq_left (by omega)).symm) (fun hp => ⟨hdp (by rw [length_ints, Hz.out] at hp; omega), hat.src hp⟩) (by rw [length_ints, List.length_append, length_hdr, hW.len]; omega) (ints_oneCell _ _) ?_; intro w5 hb5 hg5; have k5 := cell_grown hg5 r5 hrN; have k3 := cell_grown hg5 q3 hqN; have k4 := cell_grown hg5 q4 hqN))
  go_wp2
  refine bodyPost_ret (results_none rfl _ _ _) rfl ?_
  have hb6 := hb5.out
  rw [show 12 + off = (hdr typ L seq).length + off from rfl, splice_behind] at hb6
  have hW0 : w.drew.heap[r]? = some (.cells (rcells typ seq L (.map none) 0 (.slice (some ⟨N, 0, none⟩) (12 + L) (12 + L))).toArray 83 (0, 0)) := hW.head
  refine ⟨rfl, ⟨block_grown hg5 hW0 (fun e => by cases e; exact hrN rfl), hb6, ?_, hW.hr, hW.hN⟩, ?_⟩
  · rw [length_splice _ _ _ (by rw [Hz.out, hW.len]; omega)]; exact hW.len
  · exact ((Below.refl B w).drew).grown hg5 (by have := block_lt hW.head; have := hW.hr; show B ≤ w.heap.size; omega) (fun k hk => by cases hk; exact hW.hN)

end Go.Proofs.Qxb6604433a
