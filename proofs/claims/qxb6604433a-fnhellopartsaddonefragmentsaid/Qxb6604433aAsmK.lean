/-
  assemble, with the stronger word on what stays.
-/
import Derived.Test.Qxb6604433aAsm
import Derived.Test.Qxb6604433aTailK
namespace Go.Proofs.Qxb6604433a.K
open Go.RowKit Go.WideShapes
set_option linter.unusedVariables false
set_option linter.unusedSimpArgs false
attribute [local go_sem ↓] Go.wp_at_zero Go.wp_at_succ

/-- While raw is being written: row N holds 'row'; head, map and blocks as they were. -/
structure Mid (w wx : World) (B r mb n N : Nat) (typ seq : Int) (L : Nat) (F : Nat → Option Nat) (H : Nat → Nat) (Dt : Nat → List Int) (row : List Value) : Prop where
  head : wx.heap[r]? = some (.cells (rcells typ seq L (.map (some mb)) 0 (.slice (some ⟨N, 0, none⟩) (12 + L) (12 + L))).toArray 83 (0, 0))
  hr : B ≤ r
  hN : B ≤ N
  raw : wx.heap[N]? = some (.cells row.toArray 5 (0, 0))
  map : ∃ c f, PMap wx 27 mb n c f ∧ ∀ i, f (key32 i) = F i
  blk : ∀ i b, F i = some b → wx.heap[b]? = some (.cells (bcells (H i) (Dt i)).toArray 114 (0, 0)) ∧ (Dt i).length = 64
  bel : Below B w wx

theorem Mid.wrote {w wx w' : World} {B r mb n N : Nat} {typ seq : Int} {L : Nat} {F : Nat → Option Nat} {H : Nat → Nat} {Dt : Nat → List Int} {row row' : List Value} (h : Mid w wx B r mb n N typ seq L F H Dt row) (hg : wx.grownBy w' (some N)) (hb : w'.heap[N]? = some (.cells row'.toArray 5 (0, 0))) : Mid w w' B r mb n N typ seq L F H Dt row' := by
  obtain ⟨c, f, h1, h2⟩ := h.map
  refine ⟨block_grown hg h.head (fun e => by cases e; exact cells_ne_type h.head h.raw (by decide) rfl), h.hr, h.hN, hb, ⟨c, f, h1.kept hg (fun e => by cases e; exact map_ne_cells h1 h.raw rfl), h2⟩, fun i b hi => ?_, ?_⟩
  · obtain ⟨q1, q2⟩ := h.blk i b hi
    exact ⟨block_grown hg q1 (fun e => by cases e; exact cells_ne_type q1 h.raw (by decide) rfl), q2⟩
  · exact h.bel.grown hg (by have := block_lt h.raw; have := h.hN; omega) (fun k hk => by cases hk; exact h.hN) (fun k hk => by cases hk; exact soft_of h.raw (by decide) (by decide))

theorem Mid.drew {w wx : World} {B r mb n N : Nat} {typ seq : Int} {L : Nat} {F : Nat → Option Nat} {H : Nat → Nat} {Dt : Nat → List Int} {row : List Value} (h : Mid w wx B r mb n N typ seq L F H Dt row) (q : Nat) : Mid w (wx.drewN q) B r mb n N typ seq L F H Dt row :=
  ⟨h.head, h.hr, h.hN, h.raw, h.map, h.blk, h.bel.drewN q⟩

theorem part_mid {w : World} {B r mb n : Nat} {typ seq : Int} {L : Nat} {F : Nat → Option Nat} {H : Nat → Nat} {Dt : Nat → List Int} (h : Part w B r mb n typ seq L 0 F H Dt) :
    Mid w ((w.setCell ⟨r, 5, none⟩ (.slice (some ⟨w.heap.size, 0, none⟩) (12 + L) (12 + L))).alloc (.cells (zeros .u8 (12 + L)).toArray 5)) B r mb n w.heap.size typ seq L F H Dt (zeros .u8 (12 + L)) := by
  obtain ⟨c, f, h1, h2⟩ := h.map
  have hg : w.grownBy (w.setCell ⟨r, 5, none⟩ (.slice (some ⟨w.heap.size, 0, none⟩) (12 + L) (12 + L))) (some r) := ⟨rfl, rfl, rfl, by simp [World.setCell], fun k _ hk => Go.RowKit.Below.heap_setCell _ _ _ _ (fun e => hk (by rw [e]))⟩
  have hsz : (w.setCell ⟨r, 5, none⟩ (.slice (some ⟨w.heap.size, 0, none⟩) (12 + L) (12 + L))).heap.size = w.heap.size := by simp [World.setCell]
  have hhead := block_set h.head 5 (.slice (some ⟨w.heap.size, 0, none⟩) (12 + L) (12 + L))
  have hBs : B ≤ w.heap.size := by have := h.hr; have := block_lt h.head; omega
  refine ⟨heap_alloc_old hhead _, h.hr, hBs, ?_, ⟨c, f, (h1.kept hg (fun e => ?_)).kept (World.grownBy_alloc _ _ none) (by simp), h2⟩, fun i b hi => ?_, ?_⟩
  · have := heap_alloc_new (w.setCell ⟨r, 5, none⟩ (.slice (some ⟨w.heap.size, 0, none⟩) (12 + L) (12 + L))) (.cells (zeros .u8 (12 + L)).toArray 5)
    rw [hsz] at this
    exact this
  · cases e
    exact map_ne_cells h1 h.head rfl
  · obtain ⟨q1, q2, q3, _⟩ := h.blk i b hi
    exact ⟨heap_alloc_old (block_grown hg q2 (fun e => by cases e; exact cells_ne_type h.head q2 (by decide) rfl)) _, q3⟩
  · exact ((Below.refl _ _).setCell (p := ⟨r, 5, none⟩) h.hr (soft_of h.head (by decide) (by decide)) _).alloc (by rw [hsz]; exact hBs) _

theorem Mid.ranged {w wx w' : World} {B r mb n N : Nat} {typ seq : Int} {L : Nat} {F : Nat → Option Nat} {H : Nat → Nat} {Dt : Nat → List Int} {row : List Value} (h : Mid w wx B r mb n N typ seq L F H Dt row) (hg : wx.grownBy w' none) : Mid w w' B r mb n N typ seq L F H Dt row := by
  obtain ⟨c, f, h1, h2⟩ := h.map
  refine ⟨block_grown hg h.head (by simp), h.hr, h.hN, block_grown hg h.raw (by simp), ⟨c, f, h1.kept hg (by simp), h2⟩, fun i b hi => ?_, ?_⟩
  · obtain ⟨q1, q2⟩ := h.blk i b hi
    exact ⟨block_grown hg q1 (by simp), q2⟩
  · exact h.bel.grown hg (by have := block_lt h.raw; have := h.hN; omega) (fun k hk => by cases hk) (fun k hk => by cases hk)

theorem Mid.stepped {w wx w' : World} {B r mb n N it : Nat} {typ seq : Int} {L : Nat} {F : Nat → Option Nat} {H : Nat → Nat} {Dt : Nat → List Int} {row : List Value} {D : DataW Unit} {left : Lit → Bool} {cnt : Nat} (h : Mid w wx B r mb n N typ seq L F H Dt row) (hrg : wx.ranges Try.prog 27 ptrElem mb it n D left cnt) (hB : B ≤ it) (hg : wx.grownBy w' (some it)) : Mid w w' B r mb n N typ seq L F H Dt row := by
  obtain ⟨o, ho, hno⟩ := iter_block hrg
  obtain ⟨c, f, h1, h2⟩ := h.map
  have ne : ∀ g cs t f, wx.heap[g]? = some (.cells cs t f) → some g ≠ some it := by
    intro g cs t f hg e
    cases e
    rw [ho] at hg
    cases hg
    exact hno _ _ _ rfl
  refine ⟨block_grown hg h.head (ne _ _ _ _ h.head), h.hr, h.hN, block_grown hg h.raw (ne _ _ _ _ h.raw), ⟨c, f, h1.kept hg (fun e => by cases e; exact hrg.ne rfl), h2⟩, fun i b hi => ?_, ?_⟩
  · obtain ⟨q1, q2⟩ := h.blk i b hi
    exact ⟨block_grown hg q1 (ne _ _ _ _ q1), q2⟩
  · exact h.bel.grown hg (by have := block_lt h.raw; have := h.hN; omega) (fun k hk => by cases hk; exact hB) (fun k hk => by cases hk; exact fun cs t f h' => absurd rfl (ne _ _ _ _ h'))

set_option maxRecDepth 100000 in
set_option maxHeartbeats 1000000 in
theorem asm_any (w : World) (B r mb n L : Nat) (typ seq : Int) (F : Nat → Option Nat) (H : Nat → Nat) (Dt : Nat → List Int) (ht0 : 0 ≤ typ) (ht1 : typ ≤ 255) (hs0 : 0 ≤ seq) (hs1 : seq ≤ 65535)
    (hP : Part w B r mb n typ seq L 0 F H Dt) (hL : L ≤ 131072) (hall : ∀ o, o < L → cov H o = true) (hbd : ∀ i b, F i = some b → 64 * i < L) :
    Calls Try.prog 59 #[.pointer (some ⟨r, 0, none⟩)] w fun e w' => e = .returned (.tuple #[]) ∧ ∃ N, Whole w' B r N typ seq L ((List.range L).map (dat Dt)) ∧ Below B w w' := by
  have hmk := fun w => make_bytes' (12 + (L : Int)) (12 + L) (by omega) (by omega) w
  obtain ⟨c2, -⟩ := block_cell hP.head 2 (by simp [rcells])
  obtain ⟨c5, f5⟩ := block_cell hP.head 5 (by simp [rcells])
  simp only [rcells, List.getD_eq_getElem?_getD, List.getElem?_cons_zero, List.getElem?_cons_succ, Option.getD_some] at c2 c5
  have hrl := block_lt hP.head
  have hM0 := part_mid hP
  have HF := hP.bare
  have HFb : Hid (∀ i b, F i = some b → H i < 18446744073709551616) := fun i b h => (hP.blk i b h).2.2.2
  clear hP
  go_enter Try.func59, Try.ntmps59
  go_wp2
  obtain ⟨wA, hwA⟩ : ∃ W, W = (w.setCell ⟨r, 5, none⟩ (.slice (some ⟨w.heap.size, 0, none⟩) (12 + L) (12 + L))).alloc (.cells (zeros .u8 (12 + L)).toArray 5) := ⟨_, rfl⟩
  rw [← hwA] at hM0 ⊢
  clear hwA c2 c5 f5
  obtain ⟨N, hN⟩ : ∃ N, N = w.heap.size := ⟨_, rfl⟩
  rw [← hN] at hM0 ⊢
  have HN : Hid (N = w.heap.size) := hN
  clear hN
  obtain ⟨c0, -⟩ := block_cell hM0.head 0 (by simp [rcells])
  obtain ⟨c1, -⟩ := block_cell hM0.head 1 (by simp [rcells])
  obtain ⟨c2, -⟩ := block_cell hM0.head 2 (by simp [rcells])
  obtain ⟨c5, -⟩ := block_cell hM0.head 5 (by simp [rcells])
  simp only [rcells, List.getD_eq_getElem?_getD, List.getElem?_cons_zero, List.getElem?_cons_succ, Option.getD_some] at c0 c1 c2 c5
  have hrN : r ≠ N := cells_ne_type hM0.head hM0.raw (by decide)
  have hb0 : (0 : Int) ≤ 12 + (L : Int) := by omega
  have hsl0 := fun w => slice_zero N (12 + L) w
  go_region_held3 (fun w' => w'.cell? ⟨r, 0, none⟩ = some (.int .u8 typ) ∧ w'.cell? ⟨r, 1, none⟩ = some (.int .u16 seq) ∧ w'.cell? ⟨r, 2, none⟩ = some (.int .u32 L) ∧ w'.cell? ⟨r, 5, none⟩ = some (.slice (some ⟨N, 0, none⟩) (12 + L) (12 + L))) (go_keep)
    ((go_at_call 61; refine (head_any N (12 + L) (zeros .u8 (12 + L)) typ L seq wA.drew ht0 ht1 (by omega) (by omega) hs0 hs1 hM0.raw (length_zeros _ _) (by omega)).mono ?_; rintro e w2 ⟨rfl, hb2, hg2⟩; have hM2 := (hM0.drew 1).wrote hg2 hb2; have d0 := cell_grown hg2 c0 hrN; have d1 := cell_grown hg2 c1 hrN; have d2 := cell_grown hg2 c2 hrN; have d5 := cell_grown hg2 c5 hrN))
  obtain ⟨c3, -⟩ := block_cell hM2.head 3 (by simp [rcells])
  simp only [rcells, List.getD_eq_getElem?_getD, List.getElem?_cons_zero, List.getElem?_cons_succ, Option.getD_some] at c3
  obtain ⟨cc, ff, ⟨D, hown, hDs, hD⟩, hff⟩ := hM2.map
  obtain ⟨w3, hrange, hrg0, hg0, hsz0⟩ := hown.range law27 Try.underlying81
  have hM3 := hM2.ranged hg0
  rw [head_row typ seq L] at hM3
  clear hM0 hb2 hg2 d0 d1 d2 d5 c0 c1 c2 c5
  go_wp2

  have hBit : B ≤ w2.heap.size := by have := hM2.hN; have := block_lt hM2.raw; omega
  have hmN : mb ≠ N := map_ne_cells ⟨D, hown, hDs, hD⟩ hM2.raw
  have hitN : w2.heap.size ≠ N := by have := block_lt hM2.raw; omega
  go_loopw [2] (fun _ wr => ∃ left cnt bs, Hid (wr.ranges Try.prog 27 ptrElem mb w2.heap.size n D left cnt) ∧ Hid (Mid w wr B r mb n N typ seq L F H Dt (ints .u8 (hdr typ L seq ++ bs))) ∧ Hid (bs.length = L ∧ ∀ o, o < L → left (key32 (o / 64)) = true ∨ bs.getD o 0 = dat Dt o)) (fun _ wr => wr.rangeLeft mb w2.heap.size)
  case atStart => exact ⟨_, _, List.replicate L 0, hrg0, hM3, by simp, fun o ho => .inl (starts hall ho hff hD HF)⟩
  case round =>
    obtain ⟨left, cnt, bs, HR, HM, HB⟩ := hrel
    rcases HR.out.next law27 0 with ⟨h0, hl, hrun⟩ | ⟨key, v, kl, y, w4, cnt', hkey, hlk, hv, hat, hrun, hrg, hlt, hgr, hsz, hen⟩
    · obtain ⟨q3, f3⟩ := block_cell HM.out.head 3 (by simp [rcells])
      go_wp2
      go_end0
      refine ⟨rfl, N, ⟨block_set HM.out.head 3 (.map none), ?_, by simp, HM.out.hr, HM.out.hN⟩, HM.out.bel.setCell (p := ⟨r, 3, none⟩) HM.out.hr (soft_of HM.out.head (by decide) (by decide)) _⟩
      rw [Go.RowKit.Below.heap_setCell _ _ _ _ (Ne.symm hrN), HM.out.raw, filled HB.out hl]
    · obtain ⟨x, rfl, rfl, hwx⟩ := Maps.keyOf_int_inv Try.underlying27 hkey
      obtain ⟨i, b, rfl, hFi, rfl⟩ := entry_is hwx hv hat hff hD
      have hi64 := hbd i b hFi
      have hM4 := HM.out.stepped HR.out hBit hgr
      obtain ⟨e5, -⟩ := block_cell hM4.head 5 (by simp [rcells])
      simp only [rcells, List.getD_eq_getElem?_getD, List.getElem?_cons_zero, List.getElem?_cons_succ, Option.getD_some] at e5
      have hsf := fun w => slice_from N (12 + L) (12 + 64 * i) (by omega) (12 + (i : Int) * 64) (by omega) w
      have hsa := fun w => slice_all b w
      have hi2 : i < 2048 := by omega
      have hw0 : IntKind.i64.wrap (i : Int) = (i : Int) := wraps_i64 _ (by omega) (by omega)
      have hw1 : IntKind.i64.wrap ((i : Int) * 64) = (i : Int) * 64 := wraps_i64 _ (by omega) (by omega)
      have hw2 : IntKind.i64.wrap (12 + (i : Int) * 64) = 12 + (i : Int) * 64 := wraps_i64 _ (by omega) (by omega)
      obtain ⟨m, hm⟩ : ∃ m, m = min 64 (L - 64 * i) := ⟨_, rfl⟩
      have HRG : Hid (w4.ranges Try.prog 27 ptrElem mb w2.heap.size n D (fun z => left z && !z.sameKey (.int .u32 (i : Int))) cnt') := hrg
      clear hrg
      go_wp2
      go_region_held3 (fun w' => w'.cell? ⟨r, 5, none⟩ = some (.slice (some ⟨N, 0, none⟩) (12 + L) (12 + L))) (go_keep)
        ((refine step_copy_ex rfl (.tmp 54) (.tmp 58) 22 22 rfl 5 Try.underlying22 Try.size5 _ _ _ _ _ _ rfl rfl N (12 + 64 * i) (ints .u8 (hdr typ L seq ++ bs)) 5 hM4.raw (ints .u8 ((Dt i).take m)) m (by rw [length_ints, List.length_take, (hM4.blk i b hFi).2]; omega) (by rw [show 12 + L - (12 + 64 * i) = L - 64 * i from by omega]; exact hm) (fun hp => ⟨rfl, ((src_block (hM4.blk i b hFi).1).take8 m).src hp⟩) (by rw [length_ints, List.length_append, length_hdr, HB.out.1]; omega) (ints_oneCell _ _) ?_; intro w5 hb5 hg5; have k5 := cell_grown hg5 e5 hrN))
      have hM5 := (hM4.drew 1).wrote hg5 hb5.out
      rw [show 12 + 64 * i = (hdr typ L seq).length + 64 * i from rfl, splice_behind] at hM5
      have hrg5 := World.ranges.kept (show (w4.drewN 1).ranges Try.prog 27 ptrElem mb w2.heap.size n D (fun z => left z && !z.sameKey (.int .u32 (i : Int))) cnt' from HRG.out) hg5 (fun e => by cases e; exact hmN rfl) (fun e => by cases e; exact hitN rfl)
      have HB' := fills HB.out (hM4.blk i b hFi).2 hm
      go_wp2
      go_roundw
      case rel => exact ⟨_, cnt', _, hrg5, hM5, HB'⟩
      case measure => rw [hrg5.left_eq, HR.out.left_eq]; exact hlt

end Go.Proofs.Qxb6604433a.K
