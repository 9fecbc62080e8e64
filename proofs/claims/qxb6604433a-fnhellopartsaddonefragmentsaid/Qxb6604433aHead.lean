import Derived.Test.Qxb6604433aApp
namespace Go.Proofs.Qxb6604433a
open Go.RowKit Go.WideShapes
set_option linter.unusedVariables false
set_option linter.unusedSimpArgs false

/-- What an append in place leaves. -/
def AppPost (w : World) (g m cap : Nat) (row : List Value) (e : Ending) (w' : World) : Prop :=
  e = .returned (.slice (some ⟨g, 0, none⟩) m cap) ∧ w'.heap[g]? = some (.cells row.toArray 5 (0, 0)) ∧ w.grownBy w' (some g)

theorem heap_alloc_old {w : World} {g : Nat} {x : Obj} (h : w.heap[g]? = some x) (o : Obj) : (w.alloc o).heap[g]? = some x := by
  rw [Below.heap_alloc _ _ _ (block_lt h)]; exact h

set_option maxRecDepth 100000 in
set_option maxHeartbeats 400000 in
theorem u24_any (g n cap : Nat) (cur : List Value) (l : Int) (w : World) (hl0 : 0 ≤ l) (hl : l ≤ 4294967295) (hg : w.heap[g]? = some (.cells cur.toArray 5 (0, 0))) (hcl : cur.length = cap) (hroom : n + 3 ≤ cap) :
    Calls Try.prog 48 #[.slice (some ⟨g, 0, none⟩) n cap, .int .u32 l] w fun e w' => AppPost w g (n + 3) cap (splice cur n (ints .u8 [l / 65536 % 256, l / 256 % 256, l % 256])) e w' := by
  obtain ⟨w1, hr, hb, hgr⟩ := append_room (w.alloc (.cells #[.int .u8 (l / 65536 % 256), .int .u8 (l / 256 % 256), .int .u8 (l % 256)] 5)) g n cap cur (heap_alloc_old hg _) hcl ⟨w.heap.size, 0, none⟩ 3 3 [l / 65536 % 256, l / 256 % 256, l % 256] rfl
    (At.of_block (t := 5) (f := (0, 0)) (heap_alloc_new _ _)) (by omega) hroom
  have hgr' := (World.grownBy_alloc w (.cells #[.int .u8 (l / 65536 % 256), .int .u8 (l / 256 % 256), .int .u8 (l % 256)] 5) (some g)).trans hgr
  clear hgr hg hcl
  go_enter Try.func48, Try.ntmps48
  go_wp2_with (at_builtin; refine wpList_append_run rfl (.tmp 5) (.tmp 14) 22 rfl rfl _ _ rfl rfl _ _ hr ?_)
  go_ret
  exact ⟨rfl, hb.out, hgr'⟩

set_option maxRecDepth 100000 in
set_option maxHeartbeats 400000 in
theorem u16_any (g n cap : Nat) (cur : List Value) (l : Int) (w : World) (hl0 : 0 ≤ l) (hl : l ≤ 65535) (hg : w.heap[g]? = some (.cells cur.toArray 5 (0, 0))) (hcl : cur.length = cap) (hroom : n + 2 ≤ cap) :
    Calls Try.prog 62 #[.agg #[], .slice (some ⟨g, 0, none⟩) n cap, .int .u16 l] w fun e w' => AppPost w g (n + 2) cap (splice cur n (ints .u8 [l / 256, l % 256])) e w' := by
  obtain ⟨w1, hr, hb, hgr⟩ := append_room ((w.alloc (.cells #[] 118)).alloc (.cells #[.int .u8 (l / 256), .int .u8 (l % 256)] 5)) g n cap cur (heap_alloc_old (heap_alloc_old hg _) _) hcl ⟨w.heap.size + 1, 0, none⟩ 2 2 [l / 256, l % 256] rfl
    (At.of_block (t := 5) (f := (0, 0)) (by have := heap_alloc_new (w.alloc (.cells #[] 118)) (.cells #[.int .u8 (l / 256), .int .u8 (l % 256)] 5); rw [World.size_alloc] at this; exact this)) (by omega) hroom
  have hgr' := (World.grownBy_alloc w (.cells #[] 118) (some g)).trans ((World.grownBy_alloc (w.alloc (.cells #[] 118)) (.cells #[.int .u8 (l / 256), .int .u8 (l % 256)] 5) (some g)).trans hgr)
  clear hgr hg hcl
  go_enter Try.func62, Try.ntmps62
  go_wp2_with (at_builtin; refine wpList_append_run rfl (.tmp 7) (.tmp 13) 22 rfl rfl _ _ rfl rfl _ _ hr ?_)
  go_ret
  exact ⟨rfl, hb.out, hgr'⟩

theorem splice_next {α : Type} (L : List α) (o : Nat) (a b : List α) (k : Nat) (hk : k = o + a.length) (h : o + a.length ≤ L.length) : splice (splice L o a) k b = splice L o (a ++ b) := by
  subst hk
  unfold splice
  have e1 : (L.take o ++ (a ++ L.drop (o + a.length))).take (o + a.length) = L.take o ++ a := by
    rw [← List.append_assoc]
    rw [List.take_append_of_le_length (by simp; omega)]
    apply List.take_of_length_le
    simp
    omega
  have e2 : (L.take o ++ (a ++ L.drop (o + a.length))).drop (o + a.length + b.length) = L.drop (o + (a ++ b).length) := by
    rw [← List.append_assoc, List.drop_append]
    have : (L.take o ++ a).length = o + a.length := by simp; omega
    rw [this, List.drop_eq_nil_of_le (by rw [this]; omega)]
    simp [List.drop_drop]
    congr 1
    omega
  rw [e1, e2]
  simp

theorem length_splice' {α : Type} {L : List α} {o n : Nat} {cs : List α} (hL : L.length = n) (h : o + cs.length ≤ n) : (splice L o cs).length = n := by
  rw [length_splice L o cs (by omega)]; exact hL

set_option maxRecDepth 100000 in
set_option maxHeartbeats 400000 in
theorem head_any (g cap : Nat) (cur : List Value) (t l s : Int) (w : World) (ht0 : 0 ≤ t) (ht : t ≤ 255) (hl0 : 0 ≤ l) (hl : l ≤ 4294967295) (hs0 : 0 ≤ s) (hs : s ≤ 65535) (hg : w.heap[g]? = some (.cells cur.toArray 5 (0, 0))) (hcl : cur.length = cap) (hroom : 12 ≤ cap) :
    Calls Try.prog 61 #[.slice (some ⟨g, 0, none⟩) 0 cap, .int .u8 t, .int .u32 l, .int .u16 s, .int .u32 0, .int .u32 l] w fun e w' => AppPost w g 12 cap (splice cur 0 (ints .u8 (hdr t l s))) e w' := by
  obtain ⟨w1, hr, hb1, hgr⟩ := append_room (w.alloc (.cells #[.int .u8 t] 5)) g 0 cap cur (heap_alloc_old hg _) hcl ⟨w.heap.size, 0, none⟩ 1 1 [t] rfl
    (At.of_block (t := 5) (f := (0, 0)) (heap_alloc_new _ _)) (by omega) (by omega)
  have hg1 := (World.grownBy_alloc w (.cells #[.int .u8 t] 5) (some g)).trans hgr
  have l1 : (splice cur 0 (ints .u8 [t])).length = cap := length_splice' hcl (by simp [ints]; omega)
  have Hcl : Hid (cur.length = cap) := hcl
  have L1 : Hid ((splice cur 0 (ints .u8 [t])).length = cap) := l1
  clear hgr hg hcl l1
  go_enter Try.func61, Try.ntmps61
  go_wp2_with (at_builtin; refine wpList_append_run rfl (.tmp 13) (.tmp 15) 22 rfl rfl _ _ rfl rfl _ _ hr ?_)
  refine (u24_any g 1 cap _ l w1 hl0 hl hb1.out L1.out (by omega)).mono ?_
  rintro e w2 ⟨rfl, hb2, hg2⟩
  have HB2 : Hid (w2.heap[g]? = some (.cells (splice cur 0 (ints .u8 [t, l / 65536 % 256, l / 256 % 256, l % 256])).toArray 5 (0, 0))) := by
    show _ = _
    rw [hb2, splice_next _ _ _ _ _ (by simp [ints]) (by rw [Hcl.out]; simp [ints]; omega)]
    rfl
  have G2 := hg1.trans hg2
  clear hb2 hg2
  go_wp2_with fail
  refine (u16_any g 4 cap _ s w2 hs0 hs HB2.out (length_splice' Hcl.out (by simp [ints]; omega)) (by omega)).mono ?_
  rintro e w3 ⟨rfl, hb3, hg3⟩
  have HB3 : Hid (w3.heap[g]? = some (.cells (splice cur 0 (ints .u8 [t, l / 65536 % 256, l / 256 % 256, l % 256, s / 256, s % 256])).toArray 5 (0, 0))) := by
    show _ = _
    rw [hb3, splice_next _ _ _ _ _ (by simp [ints]) (by rw [Hcl.out]; simp [ints]; omega)]
    rfl
  have G3 := G2.trans hg3
  clear hb3 hg3
  go_wp2_with fail
  refine (u24_any g 6 cap _ 0 w3 (by omega) (by omega) HB3.out (length_splice' Hcl.out (by simp [ints]; omega)) (by omega)).mono ?_
  rintro e w4 ⟨rfl, hb4, hg4⟩
  have HB4 : Hid (w4.heap[g]? = some (.cells (splice cur 0 (ints .u8 [t, l / 65536 % 256, l / 256 % 256, l % 256, s / 256, s % 256, 0, 0, 0])).toArray 5 (0, 0))) := by
    show _ = _
    rw [hb4, splice_next _ _ _ _ _ (by simp [ints]) (by rw [Hcl.out]; simp [ints]; omega)]
    rfl
  have G4 := G3.trans hg4
  clear hb4 hg4
  go_wp2_with fail
  refine (u24_any g 9 cap _ l w4 hl0 hl HB4.out (length_splice' Hcl.out (by simp [ints]; omega)) (by omega)).mono ?_
  rintro e w5 ⟨rfl, hb5, hg5⟩
  have HB5 : Hid (w5.heap[g]? = some (.cells (splice cur 0 (ints .u8 (hdr t l s))).toArray 5 (0, 0))) := by
    show _ = _
    rw [hb5, splice_next _ _ _ _ _ (by simp [ints]) (by rw [Hcl.out]; simp [ints]; omega)]
    rfl
  have G5 := G4.trans hg5
  clear hb5 hg5
  go_wp2
  go_ret
  exact ⟨rfl, HB5.out, G5⟩

end Go.Proofs.Qxb6604433a
