import Derived.Test.Qxb6604433aVec8
namespace Go.Proofs.Qxb6604433a
open Go.RowKit Go.WideShapes
set_option linter.unusedVariables false
set_option linter.unusedSimpArgs false

/-- What serverExtensions answers. -/
def SrvPost (w : World) (ts : List Int) (e : Ending) (w' : World) : Prop :=
  Below w.heap.size w w' ∧ ((11 ∈ ts ∧ ∃ r d cap, e = .returned (.slice (some ⟨r, 0, none⟩) 1 1) ∧ w'.heap[r]? = some (.cells #[.int .u16 11, .slice (some ⟨d, 0, none⟩) 2 cap] 70 (0, 0)) ∧ At .u8 w' (some ⟨d, 0, none⟩) [1, 0]) ∨
    (11 ∉ ts ∧ e = .returned (.slice none 0 0)))

set_option maxRecDepth 100000 in
set_option maxHeartbeats 1000000 in
theorem server_any (h g n : Nat) (vs : List Value) (ts : List Int) (us : List Value) (w : World) (hn : n ≤ 1048576) (hh : w.cell? ⟨h, 37, none⟩ = some (.slice (some ⟨g, 0, none⟩) n n)) (hb : w.heap[g]? = some (.cells vs.toArray 70 (0, 0))) (hE : Exts vs n n ts us) (hl : ts.length = n) (hus : ∀ j, j < n → IsSlice (us.getD j undef)) :
    Calls Try.prog 47 #[.agg #[], .pointer (some ⟨h, 0, none⟩)] w fun e w' => SrvPost w ts e w' := by
  have hh1 : (w.alloc (.cells #[] 100)).cell? ⟨h, 37, none⟩ = some (.slice (some ⟨g, 0, none⟩) n n) := by rw [((Below.refl _ _).alloc (Nat.le_refl _) _ : Below w.heap.size w _).cell (p := ⟨h, 37, none⟩) (cell_lt hh)]; exact hh
  have HB : Hid ((w.alloc (.cells #[] 100)).heap[g]? = some (.cells vs.toArray 70 (0, 0))) := by
    show _ = _
    rw [Below.heap_alloc _ _ _ (block_lt hb)]; exact hb
  have Hl : Hid (ts.length = n) := hl
  clear hb hl
  by_cases hm : 11 ∈ ts
  · have hd : decide ((11 : Int) ∈ ts) = true := by simpa using hm
    go_enter Try.func47, Try.ntmps47
    go_wp2_with (go_at_call 54; go_must (refine (find_any g n vs ts us 11 _ hn HB.out hE Hl.out hus).mono ?_); rintro e w1 ⟨t, a, l, c, rfl, hb1⟩)
    have hs1 : w.heap.size + 1 ≤ w1.heap.size := by have := hb1.size; rw [World.size_alloc] at this; exact this
    have hb1' : Below w.heap.size w w1 := ((Below.refl _ _).alloc (Nat.le_refl _) _).trans (hb1.mono (by simp))
    refine (vec8_any (w1.heap.size + 1) 1 0 _ ?hcell).mono ?_
    case hcell =>
      have := cell_new (w1.alloc (.cells #[.int .u16 t, .slice a l c] 70)) #[.int .u8 0] 5 0 (.int .u8 0) rfl
      rw [World.size_alloc] at this
      exact this
    rintro e w2 ⟨d, cap, rfl, hat, hb2⟩
    have hb2' : Below w.heap.size w w2 := ((hb1'.alloc (by omega) _).alloc (by simp; omega) _).trans (hb2.mono (by simp; omega))
    go_wp2
    go_ret
    have hs2 := hb2'.size
    exact ⟨hb2'.alloc hs2 _, .inl ⟨hm, _, d, cap, rfl, heap_alloc_new _ _, hat.below ((Below.refl _ _).alloc (Nat.le_refl _) _)⟩⟩
  · have hd : decide ((11 : Int) ∈ ts) = false := by simpa using hm
    go_enter Try.func47, Try.ntmps47
    go_wp2_with (go_at_call 54; go_must (refine (find_any g n vs ts us 11 _ hn HB.out hE Hl.out hus).mono ?_); rintro e w1 ⟨t, a, l, c, rfl, hb1⟩)
    go_ret
    have hs1 : w.heap.size + 1 ≤ w1.heap.size := by have := hb1.size; rw [World.size_alloc] at this; exact this
    have hb1' : Below w.heap.size w w1 := ((Below.refl _ _).alloc (Nat.le_refl _) _).trans (hb1.mono (by simp))
    exact ⟨hb1'.alloc (by omega) _, .inr ⟨hm, rfl⟩⟩

set_option maxRecDepth 100000 in
set_option maxHeartbeats 1000000 in
theorem ecdhe_any (h g n : Nat) (vs : List Value) (ts : List Int) (us : List Value) (w : World) (hn : n ≤ 1048576) (hh : w.cell? ⟨h, 37, none⟩ = some (.slice (some ⟨g, 0, none⟩) n n)) (hb : w.heap[g]? = some (.cells vs.toArray 70 (0, 0))) (hE : Exts vs n n ts us) (hl : ts.length = n) (hus : ∀ j, j < n → IsSlice (us.getD j undef)) :
    Calls Try.prog 40 #[.pointer (some ⟨h, 0, none⟩)] w fun e w' => SrvPost w ts e w' := by
  have HB : Hid (w.heap[g]? = some (.cells vs.toArray 70 (0, 0))) := hb
  have Hl : Hid (ts.length = n) := hl
  clear hb hl
  go_enter Try.func40, Try.ntmps40
  go_wp2_with fail
  refine (server_any h g n vs ts us w hn hh HB.out hE Hl.out hus).mono ?_
  rintro e w1 ⟨hb1, ⟨hm, r, d, cap, rfl, h1, h2⟩ | ⟨hm, rfl⟩⟩
  · have H1 : Hid (w1.heap[r]? = some (.cells #[.int .u16 11, .slice (some ⟨d, 0, none⟩) 2 cap] 70 (0, 0))) := h1
    clear h1
    go_wp2
    go_ret
    exact ⟨hb1, .inl ⟨hm, r, d, cap, rfl, H1.out, h2⟩⟩
  · go_wp2
    go_ret
    exact ⟨hb1, .inr ⟨hm, rfl⟩⟩

end Go.Proofs.Qxb6604433a
