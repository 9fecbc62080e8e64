import Derived.Test.Qxb6604433aHdr
import Derived.Test.Qxb6604433aVec8
namespace Go.Proofs.Qxb6604433a
open Go.RowKit Go.WideShapes
set_option linter.unusedVariables false
set_option linter.unusedSimpArgs false

theorem splice_cons {α : Type} (L : List α) (o : Nat) (v : α) (r : List α) (h : o + (r.length + 1) ≤ L.length) : splice (L.set o v) (o + 1) r = splice L o (v :: r) := by
  unfold splice
  rw [List.take_set, List.drop_set]
  have e1 : (L.take (o + 1)).set o v = L.take o ++ [v] := by
    rw [List.take_succ_eq_append_getElem (by omega)]
    rw [List.set_append_right _ _ (by simp; omega)]
    simp [List.length_take, Nat.min_eq_left (show o ≤ L.length by omega)]
  rw [e1]
  rw [if_pos (by omega)]
  simp [Nat.add_assoc, Nat.add_comm 1]

theorem block_setCells (g : Nat) (t : TypeId) : ∀ (vs : List Value) (o : Nat) (cur : List Value) (w : World), w.heap[g]? = some (.cells cur.toArray t (0, 0)) → o + vs.length ≤ cur.length →
    (w.setCells g o vs).heap[g]? = some (.cells (splice cur o vs).toArray t (0, 0))
  | [], o, cur, w, h, _ => by simpa [World.setCells, splice] using h
  | v :: r, o, cur, w, h, hl => by
    have hl' : o + (r.length + 1) ≤ cur.length := by simpa using hl
    rw [World.setCells, block_setCells g t r (o + 1) (cur.set o v) _ (block_set h o v) (by simp; omega), splice_cons cur o v r hl']

theorem grown_setCells (g : Nat) : ∀ (vs : List Value) (o : Nat) (w : World), w.grownBy (w.setCells g o vs) (some g) ∧ (w.setCells g o vs).heap.size = w.heap.size
  | [], o, w => ⟨World.grownBy.refl _ _, rfl⟩
  | v :: r, o, w => by
    obtain ⟨h1, h2⟩ := grown_setCells g r (o + 1) (w.setCell ⟨g, o, none⟩ v)
    have e : (w.setCell ⟨g, o, none⟩ v).heap.size = w.heap.size := by simp [World.setCell]
    refine ⟨⟨h1.os, h1.tape, h1.output, by have := h1.size; rw [e] at this; exact this, fun i hi hne => ?_⟩, by rw [World.setCells, h2, e]⟩
    rw [World.setCells, h1.block i (by rw [e]; exact hi) hne, Below.heap_setCell _ _ _ _ (fun h => hne (by rw [h]))]

/-- append of bytes onto a slice at the head of a row with room: written in place. -/
theorem append_room (w : World) (g n cap : Nat) (cur : List Value) (hg : w.heap[g]? = some (.cells cur.toArray 5 (0, 0))) (hcl : cur.length = cap) (ad : Addr) (m c : Nat) (news : List Int) (hl : news.length = m) (hat : At .u8 w (some ad) news) (hm : 0 < m) (hroom : n + m ≤ cap) :
    ∃ w', (Builtin.append_ #[22, 22] 22 #[.slice (some ⟨g, 0, none⟩) n cap, .slice (some ad) m c]).run Try.prog w = .ok (.slice (some ⟨g, 0, none⟩) (n + m) cap) w' ∧ Hid (w'.heap[g]? = some (.cells (splice cur n (ints .u8 news)).toArray 5 (0, 0))) ∧ w.grownBy w' (some g) := by
  obtain ⟨i0, hi, hz0, hz1, hz2⟩ := info_parts Try.info5
  have hln : (ints .u8 news).length = m := by rw [length_ints]; exact hl
  refine ⟨w.setCells g n (ints .u8 news), ?_, block_setCells g 5 _ _ _ _ hg (by omega), (grown_setCells g _ _ _).1⟩
  have h := run_append_room_cells (P := Try.prog) w 22 22 5 i0 Try.underlying22 hi g 0 n cap ad m c (ints .u8 news) (by rw [hz1, hln, Nat.mul_one]) (by
    obtain ⟨ad', e, h⟩ := hat.src (by omega)
    cases e
    exact h) (ints_oneCell _ _) hroom (fun j hj => by
      rw [(block_cell hg (0 + n * i0.size + j) (by rw [hz1]; omega)).1]; rfl) (fun j hj => (block_cell hg (0 + n * i0.size + j) (by rw [hz1]; omega)).2)
  rw [h, hz1]
  simp

end Go.Proofs.Qxb6604433a
