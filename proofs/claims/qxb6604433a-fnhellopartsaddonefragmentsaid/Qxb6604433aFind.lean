import Derived.Test.Qxb6604433aHello
namespace Go.Proofs.Qxb6604433a
open Go.RowKit Go.WideShapes
set_option linter.unusedVariables false
set_option linter.unusedSimpArgs false

theorem Exts.cells {vs : List Value} {n m : Nat} {ts : List Int} {us : List Value} {w : World} {g : Nat} (h : Exts vs n m ts us) (hb : w.heap[g]? = some (.cells vs.toArray 70 (0, 0))) (k : Nat) (hk : k < m) (hmn : m ≤ n) :
    w.cell? ⟨g, k * 2, none⟩ = some (.int .u16 (ts.getD k 0)) ∧ w.cell? ⟨g, k * 2 + 1, none⟩ = some (us.getD k undef) := by
  obtain ⟨h1, h2⟩ := h
  obtain ⟨e1, e2⟩ := h2 k hk
  rw [← e1, ← e2]
  exact ⟨(block_cell hb _ (by omega)).1, (block_cell hb _ (by omega)).1⟩

/-- What findExtension gives: some extension, and whether the type is among 'ts'. -/
def FindPost (w : World) (ts : List Int) (q : Int) (e : Ending) (w' : World) : Prop :=
  ∃ t a l c, e = .returned (.tuple #[.agg #[.int .u16 t, .slice a l c], .bool (decide (q ∈ ts))]) ∧ Below w.heap.size w w'

theorem find_yes {ts : List Int} {k n : Nat} {t q : Int} (h : Hid (ts.getD k 0 = t)) (hk : k < n) (hl : Hid (ts.length = n)) (he : (t == q) = true) : decide (q ∈ ts) = true := by
  rw [decide_eq_true_iff]
  have e : t = q := by simpa using he
  rw [← e, ← h.out]
  have hk' : k < ts.length := by rw [hl.out]; exact hk
  simp [hk']

theorem find_snoc {ts : List Int} {k : Nat} {t q : Int} (h : Hid (ts.getD k 0 = t)) (hN : Hid (∀ j, j < k → ts.getD j 0 ≠ q)) (he : (t == q) = false) : Hid (∀ j, j < k + 1 → ts.getD j 0 ≠ q) := by
  intro j hj
  by_cases e : j = k
  · subst e
    rw [h.out]
    simpa using he
  · exact hN.out j (by omega)

theorem find_no {ts : List Int} {k n : Nat} {q : Int} (hN : Hid (∀ j, j < k → ts.getD j 0 ≠ q)) (hk : ¬ k < n) (hl : Hid (ts.length = n)) : decide (q ∈ ts) = false := by
  rw [decide_eq_false_iff_not]
  intro hm
  obtain ⟨j, hj, e⟩ := List.mem_iff_getElem.1 hm
  have := hN.out j (by have := hl.out; omega)
  rw [List.getD_eq_getElem?_getD, List.getElem?_eq_getElem hj] at this
  exact this (by simpa using e)

set_option maxRecDepth 100000 in
set_option maxHeartbeats 1000000 in
theorem find_any (g n : Nat) (vs : List Value) (ts : List Int) (us : List Value) (q : Int) (w : World) (hn : n ≤ 1048576) (hb : w.heap[g]? = some (.cells vs.toArray 70 (0, 0))) (hE : Exts vs n n ts us) (hl : ts.length = n) (hus : ∀ j, j < n → IsSlice (us.getD j undef)) :
    Calls Try.prog 54 #[.slice (some ⟨g, 0, none⟩) n n, .int .u16 q] w fun e w' => FindPost w ts q e w' := by
  have HB : Hid (w.heap[g]? = some (.cells vs.toArray 70 (0, 0))) := hb
  have Hl : Hid (ts.length = n) := hl
  have hlt := block_lt hb
  clear hb hl
  go_enter Try.func54, Try.ntmps54
  go_wp2
  go_loopw [10] (fun i wr => ∃ (k : Nat), k ≤ n ∧ i = .int .i64 k ∧ Hid (∀ j, j < k → ts.getD j 0 ≠ q) ∧ Below (w.heap.size + 1) (w.alloc (.cells #[.int .u16 0, .slice none 0 0] 70)) wr) (fun i _ => n - (intOf i).toNat)
  case atStart => exact ⟨0, Nat.zero_le _, rfl, fun j hj => absurd hj (Nat.not_lt_zero _), Below.refl _ _⟩
  case round =>
    obtain ⟨k, hk, rfl, HN, hbel⟩ := hrel
    have hw1 : Below w.heap.size w wr := ((Below.refl _ _).alloc (Nat.le_refl _) _ : Below w.heap.size w (w.alloc _)).trans (hbel.mono (by omega))
    have hsz : w.heap.size < wr.heap.size := by have := hbel.size; rw [World.size_alloc] at this; omega
    have hz : wr.heap[w.heap.size]? = some (.cells [Value.int .u16 0, .slice none 0 0].toArray 70 (0, 0)) := (hbel.block _ (by omega)).trans (heap_alloc_new _ _)
    obtain ⟨r0, f0⟩ := block_cell hz 0 (by simp)
    obtain ⟨r1, f1⟩ := block_cell hz 1 (by simp)
    clear hz
    by_cases hlt : k < n
    · obtain ⟨e0, e1⟩ := hE.cells ((hw1.block g (by omega)).trans HB.out) k hlt (Nat.le_refl _)
      obtain ⟨x, l, c, hu⟩ := hus k hlt
      rw [hu] at e1
      clear hu hus
      obtain ⟨t, ht⟩ : ∃ t, ts.getD k 0 = t := ⟨_, rfl⟩
      rw [ht] at e0
      have HT : Hid (ts.getD k 0 = t) := ht
      clear ht
      go_wp2
      · refine bodyPost_ret (v := .tuple #[.agg #[.int .u16 t, .slice x l c], .bool true]) (by simp [results, Try.results54, go_sem, r0, r1, hsz]) rfl ⟨_, _, _, _, by rw [find_yes HT hlt Hl ‹_›], ?_⟩
        exact ((hw1.setCell (Nat.le_refl _) _).setCell (Nat.le_refl _) _).alloc (by simp; omega) _
      · go_roundw
        case rel => exact ⟨k + 1, by omega, by go_num, find_snoc HT HN ‹_›, hbel.alloc (by omega) _⟩
        case measure => simp [intOf]; omega
    · go_wp2
      refine bodyPost_ret (v := .tuple #[.agg #[.int .u16 0, .slice none 0 0], .bool false]) (by simp [results, Try.results54, go_sem, r0, r1, hsz]) rfl ⟨_, _, _, _, by rw [find_no HN hlt Hl], ?_⟩
      exact (hw1.setCell (Nat.le_refl _) _).setCell (Nat.le_refl _) _

end Go.Proofs.Qxb6604433a
