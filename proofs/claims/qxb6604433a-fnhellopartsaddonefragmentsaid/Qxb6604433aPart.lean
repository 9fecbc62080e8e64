/-
  A REASSEMBLY THAT IS NOT YET WHOLE, IN MEMORY: its head, its map of blocks, its blocks.
-/
import Derived.Test.Qxb6604433aPMap
import Derived.Test.Qxb6604433aCov
namespace Go.Proofs.Qxb6604433a
open Go.RowKit Go.WideShapes
set_option linter.unusedVariables false
set_option linter.unusedSimpArgs false

def key32 (i : Nat) : Lit := .int .u32 i
def rcells (typ seq len : Int) (mv : Value) (miss : Int) (raw : Value) : List Value := [.int .u8 typ, .int .u16 seq, .int .u32 len, mv, .int .i64 miss, raw]
def bcells (h : Nat) (d : List Int) : List Value := .int .u64 h :: ints .u8 d

structure Part (w : World) (B r mb n : Nat) (typ seq len miss : Int) (F : Nat → Option Nat) (H : Nat → Nat) (Dt : Nat → List Int) : Prop where
  head : w.heap[r]? = some (.cells (rcells typ seq len (.map (some mb)) miss (.slice none 0 0)).toArray 83 (0, 0))
  hr : B ≤ r
  hmb : B ≤ mb
  map : ∃ c f, PMap w 27 mb n c f ∧ ∀ i, f (key32 i) = F i
  blk : ∀ i b, F i = some b → B ≤ b ∧ w.heap[b]? = some (.cells (bcells (H i) (Dt i)).toArray 114 (0, 0)) ∧ (Dt i).length = 64 ∧ H i < 18446744073709551616
  inj : ∀ i j b, F i = some b → F j = some b → i = j
  bare : ∀ i, F i = none → H i = 0

theorem map_ne_cells {w : World} {K mb n c g : Nat} {f : Lit → Option Nat} {cs : Array Value} {t : TypeId} {fr : Nat × Nat} (h : PMap w K mb n c f) (hg : w.heap[g]? = some (.cells cs t fr)) : mb ≠ g := by
  rintro rfl
  obtain ⟨D, ⟨es, clock, h1, _⟩, _⟩ := h
  rw [h1] at hg
  cases hg

theorem cells_ne_type {w : World} {g g' : Nat} {cs cs' : Array Value} {t t' : TypeId} {fr fr' : Nat × Nat} (h : w.heap[g]? = some (.cells cs t fr)) (h' : w.heap[g']? = some (.cells cs' t' fr')) (ht : t ≠ t') : g ≠ g' := by
  rintro rfl
  rw [h] at h'
  cases h'
  exact ht rfl

theorem block_grown {w w' : World} {row : Option Nat} {g : Nat} {o : Obj} (hg : w.grownBy w' row) (h : w.heap[g]? = some o) (hne : some g ≠ row) : w'.heap[g]? = some o := (hg.block g (block_lt h) hne).trans h

theorem Part.kept {w w' : World} {B r mb n : Nat} {typ seq len miss : Int} {F : Nat → Option Nat} {H : Nat → Nat} {Dt : Nat → List Int} (h : Part w B r mb n typ seq len miss F H Dt) {row : Option Nat} (hg : w.grownBy w' row) (hr : ∀ k, row = some k → k ≠ r ∧ k ≠ mb ∧ ∀ i, F i ≠ some k) : Part w' B r mb n typ seq len miss F H Dt := by
  obtain ⟨c, f, h1, h2⟩ := h.map
  refine ⟨block_grown hg h.head (fun e => (hr r e.symm).1 rfl), h.hr, h.hmb, ⟨c, f, h1.kept hg (fun e => (hr mb e.symm).2.1 rfl), h2⟩, fun i b hi => ?_, h.inj, h.bare⟩
  obtain ⟨q1, q2, q3⟩ := h.blk i b hi
  exact ⟨q1, block_grown hg q2 (fun e => (hr b e.symm).2.2 i hi), q3⟩

/-- A new block for block number i, and the map told of it. -/
theorem Part.fresh {w w1 : World} {B r mb n : Nat} {typ seq len miss : Int} {F : Nat → Option Nat} {H : Nat → Nat} {Dt : Nat → List Int} (h : Part w B r mb n typ seq len miss F H Dt) (hB : B ≤ w.heap.size) {i c : Nat} {f : Lit → Option Nat} (hi : F i = none)
    (hm : PMap w1 27 mb (n + 1) c f) (hf : ∀ j, f (key32 j) = setAt F i (some w.heap.size) j) (hg : (w.alloc (.cells (bcells 0 (List.replicate 64 0)).toArray 114)).grownBy w1 (some mb)) :
    Part w1 B r mb (n + 1) typ seq len miss (setAt F i (some w.heap.size)) H (setAt Dt i (List.replicate 64 0)) := by
  obtain ⟨c0, f0, h1, h2⟩ := h.map
  have hmbl := h1.lt
  have old : ∀ g o, w.heap[g]? = some o → g ≠ mb → w1.heap[g]? = some o := by
    intro g o ho hne
    have hl := block_lt ho
    rw [hg.block g (by simp; omega) (fun e => hne (by cases e; rfl)), Below.heap_alloc _ _ _ hl]
    exact ho
  have new : w1.heap[w.heap.size]? = some (.cells (bcells 0 (List.replicate 64 0)).toArray 114 (0, 0)) := by
    rw [hg.block w.heap.size (by simp) (fun e => by cases e; omega)]
    exact heap_alloc_new _ _
  refine ⟨old r _ h.head (Ne.symm (map_ne_cells h1 h.head)), h.hr, h.hmb, ⟨c, f, hm, hf⟩, fun j b hj => ?_, fun j k b hj hk => ?_, fun j hj => ?_⟩
  · by_cases e : j = i
    · subst e
      rw [setAt_same] at hj
      cases hj
      rw [setAt_same, h.bare j hi]
      exact ⟨hB, new, by simp, by decide⟩
    · rw [setAt_other _ _ e] at hj
      rw [setAt_other _ _ e]
      obtain ⟨q1, q2, q3⟩ := h.blk j b hj
      exact ⟨q1, old b _ q2 (Ne.symm (map_ne_cells h1 q2)), q3⟩
  · have lt : ∀ j b, F j = some b → b < w.heap.size := fun j b hj => block_lt (h.blk j b hj).2.1
    by_cases ej : j = i
    · by_cases ek : k = i
      · rw [ej, ek]
      · subst ej
        rw [setAt_same] at hj
        rw [setAt_other _ _ ek] at hk
        cases hj
        have := lt k _ hk
        omega
    · rw [setAt_other _ _ ej] at hj
      by_cases ek : k = i
      · subst ek
        rw [setAt_same] at hk
        cases hk
        have := lt j _ hj
        omega
      · rw [setAt_other _ _ ek] at hk
        exact h.inj j k b hj hk
  · by_cases e : j = i
    · subst e
      rw [setAt_same] at hj
      cases hj
    · rw [setAt_other _ _ e] at hj
      exact h.bare j hj

/-- One block is written. -/
theorem Part.wrote {w w1 : World} {B r mb n : Nat} {typ seq len miss : Int} {F : Nat → Option Nat} {H : Nat → Nat} {Dt : Nat → List Int} (h : Part w B r mb n typ seq len miss F H Dt) {i b : Nat} (hi : F i = some b) (x : Nat) (d : List Int) (hd : d.length = 64) (hx : x < 18446744073709551616)
    (hb : w1.heap[b]? = some (.cells (bcells x d).toArray 114 (0, 0))) (hg : w.grownBy w1 (some b)) : Part w1 B r mb n typ seq len miss F (setAt H i x) (setAt Dt i d) := by
  obtain ⟨c, f, h1, h2⟩ := h.map
  have hbi := (h.blk i b hi).2.1
  refine ⟨block_grown hg h.head (fun e => ?_), h.hr, h.hmb, ⟨c, f, h1.kept hg (fun e => ?_), h2⟩, fun j b' hj => ?_, h.inj, fun j hj => ?_⟩
  · cases e
    exact cells_ne_type h.head hbi (by decide) rfl
  · cases e
    exact map_ne_cells h1 hbi rfl
  · by_cases e : j = i
    · subst e
      rw [hi] at hj
      cases hj
      rw [setAt_same, setAt_same]
      exact ⟨(h.blk j b hi).1, hb, hd, hx⟩
    · rw [setAt_other _ _ e, setAt_other _ _ e]
      obtain ⟨q1, q2, q3⟩ := h.blk j b' hj
      exact ⟨q1, block_grown hg q2 (fun e2 => e (h.inj j i b (by rw [hj]; exact e2) hi)), q3⟩
  · rw [setAt_other _ _ (fun e => by subst e; rw [hi] at hj; cases hj)]
    exact h.bare j hj

/-- The count of missing bytes is written. -/
theorem Part.missed {w : World} {B r mb n : Nat} {typ seq len miss : Int} {F : Nat → Option Nat} {H : Nat → Nat} {Dt : Nat → List Int} (h : Part w B r mb n typ seq len miss F H Dt) (miss' : Int) :
    Part (w.setCell ⟨r, 4, none⟩ (.int .i64 miss')) B r mb n typ seq len miss' F H Dt := by
  obtain ⟨c, f, h1, h2⟩ := h.map
  have hg : w.grownBy (w.setCell ⟨r, 4, none⟩ (.int .i64 miss')) (some r) := ⟨rfl, rfl, rfl, by simp [World.setCell], fun k _ hk => Below.heap_setCell _ _ _ _ (fun e => hk (by rw [e]))⟩
  refine ⟨?_, h.hr, h.hmb, ⟨c, f, h1.kept hg (fun e => ?_), h2⟩, fun i b hi => ?_, h.inj, h.bare⟩
  · rw [block_set h.head 4 (.int .i64 miss')]
    rfl
  · cases e
    exact map_ne_cells h1 h.head rfl
  · obtain ⟨q1, q2, q3⟩ := h.blk i b hi
    exact ⟨q1, block_grown hg q2 (fun e => by cases e; exact cells_ne_type h.head q2 (by decide) rfl), q3⟩

theorem Part.drew {w : World} {B r mb n : Nat} {typ seq len miss : Int} {F : Nat → Option Nat} {H : Nat → Nat} {Dt : Nat → List Int} (h : Part w B r mb n typ seq len miss F H Dt) (k : Nat) : Part (w.drewN k) B r mb n typ seq len miss F H Dt :=
  ⟨h.head, h.hr, h.hmb, h.map, h.blk, h.inj, h.bare⟩

theorem bcells_set (x y : Nat) (d : List Int) : (bcells x d).set 0 (.int .u64 y) = bcells y d := rfl
theorem bcells_splice (x : Nat) (d xs : List Int) (st : Nat) : splice (bcells x d) (1 + st) (ints .u8 xs) = bcells x (splice d st xs) := by
  unfold splice bcells
  rw [Nat.add_comm 1 st, List.take_succ_cons, length_ints, show st + 1 + xs.length = (st + xs.length) + 1 from by omega, List.drop_succ_cons]
  simp [ints, List.map_take, List.map_drop]

end Go.Proofs.Qxb6604433a
