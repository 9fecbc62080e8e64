import Derived.Test.Qxb6604433aOffers
namespace Go.Proofs.Qxb6604433a
open Go.RowKit Go.WideShapes
set_option linter.unusedVariables false
set_option linter.unusedSimpArgs false

/-- A slice of numbers as it comes in: nil, or some address at which 'zs' lies. -/
def Row (k : IntKind) (w : World) (a : Option Addr) (n c : Nat) (zs : List Int) : Prop :=
  (a = none → n = 0 ∧ c = 0) ∧ zs.length = n ∧ At k w a zs

theorem Row.below {k : IntKind} {w w' : World} {a : Option Addr} {n c : Nat} {zs : List Int} (h : Row k w a n c zs) (hb : Below w.heap.size w w') : Row k w' a n c zs := ⟨h.1, h.2.1, h.2.2.below hb⟩

/-- What a clone is: a slice of the same length that reads the same. -/
def ClonePost (k : IntKind) (w : World) (n : Nat) (zs : List Int) (e : Ending) (w' : World) : Prop :=
  ∃ a c, e = .returned (.slice a n c) ∧ Row k w' a n c zs ∧ Below w.heap.size w w'

theorem clone8 (a : Option Addr) (n c : Nat) (zs : List Int) (w : World) (hr : Row .u8 w a n c zs) (hn : n ≤ 1048576) : Calls Try.prog 11 #[.slice a n c] w fun e w' => ClonePost .u8 w n zs e w' := by
  obtain ⟨h1, h2, h3⟩ := hr
  cases a with
  | none =>
    obtain ⟨rfl, rfl⟩ := h1 rfl
    refine (zzClone_nil w).mono ?_
    rintro e w' ⟨rfl, rfl⟩
    exact ⟨none, 0, rfl, ⟨fun _ => ⟨rfl, rfl⟩, h2, fun j hj => absurd hj (by omega)⟩, Below.refl _ _⟩
  | some x =>
    refine (zzClone_any x n c zs w h2 (by omega) h3).mono ?_
    rintro e w' ⟨rfl, hg, hb⟩
    exact ⟨_, n, rfl, ⟨(fun h => by cases h), h2, At.of_block hg⟩, hb⟩

theorem clone16 (a : Option Addr) (n c : Nat) (zs : List Int) (w : World) (hr : Row .u16 w a n c zs) (hn : n ≤ 1048576) : Calls Try.prog 37 #[.slice a n c] w fun e w' => ClonePost .u16 w n zs e w' := by
  obtain ⟨h1, h2, h3⟩ := hr
  cases a with
  | none =>
    obtain ⟨rfl, rfl⟩ := h1 rfl
    refine (zzClone16_nil w).mono ?_
    rintro e w' ⟨rfl, rfl⟩
    exact ⟨none, 0, rfl, ⟨fun _ => ⟨rfl, rfl⟩, h2, fun j hj => absurd hj (by omega)⟩, Below.refl _ _⟩
  | some x =>
    refine (zzClone16_any x n c zs w h2 (by omega) h3).mono ?_
    rintro e w' ⟨rfl, hg, hb⟩
    exact ⟨_, n, rfl, ⟨(fun h => by cases h), h2, At.of_block hg⟩, hb⟩

/-- One inner slice, with no bound. -/
def InnerU (w : World) (v : Value) : Prop := v = .slice none 0 0 ∨ ∃ x n c zs, v = .slice (some x) n c ∧ zs.length = n ∧ At .u8 w (some x) zs

theorem InnerU.below {w w' : World} {v : Value} (h : InnerU w v) (hb : Below w.heap.size w w') : InnerU w' v := by
  rcases h with h | ⟨x, n, c, zs, h1, h2, h3⟩
  · exact .inl h
  · exact .inr ⟨x, n, c, zs, h1, h2, h3.below hb⟩

theorem Outer.below {w w' : World} {a : Option Addr} {n : Nat} {us : List Value} (h : Outer w a n us) (hb : Below w.heap.size w w') : Outer w' a n us := by
  refine ⟨h.1, fun j hj => ?_⟩
  obtain ⟨b, off, x, l, c, h1, h2, h3⟩ := h.2 j hj
  exact ⟨b, off, x, l, c, h1, by rw [hb.cell (p := ⟨b, off + j, none⟩) (cell_lt h2)]; exact h2, h3⟩

theorem Outer.isSlice {w : World} {a : Option Addr} {n : Nat} {us : List Value} (h : Outer w a n us) : ∀ j, j < n → IsSlice (us.getD j undef) := fun j hj => by
  obtain ⟨b, off, x, l, c, h1, h2, h3⟩ := h.2 j hj
  exact ⟨x, l, c, h3⟩

def DeepPost (w : World) (n : Nat) (e : Ending) (w' : World) : Prop :=
  ∃ a c us, e = .returned (.slice a n c) ∧ Outer w' a n us ∧ Below w.heap.size w w'

theorem outer_of_block {w : World} {g n : Nat} {vs : List Value} (hl : vs.length = n) (hv : ∀ v ∈ vs, IsSlice v) (hg : w.heap[g]? = some (.cells vs.toArray 22 (0, 0))) : Outer w (some ⟨g, 0, none⟩) n vs := by
  refine ⟨hl, fun j hj => ?_⟩
  have hj' : j < vs.length := by omega
  obtain ⟨x, l, c, e⟩ := hv vs[j] (List.getElem_mem hj')
  refine ⟨g, 0, x, l, c, rfl, ?_, ?_⟩
  · have := (block_cell hg j hj').1
    rw [Nat.zero_add, this, List.getD_eq_getElem?_getD, List.getElem?_eq_getElem hj']
    simpa using e
  · rw [List.getD_eq_getElem?_getD, List.getElem?_eq_getElem hj']
    simpa using e

theorem cloneDeep (a : Option Addr) (n c : Nat) (us : List Value) (w : World) (h0 : a = none → n = 0 ∧ c = 0) (hn : n ≤ 1048576) (ho : Outer w a n us) (hin : ∀ j, j < n → InnerU w (us.getD j undef))
    (hb : ∀ j, j < n → ∀ x l c, us.getD j undef = .slice x l c → l ≤ 1048576) : Calls Try.prog 38 #[.slice a n c] w fun e w' => DeepPost w n e w' := by
  cases a with
  | none =>
    obtain ⟨rfl, rfl⟩ := h0 rfl
    refine (zzCloneDeep_nil w).mono ?_
    rintro e w' ⟨rfl, rfl⟩
    exact ⟨none, 0, [], rfl, ⟨rfl, fun j hj => absurd hj (Nat.not_lt_zero _)⟩, Below.refl _ _⟩
  | some x =>
    refine (zzCloneDeep_any x n c us w ho.1 (by omega) (fun j hj => ?_) (fun j hj => ?_)).mono ?_
    · obtain ⟨b, off, y, l, c, e1, e2, e3⟩ := ho.2 j hj
      cases e1
      exact ⟨b, off, rfl, by rw [e3]; exact e2⟩
    · rcases hin j hj with h | ⟨y, m, d, zs, h1, h2, h3⟩
      · exact .inl h
      · exact .inr ⟨y, m, d, zs, h1, h2, by have := hb j hj _ _ _ h1; omega, h3⟩
    · rintro e w' ⟨rfl, ⟨vs, hl, hv, hg⟩, hb'⟩
      exact ⟨_, n, vs, rfl, outer_of_block hl hv hg, hb'⟩

end Go.Proofs.Qxb6604433a
