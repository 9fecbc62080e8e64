/-
  A MAP OF POINTERS that the call itself makes, seen as a function from keys to block numbers.
-/
import Derived.Test.Qxb6604433aDeep
import Derived.Maps.RangeWalk
import Derived.Maps.OwnSet
namespace Go.Proofs.Qxb6604433a
open Go.RowKit Go.WideShapes
set_option linter.unusedVariables false
set_option linter.unusedSimpArgs false

/-- How an element of such a map reads: nil, or the number of the block at whose head it points. -/
def ptrElem (v : Value) : Option (DataW Unit × List MemPlace) :=
  match v with
  | .pointer none => some (.nil, [])
  | .pointer (some a) => if a.off = 0 ∧ a.spot = none then some (.lit (.int .i64 a.block), []) else none
  | _ => none

/-- The pointer to a block's head, and what it reads as. -/
def ptrv : Option Nat → Value
  | none => .pointer none
  | some b => .pointer (some ⟨b, 0, none⟩)
def ptrd : Option Nat → DataW Unit
  | none => .nil
  | some b => .lit (.int .i64 b)

theorem ptrElem_ptrv (o : Option Nat) : ptrElem (ptrv o) = some (ptrd o, []) := by
  cases o <;> simp [ptrElem, ptrv, ptrd]

theorem ptrElem_inv {v : Value} {o : Option Nat} {ps : List MemPlace} (h : ptrElem v = some (ptrd o, ps)) : v = ptrv o := by
  unfold ptrElem at h
  split at h
  · cases o with
    | none => rfl
    | some b => simp [ptrd] at h
  · rename_i a
    split at h
    · rename_i hc
      cases o with
      | none => simp [ptrd] at h
      | some b =>
        simp [ptrd] at h
        obtain ⟨b', o', s'⟩ := a
        simp at hc
        obtain ⟨rfl, rfl⟩ := hc
        have e : b' = b := by exact_mod_cast h.1
        subst e
        rfl
    · cases h
  · cases h

theorem ptrElem_any {v : Value} {y : DataW Unit × List MemPlace} (h : ptrElem v = some y) : ∃ o, v = ptrv o ∧ y.1 = ptrd o := by
  unfold ptrElem at h
  split at h
  · cases h; exact ⟨none, rfl, rfl⟩
  · rename_i a
    split at h
    · rename_i hc
      cases h
      obtain ⟨b', o', s'⟩ := a
      simp at hc
      obtain ⟨rfl, rfl⟩ := hc
      exact ⟨some b', rfl, rfl⟩
    · cases h
  · cases h

theorem ptrd_inj {o o' : Option Nat} (h : ptrd o = ptrd o') : o = o' := by
  cases o <;> cases o' <;> simp [ptrd] at h ⊢
  omega

/-- The function f, but o at the key kl. -/
def upd (f : Lit → Option Nat) (kl : Lit) (o : Option Nat) : Lit → Option Nat := fun z => if z.sameKey kl = true then o else f z
theorem upd_same (f : Lit → Option Nat) {kl : Lit} (o : Option Nat) (hk : WideAt.IsKeyLit kl) : upd f kl o kl = o := by
  unfold upd
  rw [if_pos (WideAt.sameKey_self hk)]
theorem upd_other (f : Lit → Option Nat) {kl z : Lit} (o : Option Nat) (h : z ≠ kl) : upd f kl o z = f z := by
  unfold upd
  rw [if_neg (by rw [Maps.sameKey_ne h]; simp)]

/-- Block mb of w is a map keyed by type K, of c entries (at most n), that holds at the key z the pointer f z. -/
def PMap (w : World) (K : TypeId) (mb n c : Nat) (f : Lit → Option Nat) : Prop :=
  ∃ D : DataW Unit, w.ownsMap Try.prog K ptrElem mb n D ∧ Maps.size D = c ∧ ∀ z, D.atKey z .nil = ptrd (f z) ∧ Maps.has D z = (f z).isSome

theorem PMap.lt {w : World} {K : TypeId} {mb n c : Nat} {f : Lit → Option Nat} (h : PMap w K mb n c f) : mb < w.heap.size := by
  obtain ⟨D, h1, _⟩ := h
  exact h1.lt

theorem PMap.kept {w w' : World} {K : TypeId} {mb n c : Nat} {f : Lit → Option Nat} {row : Option Nat} (h : PMap w K mb n c f) (hg : w.grownBy w' row) (hne : some mb ≠ row) : PMap w' K mb n c f := by
  obtain ⟨D, h1, h2⟩ := h
  exact ⟨D, h1.kept hg hne, h2⟩

theorem PMap.below {w w' : World} {B : Nat} {K : TypeId} {mb n c : Nat} {f : Lit → Option Nat} (h : PMap w K mb n c f) (hb : Below B w w') (hB : mb < B) : PMap w' K mb n c f := by
  obtain ⟨D, ⟨es, clock, h1, h3⟩, h2⟩ := h
  exact ⟨D, ⟨es, clock, (hb.block mb hB).trans h1, h3⟩, h2⟩

theorem PMap.made (w : World) (K : TypeId) : PMap (w.alloc (.map #[] 0)) K w.heap.size 0 0 (fun _ => none) := by
  refine ⟨.map [], World.ownsMap_made w Try.prog K ptrElem, rfl, fun z => ⟨?_, rfl⟩⟩
  exact Maps.atKey_of_not_has rfl _

theorem PMap.look {w : World} {t K e : TypeId} {mb n c : Nat} {f : Lit → Option Nat} (h : PMap w K mb n c f) (law : Maps.Keyed Try.prog K) (ht : Try.prog.underlying t = some (.map K e)) (hz : (zeroValue e).run Try.prog w = .ok (.pointer none) w)
    {key : Value} {kl : Lit} (hkey : keyOf Try.prog K key = some kl) : (Instr.lookup t (.map (some mb)) key false).run Try.prog w = .ok (ptrv (f kl)) w := by
  obtain ⟨D, h1, _, h2⟩ := h
  obtain ⟨v, ps, hr, hv⟩ := h1.lookup law ht hz (zd := .nil) (zp := []) rfl hkey
  rw [(h2 kl).1] at hv
  rw [hr, ptrElem_inv hv]

theorem PMap.lookOk {w : World} {t K e : TypeId} {mb n c : Nat} {f : Lit → Option Nat} (h : PMap w K mb n c f) (law : Maps.Keyed Try.prog K) (ht : Try.prog.underlying t = some (.map K e)) (hz : (zeroValue e).run Try.prog w = .ok (.pointer none) w)
    {key : Value} {kl : Lit} (hkey : keyOf Try.prog K key = some kl) : (Instr.lookup t (.map (some mb)) key true).run Try.prog w = .ok (.tuple #[ptrv (f kl), .bool (f kl).isSome]) w := by
  obtain ⟨D, h1, _, h2⟩ := h
  obtain ⟨v, ps, hr, hv⟩ := h1.look_ok law ht hz (zd := .nil) (zp := []) rfl hkey
  rw [(h2 kl).1] at hv
  rw [hr, ptrElem_inv hv, (h2 kl).2]

theorem PMap.put {w : World} {t K e : TypeId} {mb n c : Nat} {f : Lit → Option Nat} (h : PMap w K mb n c f) (law : Maps.Keyed Try.prog K) (ht : Try.prog.underlying t = some (.map K e)) (hn : n < 1000000000)
    {key : Value} {kl : Lit} (hkey : keyOf Try.prog K key = some kl) (b : Nat) : ∃ w', (Instr.mapUpdate t (.map (some mb)) key (ptrv (some b))).run Try.prog w = .ok () w' ∧
      PMap w' K mb (n + 1) (if (f kl).isSome then c else c + 1) (upd f kl (some b)) ∧ w.grownBy w' (some mb) ∧ w'.heap.size = w.heap.size := by
  obtain ⟨D, h1, hc, h2⟩ := h
  obtain ⟨w', hr, h3, h4⟩ := h1.store law ht (by unfold maxLen; omega) (d := ptrd (some b)) (ps := []) hkey (ptrElem_ptrv (some b))
  refine ⟨w', hr, ⟨_, h3, ?_, fun z => ?_⟩, h4.grown, ?_⟩
  · rw [Maps.size_put (h1.tidy law), hc, (h2 kl).2]
  · by_cases e : z = kl
    · subst e
      rw [upd_same _ _ (law.key hkey)]
      exact ⟨Maps.atKey_put_same h1.isMap (law.key hkey) _ _, by rw [Maps.has_put_same h1.isMap (law.key hkey)]; rfl⟩
    · rw [upd_other _ _ e]
      exact ⟨by rw [Maps.atKey_put_other e]; exact (h2 z).1, by rw [Maps.has_put_other e]; exact (h2 z).2⟩
  · obtain ⟨es, clock, es', clock', _, rfl⟩ := h4
    simp [ChangeMaps.setBlock]

theorem PMap.del {w : World} {t K e ty : TypeId} {mb n c : Nat} {f : Lit → Option Nat} (h : PMap w K mb n c f) (law : Maps.Keyed Try.prog K) (ht : Try.prog.underlying t = some (.map K e))
    {key : Value} {kl : Lit} (hkey : keyOf Try.prog K key = some kl) : ∃ w', (Builtin.delete_ #[t, K] ty #[.map (some mb), key]).run Try.prog w = .ok (.tuple #[]) w' ∧
      PMap w' K mb n (c - if (f kl).isSome then 1 else 0) (upd f kl none) ∧ w.grownBy w' (some mb) ∧ w'.heap.size = w.heap.size := by
  obtain ⟨D, h1, hc, h2⟩ := h
  obtain ⟨w', hr, h3, h4⟩ := h1.drop law ht hkey ty
  refine ⟨w', hr, ⟨_, h3, ?_, fun z => ?_⟩, h4.grown, ?_⟩
  · have := Maps.size_del (k := kl) (h1.tidy law)
    rw [hc, (h2 kl).2] at this
    omega
  · by_cases e : z = kl
    · subst e
      rw [upd_same _ _ (law.key hkey)]
      exact ⟨Maps.atKey_del_same _, Maps.has_del_same⟩
    · rw [upd_other _ _ e]
      exact ⟨by rw [Maps.atKey_del_other e]; exact (h2 z).1, by rw [Maps.has_del_other e]; exact (h2 z).2⟩
  · obtain ⟨es, clock, es', clock', _, rfl⟩ := h4
    simp [ChangeMaps.setBlock]

theorem PMap.len {w : World} {t K e : TypeId} {mb n c : Nat} {f : Lit → Option Nat} (h : PMap w K mb n c f) (ht : Try.prog.underlying t = some (.map K e)) (ty : TypeId) : (Builtin.len_ #[t] ty #[.map (some mb)]).run Try.prog w = .ok (.int .i64 c) w := by
  obtain ⟨D, h1, hc, h2⟩ := h
  rw [h1.len ht ty, hc]

end Go.Proofs.Qxb6604433a
