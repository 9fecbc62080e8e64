import Derived.Test.Qxb6604433aClones
import Derived.ProofKit
import Derived.OpenShut
import Derived.ShutString
import Derived.ChangeOld
import Derived.Deep.Slices
namespace Go.Proofs.Qxb6604433a
open Go.ChangeShapes Go.WideShapes Go.ChangeAt Go.RowKit
set_option linter.unusedVariables false
set_option linter.unusedSimpArgs false

theorem At.of_add {k : IntKind} {w : World} {x : Addr} {zs : List Int} (h : ∀ i, i < zs.length → w.cell? (x.add i) = some (.int k (zs.getD i 0))) : At k w (some x) zs := by
  intro j hj
  obtain ⟨b, off, spot⟩ := x
  have hs : spot = none := by simpa [Addr.add] using World.cell?_spot (h 0 (by omega))
  subst hs
  exact ⟨b, off, rfl, by rw [← add_plain]; exact h j hj⟩

theorem At.take {k : IntKind} {w : World} {a : Option Addr} {zs : List Int} (h : At k w a zs) (n : Nat) : At k w a (zs.take n) := by
  intro j hj
  have hj2 : j < zs.length := by rw [List.length_take] at hj; omega
  have hj3 : j < n := by rw [List.length_take] at hj; omega
  obtain ⟨b, off, h1, h2⟩ := h j hj2
  refine ⟨b, off, h1, ?_⟩
  rw [h2]
  simp [List.getElem?_take, hj3]

/-- A slice of numbers that came in, as a row. -/
theorem row_of_trod {H : Type} {enc : TypeId × Value → H} {W : World} {t e : TypeId} {k : IntKind} {a : Option Addr} {len cap : Nat} {d : DataW H} {p : List MemPlace} (ht : Try.prog.underlying t = some (.slice e)) (he : Try.prog.underlying e = some (.int k)) (hc : Try.prog.cellsOf e = 1)
    (h : DataW.Trod enc Try.prog W 0 (fun _ => true) true t (.slice a len cap) d p) : ∃ zs, Row k W a len cap zs ∧ ∀ n ∈ zs, (Lit.int k n).wf = true := by
  obtain ⟨fuel, hf⟩ := h
  rcases open_ints ht he hc hf with ⟨hcs, _⟩ | ⟨x, l, c, zs, hcs, _, hl, hm, hz, _, hcell, hwz⟩
  · simp [Value.cells] at hcs
    obtain ⟨rfl, rfl, rfl⟩ := hcs
    exact ⟨[], ⟨fun _ => ⟨rfl, rfl⟩, rfl, fun j hj => absurd hj (Nat.not_lt_zero _)⟩, fun n hn => by cases hn⟩
  · simp [Value.cells] at hcs
    obtain ⟨rfl, rfl, rfl⟩ := hcs
    refine ⟨zs.take len, ⟨(fun h => by cases h), ?_, (At.of_add hcell).take len⟩, fun n hn => hwz n (List.mem_of_mem_take hn)⟩
    rw [List.length_take, hz]
    simp
    omega

/-- A slice of slices of bytes that came in. -/
theorem outer_of_trod {H : Type} {enc : TypeId × Value → H} {W : World} {a : Option Addr} {len cap : Nat} {d : DataW H} {p : List MemPlace}
    (h : DataW.Trod enc Try.prog W 0 (fun _ => true) true 59 (.slice a len cap) d p) : (a = none → len = 0 ∧ cap = 0) ∧ ∃ us, Outer W a len us ∧ ∀ j, j < len → InnerU W (us.getD j undef) := by
  obtain ⟨fuel, hf⟩ := h
  rcases Deep.open_slice1 Try.underlying59 (by kernel_rfl) hf with ⟨hcs, _⟩ | ⟨x, l, c, m, n, V, D, Pl, hcs, _, hl, hm, hmm, _, hV⟩
  · simp [Value.cells] at hcs
    obtain ⟨rfl, rfl, rfl⟩ := hcs
    exact ⟨fun _ => ⟨rfl, rfl⟩, [], ⟨rfl, fun j hj => absurd hj (Nat.not_lt_zero _)⟩, fun j hj => absurd hj (Nat.not_lt_zero _)⟩
  · simp [Value.cells] at hcs
    obtain ⟨rfl, rfl, rfl⟩ := hcs
    simp only [if_true] at hmm
    have key : ∀ j, j < len → ∃ y l c, V j = .slice y l c ∧ InnerU W (V j) := by
      intro j hj
      obtain ⟨h1, h2⟩ := hV j (by omega)
      rcases open_ints Try.underlying22 Try.underlying5 (by kernel_rfl) h2 with ⟨hcs, _⟩ | ⟨x, l, c, zs, hcs, _, hl, hm, hz, _, hcell, hwz⟩
      · simp at hcs
        exact ⟨_, _, _, hcs, .inl hcs⟩
      · simp at hcs
        refine ⟨_, _, _, hcs, .inr ⟨x, l, c, zs.take l, hcs, ?_, (At.of_add hcell).take l⟩⟩
        rw [List.length_take, hz]
        simp
        omega
    have eu : ∀ j, j < len → ((List.range len).map V).getD j undef = V j := by
      intro j hj
      simp [hj]
    refine ⟨(fun h => by cases h), (List.range len).map V, ⟨by simp, fun j hj => ?_⟩, fun j hj => ?_⟩
    · obtain ⟨y, l, c, e1, e2⟩ := key j hj
      obtain ⟨h1, h2⟩ := hV j (by omega)
      obtain ⟨b, off, spot⟩ := x
      have hs : spot = none := by simpa [Addr.add] using World.cell?_spot (hV 0 (by omega)).1
      subst hs
      rw [add_plain] at h1
      exact ⟨b, off, y, l, c, rfl, by rw [h1, e1], by rw [eu j hj, e1]⟩
    · rw [eu j hj]
      obtain ⟨y, l, c, e1, e2⟩ := key j hj
      exact e2

theorem agg_of_array {P : Program} {w : World} {r : Reach} {base : Nat} {t : TypeId} {v : Value} {n : Nat} {e : TypeId} (ht : P.underlying t = some (.array n e)) (h : Value.okWide P w r base t v) : ∃ cs, v = .agg cs ∧ cs.size = P.cellsOf t := by
  simp only [Value.okWide, ht] at h
  obtain ⟨cs, h1, h2, _⟩ := h
  exact ⟨cs, h1, h2⟩

end Go.Proofs.Qxb6604433a
