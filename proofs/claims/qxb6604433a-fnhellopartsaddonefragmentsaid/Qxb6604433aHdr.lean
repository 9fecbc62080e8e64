import Derived.Test.Qxb6604433aCat
namespace Go.Proofs.Qxb6604433a
open Go.RowKit Go.WideShapes
set_option linter.unusedVariables false
set_option linter.unusedSimpArgs false

/-! ### zzHeader -/
def hdr (t l s : Int) : List Int := [t, l / 65536 % 256, l / 256 % 256, l % 256, s / 256, s % 256, 0, 0, 0, l / 65536 % 256, l / 256 % 256, l % 256]
theorem length_hdr (t l s : Int) : (hdr t l s).length = 12 := rfl

set_option maxRecDepth 100000 in
set_option maxHeartbeats 400000 in
theorem zzHeader_any (t l s : Int) (ht0 : 0 ≤ t) (ht : t ≤ 255) (hl0 : 0 ≤ l) (hl : l ≤ 4294967295) (hs0 : 0 ≤ s) (hs : s ≤ 65535) (w : World) :
    Calls Try.prog 23 #[.int .u8 t, .int .u32 l, .int .u16 s] w fun e w' => e = .returned (.slice (some ⟨w.heap.size, 0, none⟩) 12 12) ∧ w'.heap[w.heap.size]? = some (.cells (ints .u8 (hdr t l s)).toArray 5 (0, 0)) ∧ Below w.heap.size w w' := by
  go_enter Try.func23, Try.ntmps23
  go_wp2
  go_ret
  exact ⟨rfl, heap_alloc_new _ _, (Below.refl _ _).alloc (Nat.le_refl _) _⟩

end Go.Proofs.Qxb6604433a
