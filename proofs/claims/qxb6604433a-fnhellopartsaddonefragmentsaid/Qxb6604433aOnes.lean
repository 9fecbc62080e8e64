import Derived.Test.Qxb6604433aPop
import Derived.Test.Qxb6604433aBytes
namespace Go.Proofs.Qxb6604433a
open Go.RowKit Go.WideShapes
set_option linter.unusedVariables false
set_option linter.unusedSimpArgs false

theorem and_int (a b : Nat) (ha : a < 18446744073709551616) (hb : b < 18446744073709551616) (x y : Int) (hx : x = a) (hy : y = b) : bits .and .u64 x y = ((a &&& b : Nat) : Int) := by
  subst hx; subst hy; exact u64_and_nat a b ha hb

theorem stages (X : Nat) (hX : X < 18446744073709551616) : ∃ A1 A2 B1 B2 c : Nat, bits .and .u64 ((X : Int) / 2) 6148914691236517205 = A1 ∧ bits .and .u64 (X : Int) 6148914691236517205 = A2 ∧ A1 + A2 < 18446744073709551616 ∧
    bits .and .u64 (((A1 : Int) + (A2 : Int)) / 4) 3689348814741910323 = B1 ∧ bits .and .u64 ((A1 : Int) + (A2 : Int)) 3689348814741910323 = B2 ∧ B1 + B2 < 8000000000000000000 ∧
    bits .and .u64 (((B1 : Int) + (B2 : Int)) / 16 + ((B1 : Int) + (B2 : Int))) 1085102592571150095 = c ∧ c ≤ 578721382704613384 ∧
    ((c + c / 256) + (c + c / 256) / 65536 + ((c + c / 256) + (c + c / 256) / 65536) / 4294967296) % 128 = pop X := by
  obtain ⟨a, b, c, h1, h2, h3, h4, h5, h6, h7⟩ := swar X hX
  refine ⟨X / 2 &&& 6148914691236517205, X &&& 6148914691236517205, a / 4 &&& 3689348814741910323, a &&& 3689348814741910323, c, ?_, ?_, by rw [h1]; exact h2, ?_, ?_, by rw [h3]; exact h4, ?_, h6, h7⟩
  · exact and_int _ _ (by omega) (by decide) _ _ (by omega) rfl
  · exact and_int _ _ hX (by decide) _ _ rfl rfl
  · exact and_int _ _ (by omega) (by decide) _ _ (by rw [← h1]; omega) rfl
  · exact and_int _ _ h2 (by decide) _ _ (by rw [← h1]; omega) rfl
  · rw [← h5]
    exact and_int _ _ (by omega) (by decide) _ _ (by rw [← h3]; omega) rfl

theorem wraps_i64 (n : Int) (h₀ : 0 ≤ n) (h₁ : n < 2 ^ 63) : IntKind.i64.wrap n = n := by rw [IntKind.wrap_i64]; omega
theorem i64_and127 (x : Int) (h₀ : 0 ≤ x) (h₁ : x < 9223372036854775808) : bits .and .i64 x 127 = x % 128 := bits_mask .i64 63 (by decide) wraps_i64 7 (by decide) x h₀ h₁

set_option maxRecDepth 100000 in
set_option maxHeartbeats 400000 in
theorem ones_any (X : Nat) (hX : X < 18446744073709551616) (w : World) :
    Calls Try.prog 58 #[.int .u64 X] w fun e w' => e = .returned (.int .i64 (pop X)) ∧ w' = w := by
  obtain ⟨A1, A2, B1, B2, c, e1, e2, l1, e3, e4, l2, e5, l3, hp⟩ := stages X hX
  have HP : Hid (((c + c / 256) + (c + c / 256) / 65536 + ((c + c / 256) + (c + c / 256) / 65536) / 4294967296) % 128 = pop X) := hp
  clear hp
  go_enter Try.func58, Try.ntmps58
  go_wp2
  go_ret
  refine ⟨ret_int ?_, rfl⟩
  rw [i64_and127 _ (by omega) (by omega), ← HP.out]
  omega
end Go.Proofs.Qxb6604433a
