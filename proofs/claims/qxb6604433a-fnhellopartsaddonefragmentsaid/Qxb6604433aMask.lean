/-
  THE MASK OF THE BYTES THAT A FRAGMENT BRINGS TO A BLOCK: '(uint64(1)<<n - 1) << start'.
-/
import Derived.Test.Qxb6604433aPop
import Derived.WalkKit
namespace Go.Proofs.Qxb6604433a
open Go.RowKit
set_option linter.unusedVariables false
set_option linter.unusedSimpArgs false

/-- n ones from place st on. -/
def mask (n st : Nat) : Nat := (2 ^ n - 1) * 2 ^ st

theorem mask_lt (n st : Nat) (h : n + st ≤ 64) : mask n st < 18446744073709551616 := by
  unfold mask
  have h1 : 2 ^ n * 2 ^ st ≤ 2 ^ 64 := by rw [← Nat.pow_add]; exact Nat.pow_le_pow_right (by decide) h
  have h2 : 0 < 2 ^ st := Nat.two_pow_pos st
  have h3 : 0 < 2 ^ n := Nat.two_pow_pos n
  have h4 : (2 ^ n - 1) * 2 ^ st < 2 ^ n * 2 ^ st := Nat.mul_lt_mul_of_pos_right (by omega) h2
  have h5 : (2 : Nat) ^ 64 = 18446744073709551616 := rfl
  omega

theorem testBit_mask (n st j : Nat) : (mask n st).testBit j = (decide (st ≤ j) && decide (j < st + n)) := by
  unfold mask
  rw [Nat.mul_comm, Nat.testBit_two_pow_mul, Nat.testBit_two_pow_sub_one]
  by_cases h : st ≤ j
  · simp [h]
    omega
  · simp [h]

theorem run_shl1 {P : Program} (m : Nat) (w : World) : (binOp .shl 30 (.int .u64 1) (.int .i64 m)).run P w = .ok (.int .u64 ((2 ^ min m 64 % 18446744073709551616 : Nat) : Int)) w := by
  simp [binOp, go_sem, IntKind.wrap_u64]

theorem run_shl2 {P : Program} (m st : Nat) (h : m + st ≤ 64) (w : World) : (binOp .shl 30 (.int .u64 ((2 ^ m - 1 : Nat) : Int)) (.int .u32 st)).run P w = .ok (.int .u64 (mask m st)) w := by
  have e : min st 64 = st := by omega
  have hm := mask_lt m st h
  have e2 : IntKind.u64.wrap (((2 ^ m - 1 : Nat) : Int) * 2 ^ st) = (mask m st : Int) := by
    have : (((2 ^ m - 1 : Nat) : Int) * 2 ^ st) = ((mask m st : Nat) : Int) := by unfold mask; rw [Int.natCast_mul]; simp
    rw [this, IntKind.wrap_u64]
    omega
  rw [← e2]
  simp only [binOp, Op.shift]
  rw [if_neg (by omega)]
  simp [e, IntKind.bits]

theorem sub_mask (m : Nat) (h : m ≤ 64) : IntKind.u64.wrap (((2 ^ min m 64 % 18446744073709551616 : Nat) : Int) - 1) = ((2 ^ m - 1 : Nat) : Int) := by
  rw [IntKind.wrap_u64, Nat.min_eq_left h]
  by_cases e : m = 64
  · subst e; decide
  · have h1 : 2 ^ m ≤ 2 ^ 63 := Nat.pow_le_pow_right (by decide) (by omega)
    have h2 : (2 : Nat) ^ 63 = 9223372036854775808 := rfl
    have h3 : 0 < 2 ^ m := Nat.two_pow_pos m
    omega

/-- The three steps, the numbers between them as letters. -/
theorem masked {P : Program} (m st : Nat) (h : m + st ≤ 64) : ∃ a b : Int, 0 ≤ a ∧ a ≤ 9223372036854775808 ∧ (∀ w, (binOp .shl 30 (.int .u64 1) (.int .i64 m)).run P w = .ok (.int .u64 a) w) ∧ IntKind.u64.wrap (a - 1) = b ∧ (∀ w, (binOp .shl 30 (.int .u64 b) (.int .u32 st)).run P w = .ok (.int .u64 (mask m st)) w) := by
  refine ⟨_, _, ?_, ?_, fun w => run_shl1 m w, sub_mask m (by omega), fun w => run_shl2 m st h w⟩
  · omega
  · rw [Nat.min_eq_left (by omega : m ≤ 64)]
    by_cases e : m = 64
    · subst e; decide
    · have h1 : 2 ^ m ≤ 2 ^ 63 := Nat.pow_le_pow_right (by decide) (by omega)
      have h2 : (2 : Nat) ^ 63 = 9223372036854775808 := rfl
      have h3 := Nat.mod_le (2 ^ m) 18446744073709551616
      rw [h2] at h1
      have h4 : 2 ^ m % 18446744073709551616 ≤ 9223372036854775808 := Nat.le_trans h3 h1
      exact Int.ofNat_le.2 h4

/-- The same in one line, as the walk writes it. -/
theorem wrapped (m st : Nat) (h : m + st ≤ 64) : IntKind.u64.wrap (IntKind.u64.wrap (IntKind.u64.wrap (2 ^ m) - 1) * 2 ^ st) = (mask m st : Int) := by
  have e1 : IntKind.u64.wrap (2 ^ m) = ((2 ^ min m 64 % 18446744073709551616 : Nat) : Int) := by
    rw [Nat.min_eq_left (by omega : m ≤ 64), IntKind.wrap_u64]
    simp
  rw [e1, sub_mask m (by omega)]
  have hm := mask_lt m st h
  have : (((2 ^ m - 1 : Nat) : Int) * 2 ^ st) = ((mask m st : Nat) : Int) := by unfold mask; rw [Int.natCast_mul]; simp
  rw [this, IntKind.wrap_u64]
  omega

/-! ### how many ones -/
theorem countP_or {α : Type} (p q : α → Bool) (l : List α) : l.countP (fun x => p x || q x) = l.countP p + l.countP (fun x => q x && !p x) := by
  induction l with
  | nil => rfl
  | cons x l ih =>
    simp only [List.countP_cons, ih]
    cases p x <;> cases q x <;> simp <;> omega

theorem not_testBit (h : Nat) (hh : h < 18446744073709551616) (j : Nat) (hj : j < 64) : (18446744073709551615 - h).testBit j = !h.testBit j := by
  have e : 18446744073709551615 - h = 2 ^ 64 - (h + 1) := by
    have : (2 : Nat) ^ 64 = 18446744073709551616 := rfl
    omega
  rw [e, Nat.testBit_two_pow_sub_succ (by simpa using hh)]
  simp [hj]

/-- What the fragment adds to the ones of a block. -/
theorem pop_or (h m : Nat) (hh : h < 18446744073709551616) : pop (h ||| m) = pop h + pop (m &&& (18446744073709551615 - h)) := by
  unfold pop popTo
  have e1 : (List.range 64).countP (fun j => (h ||| m).testBit j) = (List.range 64).countP (fun j => h.testBit j || m.testBit j) := by
    apply List.countP_congr; intro j _; rw [Nat.testBit_or]
  have e2 : (List.range 64).countP (fun j => (m &&& (18446744073709551615 - h)).testBit j) = (List.range 64).countP (fun j => m.testBit j && !h.testBit j) := by
    apply List.countP_congr; intro j hj; rw [Nat.testBit_and, not_testBit h hh j (List.mem_range.1 hj)]
  rw [e1, e2, countP_or]

end Go.Proofs.Qxb6604433a
