/-
  THE PLAIN MATHEMATICS OF A WORD's ONES: no Go in sight. 'pop x': how many of the 64 bits of x are set; the library's reckoning (three masks, three sums) comes to it.
-/
import Derived.Test.Qxb6604433aRows
namespace Go.Proofs.Qxb6604433a
set_option linter.unusedVariables false
set_option linter.unusedSimpArgs false

/-- How many of the first n bits are set. -/
def popTo (n x : Nat) : Nat := (List.range n).countP (fun j => x.testBit j)
def pop (x : Nat) : Nat := popTo 64 x

theorem and_step (a b A B : Nat) (ha : a < 256) (hb : b < 256) : (a + 256 * A) &&& (b + 256 * B) = (a &&& b) + 256 * (A &&& B) := by
  have h1 : ((a + 256 * A) &&& (b + 256 * B)) % 2 ^ 8 = ((a + 256 * A) % 2 ^ 8) &&& ((b + 256 * B) % 2 ^ 8) := Nat.and_mod_two_pow
  have h2 : ((a + 256 * A) &&& (b + 256 * B)) / 2 ^ 8 = ((a + 256 * A) / 2 ^ 8) &&& ((b + 256 * B) / 2 ^ 8) := Nat.and_div_two_pow
  rw [show (2 : Nat) ^ 8 = 256 from rfl] at h1 h2
  rw [show (a + 256 * A) % 256 = a from by omega, show (b + 256 * B) % 256 = b from by omega] at h1
  rw [show (a + 256 * A) / 256 = A from by omega, show (b + 256 * B) / 256 = B from by omega] at h2
  omega

/-- Eight bytes as one number. -/
def V (y0 y1 y2 y3 y4 y5 y6 y7 : Nat) : Nat := y0 + 256 * (y1 + 256 * (y2 + 256 * (y3 + 256 * (y4 + 256 * (y5 + 256 * (y6 + 256 * (y7 + 256 * 0)))))))

theorem V_of (x : Nat) (hx : x < 18446744073709551616) : ∃ y0 y1 y2 y3 y4 y5 y6 y7, y0 < 256 ∧ y1 < 256 ∧ y2 < 256 ∧ y3 < 256 ∧ y4 < 256 ∧ y5 < 256 ∧ y6 < 256 ∧ y7 < 256 ∧ x = V y0 y1 y2 y3 y4 y5 y6 y7 := by
  refine ⟨x % 256, x / 256 % 256, x / 65536 % 256, x / 16777216 % 256, x / 4294967296 % 256, x / 1099511627776 % 256, x / 281474976710656 % 256, x / 72057594037927936, ?_⟩
  unfold V
  omega

theorem and_V (c : Nat) (hc : c < 256) (y0 y1 y2 y3 y4 y5 y6 y7 : Nat) (h0 : y0 < 256) (h1 : y1 < 256) (h2 : y2 < 256) (h3 : y3 < 256) (h4 : y4 < 256) (h5 : y5 < 256) (h6 : y6 < 256) (h7 : y7 < 256) :
    V y0 y1 y2 y3 y4 y5 y6 y7 &&& V c c c c c c c c = V (y0 &&& c) (y1 &&& c) (y2 &&& c) (y3 &&& c) (y4 &&& c) (y5 &&& c) (y6 &&& c) (y7 &&& c) := by
  unfold V
  rw [and_step _ _ _ _ h0 hc, and_step _ _ _ _ h1 hc, and_step _ _ _ _ h2 hc, and_step _ _ _ _ h3 hc, and_step _ _ _ _ h4 hc, and_step _ _ _ _ h5 hc, and_step _ _ _ _ h6 hc, and_step _ _ _ _ h7 hc]
  rfl

def sA (y : Nat) : Nat := (y / 2 &&& 85) + (y &&& 85)
def sB (y : Nat) : Nat := (sA y / 4 &&& 51) + (sA y &&& 51)
def sC (y : Nat) : Nat := (sB y / 16 + sB y) % 16

theorem tabA : ∀ y : Fin 256, ∀ b : Fin 2, (y.val / 2 + 128 * b.val) &&& 85 = y.val / 2 &&& 85 := by decide +kernel
theorem tabA2 : ∀ y : Fin 256, sA y.val < 256 ∧ (y.val / 2 &&& 85) < 128 ∧ (y.val &&& 85) < 128 := by decide +kernel
theorem tabB : ∀ y : Fin 256, ∀ b : Fin 4, (y.val / 4 + 64 * b.val) &&& 51 = y.val / 4 &&& 51 := by decide +kernel
theorem tabB2 : ∀ y : Fin 256, sB y.val / 16 ≤ 4 ∧ sB y.val % 16 ≤ 4 ∧ (sA y.val / 4 &&& 51) < 128 ∧ (sA y.val &&& 51) < 128 := by decide +kernel
theorem tabM : ∀ y : Fin 256, y.val &&& 15 = y.val % 16 := by decide +kernel
theorem tabC : ∀ y : Fin 256, sC y.val = popTo 8 y.val ∧ sC y.val ≤ 8 := by decide +kernel

theorem popTo_split (n x : Nat) : popTo (8 + n) x = popTo 8 (x % 256) + popTo n (x / 256) := by
  unfold popTo
  rw [List.range_add, List.countP_append, List.countP_map]
  congr 1
  · apply List.countP_congr
    intro j hj
    have hj8 : j < 8 := List.mem_range.1 hj
    rw [show (256 : Nat) = 2 ^ 8 from rfl, Nat.testBit_mod_two_pow]
    simp [hj8]
  · apply List.countP_congr
    intro j hj
    rw [show (256 : Nat) = 2 ^ 8 from rfl, Nat.testBit_div_two_pow]
    simp [Nat.add_comm]

theorem popTo_zero (x : Nat) : popTo 0 x = 0 := rfl

theorem pop_V (y0 y1 y2 y3 y4 y5 y6 y7 : Nat) (h0 : y0 < 256) (h1 : y1 < 256) (h2 : y2 < 256) (h3 : y3 < 256) (h4 : y4 < 256) (h5 : y5 < 256) (h6 : y6 < 256) (h7 : y7 < 256) :
    pop (V y0 y1 y2 y3 y4 y5 y6 y7) = popTo 8 y0 + (popTo 8 y1 + (popTo 8 y2 + (popTo 8 y3 + (popTo 8 y4 + (popTo 8 y5 + (popTo 8 y6 + popTo 8 y7)))))) := by
  have st : ∀ n a A, a < 256 → popTo (8 + n) (a + 256 * A) = popTo 8 a + popTo n A := by
    intro n a A ha
    rw [popTo_split, show (a + 256 * A) % 256 = a from by omega, show (a + 256 * A) / 256 = A from by omega]
  unfold pop V
  rw [show 64 = 8 + (8 + (8 + (8 + (8 + (8 + (8 + (8 + 0))))))) from rfl]
  rw [st _ _ _ h0, st _ _ _ h1, st _ _ _ h2, st _ _ _ h3, st _ _ _ h4, st _ _ _ h5, st _ _ _ h6, st _ _ _ h7, popTo_zero]
  rfl

theorem V_add (a0 a1 a2 a3 a4 a5 a6 a7 b0 b1 b2 b3 b4 b5 b6 b7 : Nat) : V a0 a1 a2 a3 a4 a5 a6 a7 + V b0 b1 b2 b3 b4 b5 b6 b7 = V (a0 + b0) (a1 + b1) (a2 + b2) (a3 + b3) (a4 + b4) (a5 + b5) (a6 + b6) (a7 + b7) := by unfold V; omega
theorem tabA' (y b : Nat) (hy : y < 256) (hb : b < 2) : (y / 2 + 128 * b) &&& 85 = y / 2 &&& 85 := tabA ⟨y, hy⟩ ⟨b, hb⟩
theorem tabB' (y b : Nat) (hy : y < 256) (hb : b < 4) : (y / 4 + 64 * b) &&& 51 = y / 4 &&& 51 := tabB ⟨y, hy⟩ ⟨b, hb⟩
theorem tabM' (y : Nat) (hy : y < 256) : y &&& 15 = y % 16 := tabM ⟨y, hy⟩

theorem stA (y0 y1 y2 y3 y4 y5 y6 y7 : Nat) (h0 : y0 < 256) (h1 : y1 < 256) (h2 : y2 < 256) (h3 : y3 < 256) (h4 : y4 < 256) (h5 : y5 < 256) (h6 : y6 < 256) (h7 : y7 < 256) :
    (V y0 y1 y2 y3 y4 y5 y6 y7 / 2 &&& 6148914691236517205) + (V y0 y1 y2 y3 y4 y5 y6 y7 &&& 6148914691236517205) = V (sA y0) (sA y1) (sA y2) (sA y3) (sA y4) (sA y5) (sA y6) (sA y7) := by
  have e : V y0 y1 y2 y3 y4 y5 y6 y7 / 2 = V (y0 / 2 + 128 * (y1 % 2)) (y1 / 2 + 128 * (y2 % 2)) (y2 / 2 + 128 * (y3 % 2)) (y3 / 2 + 128 * (y4 % 2)) (y4 / 2 + 128 * (y5 % 2)) (y5 / 2 + 128 * (y6 % 2)) (y6 / 2 + 128 * (y7 % 2)) (y7 / 2) := by unfold V; omega
  rw [e, show (6148914691236517205 : Nat) = V 85 85 85 85 85 85 85 85 from rfl,
    and_V 85 (by omega) _ _ _ _ _ _ _ _ (by omega) (by omega) (by omega) (by omega) (by omega) (by omega) (by omega) (by omega),
    and_V 85 (by omega) _ _ _ _ _ _ _ _ h0 h1 h2 h3 h4 h5 h6 h7]
  rw [tabA' y0 (y1 % 2) h0 (by omega)]
  rw [tabA' y1 (y2 % 2) h1 (by omega)]
  rw [tabA' y2 (y3 % 2) h2 (by omega)]
  rw [tabA' y3 (y4 % 2) h3 (by omega)]
  rw [tabA' y4 (y5 % 2) h4 (by omega)]
  rw [tabA' y5 (y6 % 2) h5 (by omega)]
  rw [tabA' y6 (y7 % 2) h6 (by omega)]
  exact V_add _ _ _ _ _ _ _ _ _ _ _ _ _ _ _ _

theorem stB (y0 y1 y2 y3 y4 y5 y6 y7 : Nat) (h0 : y0 < 256) (h1 : y1 < 256) (h2 : y2 < 256) (h3 : y3 < 256) (h4 : y4 < 256) (h5 : y5 < 256) (h6 : y6 < 256) (h7 : y7 < 256) :
    ((V (sA y0) (sA y1) (sA y2) (sA y3) (sA y4) (sA y5) (sA y6) (sA y7)) / 4 &&& 3689348814741910323) + ((V (sA y0) (sA y1) (sA y2) (sA y3) (sA y4) (sA y5) (sA y6) (sA y7)) &&& 3689348814741910323) = V (sB y0) (sB y1) (sB y2) (sB y3) (sB y4) (sB y5) (sB y6) (sB y7) := by
  have g0 : sA y0 < 256 := (tabA2 ⟨y0, h0⟩).1
  have g1 : sA y1 < 256 := (tabA2 ⟨y1, h1⟩).1
  have g2 : sA y2 < 256 := (tabA2 ⟨y2, h2⟩).1
  have g3 : sA y3 < 256 := (tabA2 ⟨y3, h3⟩).1
  have g4 : sA y4 < 256 := (tabA2 ⟨y4, h4⟩).1
  have g5 : sA y5 < 256 := (tabA2 ⟨y5, h5⟩).1
  have g6 : sA y6 < 256 := (tabA2 ⟨y6, h6⟩).1
  have g7 : sA y7 < 256 := (tabA2 ⟨y7, h7⟩).1
  have e : (V (sA y0) (sA y1) (sA y2) (sA y3) (sA y4) (sA y5) (sA y6) (sA y7)) / 4 = V (sA y0 / 4 + 64 * (sA y1 % 4)) (sA y1 / 4 + 64 * (sA y2 % 4)) (sA y2 / 4 + 64 * (sA y3 % 4)) (sA y3 / 4 + 64 * (sA y4 % 4)) (sA y4 / 4 + 64 * (sA y5 % 4)) (sA y5 / 4 + 64 * (sA y6 % 4)) (sA y6 / 4 + 64 * (sA y7 % 4)) (sA y7 / 4) := by unfold V; omega
  rw [e, show (3689348814741910323 : Nat) = V 51 51 51 51 51 51 51 51 from rfl,
    and_V 51 (by omega) _ _ _ _ _ _ _ _ (by omega) (by omega) (by omega) (by omega) (by omega) (by omega) (by omega) (by omega),
    and_V 51 (by omega) _ _ _ _ _ _ _ _ g0 g1 g2 g3 g4 g5 g6 g7]
  rw [tabB' (sA y0) (sA y1 % 4) g0 (by omega)]
  rw [tabB' (sA y1) (sA y2 % 4) g1 (by omega)]
  rw [tabB' (sA y2) (sA y3 % 4) g2 (by omega)]
  rw [tabB' (sA y3) (sA y4 % 4) g3 (by omega)]
  rw [tabB' (sA y4) (sA y5 % 4) g4 (by omega)]
  rw [tabB' (sA y5) (sA y6 % 4) g5 (by omega)]
  rw [tabB' (sA y6) (sA y7 % 4) g6 (by omega)]
  exact V_add _ _ _ _ _ _ _ _ _ _ _ _ _ _ _ _

theorem stC (y0 y1 y2 y3 y4 y5 y6 y7 : Nat) (h0 : y0 < 256) (h1 : y1 < 256) (h2 : y2 < 256) (h3 : y3 < 256) (h4 : y4 < 256) (h5 : y5 < 256) (h6 : y6 < 256) (h7 : y7 < 256) :
    ((V (sB y0) (sB y1) (sB y2) (sB y3) (sB y4) (sB y5) (sB y6) (sB y7)) / 16 + V (sB y0) (sB y1) (sB y2) (sB y3) (sB y4) (sB y5) (sB y6) (sB y7)) &&& 1085102592571150095 = V (sC y0) (sC y1) (sC y2) (sC y3) (sC y4) (sC y5) (sC y6) (sC y7) := by
  have u0 : sB y0 / 16 ≤ 4 := (tabB2 ⟨y0, h0⟩).1
  have v0 : sB y0 % 16 ≤ 4 := (tabB2 ⟨y0, h0⟩).2.1
  have u1 : sB y1 / 16 ≤ 4 := (tabB2 ⟨y1, h1⟩).1
  have v1 : sB y1 % 16 ≤ 4 := (tabB2 ⟨y1, h1⟩).2.1
  have u2 : sB y2 / 16 ≤ 4 := (tabB2 ⟨y2, h2⟩).1
  have v2 : sB y2 % 16 ≤ 4 := (tabB2 ⟨y2, h2⟩).2.1
  have u3 : sB y3 / 16 ≤ 4 := (tabB2 ⟨y3, h3⟩).1
  have v3 : sB y3 % 16 ≤ 4 := (tabB2 ⟨y3, h3⟩).2.1
  have u4 : sB y4 / 16 ≤ 4 := (tabB2 ⟨y4, h4⟩).1
  have v4 : sB y4 % 16 ≤ 4 := (tabB2 ⟨y4, h4⟩).2.1
  have u5 : sB y5 / 16 ≤ 4 := (tabB2 ⟨y5, h5⟩).1
  have v5 : sB y5 % 16 ≤ 4 := (tabB2 ⟨y5, h5⟩).2.1
  have u6 : sB y6 / 16 ≤ 4 := (tabB2 ⟨y6, h6⟩).1
  have v6 : sB y6 % 16 ≤ 4 := (tabB2 ⟨y6, h6⟩).2.1
  have u7 : sB y7 / 16 ≤ 4 := (tabB2 ⟨y7, h7⟩).1
  have v7 : sB y7 % 16 ≤ 4 := (tabB2 ⟨y7, h7⟩).2.1
  have e : (V (sB y0) (sB y1) (sB y2) (sB y3) (sB y4) (sB y5) (sB y6) (sB y7)) / 16 + V (sB y0) (sB y1) (sB y2) (sB y3) (sB y4) (sB y5) (sB y6) (sB y7) = V (sB y0 / 16 + 16 * (sB y1 % 16) + sB y0) (sB y1 / 16 + 16 * (sB y2 % 16) + sB y1) (sB y2 / 16 + 16 * (sB y3 % 16) + sB y2) (sB y3 / 16 + 16 * (sB y4 % 16) + sB y3) (sB y4 / 16 + 16 * (sB y5 % 16) + sB y4) (sB y5 / 16 + 16 * (sB y6 % 16) + sB y5) (sB y6 / 16 + 16 * (sB y7 % 16) + sB y6) (sB y7 / 16 + sB y7) := by unfold V; omega
  rw [e, show (1085102592571150095 : Nat) = V 15 15 15 15 15 15 15 15 from rfl,
    and_V 15 (by omega) _ _ _ _ _ _ _ _ (by omega) (by omega) (by omega) (by omega) (by omega) (by omega) (by omega) (by omega)]
  rw [tabM' (sB y0 / 16 + 16 * (sB y1 % 16) + sB y0) (by omega)]
  rw [tabM' (sB y1 / 16 + 16 * (sB y2 % 16) + sB y1) (by omega)]
  rw [tabM' (sB y2 / 16 + 16 * (sB y3 % 16) + sB y2) (by omega)]
  rw [tabM' (sB y3 / 16 + 16 * (sB y4 % 16) + sB y3) (by omega)]
  rw [tabM' (sB y4 / 16 + 16 * (sB y5 % 16) + sB y4) (by omega)]
  rw [tabM' (sB y5 / 16 + 16 * (sB y6 % 16) + sB y5) (by omega)]
  rw [tabM' (sB y6 / 16 + 16 * (sB y7 % 16) + sB y6) (by omega)]
  rw [tabM' (sB y7 / 16 + sB y7) (by omega)]
  unfold sC
  rw [show (sB y0 / 16 + 16 * (sB y1 % 16) + sB y0) % 16 = (sB y0 / 16 + sB y0) % 16 from by omega, show (sB y1 / 16 + 16 * (sB y2 % 16) + sB y1) % 16 = (sB y1 / 16 + sB y1) % 16 from by omega, show (sB y2 / 16 + 16 * (sB y3 % 16) + sB y2) % 16 = (sB y2 / 16 + sB y2) % 16 from by omega, show (sB y3 / 16 + 16 * (sB y4 % 16) + sB y3) % 16 = (sB y3 / 16 + sB y3) % 16 from by omega, show (sB y4 / 16 + 16 * (sB y5 % 16) + sB y4) % 16 = (sB y4 / 16 + sB y4) % 16 from by omega, show (sB y5 / 16 + 16 * (sB y6 % 16) + sB y5) % 16 = (sB y5 / 16 + sB y5) % 16 from by omega, show (sB y6 / 16 + 16 * (sB y7 % 16) + sB y6) % 16 = (sB y6 / 16 + sB y6) % 16 from by omega]

theorem V_div (q0 q1 q2 q3 q4 q5 q6 q7 : Nat) (h : q0 < 256) : V q0 q1 q2 q3 q4 q5 q6 q7 / 256 = V q1 q2 q3 q4 q5 q6 q7 0 := by unfold V; omega
theorem V_mod (q0 q1 q2 q3 q4 q5 q6 q7 : Nat) : V q0 q1 q2 q3 q4 q5 q6 q7 % 128 = q0 % 128 := by unfold V; omega

theorem stD (p0 p1 p2 p3 p4 p5 p6 p7 : Nat) (h0 : p0 ≤ 8) (h1 : p1 ≤ 8) (h2 : p2 ≤ 8) (h3 : p3 ≤ 8) (h4 : p4 ≤ 8) (h5 : p5 ≤ 8) (h6 : p6 ≤ 8) (h7 : p7 ≤ 8) :
    ((V p0 p1 p2 p3 p4 p5 p6 p7 + V p0 p1 p2 p3 p4 p5 p6 p7 / 256) + (V p0 p1 p2 p3 p4 p5 p6 p7 + V p0 p1 p2 p3 p4 p5 p6 p7 / 256) / 65536 +
      ((V p0 p1 p2 p3 p4 p5 p6 p7 + V p0 p1 p2 p3 p4 p5 p6 p7 / 256) + (V p0 p1 p2 p3 p4 p5 p6 p7 + V p0 p1 p2 p3 p4 p5 p6 p7 / 256) / 65536) / 4294967296) % 128 = p0 + (p1 + (p2 + (p3 + (p4 + (p5 + (p6 + p7)))))) := by
  rw [V_div _ _ _ _ _ _ _ _ (by omega), V_add]
  rw [show (65536 : Nat) = 256 * 256 from rfl, ← Nat.div_div_eq_div_mul, V_div _ _ _ _ _ _ _ _ (by omega), V_div _ _ _ _ _ _ _ _ (by omega), V_add]
  rw [show (4294967296 : Nat) = 256 * 256 * 256 * 256 from rfl, ← Nat.div_div_eq_div_mul, ← Nat.div_div_eq_div_mul, ← Nat.div_div_eq_div_mul]
  rw [V_div _ _ _ _ _ _ _ _ (by omega), V_div _ _ _ _ _ _ _ _ (by omega), V_div _ _ _ _ _ _ _ _ (by omega), V_div _ _ _ _ _ _ _ _ (by omega), V_add, V_mod]
  omega

theorem V_mono (p0 p1 p2 p3 p4 p5 p6 p7 q : Nat) (h0 : p0 ≤ q) (h1 : p1 ≤ q) (h2 : p2 ≤ q) (h3 : p3 ≤ q) (h4 : p4 ≤ q) (h5 : p5 ≤ q) (h6 : p6 ≤ q) (h7 : p7 ≤ q) : V p0 p1 p2 p3 p4 p5 p6 p7 ≤ V q q q q q q q q := by
  unfold V
  have st : ∀ a b A B : Nat, a ≤ b → A ≤ B → a + 256 * A ≤ b + 256 * B := by intro a b A B h1 h2; omega
  exact st _ _ _ _ h0 (st _ _ _ _ h1 (st _ _ _ _ h2 (st _ _ _ _ h3 (st _ _ _ _ h4 (st _ _ _ _ h5 (st _ _ _ _ h6 (st _ _ _ _ h7 (Nat.le_refl _))))))))
theorem V8 : V 8 8 8 8 8 8 8 8 = 578721382704613384 := by decide +kernel
theorem V68 : V 68 68 68 68 68 68 68 68 = 4919131752989213764 := by decide +kernel
theorem V255 : V 255 255 255 255 255 255 255 255 = 18446744073709551615 := by decide +kernel
theorem tabB3 (y : Nat) (h : y < 256) : sB y ≤ 68 := by
  have u : sB y / 16 ≤ 4 := (tabB2 ⟨y, h⟩).1
  have v : sB y % 16 ≤ 4 := (tabB2 ⟨y, h⟩).2.1
  omega
theorem tabA3 (y : Nat) (h : y < 256) : sA y ≤ 255 := by
  have u : sA y < 256 := (tabA2 ⟨y, h⟩).1
  omega
theorem tabC3 (y : Nat) (h : y < 256) : sC y ≤ 8 := (tabC ⟨y, h⟩).2

/-- The library's reckoning, stage by stage, with the bounds that keep each sum from going round. -/
theorem swar (x : Nat) (hx : x < 18446744073709551616) : ∃ a b c : Nat, (x / 2 &&& 6148914691236517205) + (x &&& 6148914691236517205) = a ∧ a < 18446744073709551616 ∧
    (a / 4 &&& 3689348814741910323) + (a &&& 3689348814741910323) = b ∧ b < 8000000000000000000 ∧ (b / 16 + b) &&& 1085102592571150095 = c ∧ c ≤ 578721382704613384 ∧
    ((c + c / 256) + (c + c / 256) / 65536 + ((c + c / 256) + (c + c / 256) / 65536) / 4294967296) % 128 = pop x := by
  obtain ⟨y0, y1, y2, y3, y4, y5, y6, y7, h0, h1, h2, h3, h4, h5, h6, h7, rfl⟩ := V_of x hx
  refine ⟨V (sA y0) (sA y1) (sA y2) (sA y3) (sA y4) (sA y5) (sA y6) (sA y7), V (sB y0) (sB y1) (sB y2) (sB y3) (sB y4) (sB y5) (sB y6) (sB y7), V (sC y0) (sC y1) (sC y2) (sC y3) (sC y4) (sC y5) (sC y6) (sC y7), stA _ _ _ _ _ _ _ _ h0 h1 h2 h3 h4 h5 h6 h7, ?_, stB _ _ _ _ _ _ _ _ h0 h1 h2 h3 h4 h5 h6 h7, ?_, stC _ _ _ _ _ _ _ _ h0 h1 h2 h3 h4 h5 h6 h7, ?_, ?_⟩
  · have := V_mono _ _ _ _ _ _ _ _ 255 (tabA3 y0 h0) (tabA3 y1 h1) (tabA3 y2 h2) (tabA3 y3 h3) (tabA3 y4 h4) (tabA3 y5 h5) (tabA3 y6 h6) (tabA3 y7 h7)
    rw [V255] at this
    exact Nat.lt_succ_of_le this
  · have := V_mono _ _ _ _ _ _ _ _ 68 (tabB3 y0 h0) (tabB3 y1 h1) (tabB3 y2 h2) (tabB3 y3 h3) (tabB3 y4 h4) (tabB3 y5 h5) (tabB3 y6 h6) (tabB3 y7 h7)
    rw [V68] at this
    exact Nat.lt_of_le_of_lt this (by decide)
  · have := V_mono _ _ _ _ _ _ _ _ 8 (tabC3 y0 h0) (tabC3 y1 h1) (tabC3 y2 h2) (tabC3 y3 h3) (tabC3 y4 h4) (tabC3 y5 h5) (tabC3 y6 h6) (tabC3 y7 h7)
    rw [V8] at this
    exact this
  · rw [stD _ _ _ _ _ _ _ _ (tabC ⟨y0, h0⟩).2 (tabC ⟨y1, h1⟩).2 (tabC ⟨y2, h2⟩).2 (tabC ⟨y3, h3⟩).2 (tabC ⟨y4, h4⟩).2 (tabC ⟨y5, h5⟩).2 (tabC ⟨y6, h6⟩).2 (tabC ⟨y7, h7⟩).2, pop_V _ _ _ _ _ _ _ _ h0 h1 h2 h3 h4 h5 h6 h7]
    have t : ∀ y, y < 256 → sC y = popTo 8 y := fun y hy => (tabC ⟨y, hy⟩).1
    rw [t y0 h0, t y1 h1, t y2 h2, t y3 h3, t y4 h4, t y5 h5, t y6 h6, t y7 h7]

end Go.Proofs.Qxb6604433a
