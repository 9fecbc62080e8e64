/-
  WHICH BYTES HAVE COME, AND WHAT THEY ARE: the plain mathematics of a message put together out of blocks of 64 bytes. No Go in sight.
-/
import Derived.Test.Qxb6604433aMask
import Derived.Laws.CopyOwn
namespace Go.Proofs.Qxb6604433a
set_option linter.unusedVariables false
set_option linter.unusedSimpArgs false

def cov (H : Nat → Nat) (o : Nat) : Bool := (H (o / 64)).testBit (o % 64)
def dat (Dt : Nat → List Int) (o : Nat) : Int := (Dt (o / 64)).getD (o % 64) 0
def setAt {α : Type} (f : Nat → α) (i : Nat) (v : α) : Nat → α := fun j => if j = i then v else f j
theorem setAt_same {α : Type} (f : Nat → α) (i : Nat) (v : α) : setAt f i v i = v := by simp [setAt]
theorem setAt_other {α : Type} (f : Nat → α) {i j : Nat} (v : α) (h : j ≠ i) : setAt f i v j = f j := by simp [setAt, h]

theorem cov_step (H : Nat → Nat) (a m o : Nat) (h : a % 64 + m ≤ 64) : cov (setAt H (a / 64) (H (a / 64) ||| mask m (a % 64))) o = (cov H o || (decide (a ≤ o) && decide (o < a + m))) := by
  unfold cov
  by_cases e : o / 64 = a / 64
  · rw [e, setAt_same, Nat.testBit_or, testBit_mask]
    congr 1
    have h1 : decide (a % 64 ≤ o % 64) = decide (a ≤ o) := by rw [decide_eq_decide]; omega
    have h2 : decide (o % 64 < a % 64 + m) = decide (o < a + m) := by rw [decide_eq_decide]; omega
    rw [h1, h2]
  · rw [setAt_other _ _ e]
    have : (decide (a ≤ o) && decide (o < a + m)) = false := by
      rw [Bool.and_eq_false_iff, decide_eq_false_iff_not, decide_eq_false_iff_not]
      omega
    rw [this, Bool.or_false]

theorem getD_splice {α : Type} (L xs : List α) (s j : Nat) (d : α) (h : s + xs.length ≤ L.length) : (splice L s xs).getD j d = if s ≤ j ∧ j < s + xs.length then xs.getD (j - s) d else L.getD j d := by
  unfold splice
  simp only [List.getD_eq_getElem?_getD]
  by_cases h1 : j < s
  · rw [if_neg (by omega), List.getElem?_append_left (by simp; omega), List.getElem?_take]
    simp [h1]
  · rw [List.getElem?_append_right (by simp; omega)]
    have e : j - (L.take s).length = j - s := by simp; omega
    rw [e]
    by_cases h2 : j < s + xs.length
    · rw [if_pos (by omega), List.getElem?_append_left (by omega)]
    · rw [if_neg (by omega), List.getElem?_append_right (by omega), List.getElem?_drop]
      congr 2
      omega

theorem dat_step (Dt : Nat → List Int) (a m o : Nat) (xs : List Int) (hx : xs.length = m) (hl : (Dt (a / 64)).length = 64) (h : a % 64 + m ≤ 64) :
    dat (setAt Dt (a / 64) (splice (Dt (a / 64)) (a % 64) xs)) o = if a ≤ o ∧ o < a + m then xs.getD (o - a) 0 else dat Dt o := by
  unfold dat
  by_cases e : o / 64 = a / 64
  · rw [e, setAt_same, getD_splice _ _ _ _ _ (by omega), hx]
    by_cases c : a ≤ o ∧ o < a + m
    · rw [if_pos c, if_pos (by omega)]
      congr 1
      omega
    · rw [if_neg c, if_neg (by omega)]
  · rw [setAt_other _ _ e, if_neg (by omega)]

/-! ### counting -/
def totTo (H : Nat → Nat) : Nat → Nat
  | 0 => 0
  | n + 1 => totTo H n + pop (H n)

theorem totTo_count (H : Nat → Nat) : ∀ n, totTo H n = (List.range (64 * n)).countP (cov H)
  | 0 => rfl
  | n + 1 => by
    rw [totTo, totTo_count H n, show 64 * (n + 1) = 64 * n + 64 from by omega, List.range_add, List.countP_append, List.countP_map]
    congr 1
    unfold pop popTo
    apply List.countP_congr
    intro j hj
    have hj' : j < 64 := List.mem_range.1 hj
    simp only [Function.comp, cov]
    rw [show (64 * n + j) / 64 = n from by omega, show (64 * n + j) % 64 = j from by omega]

theorem totTo_other (H : Nat → Nat) (i v : Nat) : ∀ n, n ≤ i → totTo (setAt H i v) n = totTo H n
  | 0, _ => rfl
  | n + 1, h => by rw [totTo, totTo, totTo_other H i v n (by omega), setAt_other _ _ (by omega)]

theorem totTo_setAt (H : Nat → Nat) (i v : Nat) : ∀ n, i < n → totTo (setAt H i v) n + pop (H i) = totTo H n + pop v
  | n + 1, h => by
    rw [totTo, totTo]
    by_cases e : n = i
    · subst e
      rw [totTo_other H n v n (Nat.le_refl _), setAt_same]
      omega
    · have := totTo_setAt H i v n (by omega)
      rw [setAt_other _ _ e]
      omega

theorem count_below (C : Nat → Bool) (len n : Nat) (hn : len ≤ n) (hC : ∀ o, C o = true → o < len) : (List.range n).countP C = (List.range len).countP C := by
  obtain ⟨k, rfl⟩ : ∃ k, n = len + k := ⟨n - len, by omega⟩
  rw [List.range_add, List.countP_append]
  have : ((List.range k).map (len + ·)).countP C = 0 := by
    rw [List.countP_eq_zero]
    intro x hx hc
    obtain ⟨j, _, rfl⟩ := List.mem_map.1 hx
    have := hC _ hc
    omega
  rw [this, Nat.add_zero]

theorem count_all (C : Nat → Bool) (len : Nat) : (List.range len).countP C = len ↔ ∀ o, o < len → C o = true := by
  have h := List.countP_eq_length (p := C) (l := List.range len)
  rw [List.length_range] at h
  rw [h]
  simp

theorem count_le (C : Nat → Bool) (len : Nat) : (List.range len).countP C ≤ len := by
  have := List.countP_le_length (p := C) (l := List.range len)
  rwa [List.length_range] at this

theorem count_interval (a m : Nat) : ∀ n, a + m ≤ n → (List.range n).countP (fun o => decide (a ≤ o) && decide (o < a + m)) = m
  | 0, h => by simp; omega
  | n + 1, h => by
    rw [List.range_succ, List.countP_append]
    by_cases e : a + m ≤ n
    · rw [count_interval a m n e]
      simp
      omega
    · have hn : n + 1 = a + m := by omega
      have e2 : (List.range n).countP (fun o => decide (a ≤ o) && decide (o < a + m)) = (List.range n).countP (fun o => decide (a ≤ o) && decide (o < a + (m - 1))) := by
        apply List.countP_congr
        intro x hx
        have := List.mem_range.1 hx
        by_cases m0 : m = 0
        · simp; omega
        · simp; omega
      by_cases m0 : m = 0
      · subst m0
        have z : (List.range n).countP (fun o => decide (a ≤ o) && decide (o < a + 0)) = 0 := by
          rw [List.countP_eq_zero]
          intro x _ hx
          simp at hx
          omega
        rw [z]
        simp
      · rw [e2, count_interval a (m - 1) n (by omega)]
        simp
        have : a ≤ n ∧ n < a + m := by omega
        simp [this]
        omega

end Go.Proofs.Qxb6604433a
