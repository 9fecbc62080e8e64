/-
  ctrlOf, filled, and the count of top bits.
-/
import Derived.Test.Qxb6604677aRows
import Derived.WalkKit
import Derived.ProofKit
import Derived.OpenShut
import Derived.Below
import Derived.WalkSmall
namespace Go.Proofs.Qxb6604677a
open Go.RowKit Go.WideShapes
set_option linter.unusedVariables false
set_option linter.unusedSimpArgs false

/-! ### the plain law -/
/-- Byte k of the word x has its top bit clear. -/
def fill (x : Int) (k : Nat) : Bool := decide (x / 2 ^ (8 * k) % 256 < 128)
def topsTo (x : Int) (k : Nat) : Nat := (List.range k).countP (fun j => decide (x / 2 ^ (8 * j + 7) % 2 = 1))
def fillsTo (x : Int) (k : Nat) : Nat := (List.range k).countP (fun j => fill x j)

theorem topsTo_yes {x : Int} {k : Nat} (h : x / 2 ^ (8 * k + 7) % 2 = 1) : topsTo x (k + 1) = topsTo x k + 1 := by
  unfold topsTo
  rw [List.range_succ, List.countP_append]
  simp [h]
theorem topsTo_no {x : Int} {k : Nat} (h : ¬ x / 2 ^ (8 * k + 7) % 2 = 1) : topsTo x (k + 1) = topsTo x k := by
  unfold topsTo
  rw [List.range_succ, List.countP_append]
  simp [h]
theorem fill_top (x : Int) (k : Nat) : fill x k = !decide (x / 2 ^ (8 * k + 7) % 2 = 1) := by
  have e : x / 2 ^ (8 * k + 7) = x / 2 ^ (8 * k) / 128 := by
    rw [Int.pow_add, show (2 : Int) ^ 7 = 128 from rfl, Int.ediv_ediv_of_nonneg (Int.le_of_lt (Int.pow_pos (by decide)))]
  unfold fill
  rw [e]
  generalize x / 2 ^ (8 * k) = y
  by_cases h : y % 256 < 128
  · have h2 : ¬ y / 128 % 2 = 1 := by omega
    simp [h, h2]
  · have h2 : y / 128 % 2 = 1 := by omega
    simp [h, h2]
theorem fills_tops (x : Int) (k : Nat) : fillsTo x k + topsTo x k = k := by
  unfold fillsTo topsTo
  have h : (fun j => fill x j) = fun j => !decide (x / 2 ^ (8 * j + 7) % 2 = 1) := by funext j; exact fill_top x j
  rw [h]
  have := List.length_eq_countP_add_countP (fun j => decide (x / 2 ^ (8 * j + 7) % 2 = 1)) (l := List.range k)
  simp only [List.length_range] at this
  have e : (List.range k).countP (fun j => !decide (x / 2 ^ (8 * j + 7) % 2 = 1)) = (List.range k).countP (fun j => decide ¬ (decide (x / 2 ^ (8 * j + 7) % 2 = 1)) = true) := by
    congr 1
    funext j
    by_cases hh : x / 2 ^ (8 * j + 7) % 2 = 1 <;> simp [hh]
  omega
theorem tops_le (x : Int) : topsTo x 8 ≤ 8 := by have := fills_tops x 8; omega

/-- How many of the first s slots are filled; and how many by words. -/
def cnt (zs : List Int) : Nat → Nat
  | 0 => 0
  | s + 1 => cnt zs s + (if fill (zs.getD (s / 8) 0) (s % 8) then 1 else 0)
def wnt (zs : List Int) : Nat → Nat
  | 0 => 0
  | i + 1 => wnt zs i + (8 - topsTo (zs.getD i 0) 8)
theorem cnt_succ (zs : List Int) (s : Nat) : cnt zs (s + 1) = cnt zs s + (if fill (zs.getD (s / 8) 0) (s % 8) then 1 else 0) := rfl
theorem wnt_succ (zs : List Int) (i : Nat) : wnt zs (i + 1) = wnt zs i + (8 - topsTo (zs.getD i 0) 8) := rfl
theorem cnt_word (zs : List Int) (i : Nat) : ∀ k, k ≤ 8 → cnt zs (8 * i + k) = cnt zs (8 * i) + fillsTo (zs.getD i 0) k
  | 0, _ => rfl
  | k + 1, h => by
    rw [show 8 * i + (k + 1) = (8 * i + k) + 1 from rfl]
    rw [cnt_succ, cnt_word zs i k (by omega), show (8 * i + k) / 8 = i from by omega, show (8 * i + k) % 8 = k from by omega]
    have : fillsTo (zs.getD i 0) (k + 1) = fillsTo (zs.getD i 0) k + (if fill (zs.getD i 0) k then 1 else 0) := by
      unfold fillsTo
      rw [List.range_succ, List.countP_append]
      simp only [List.countP_cons, List.countP_nil, Nat.zero_add]
    omega
theorem cnt_wnt (zs : List Int) : ∀ n, cnt zs (8 * n) = wnt zs n
  | 0 => rfl
  | n + 1 => by
    rw [show 8 * (n + 1) = 8 * n + 8 from rfl, cnt_word zs n 8 (Nat.le_refl _), cnt_wnt zs n]
    have h := fills_tops (zs.getD n 0) 8
    rw [wnt_succ]
    omega
theorem cnt_le (zs : List Int) : ∀ s, cnt zs s ≤ s
  | 0 => Nat.le_refl _
  | s + 1 => by
    have := cnt_le zs s
    rw [cnt_succ]
    split <;> omega
theorem wnt_le (zs : List Int) : ∀ s, wnt zs s ≤ 8 * s
  | 0 => Nat.le_refl _
  | s + 1 => by
    have := wnt_le zs s
    rw [wnt_succ]
    omega

/-! ### the walks -/
theorem ret_u8 {a b : Int} (h : a = b) : Ending.returned (.int .u8 a) = Ending.returned (.int .u8 b) := by rw [h]
set_option maxRecDepth 100000 in
theorem ctrlOf_any (b o n c s i : Nat) (k : Nat) (x : Int) (w : World) (hk : k < 8) (hs : s = 8 * i + k) (hi : i < n) (hn : n ≤ 1048576) (hx0 : 0 ≤ x) (hx : x ≤ 18446744073709551615) (hc : w.cell? ⟨b, o + i, none⟩ = some (.int .u64 x)) :
    Calls Try.prog 12 #[.slice (some ⟨b, o, none⟩) n c, .int .i64 s] w fun e w' => e = .returned (.int .u8 (x / 2 ^ (8 * k) % 256)) ∧ w = w' := by
  have hq : (s : Int) / 8 = (i : Int) := by omega
  have hr : (s : Int) % 8 = (k : Int) := by omega
  have hi' : (i : Int) < (n : Int) := by omega
  clear hs
  have hs0 : (0 : Int) ≤ (s : Int) := by omega
  match k, hk with
  | 0, _ =>
    go_enter Try.func12, Try.ntmps12
    go_wp2
    go_ret
    exact ⟨ret_u8 (a := x % 256) (by simp), rfl⟩
  | 1, _ =>
    go_enter Try.func12, Try.ntmps12
    go_wp2
    go_ret
    exact ⟨rfl, rfl⟩
  | 2, _ =>
    go_enter Try.func12, Try.ntmps12
    go_wp2
    go_ret
    exact ⟨rfl, rfl⟩
  | 3, _ =>
    go_enter Try.func12, Try.ntmps12
    go_wp2
    go_ret
    exact ⟨rfl, rfl⟩
  | 4, _ =>
    go_enter Try.func12, Try.ntmps12
    go_wp2
    go_ret
    exact ⟨rfl, rfl⟩
  | 5, _ =>
    go_enter Try.func12, Try.ntmps12
    go_wp2
    go_ret
    exact ⟨rfl, rfl⟩
  | 6, _ =>
    go_enter Try.func12, Try.ntmps12
    go_wp2
    go_ret
    exact ⟨rfl, rfl⟩
  | 7, _ =>
    go_enter Try.func12, Try.ntmps12
    go_wp2
    go_ret
    exact ⟨ret_u8 (a := x / 72057594037927936) (by show x / 72057594037927936 = x / 72057594037927936 % 256; omega), rfl⟩

theorem filled11 (b o n c s i : Nat) (k : Nat) (x : Int) (w : World) (hk : k < 8) (hs : s = 8 * i + k) (hi : i < n) (hn : n ≤ 1048576) (hx0 : 0 ≤ x) (hx : x ≤ 18446744073709551615) (hc : w.cell? ⟨b, o + i, none⟩ = some (.int .u64 x)) :
    Calls Try.prog 11 #[.slice (some ⟨b, o, none⟩) n c, .int .i64 s] w fun e w' => e = .returned (.bool (fill x k)) ∧ w = w' := by
  have hca := ctrlOf_any b o n c s i k x w hk hs hi hn hx0 hx hc
  obtain ⟨y, hy⟩ : ∃ y, y = x / 2 ^ (8 * k) % 256 := ⟨_, rfl⟩
  have hf : fill x k = decide (y < 128) := by rw [hy]; rfl
  rw [← hy] at hca
  rw [hf]
  clear hf hy hs
  go_enter Try.func11, Try.ntmps11
  go_wp2_with fail
  refine hca.mono ?_
  rintro e w' ⟨rfl, rfl⟩
  clear hca
  go_wp2
  go_ret
  exact ⟨rfl, rfl⟩

theorem filled8 (b o n c s i : Nat) (k : Nat) (x : Int) (w : World) (hk : k < 8) (hs : s = 8 * i + k) (hi : i < n) (hn : n ≤ 1048576) (hx0 : 0 ≤ x) (hx : x ≤ 18446744073709551615) (hc : w.cell? ⟨b, o + i, none⟩ = some (.int .u64 x)) :
    Calls Try.prog 8 #[.slice (some ⟨b, o, none⟩) n c, .int .i64 s] w fun e w' => e = .returned (.bool (fill x k)) ∧ w = w' := by
  have h11 := filled11 b o n c s i k x w hk hs hi hn hx0 hx hc
  generalize fill x k = bb at h11 ⊢
  clear hs hc hi hk
  go_enter Try.func8, Try.ntmps8
  go_wp2_with fail
  refine h11.mono ?_
  rintro e w' ⟨rfl, rfl⟩
  go_wp2
  go_ret
  exact ⟨rfl, rfl⟩

def SomeBool (e : Ending) : Prop := ∃ b : Bool, e = .returned (.bool b)
theorem zzBytes7 (a : Option Addr) (n c : Nat) (w : World) : Calls Try.prog 7 #[.slice a n c] w fun e w' => SomeBool e ∧ w = w' := by
  go_enter Try.func7, Try.ntmps7
  go_wp2
  all_goals (go_ret; exact ⟨⟨_, rfl⟩, rfl⟩)

set_option maxRecDepth 100000 in
set_option maxHeartbeats 1000000 in
theorem tops9 (x : Int) (w : World) (hx0 : 0 ≤ x) (hx : x ≤ 18446744073709551615) : Calls Try.prog 9 #[.int .u64 x] w fun e w' => e = .returned (.int .i64 (topsTo x 8)) ∧ w = w' := by
  go_enter Try.func9, Try.ntmps9
  go_wp2
  go_loop [3, 4] (fun t i => ∃ k : Nat, k ≤ 8 ∧ i = .int .i64 k ∧ t = .int .i64 (topsTo x k)) (fun _ i => 8 - (intOf i).toNat)
  case atStart => exact ⟨0, by omega, rfl, rfl⟩
  case round =>
    obtain ⟨k, hk, rfl, rfl⟩ := hrel
    have htl : topsTo x k ≤ k := by unfold topsTo; have := List.countP_le_length (p := fun j => decide (x / 2 ^ (8 * j + 7) % 2 = 1)) (l := List.range k); simpa using this
    by_cases h8 : k = 8
    · subst h8
      go_wp2
      go_ret
      exact ⟨rfl, rfl⟩
    have hk8 : k < 8 := by omega
    obtain ⟨T, hT⟩ : ∃ T, topsTo x k = T := ⟨_, rfl⟩
    match k, hk8 with
    | 0, _ =>
      have hone := and_one_u64 (x / 128) (by omega) (by omega)
      by_cases ht : x / 128 % 2 = 1
      · rw [ht] at hone
        have hT2 := topsTo_yes (x := x) (k := 0) ht
        rw [hT] at hT2
        clear ht
        have HT : Hid (topsTo x (0 + 1) = T + 1) := hT2
        clear hT2
        go_wp2
        go_round
        case rel => exact ⟨0 + 1, by omega, rfl, by rw [HT.out]; rfl⟩
        case measure => simp [intOf]
      · have hz : x / 128 % 2 = 0 := by omega
        rw [hz] at hone
        have hT2 := topsTo_no (x := x) (k := 0) ht
        rw [hT] at hT2
        clear ht hz
        have HT : Hid (topsTo x (0 + 1) = T) := hT2
        clear hT2
        go_wp2
        go_round
        case rel => exact ⟨0 + 1, by omega, rfl, by rw [HT.out, hT]⟩
        case measure => simp [intOf]
    | 1, _ =>
      have hone := and_one_u64 (x / 32768) (by omega) (by omega)
      by_cases ht : x / 32768 % 2 = 1
      · rw [ht] at hone
        have hT2 := topsTo_yes (x := x) (k := 1) ht
        rw [hT] at hT2
        clear ht
        have HT : Hid (topsTo x (1 + 1) = T + 1) := hT2
        clear hT2
        go_wp2
        go_round
        case rel => exact ⟨1 + 1, by omega, rfl, by rw [HT.out]; rfl⟩
        case measure => simp [intOf]
      · have hz : x / 32768 % 2 = 0 := by omega
        rw [hz] at hone
        have hT2 := topsTo_no (x := x) (k := 1) ht
        rw [hT] at hT2
        clear ht hz
        have HT : Hid (topsTo x (1 + 1) = T) := hT2
        clear hT2
        go_wp2
        go_round
        case rel => exact ⟨1 + 1, by omega, rfl, by rw [HT.out, hT]⟩
        case measure => simp [intOf]
    | 2, _ =>
      have hone := and_one_u64 (x / 8388608) (by omega) (by omega)
      by_cases ht : x / 8388608 % 2 = 1
      · rw [ht] at hone
        have hT2 := topsTo_yes (x := x) (k := 2) ht
        rw [hT] at hT2
        clear ht
        have HT : Hid (topsTo x (2 + 1) = T + 1) := hT2
        clear hT2
        go_wp2
        go_round
        case rel => exact ⟨2 + 1, by omega, rfl, by rw [HT.out]; rfl⟩
        case measure => simp [intOf]
      · have hz : x / 8388608 % 2 = 0 := by omega
        rw [hz] at hone
        have hT2 := topsTo_no (x := x) (k := 2) ht
        rw [hT] at hT2
        clear ht hz
        have HT : Hid (topsTo x (2 + 1) = T) := hT2
        clear hT2
        go_wp2
        go_round
        case rel => exact ⟨2 + 1, by omega, rfl, by rw [HT.out, hT]⟩
        case measure => simp [intOf]
    | 3, _ =>
      have hone := and_one_u64 (x / 2147483648) (by omega) (by omega)
      by_cases ht : x / 2147483648 % 2 = 1
      · rw [ht] at hone
        have hT2 := topsTo_yes (x := x) (k := 3) ht
        rw [hT] at hT2
        clear ht
        have HT : Hid (topsTo x (3 + 1) = T + 1) := hT2
        clear hT2
        go_wp2
        go_round
        case rel => exact ⟨3 + 1, by omega, rfl, by rw [HT.out]; rfl⟩
        case measure => simp [intOf]
      · have hz : x / 2147483648 % 2 = 0 := by omega
        rw [hz] at hone
        have hT2 := topsTo_no (x := x) (k := 3) ht
        rw [hT] at hT2
        clear ht hz
        have HT : Hid (topsTo x (3 + 1) = T) := hT2
        clear hT2
        go_wp2
        go_round
        case rel => exact ⟨3 + 1, by omega, rfl, by rw [HT.out, hT]⟩
        case measure => simp [intOf]
    | 4, _ =>
      have hone := and_one_u64 (x / 549755813888) (by omega) (by omega)
      by_cases ht : x / 549755813888 % 2 = 1
      · rw [ht] at hone
        have hT2 := topsTo_yes (x := x) (k := 4) ht
        rw [hT] at hT2
        clear ht
        have HT : Hid (topsTo x (4 + 1) = T + 1) := hT2
        clear hT2
        go_wp2
        go_round
        case rel => exact ⟨4 + 1, by omega, rfl, by rw [HT.out]; rfl⟩
        case measure => simp [intOf]
      · have hz : x / 549755813888 % 2 = 0 := by omega
        rw [hz] at hone
        have hT2 := topsTo_no (x := x) (k := 4) ht
        rw [hT] at hT2
        clear ht hz
        have HT : Hid (topsTo x (4 + 1) = T) := hT2
        clear hT2
        go_wp2
        go_round
        case rel => exact ⟨4 + 1, by omega, rfl, by rw [HT.out, hT]⟩
        case measure => simp [intOf]
    | 5, _ =>
      have hone := and_one_u64 (x / 140737488355328) (by omega) (by omega)
      by_cases ht : x / 140737488355328 % 2 = 1
      · rw [ht] at hone
        have hT2 := topsTo_yes (x := x) (k := 5) ht
        rw [hT] at hT2
        clear ht
        have HT : Hid (topsTo x (5 + 1) = T + 1) := hT2
        clear hT2
        go_wp2
        go_round
        case rel => exact ⟨5 + 1, by omega, rfl, by rw [HT.out]; rfl⟩
        case measure => simp [intOf]
      · have hz : x / 140737488355328 % 2 = 0 := by omega
        rw [hz] at hone
        have hT2 := topsTo_no (x := x) (k := 5) ht
        rw [hT] at hT2
        clear ht hz
        have HT : Hid (topsTo x (5 + 1) = T) := hT2
        clear hT2
        go_wp2
        go_round
        case rel => exact ⟨5 + 1, by omega, rfl, by rw [HT.out, hT]⟩
        case measure => simp [intOf]
    | 6, _ =>
      have hone := and_one_u64 (x / 36028797018963968) (by omega) (by omega)
      by_cases ht : x / 36028797018963968 % 2 = 1
      · rw [ht] at hone
        have hT2 := topsTo_yes (x := x) (k := 6) ht
        rw [hT] at hT2
        clear ht
        have HT : Hid (topsTo x (6 + 1) = T + 1) := hT2
        clear hT2
        go_wp2
        go_round
        case rel => exact ⟨6 + 1, by omega, rfl, by rw [HT.out]; rfl⟩
        case measure => simp [intOf]
      · have hz : x / 36028797018963968 % 2 = 0 := by omega
        rw [hz] at hone
        have hT2 := topsTo_no (x := x) (k := 6) ht
        rw [hT] at hT2
        clear ht hz
        have HT : Hid (topsTo x (6 + 1) = T) := hT2
        clear hT2
        go_wp2
        go_round
        case rel => exact ⟨6 + 1, by omega, rfl, by rw [HT.out, hT]⟩
        case measure => simp [intOf]
    | 7, _ =>
      have hone := and_one_u64 (x / 9223372036854775808) (by omega) (by omega)
      by_cases ht : x / 9223372036854775808 % 2 = 1
      · rw [ht] at hone
        have hT2 := topsTo_yes (x := x) (k := 7) ht
        rw [hT] at hT2
        clear ht
        have HT : Hid (topsTo x (7 + 1) = T + 1) := hT2
        clear hT2
        go_wp2
        go_round
        case rel => exact ⟨7 + 1, by omega, rfl, by rw [HT.out]; rfl⟩
        case measure => simp [intOf]
      · have hz : x / 9223372036854775808 % 2 = 0 := by omega
        rw [hz] at hone
        have hT2 := topsTo_no (x := x) (k := 7) ht
        rw [hT] at hT2
        clear ht hz
        have HT : Hid (topsTo x (7 + 1) = T) := hT2
        clear hT2
        go_wp2
        go_round
        case rel => exact ⟨7 + 1, by omega, rfl, by rw [HT.out, hT]⟩
        case measure => simp [intOf]

end Go.Proofs.Qxb6604677a
