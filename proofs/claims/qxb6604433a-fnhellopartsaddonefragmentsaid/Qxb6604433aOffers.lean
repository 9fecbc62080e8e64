import Derived.Test.Qxb6604433aServer
namespace Go.Proofs.Qxb6604433a
open Go.RowKit Go.WideShapes
set_option linter.unusedVariables false
set_option linter.unusedSimpArgs false

theorem extTyp_any (t : Int) (a : Option Addr) (l c : Nat) (w : World) :
    Calls Try.prog 41 #[.agg #[.int .u16 t, .slice a l c]] w fun e w' => e = .returned (.int .u16 t) ∧ w' = w.alloc (.cells #[.int .u16 t, .slice a l c] 70) := by
  go_enter Try.func41, Try.ntmps41
  go_wp2
  go_ret
  exact ⟨rfl, rfl⟩

theorem extData_any (t : Int) (a : Option Addr) (l c : Nat) (w : World) :
    Calls Try.prog 42 #[.agg #[.int .u16 t, .slice a l c]] w fun e w' => e = .returned (.slice a l c) ∧ w' = w.alloc (.cells #[.int .u16 t, .slice a l c] 70) := by
  go_enter Try.func42, Try.ntmps42
  go_wp2
  go_ret
  exact ⟨rfl, rfl⟩

def cnt (ts : List Int) (k : Nat) : Nat := (ts.take k).countP (· == 11)
theorem cnt_le (ts : List Int) (k : Nat) : cnt ts k ≤ k := Nat.le_trans (List.countP_le_length) (List.length_take_le _ _)
theorem cnt_succ {ts : List Int} {k n : Nat} {t : Int} (h : Hid (ts.getD k 0 = t)) (hk : k < n) (hl : Hid (ts.length = n)) : cnt ts (k + 1) = cnt ts k + if (t == 11) = true then 1 else 0 := by
  have hk' : k < ts.length := by rw [hl.out]; exact hk
  have e : ts[k] = t := by
    have := h.out
    simpa [List.getD_eq_getElem?_getD, hk'] using this
  unfold cnt
  rw [List.take_succ_eq_append_getElem hk', List.countP_append, e]
  simp [List.countP_cons]
theorem cnt_pos {ts : List Int} {n : Nat} (hl : Hid (ts.length = n)) : decide (0 < cnt ts n) = decide ((11 : Int) ∈ ts) := by
  rw [decide_eq_decide]
  unfold cnt
  rw [List.take_of_length_le (by rw [hl.out]; exact Nat.le_refl _)]
  rw [List.countP_pos_iff]
  simp

set_option maxRecDepth 100000 in
set_option maxHeartbeats 1000000 in
theorem offers_any (a : Option Addr) (n c : Nat) (ts : List Int) (w : World) (hn : n ≤ 1048576) (h : At .u16 w a ts) (hl : ts.length = n) :
    Calls Try.prog 43 #[.slice a n c] w fun e w' => e = .returned (.bool (decide ((11 : Int) ∈ ts))) ∧ w' = w := by
  have Hl : Hid (ts.length = n) := hl
  clear hl
  go_enter Try.func43, Try.ntmps43
  go_wp2
  go_loop [3, 4] (fun z i => ∃ k : Nat, k ≤ n ∧ i = .int .i64 k ∧ z = .int .i64 (cnt ts k)) (fun _ i => n - (intOf i).toNat)
  case atStart => exact ⟨0, Nat.zero_le _, rfl, rfl⟩
  case round =>
    obtain ⟨k, hk, rfl, rfl⟩ := hrel
    have hck := cnt_le ts k
    by_cases hlt : k < n
    · obtain ⟨b, off, rfl, hc⟩ := h k (by rw [Hl.out]; exact hlt)
      obtain ⟨t, ht⟩ : ∃ t, ts.getD k 0 = t := ⟨_, rfl⟩
      rw [ht] at hc
      have HT : Hid (ts.getD k 0 = t) := ht
      have HS : Hid (cnt ts (k + 1) = cnt ts k + if (t == 11) = true then 1 else 0) := cnt_succ HT hlt Hl
      clear ht h
      go_wp2
      all_goals
        go_round
        case rel => exact ⟨k + 1, by omega, by go_num, by rw [HS.out]; first | rw [if_pos ‹_›]; go_num | rw [if_neg (by simp [*])]; go_num⟩
        case measure => simp [intOf]; omega
    · have e : k = n := by omega
      subst e
      go_wp2
      go_ret
      exact ⟨ret_bool (cnt_pos Hl), rfl⟩

end Go.Proofs.Qxb6604433a
