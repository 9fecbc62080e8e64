import Derived.Test.Qxb6604433aDeep
namespace Go.Proofs.Qxb6604433a
open Go.RowKit Go.WideShapes
set_option linter.unusedVariables false
set_option linter.unusedSimpArgs false

def SomeBool (e : Ending) : Prop := ∃ b : Bool, e = .returned (.bool b)

/-- The cells of a slice of slices of bytes. -/
def Outer (w : World) (a : Option Addr) (n : Nat) (us : List Value) : Prop :=
  us.length = n ∧ ∀ j, j < n → ∃ b off x l c, a = some ⟨b, off, none⟩ ∧ w.cell? ⟨b, off + j, none⟩ = some (.slice x l c) ∧ us.getD j undef = .slice x l c

set_option maxRecDepth 100000 in
set_option maxHeartbeats 1000000 in
theorem zzBytesE_any (v : Int) (cs : Array Value) (a2 a3 a4 a5 a6 a7 : Option Addr) (n2 n3 n4 n5 n6 n7 c2 c3 c4 c5 c6 c7 : Nat) (us : List Value) (w : World) (h7 : Outer w a7 n7 us) :
    Calls Try.prog 35 #[.int .u16 v, .agg cs, .slice a2 n2 c2, .slice a3 n3 c3, .slice a4 n4 c4, .slice a5 n5 c5, .slice a6 n6 c6, .slice a7 n7 c7] w fun e w' => SomeBool e ∧ w' = w.alloc (.cells cs 57) := by
  go_enter Try.func35, Try.ntmps35
  go_wp2
  all_goals try (go_ret; exact ⟨⟨_, rfl⟩, rfl⟩)
  have hn7 : (n7 : Int) ≤ 1048576 := by assumption
  go_loop [17, 18] (fun z i => ∃ (k : Nat) (t : Int), k ≤ n7 ∧ i = .int .i64 k ∧ 0 ≤ t ∧ t ≤ 1048576 ∧ z = .int .i64 t) (fun _ i => n7 - (intOf i).toNat)
  case atStart => exact ⟨0, _, Nat.zero_le _, rfl, by omega, by assumption, rfl⟩
  case round =>
    obtain ⟨k, t, hk, rfl, ht0, ht1, rfl⟩ := hrel
    by_cases hlt : k < n7
    · obtain ⟨b, off, x, l, c, rfl, hc, hu⟩ := h7.2 k hlt
      have hc' : (w.alloc (.cells cs 57)).cell? ⟨b, off + k, none⟩ = some (.slice x l c) := by
        rw [((Below.refl _ _).alloc (Nat.le_refl _) _ : Below w.heap.size w _).cell (p := ⟨b, off + k, none⟩) (cell_lt hc)]; exact hc
      clear hu h7
      go_wp2
      all_goals try (go_ret; exact ⟨⟨_, rfl⟩, rfl⟩)
      go_round
      case rel => exact ⟨k + 1, _, by omega, by go_num, by omega, by assumption, rfl⟩
      case measure => simp [intOf]; omega
    · go_wp2
      go_ret
      exact ⟨⟨_, rfl⟩, rfl⟩

theorem bound_snoc {us : List Value} {k : Nat} {x : Option Addr} {l c : Nat} (h : Hid (∀ j, j < k → ∀ x l c, us.getD j undef = .slice x l c → l ≤ 1048576)) (hu : Hid (us.getD k undef = .slice x l c)) (hl : l ≤ 1048576) :
    Hid (∀ j, j < k + 1 → ∀ x l c, us.getD j undef = .slice x l c → l ≤ 1048576) := by
  intro j hj x' l' c' e
  by_cases hjk : j = k
  · subst hjk
    have hu' := hu.out
    rw [e] at hu'
    cases hu'
    exact hl
  · exact h.out j (by omega) x' l' c' e

/-- What 'zzHelloTooBig' says: true, or the lengths are bounded. -/
def BigPost (n2 n3 n4 n5 n6 n7 : Nat) (us : List Value) (e : Ending) : Prop :=
  e = .returned (.bool true) ∨ (e = .returned (.bool false) ∧ n2 ≤ 1048576 ∧ n3 ≤ 1048576 ∧ n4 ≤ 1048576 ∧ n5 ≤ 1048576 ∧ n6 ≤ 1048576 ∧ n7 ≤ 1048576 ∧ ∀ j, j < n7 → ∀ x l c, us.getD j undef = .slice x l c → l ≤ 1048576)

set_option maxRecDepth 100000 in
set_option maxHeartbeats 1000000 in
theorem zzTooBig_any (a2 a3 a4 a5 a6 a7 : Option Addr) (n2 n3 n4 n5 n6 n7 c2 c3 c4 c5 c6 c7 : Nat) (us : List Value) (w : World) (h7 : Outer w a7 n7 us) :
    Calls Try.prog 36 #[.slice a2 n2 c2, .slice a3 n3 c3, .slice a4 n4 c4, .slice a5 n5 c5, .slice a6 n6 c6, .slice a7 n7 c7] w fun e w' => BigPost n2 n3 n4 n5 n6 n7 us e ∧ w = w' := by
  go_enter Try.func36, Try.ntmps36
  go_wp2
  all_goals try (go_ret; exact ⟨.inl rfl, rfl⟩)
  have hN : n2 ≤ 1048576 ∧ n3 ≤ 1048576 ∧ n4 ≤ 1048576 ∧ n5 ≤ 1048576 ∧ n6 ≤ 1048576 ∧ n7 ≤ 1048576 := by
    have hc : ((((((n2 : Int) ≤ 1048576 ∧ (n3 : Int) ≤ 1048576) ∧ (n4 : Int) ≤ 1048576) ∧ (n5 : Int) ≤ 1048576) ∧ (n6 : Int) ≤ 1048576) ∧ (n7 : Int) ≤ 1048576) := by assumption
    omega
  obtain ⟨b2, b3, b4, b5, b6, b7⟩ := hN
  go_loop [13, 14] (fun z i => ∃ (k : Nat) (t : Int), k ≤ n7 ∧ i = .int .i64 k ∧ 0 ≤ t ∧ t ≤ 1048576 ∧ z = .int .i64 t ∧ Hid (∀ j, j < k → ∀ x l c, us.getD j undef = .slice x l c → l ≤ 1048576)) (fun _ i => n7 - (intOf i).toNat)
  case atStart => exact ⟨0, _, Nat.zero_le _, rfl, by omega, by assumption, rfl, fun j hj => absurd hj (Nat.not_lt_zero _)⟩
  case round =>
    obtain ⟨k, t, hk, rfl, ht0, ht1, rfl, HJ⟩ := hrel
    by_cases hlt : k < n7
    · obtain ⟨b, off, x, l, c, rfl, hc, hu⟩ := h7.2 k hlt
      have HU : Hid (us.getD k undef = .slice x l c) := hu
      clear hu h7
      go_wp2
      all_goals try (go_ret; exact ⟨.inl rfl, rfl⟩)
      have hll : (l : Int) ≤ 1048576 := by assumption
      go_round
      case rel => exact ⟨k + 1, _, by omega, by go_num, by omega, by assumption, rfl, bound_snoc HJ HU (by omega)⟩
      case measure => simp [intOf]; omega
    · go_wp2
      go_ret
      exact ⟨.inr ⟨rfl, b2, b3, b4, b5, b6, b7, fun j hj => HJ.out j (by omega)⟩, rfl⟩

end Go.Proofs.Qxb6604433a
