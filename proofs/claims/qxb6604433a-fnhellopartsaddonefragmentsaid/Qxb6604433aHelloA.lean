/-
  The small functions around helloParts.add: makers, readers, bounds, and the order's DeleteFunc at one name.
-/
import Derived.Test.Qxb6604433aOne
import Derived.Test.Qxb6604433aAddK
import Derived.StringKeys
import Derived.Lib.SliceRun
import Derived.LoopN
namespace Go.Proofs.Qxb6604433a
open Go.RowKit Go.WideShapes
set_option linter.unusedVariables false
set_option linter.unusedSimpArgs false
attribute [local go_sem ↓] Go.wp_at_zero Go.wp_at_succ

set_option maxRecDepth 100000 in
set_option maxHeartbeats 1000000 in
theorem newParts_ex (w : World) : Calls Try.prog 17 #[] w fun e w' => ∃ (p : Nat), e = .returned (.pointer (some ⟨p, 0, none⟩)) ∧ w.heap.size = p ∧ w'.heap[p]? = some (.cells [Value.map none, .slice none 0 0].toArray 75 (0, 0)) ∧ Below w.heap.size w w' := by
  go_enter Try.func17, Try.ntmps17
  go_wp2
  go_ret
  exact ⟨_, rfl, rfl, heap_alloc_new _ _, (Below.refl _ _).alloc (Nat.le_refl _) _⟩

set_option maxRecDepth 100000 in
theorem byAddr_any (w : World) (p : Nat) (v : Option Nat) (h : w.cell? ⟨p, 0, none⟩ = some (.map v)) :
    Calls Try.prog 20 #[.pointer (some ⟨p, 0, none⟩)] w fun e w' => e = .returned (.map v) ∧ w = w' := by
  go_enter Try.func20, Try.ntmps20
  go_wp2
  go_ret
  exact ⟨rfl, rfl⟩

set_option maxRecDepth 100000 in
theorem order_any (w : World) (p : Nat) (a : Option Addr) (n c : Nat) (h : w.cell? ⟨p, 1, none⟩ = some (.slice a n c)) :
    Calls Try.prog 21 #[.pointer (some ⟨p, 0, none⟩)] w fun e w' => e = .returned (.slice a n c) ∧ w = w' := by
  go_enter Try.func21, Try.ntmps21
  go_wp2
  go_ret
  exact ⟨rfl, rfl⟩

set_option maxRecDepth 100000 in
theorem hRaw_any (w : World) (hb rr : Nat) (a : Option Addr) (n c : Nat) (h0 : w.cell? ⟨hb, 0, none⟩ = some (.pointer (some ⟨rr, 0, none⟩))) (h : w.cell? ⟨rr, 5, none⟩ = some (.slice a n c)) :
    Calls Try.prog 24 #[.pointer (some ⟨hb, 0, none⟩)] w fun e w' => e = .returned (.slice a n c) ∧ w = w' := by
  go_enter Try.func24, Try.ntmps24
  go_wp2
  go_ret
  exact ⟨rfl, rfl⟩

set_option maxRecDepth 100000 in
theorem hRecv_any (w : World) (hb : Nat) (x : Int) (h : w.cell? ⟨hb, 1, none⟩ = some (.int .i64 x)) :
    Calls Try.prog 25 #[.pointer (some ⟨hb, 0, none⟩)] w fun e w' => e = .returned (.int .i64 x) ∧ w = w' := by
  go_enter Try.func25, Try.ntmps25
  go_wp2
  go_ret
  exact ⟨rfl, rfl⟩

set_option maxRecDepth 100000 in
theorem whole_any (w : World) (rr : Nat) (a : Option Addr) (n c : Nat) (h : w.cell? ⟨rr, 5, none⟩ = some (.slice a n c)) :
    Calls Try.prog 53 #[.pointer (some ⟨rr, 0, none⟩)] w fun e w' => e = .returned (.bool (!a.isNone)) ∧ w = w' := by
  have hnq := fun (w : World) (a : Option Addr) (n c : Nat) => run_neq_slice_nil_any (P := Try.prog) w 22 5 a n c 0 0 Try.underlying22
  cases a with
  | none =>
    go_enter Try.func53, Try.ntmps53
    go_wp2
    go_ret
    exact ⟨rfl, rfl⟩
  | some x =>
    go_enter Try.func53, Try.ntmps53
    go_wp2
    go_ret
    exact ⟨rfl, rfl⟩

set_option maxRecDepth 100000 in
set_option maxHeartbeats 1000000 in
theorem zzBytes16_any (w : World) (s : ByteArray) (x0 x1 x2 x3 : Int) (a4 a5 : Option Addr) (n4 n5 c4 c5 : Nat) :
    Calls Try.prog 16 #[.string s, .int .u8 x0, .int .u32 x1, .int .u16 x2, .int .u32 x3, .slice a4 n4 c4, .slice a5 n5 c5] w fun e w' => SomeBool e ∧ w = w' := by
  go_enter Try.func16, Try.ntmps16
  go_wp2
  all_goals (go_ret; exact ⟨⟨_, rfl⟩, rfl⟩)

set_option maxRecDepth 100000 in
set_option maxHeartbeats 1000000 in
theorem zzBytes26_any (w : World) (s : ByteArray) (x0 x1 x4 : Int) (b : Bool) (a3 a5 a6 : Option Addr) (n3 n5 n6 c3 c5 c6 : Nat) :
    Calls Try.prog 26 #[.string s, .int .u8 x0, .int .u16 x1, .slice a3 n3 c3, .int .i64 x4, .slice a5 n5 c5, .slice a6 n6 c6, .bool b] w fun e w' => SomeBool e ∧ w = w' := by
  go_enter Try.func26, Try.ntmps26
  go_wp2
  all_goals (go_ret; exact ⟨⟨_, rfl⟩, rfl⟩)

/-- The closure that forget hands to DeleteFunc: is this the name? -/
theorem isName (w : World) (s : ByteArray) (cb : Nat) (h : w.cell? ⟨cb, 0, none⟩ = some (.string s)) :
    Calls Try.prog 57 #[.string s, .pointer (some ⟨cb, 0, none⟩)] w fun e w' => e = .returned (.bool true) ∧ w = w' := by
  go_enter Try.func57, Try.ntmps57
  go_wp2
  go_ret
  exact ⟨rfl, rfl⟩

set_option maxRecDepth 100000 in
set_option maxHeartbeats 1000000 in
theorem index_one (w : World) (s : ByteArray) (cb ob c : Nat) (h : w.cell? ⟨cb, 0, none⟩ = some (.string s)) (ho : w.cell? ⟨ob, 0, none⟩ = some (.string s)) :
    Calls Try.prog 60 #[.slice (some ⟨ob, 0, none⟩) 1 c, .func (.func 57) #[] #[.pointer (some ⟨cb, 0, none⟩)]] w fun e w' => e = .returned (.int .i64 0) ∧ w = w' := by
  go_enter Try.func60, Try.ntmps60
  go_wp2
  refine wp_loop_rounds 1 ?_
  rw [rounds_succ]
  go_wp2_with (go_at_call 57; refine (isName _ s cb h).mono ?_; rintro e w' ⟨rfl, rfl⟩)
  go_ret
  exact ⟨rfl, rfl⟩

end Go.Proofs.Qxb6604433a
