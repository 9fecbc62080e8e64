/-
  The small functions around hold: the makers, the readers, the bounds.
-/
import Derived.Test.Qxb6604433aHold
import Derived.Test.Qxb6604433aClones
namespace Go.Proofs.Qxb6604433a
open Go.RowKit Go.WideShapes
set_option linter.unusedVariables false
set_option linter.unusedSimpArgs false
attribute [local go_sem ↓] Go.wp_at_zero Go.wp_at_succ

theorem four_lt {z : List Value} {v : Value} (h : z[4]? = some v) : 4 < z.length := by
  rcases Nat.lt_or_ge 4 z.length with h1 | h1
  · exact h1
  · rw [List.getElem?_eq_none h1] at h; cases h

set_option maxRecDepth 100000 in
set_option maxHeartbeats 1000000 in
theorem newHs_any (w : World) : Calls Try.prog 28 #[] w fun e w' => e = .returned (.pointer (some ⟨w.heap.size, 0, none⟩)) ∧ ∃ z : List Value, w' = w.alloc (.cells z.toArray 93) ∧ z[4]? = some (.map none) := by
  go_enter Try.func28, Try.ntmps28
  go_wp2
  go_ret
  exact ⟨rfl, _, rfl, rfl⟩

set_option maxRecDepth 100000 in
set_option maxHeartbeats 1000000 in
theorem newMsg_any (w : World) (typ len seq off : Int) (a b : Option Addr) (n c m d : Nat) :
    Calls Try.prog 18 #[.int .u8 typ, .int .u32 len, .int .u16 seq, .int .u32 off, .slice a n c, .slice b m d] w fun e w' => e = .returned (.pointer (some ⟨w.heap.size, 0, none⟩)) ∧ w' = w.alloc (.cells (mcells typ len seq off (.slice a n c) (.slice b m d)).toArray 77) := by
  go_enter Try.func18, Try.ntmps18
  go_wp2
  go_ret
  exact ⟨rfl, rfl⟩

set_option maxRecDepth 100000 in
set_option maxHeartbeats 1000000 in
theorem pending_any (w : World) (g : Nat) (v : Option Nat) (h : w.cell? ⟨g, 4, none⟩ = some (.map v)) :
    Calls Try.prog 30 #[.pointer (some ⟨g, 0, none⟩)] w fun e w' => e = .returned (.map v) ∧ w = w' := by
  go_enter Try.func30, Try.ntmps30
  go_wp2
  go_ret
  exact ⟨rfl, rfl⟩

set_option maxRecDepth 100000 in
set_option maxHeartbeats 1000000 in
theorem rHead_any (w : World) (r : Nat) (typ seq len miss : Int) (mv raw : Value) (hr : w.heap[r]? = some (.cells (rcells typ seq len mv miss raw).toArray 83 (0, 0))) :
    Calls Try.prog 31 #[.pointer (some ⟨r, 0, none⟩)] w fun e w' => e = .returned (.tuple #[.int .u8 typ, .int .u16 seq, .int .u32 len]) ∧ ∃ k, w' = w.drewN k := by
  obtain ⟨r0, -⟩ := block_cell hr 0 (by simp [rcells])
  obtain ⟨r1, -⟩ := block_cell hr 1 (by simp [rcells])
  obtain ⟨r2, -⟩ := block_cell hr 2 (by simp [rcells])
  simp only [rcells, List.getD_eq_getElem?_getD, List.getElem?_cons_zero, List.getElem?_cons_succ, Option.getD_some] at r0 r1 r2
  clear hr
  go_enter Try.func31, Try.ntmps31
  go_wp2
  go_quiet (fail)
  go_wp2
  go_ret3
  exact ⟨rfl, _, rfl⟩

set_option maxRecDepth 100000 in
set_option maxHeartbeats 1000000 in
theorem rRaw_any (w : World) (r : Nat) (a : Option Addr) (n c : Nat) (h : w.cell? ⟨r, 5, none⟩ = some (.slice a n c)) :
    Calls Try.prog 32 #[.pointer (some ⟨r, 0, none⟩)] w fun e w' => e = .returned (.slice a n c) ∧ w = w' := by
  go_enter Try.func32, Try.ntmps32
  go_wp2
  go_ret
  exact ⟨rfl, rfl⟩

set_option maxRecDepth 100000 in
set_option maxHeartbeats 1000000 in
theorem rMiss_any (w : World) (r : Nat) (x : Int) (h : w.cell? ⟨r, 4, none⟩ = some (.int .i64 x)) :
    Calls Try.prog 33 #[.pointer (some ⟨r, 0, none⟩)] w fun e w' => e = .returned (.int .i64 x) ∧ w = w' := by
  go_enter Try.func33, Try.ntmps33
  go_wp2
  go_ret
  exact ⟨rfl, rfl⟩

set_option maxRecDepth 100000 in
set_option maxHeartbeats 1000000 in
theorem zzBytes27_any (w : World) (x0 x1 x2 x3 : Int) (a4 a5 : Option Addr) (n4 n5 c4 c5 : Nat) :
    Calls Try.prog 27 #[.int .u8 x0, .int .u32 x1, .int .u16 x2, .int .u32 x3, .slice a4 n4 c4, .slice a5 n5 c5] w fun e w' => SomeBool e ∧ w = w' := by
  go_enter Try.func27, Try.ntmps27
  go_wp2
  all_goals (go_ret; exact ⟨⟨_, rfl⟩, rfl⟩)

set_option maxRecDepth 100000 in
set_option maxHeartbeats 1000000 in
theorem zzBytes34_any (w : World) (x0 x1 x3 : Int) (b : Bool) (a2 a4 : Option Addr) (n2 n4 c2 c4 : Nat) :
    Calls Try.prog 34 #[.int .u8 x0, .int .u16 x1, .slice a2 n2 c2, .int .u32 x3, .slice a4 n4 c4, .bool b] w fun e w' => SomeBool e ∧ w = w' := by
  go_enter Try.func34, Try.ntmps34
  go_wp2
  all_goals (go_ret; exact ⟨⟨_, rfl⟩, rfl⟩)

/-- ZZhandshakeHold hands on to hold. -/
theorem zzHold_any (w : World) (g q : Nat) (Q : World → Prop) (h : Calls Try.prog 46 #[.pointer (some ⟨g, 0, none⟩), .pointer (some ⟨q, 0, none⟩)] w fun e w' => e = .returned (.tuple #[]) ∧ Q w') :
    Calls Try.prog 29 #[.pointer (some ⟨g, 0, none⟩), .pointer (some ⟨q, 0, none⟩)] w fun e w' => e = .returned (.tuple #[]) ∧ Q w' := by
  go_enter Try.func29, Try.ntmps29
  go_wp2_with fail
  refine h.mono ?_
  rintro e w' ⟨rfl, hQ⟩
  go_wp2
  go_end0
  exact ⟨rfl, hQ⟩

/-- A clone of bytes, with its room and its place. -/
def CopyPost (w : World) (n : Nat) (zs : List Int) (e : Ending) (w' : World) : Prop :=
  ∃ a c, e = .returned (.slice a n c) ∧ Row .u8 w' a n c zs ∧ n ≤ c ∧ (∀ x, a = some x → x.block < w'.heap.size ∧ x.off = 0 ∧ x.spot = none) ∧ Below w.heap.size w w'

theorem copy8 (a : Option Addr) (n c : Nat) (zs : List Int) (w : World) (hr : Row .u8 w a n c zs) (hn : n ≤ 1048576) : Calls Try.prog 11 #[.slice a n c] w fun e w' => CopyPost w n zs e w' := by
  obtain ⟨h1, h2, h3⟩ := hr
  cases a with
  | none =>
    obtain ⟨rfl, rfl⟩ := h1 rfl
    refine (zzClone_nil w).mono ?_
    rintro e w' ⟨rfl, rfl⟩
    exact ⟨none, 0, rfl, ⟨fun _ => ⟨rfl, rfl⟩, h2, fun j hj => absurd hj (by omega)⟩, Nat.le_refl _, (fun x h => by cases h), Below.refl _ _⟩
  | some x =>
    refine (zzClone_any x n c zs w h2 (by omega) h3).mono ?_
    rintro e w' ⟨rfl, hg, hb⟩
    exact ⟨_, n, rfl, ⟨(fun h => by cases h), h2, At.of_block hg⟩, Nat.le_refl _, (fun x h => by cases h; exact ⟨block_lt hg, rfl, rfl⟩), hb⟩

end Go.Proofs.Qxb6604433a
