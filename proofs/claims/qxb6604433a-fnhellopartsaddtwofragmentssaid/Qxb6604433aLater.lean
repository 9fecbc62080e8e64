/-
  FnHandshakeHoldLaterStands: the walk.
-/
import Derived.Test.Qxb6604433aOne
namespace Go.Proofs.Qxb6604433a
open Go.RowKit Go.WideShapes
set_option linter.unusedVariables false
set_option linter.unusedSimpArgs false
attribute [local go_sem ↓] Go.wp_at_zero Go.wp_at_succ

/-- A clone of bytes: its room is its length, its place a block's head. -/
def DupPost (w : World) (n : Nat) (zs : List Int) (e : Ending) (w' : World) : Prop :=
  ∃ a, e = .returned (.slice a n n) ∧ Row .u8 w' a n n zs ∧ (∀ x, a = some x → x.block < w'.heap.size ∧ x.off = 0 ∧ x.spot = none) ∧ Below w.heap.size w w'

theorem dup8 (a : Option Addr) (n c : Nat) (zs : List Int) (w : World) (hr : Row .u8 w a n c zs) (hn : n ≤ 1048576) : Calls Try.prog 11 #[.slice a n c] w fun e w' => DupPost w n zs e w' := by
  obtain ⟨h1, h2, h3⟩ := hr
  cases a with
  | none =>
    obtain ⟨rfl, rfl⟩ := h1 rfl
    refine (zzClone_nil w).mono ?_
    rintro e w' ⟨rfl, rfl⟩
    exact ⟨none, rfl, ⟨fun _ => ⟨rfl, rfl⟩, h2, fun j hj => absurd hj (by omega)⟩, (fun x h => by cases h), Below.refl _ _⟩
  | some x =>
    refine (zzClone_any x n c zs w h2 (by omega) h3).mono ?_
    rintro e w' ⟨rfl, hg, hb⟩
    exact ⟨_, rfl, ⟨(fun h => by cases h), h2, At.of_block hg⟩, (fun x h => by cases h; exact ⟨block_lt hg, rfl, rfl⟩), hb⟩

/-- Cutting such a clone's head off at k. -/
theorem cut_from (a : Option Addr) (n k : Nat) (zs : List Int) (hz : zs.length = n) (hk : k ≤ n) (ha : a = none → n = 0) (hx : ∀ x, a = some x → x.off = 0 ∧ x.spot = none) :
    ∃ dp, (∀ w, At .u8 w a zs → At .u8 w dp (zs.drop k)) ∧ ∀ (x : Int) (w : World), x = k → (Instr.sliceAt 22 (.slice a n n) (some (.int .i64 x)) none none).run Try.prog w = .ok (.slice dp (n - k) (n - k)) w := by
  cases a with
  | none =>
    obtain rfl := ha rfl
    obtain rfl : k = 0 := by omega
    refine ⟨none, fun w h => by simpa using h, ?_⟩
    rintro x w rfl
    have hs : (sizeOf 5).run Try.prog w = .ok 1 w := by kernel_rfl
    simp [Instr.sliceAt, run_underlying Try.underlying22, Instr.slice, Instr.sliceBounds, run_sliceBound, hs, add_plain]
  | some y =>
    obtain ⟨N, o, sp⟩ := y
    obtain ⟨e1, e2⟩ := hx _ rfl
    simp only at e1 e2
    subst e1
    subst e2
    obtain ⟨dp, h1, h2⟩ := slice_from' N n k hk k rfl
    refine ⟨dp, fun w h j hj => ?_, fun x w hx => by subst hx; exact h2 w⟩
    have hj' : k + j < n := by rw [List.length_drop, hz] at hj; omega
    have hkn : k < n := by omega
    obtain ⟨b, o, e1, e2⟩ := h (k + j) (by omega)
    cases e1
    refine ⟨N, k, h1 hkn, ?_⟩
    rw [Nat.zero_add] at e2
    rw [e2]
    simp [List.getElem?_drop]

theorem cut_to (a : Option Addr) (n k : Nat) (hk : k ≤ n) (w : World) : (Instr.sliceAt 22 (.slice a n n) none (some (.int .u32 k)) none).run Try.prog w = .ok (.slice a k n) w := by
  have hs : (sizeOf 5).run Try.prog w = .ok 1 w := by kernel_rfl
  cases a with
  | none =>
    have h3 : (k : Int) ≤ (n : Int) := by omega
    simp [Instr.sliceAt, run_underlying Try.underlying22, Instr.slice, Instr.sliceBounds, run_sliceBound, hs, add_plain, hk]
  | some x =>
    obtain ⟨N, o, sp⟩ := x
    simp [Instr.sliceAt, run_underlying Try.underlying22, Instr.slice, Instr.sliceBounds, run_sliceBound, hs, add_plain, hk]
    intro _
    simp [Addr.add]

/-- A row below B. -/
theorem Row.atB {k : IntKind} {w w' : World} {a : Option Addr} {n c g B : Nat} {zs : List Int} (h : Row k w a n c zs) (hg : w.grownBy w' (some g)) (hag : ∀ x, a = some x → x.block ≠ g) (hB : w.heap.size ≤ B) : AtB B k w' a zs := by
  intro j hj
  obtain ⟨b, o, e1, e2⟩ := h.2.2 j hj
  have := cell_lt e2
  exact ⟨b, o, by omega, e1, cell_grown hg e2 (hag _ e1)⟩

/-! ### the plain law -/
theorem cov1 {at' n2 n4 : Nat} (h : at' ≤ n2) : ∀ o, o < at' + n4 → withC (withC (fun _ => false) 0 n2) at' n4 o = true := by
  intro o ho
  simp [withC]
  omega
theorem cov2 {at' n2 n4 : Nat} (h : at' ≤ n2) : ∀ o, o < at' + n4 → withC (withC (fun _ => false) at' n4) 0 n2 o = true := by
  intro o ho
  simp [withC]
  omega
theorem body1 {at' n2 n4 : Nat} {z2 z4 : List Int} (h2 : z2.length = n2) (h4 : z4.length = n4) (h : at' ≤ n2) : (List.range (at' + n4)).map (withA (withA (fun _ => 0) 0 n2 z2) at' n4 z4) = z2.take at' ++ z4 := by
  apply List.ext_getElem
  · simp; omega
  · intro o h1 h3
    have ho : o < at' + n4 := by simpa using h1
    simp only [List.getElem_map, List.getElem_range, withA]
    by_cases hc : o < at'
    · rw [if_neg (by omega), if_pos (by omega), List.getElem_append_left (by simp; omega), List.getElem_take]
      have : o < z2.length := by omega
      simp [this]
    · rw [if_pos (by omega), List.getElem_append_right (by simp; omega)]
      have e : (z2.take at').length = at' := by simp; omega
      have : o - at' < z4.length := by omega
      simp [e, this]
theorem body2 {at' n2 n4 : Nat} {z2 z4 : List Int} (h2 : z2.length = n2) (h4 : z4.length = n4) (h : at' ≤ n2) (h5 : n2 ≤ at' + n4) : (List.range (at' + n4)).map (withA (withA (fun _ => 0) at' n4 z4) 0 n2 z2) = z2 ++ z4.drop (n2 - at') := by
  apply List.ext_getElem
  · simp; omega
  · intro o h1 h3
    have ho : o < at' + n4 := by simpa using h1
    simp only [List.getElem_map, List.getElem_range, withA]
    by_cases hc : o < n2
    · rw [if_pos (by omega), List.getElem_append_left (by omega)]
      have : o < z2.length := by omega
      simp [this]
    · rw [if_neg (by omega), if_pos (by omega), List.getElem_append_right (by omega), List.getElem_drop]
      have : o - at' < z4.length := by omega
      have e : n2 - at' + (o - z2.length) = o - at' := by omega
      simp [this, e]

theorem St.whole {w : World} {B r : Nat} {typ seq : Int} {L n : Nat} {C : Nat → Bool} {A : Nat → Int} (h : St w B r typ seq L n C A) (hall : ∀ o, o < L → C o = true) : ∃ N, Whole w B r N typ seq L ((List.range L).map A) := by
  rcases h with ⟨_, h⟩ | ⟨h, _⟩
  · exact h
  · exact absurd hall h

set_option maxRecDepth 100000 in
set_option maxHeartbeats 8000000 in
theorem laterLaw (w : World) (a0 a1 : Int) (p : Nat) (bb : Bool) (a2 a4 : Option Addr) (n2 n4 c2 c4 : Nat) (z2 z4 : List Int) (ht0 : 0 ≤ a0) (ht1 : a0 ≤ 255) (hs0 : 0 ≤ a1) (hs1' : a1 ≤ 65535) (hp4 : p ≤ 4294967295) (h2 : Row .u8 w a2 n2 c2 z2) (h4 : Row .u8 w a4 n4 c4 z4) :
    Calls Try.prog 8 #[.int .u8 a0, .int .u16 a1, .slice a2 n2 c2, .int .u32 p, .slice a4 n4 c4, .bool bb] w fun e w' => e = .returned (.bool true) ∧ Below w.heap.size w w' := by
  go_enter Try.func8, Try.ntmps8
  go_wp2_with fail
  refine (zzBytes34_any w a0 a1 p bb a2 a4 n2 n4 c2 c4).mono ?_
  rintro e w' ⟨⟨b, rfl⟩, rfl⟩
  cases b with
  | false =>
    go_wp2
    go_ret
    exact ⟨rfl, Below.refl _ _⟩
  | true =>
    by_cases b2 : 1048576 < n2
    · go_wp2
      go_ret
      exact ⟨rfl, Below.refl _ _⟩
    by_cases b4 : 1048576 < n4
    · go_wp2
      go_ret
      exact ⟨rfl, Below.refl _ _⟩
    by_cases b9 : 1048576 < n2 + n4
    · have b9' : (1048576 : Int) < (n2 : Int) + (n4 : Int) := by omega
      go_wp2
      go_ret
      exact ⟨rfl, Below.refl _ _⟩
    have c2' : n2 ≤ 1048576 := by omega
    have c4' : n4 ≤ 1048576 := by omega
    have c9' : (n2 : Int) + (n4 : Int) ≤ 1048576 := by omega
    clear b2 b4 b9
    by_cases bp : n2 < p
    · have bp' : (n2 : Int) < (p : Int) := by omega
      go_wp2
      go_ret
      exact ⟨rfl, Below.refl _ _⟩
    by_cases bq : p + n4 < n2
    · have bp' : (p : Int) ≤ (n2 : Int) := by omega
      have bq' : (p : Int) + (n4 : Int) < (n2 : Int) := by omega
      go_wp2
      go_ret
      exact ⟨rfl, Below.refl _ _⟩
    have cp' : (p : Int) ≤ (n2 : Int) := by omega
    have cq' : (n2 : Int) ≤ (p : Int) + (n4 : Int) := by omega
    clear bp bq
    go_wp2_with fail
    refine (dup8 a2 n2 c2 z2 w h2 c2').mono ?_
    rintro e w1 ⟨x2, rfl, hr2, hx2, hb1⟩
    go_wp2_with fail
    refine (dup8 a4 n4 c4 z4 w1 (h4.below hb1) c4').mono ?_
    rintro e w2 ⟨x4, rfl, hr4, hx4, hb2⟩
    have hB2 := hb1.trans (hb2.mono hb1.size)
    have hr2a := hr2.below hb2
    have hs1 := hb2.size
    go_wp2_with fail
    refine (newHs_ex w2).mono ?_
    rintro e w3 ⟨g, zhs, rfl, hg, zhs4, hgb, hb3⟩
    have zhs_len := four_lt zhs4
    have Hz4 : Hid (zhs[4]? = some (.map none)) := zhs4
    clear zhs4
    have hB3 := hB2.trans (hb3.mono hB2.size)
    have hr2b := hr2a.below hb3
    have hr4b := hr4.below hb3
    have Hgb : Hid (w3.heap[g]? = some (.cells zhs.toArray 93 (0, 0))) := hgb
    have hg3 := block_lt hgb
    clear hgb hr2 hr2a hr4
    go_wp2_with fail
    refine (newMsg_ex w3 a0 ((p : Int) + (n4 : Int)) a1 0 x2 none n2 n2 0 0).mono ?_
    rintro e w4 ⟨q1, rfl, hq1, hqb1, hb4⟩
    have hB4 := hB3.trans (hb4.mono hB3.size)
    have hr2c := hr2b.below hb4
    have hr4c := hr4b.below hb4
    have hgb4 := (hb4.block g hg3).trans Hgb.out
    have hql1 := block_lt hqb1
    have Hgb4 : Hid (w4.heap[g]? = some (.cells zhs.toArray 93 (0, 0))) := hgb4
    have Hqb1 : Hid (w4.heap[q1]? = some (.cells (mcells a0 ((p : Int) + (n4 : Int)) a1 0 (.slice x2 n2 n2) (.slice none 0 0)).toArray 77 (0, 0))) := hqb1
    clear hgb4 hqb1 hr2b hr4b Hgb
    have hs4 := hb4.size
    go_wp2_with fail
    refine (newMsg_ex w4 a0 ((p : Int) + (n4 : Int)) a1 p x4 none n4 n4 0 0).mono ?_
    rintro e w5 ⟨q2, rfl, hq2, hqb2, hb5⟩
    have hB5 := hB4.trans (hb5.mono hB4.size)
    have hr2d := hr2c.below hb5
    have hr4d := hr4c.below hb5
    have hgb5 := (hb5.block g (by omega)).trans Hgb4.out
    have hqb1' := (hb5.block q1 hql1).trans Hqb1.out
    have hql2 := block_lt hqb2
    have hs5 := hb5.size
    have hag2 : ∀ x, x2 = some x → x.block ≠ g := fun x hx => by have := (hx2 x hx).1; omega
    have hag4 : ∀ x, x4 = some x → x.block ≠ g := fun x hx => by have := (hx4 x hx).1; omega
    have hgw : w.heap.size ≤ g := by have := hB2.size; omega
    obtain ⟨T, hT⟩ : ∃ T : Nat, T = p + n4 := ⟨_, rfl⟩
    have eT : (p : Int) + (n4 : Int) = (T : Int) := by omega
    have hk : n2 - p ≤ n4 := by omega
    obtain ⟨dp, hdp, hcut⟩ := cut_from x4 n4 (n2 - p) z4 hr4d.2.1 hk (fun h => (hr4d.1 h).1) (fun x h => (hx4 x h).2)
    have hcut' := fun w => hcut ((n2 : Int) - (p : Int)) w (by omega)
    have hto := fun w => cut_to x2 n2 p (by omega) w
    rw [eT] at hqb1' hqb2
    have Hgb5 : Hid (w5.heap[g]? = some (.cells zhs.toArray 93 (0, 0))) := hgb5
    have Hq1 : Hid (w5.heap[q1]? = some (.cells (mcells a0 (T : Int) a1 (0 : Nat) (.slice x2 n2 n2) (.slice none 0 0)).toArray 77 (0, 0))) := hqb1'
    have Hq2 : Hid (w5.heap[q2]? = some (.cells (mcells a0 (T : Int) a1 p (.slice x4 n4 n4) (.slice none 0 0)).toArray 77 (0, 0))) := hqb2
    have Hdp : Hid (∀ w, At .u8 w x4 z4 → At .u8 w dp (z4.drop (n2 - p))) := hdp
    have HT : Hid (T = p + n4) := hT
    have HeT : Hid ((p : Int) + (n4 : Int) = (T : Int)) := eT
    have hgl5 : g < w5.heap.size := by omega
    have hq1l : q1 < w5.heap.size := by omega
    clear hT eT hdp hcut hgb5 hqb1' hqb2 hb1 hb2 hb3 hb4 hb5 hB2 hB3 hB4 hr2c hr4c hx2 hx4 h2 h4 Hqb1 Hgb4
    cases bb with
    | true =>
      by_cases bT : 131072 < T
      · go_wp2_with fail
        refine (zzHold_any w5 g q2 _ (hold_long w5 g q2 a0 a1 T (p : Nat) _ _ Hq2.out (by omega))).mono ?_
        rintro e w6 ⟨rfl, rfl⟩
        go_wp2_with fail
        refine (zzHold_any w5 g q1 _ (hold_long w5 g q1 a0 a1 T (0 : Nat) _ _ Hq1.out (by omega))).mono ?_
        rintro e w6 ⟨rfl, rfl⟩
        obtain ⟨g4, -⟩ := block_cell Hgb5.out 4 zhs_len
        rw [List.getD_eq_getElem?_getD, Hz4.out, Option.getD_some] at g4
        have hln := fun w : World => Maps.len_nil (P := Try.prog) (w := w) Try.underlying49 3
        go_wp2_with fail
        refine (zzCat_ex x2 dp n2 (n4 - (n2 - p)) n2 (n4 - (n2 - p)) z2 (z4.drop (n2 - p)) w5 hr2d.2.1 (by rw [List.length_drop, hr4d.2.1]) c2' (by omega) hr2d.2.2 (Hdp.out w5 hr4d.2.2)).mono ?_
        rintro e w6 ⟨cx, rfl, hcx, hb6⟩
        have hB6 := hB5.trans (hb6.mono hB5.size)
        have g46 : w6.cell? ⟨g, 4, none⟩ = some (.map none) := (hb6.cell (p := ⟨g, 4, none⟩) hgl5).trans g4
        go_wp2_with fail
        refine (pending_any w6 g none g46).mono ?_
        rintro e w7 ⟨rfl, rfl⟩
        have bT' : (131072 : Int) < (p : Int) + (n4 : Int) := by have := HeT.out; omega
        go_wp2
        go_ret
        exact ⟨rfl, hB6⟩
      · have cT : T ≤ 131072 := by omega
        clear bT
        go_wp2_with fail
        refine (zzHold_any w5 g q2 _ (hold_first w5 g q2 T p n4 n4 a0 a1 x4 _ z4 zhs ht0 ht1 hs0 hs1' Hgb5.out Hz4.out Hq2.out hr4d.2.2 hag4 hr4d.2.1 (Nat.le_refl _) (by have := HT.out; omega) cT)).mono ?_
        rintro e w6 ⟨rfl, B, pb, rr, hpw, hpB, hHeld, hS6, hg6⟩
        have hB6 : Below w.heap.size w w6 := hB5.grown hg6 hB5.size (fun k hk => by cases hk; exact hgw)
        have hr2e : Row .u8 w6 x2 n2 n2 z2 := hr2d.grown hg6 hag2
        have hr4e : Row .u8 w6 x4 n4 n4 z4 := hr4d.grown hg6 hag4
        have hatB : AtB B .u8 w6 x2 z2 := hr2d.atB hg6 hag2 (by omega)
        have hgq : q1 ≠ g := cells_ne_type Hq1.out Hgb5.out (by decide)
        have hqB := block_grown hg6 Hq1.out (fun e => by cases e; exact hgq rfl)
        have hs6 : w5.heap.size ≤ w6.heap.size := hg6.size
        go_wp2_with fail
        refine (zzHold_any w6 g q1 _ (hold_again w6 B g pb rr q1 n4 T 0 n2 n2 a0 a1 x2 _ z2 zhs _ _ ht0 ht1 hs0 hs1' hHeld zhs_len hS6 (by omega) hpB (by omega) hqB hatB hr2d.2.1 (Nat.le_refl _) (by have := HT.out; omega) cT (by omega))).mono ?_
        rintro e w7 ⟨rfl, ⟨hh7, hp7⟩, hS7, hb7⟩
        have hB7 : Below w.heap.size w w7 := hB6.trans (hb7.mono (by have := hB5.size; omega))
        rw [HT.out] at hS7
        obtain ⟨N, hW⟩ := hS7.whole (cov2 (by omega))
        have hbody := body2 hr2d.2.1 hr4d.2.1 (by omega) (by omega)
        rw [hbody] at hW
        rw [← HT.out] at hW
        clear hbody hS7 hS6 hHeld hatB hqB
        have hat2 : At .u8 w7 x2 z2 := fun j hj => by
          obtain ⟨b, o, e1, e2⟩ := hr2d.2.2 j hj
          have hl := cell_lt e2
          exact ⟨b, o, e1, (hb7.cell (p := ⟨b, o + j, none⟩) (by show b < B; omega)).trans (cell_grown hg6 e2 (hag2 _ e1))⟩
        have hat4 : At .u8 w7 x4 z4 := fun j hj => by
          obtain ⟨b, o, e1, e2⟩ := hr4d.2.2 j hj
          have hl := cell_lt e2
          exact ⟨b, o, e1, (hb7.cell (p := ⟨b, o + j, none⟩) (by show b < B; omega)).trans (cell_grown hg6 e2 (hag4 _ e1))⟩
        have hr2f : Row .u8 w7 x2 n2 n2 z2 := ⟨hr2d.1, hr2d.2.1, hat2⟩
        have hr4f : Row .u8 w7 x4 n4 n4 z4 := ⟨hr4d.1, hr4d.2.1, hat4⟩
        obtain ⟨g4, -⟩ := block_cell hh7 4 (by simp; exact zhs_len)
        rw [set_getD zhs_len] at g4
        have hgl7 := block_lt hh7
        have hpl7 := hp7.lt
        have hraw := hW.raw
        have hhd := hW.head
        have hrl := block_lt hhd
        have hNl := block_lt hraw
        have Hp7 : Hid (PMap w7 28 pb 1 1 (upd (fun _ => none) (key16 a1) (some rr))) := hp7
        have Hraw : Hid (w7.heap[N]? = some (.cells (ints .u8 (hdr a0 T a1 ++ (z2 ++ z4.drop (n2 - p)))).toArray 5 (0, 0))) := hraw
        have Hhd : Hid (w7.heap[rr]? = some (.cells (rcells a0 a1 T (.map none) 0 (.slice (some ⟨N, 0, none⟩) (12 + T) (12 + T))).toArray 83 (0, 0))) := hhd
        have Hwl : Hid ((z2 ++ z4.drop (n2 - p)).length = T) := hW.len
        clear hraw hhd hW hp7 hh7 hat2 hat4 hb7 hg6 hr2e hr4e hB6
        go_wp2_with fail
        refine (zzCat_ex x2 dp n2 (n4 - (n2 - p)) n2 (n4 - (n2 - p)) z2 (z4.drop (n2 - p)) w7 hr2f.2.1 (by rw [List.length_drop, hr4f.2.1]) c2' (by omega) hr2f.2.2 (Hdp.out w7 hr4f.2.2)).mono ?_
        rintro e w8 ⟨cx, rfl, hcx, hb8⟩
        have hB8 := hB7.trans (hb8.mono hB7.size)
        have g48 : w8.cell? ⟨g, 4, none⟩ = some (.map (some pb)) := (hb8.cell (p := ⟨g, 4, none⟩) hgl7).trans g4
        have hp8 := Hp7.out.below hb8 hpl7
        have hkey : keyOf Try.prog 28 (.int .u16 a1) = some (key16 a1) := Maps.keyOf_int_mk Try.underlying28 (WalkArith.wf_u16 (by omega))
        have hlen := hp8.len Try.underlying49 3
        have hlk := hp8.look law28 Try.underlying49 (zero51 _) hkey
        rw [upd_same _ _ (law28.key hkey)] at hlk
        simp only [ptrv] at hlk
        have hhd8 := (hb8.block rr hrl).trans Hhd.out
        have Hraw8 : Hid (w8.heap[N]? = some (.cells (ints .u8 (hdr a0 T a1 ++ (z2 ++ z4.drop (n2 - p)))).toArray 5 (0, 0))) := (hb8.block N hNl).trans Hraw.out
        obtain ⟨r4, -⟩ := block_cell hhd8 4 (by simp [rcells])
        obtain ⟨r5, -⟩ := block_cell hhd8 5 (by simp [rcells])
        simp only [rcells, List.getD_eq_getElem?_getD, List.getElem?_cons_zero, List.getElem?_cons_succ, Option.getD_some] at r4 r5
        have hrl8 := block_lt hhd8
        have Hcx : Hid (At .u8 w8 (some ⟨cx, 0, none⟩) (z2 ++ z4.drop (n2 - p))) := hcx
        have bT' : (p : Int) + (n4 : Int) ≤ (131072 : Int) := by have := HeT.out; omega
        clear hcx hhd8 hp8 hb8 g4
        go_wp2_with fail
        refine (pending_any w8 g (some pb) g48).mono ?_
        rintro e w9 ⟨rfl, rfl⟩
        go_wp2_with fail
        refine (rRaw_any w8 rr (some ⟨N, 0, none⟩) (12 + T) (12 + T) r5).mono ?_
        rintro e w9 ⟨rfl, rfl⟩
        go_wp2_with fail
        refine (zzHeader_ex a0 ((p : Int) + (n4 : Int)) a1 ht0 ht1 (by omega) (by omega) hs0 hs1' _).mono ?_
        rintro e w9 ⟨H0, rfl, hh9, hb9⟩
        have hB9 := hB8.trans (hb9.mono hB8.size)
        rw [HeT.out] at hh9
        have Hh9 : Hid (At .u8 w9 (some ⟨H0, 0, none⟩) (hdr a0 T a1)) := hh9
        have Hcx9 : Hid (At .u8 w9 (some ⟨cx, 0, none⟩) (z2 ++ z4.drop (n2 - p))) := Hcx.out.below hb9
        have Hraw9 : Hid (w9.heap[N]? = some (.cells (ints .u8 (hdr a0 T a1 ++ (z2 ++ z4.drop (n2 - p)))).toArray 5 (0, 0))) := (hb9.block N (block_lt Hraw8.out)).trans Hraw8.out
        have r49 : w9.cell? ⟨rr, 4, none⟩ = some (.int .i64 0) := (hb9.cell (p := ⟨rr, 4, none⟩) hrl8).trans r4
        have hrl9 : rr < w9.heap.size := Nat.lt_of_lt_of_le hrl8 hb9.size
        clear hh9 r4 r5 hb9
        have hcl : (n2 + (n4 - (n2 - p))) = T := by have := HT.out; omega
        go_wp2_with fail
        have Hcl : Hid ((n2 + (n4 - (n2 - p))) = T) := hcl
        clear hcl
        refine (zzCat_ex (some ⟨H0, 0, none⟩) (some ⟨cx, 0, none⟩) 12 _ 12 _ (hdr a0 T a1) (z2 ++ z4.drop (n2 - p)) w9 (length_hdr _ _ _) (by rw [Hwl.out]) (by omega) (by omega) Hh9.out Hcx9.out).mono ?_
        rintro e w10 ⟨H1, rfl, hh10, hb10⟩
        have hB10 := hB9.trans (hb10.mono hB9.size)
        have hN10 : At .u8 w10 (some ⟨N, 0, none⟩) (hdr a0 T a1 ++ (z2 ++ z4.drop (n2 - p))) := At.of_block ((hb10.block N (block_lt Hraw9.out)).trans Hraw9.out)
        have r410 : w10.cell? ⟨rr, 4, none⟩ = some (.int .i64 0) := (hb10.cell (p := ⟨rr, 4, none⟩) hrl9).trans r49
        have Hl : Hid ((hdr a0 T a1 ++ (z2 ++ z4.drop (n2 - p))).length = 12 + T) := by show _ = _; rw [List.length_append, Hwl.out, length_hdr]
        clear hb10 r49
        go_wp2_with fail
        refine (zzEq_refl (some ⟨N, 0, none⟩) (some ⟨H1, 0, none⟩) (12 + T) (12 + T) _ (hdr a0 T a1 ++ (z2 ++ z4.drop (n2 - p))) w10 Hl.out (by omega) hN10 hh10).mono ?_
        rintro e w11 ⟨rfl, k2, rfl⟩
        go_wp2_with fail
        refine (rMiss_any (w10.drewN k2) rr 0 r410).mono ?_
        rintro e w11 ⟨rfl, rfl⟩
        go_wp2
        go_ret
        exact ⟨rfl, below_drewN' hB10 k2⟩
    | false =>
      by_cases bT : 131072 < T
      · go_wp2_with fail
        refine (zzHold_any w5 g q1 _ (hold_long w5 g q1 a0 a1 T (0 : Nat) _ _ Hq1.out (by omega))).mono ?_
        rintro e w6 ⟨rfl, rfl⟩
        go_wp2_with fail
        refine (zzHold_any w5 g q2 _ (hold_long w5 g q2 a0 a1 T (p : Nat) _ _ Hq2.out (by omega))).mono ?_
        rintro e w6 ⟨rfl, rfl⟩
        obtain ⟨g4, -⟩ := block_cell Hgb5.out 4 zhs_len
        rw [List.getD_eq_getElem?_getD, Hz4.out, Option.getD_some] at g4
        have hln := fun w : World => Maps.len_nil (P := Try.prog) (w := w) Try.underlying49 3
        go_wp2_with fail
        refine (zzCat_ex x2 x4 p n4 n2 n4 (z2.take p) z4 w5 (by rw [List.length_take, hr2d.2.1]; omega) hr4d.2.1 (by omega) c4' (hr2d.2.2.take8 p) hr4d.2.2).mono ?_
        rintro e w6 ⟨cx, rfl, hcx, hb6⟩
        have hB6 := hB5.trans (hb6.mono hB5.size)
        have g46 : w6.cell? ⟨g, 4, none⟩ = some (.map none) := (hb6.cell (p := ⟨g, 4, none⟩) hgl5).trans g4
        go_wp2_with fail
        refine (pending_any w6 g none g46).mono ?_
        rintro e w7 ⟨rfl, rfl⟩
        have bT' : (131072 : Int) < (p : Int) + (n4 : Int) := by have := HeT.out; omega
        go_wp2
        go_ret
        exact ⟨rfl, hB6⟩
      · have cT : T ≤ 131072 := by omega
        clear bT
        go_wp2_with fail
        refine (zzHold_any w5 g q1 _ (hold_first w5 g q1 T 0 n2 n2 a0 a1 x2 _ z2 zhs ht0 ht1 hs0 hs1' Hgb5.out Hz4.out Hq1.out hr2d.2.2 hag2 hr2d.2.1 (Nat.le_refl _) (by have := HT.out; omega) cT)).mono ?_
        rintro e w6 ⟨rfl, B, pb, rr, hpw, hpB, hHeld, hS6, hg6⟩
        have hB6 : Below w.heap.size w w6 := hB5.grown hg6 hB5.size (fun k hk => by cases hk; exact hgw)
        have hr2e : Row .u8 w6 x2 n2 n2 z2 := hr2d.grown hg6 hag2
        have hr4e : Row .u8 w6 x4 n4 n4 z4 := hr4d.grown hg6 hag4
        have hatB : AtB B .u8 w6 x4 z4 := hr4d.atB hg6 hag4 (by omega)
        have hgq : q2 ≠ g := cells_ne_type Hq2.out Hgb5.out (by decide)
        have hqB := block_grown hg6 Hq2.out (fun e => by cases e; exact hgq rfl)
        have hs6 : w5.heap.size ≤ w6.heap.size := hg6.size
        go_wp2_with fail
        refine (zzHold_any w6 g q2 _ (hold_again w6 B g pb rr q2 n2 T p n4 n4 a0 a1 x4 _ z4 zhs _ _ ht0 ht1 hs0 hs1' hHeld zhs_len hS6 (by omega) hpB (by omega) hqB hatB hr4d.2.1 (Nat.le_refl _) (by have := HT.out; omega) cT (by omega))).mono ?_
        rintro e w7 ⟨rfl, ⟨hh7, hp7⟩, hS7, hb7⟩
        have hB7 : Below w.heap.size w w7 := hB6.trans (hb7.mono (by have := hB5.size; omega))
        rw [HT.out] at hS7
        obtain ⟨N, hW⟩ := hS7.whole (cov1 (by omega))
        have hbody := body1 hr2d.2.1 hr4d.2.1 (by omega)
        rw [hbody] at hW
        rw [← HT.out] at hW
        clear hbody hS7 hS6 hHeld hatB hqB
        have hat2 : At .u8 w7 x2 z2 := fun j hj => by
          obtain ⟨b, o, e1, e2⟩ := hr2d.2.2 j hj
          have hl := cell_lt e2
          exact ⟨b, o, e1, (hb7.cell (p := ⟨b, o + j, none⟩) (by show b < B; omega)).trans (cell_grown hg6 e2 (hag2 _ e1))⟩
        have hat4 : At .u8 w7 x4 z4 := fun j hj => by
          obtain ⟨b, o, e1, e2⟩ := hr4d.2.2 j hj
          have hl := cell_lt e2
          exact ⟨b, o, e1, (hb7.cell (p := ⟨b, o + j, none⟩) (by show b < B; omega)).trans (cell_grown hg6 e2 (hag4 _ e1))⟩
        have hr2f : Row .u8 w7 x2 n2 n2 z2 := ⟨hr2d.1, hr2d.2.1, hat2⟩
        have hr4f : Row .u8 w7 x4 n4 n4 z4 := ⟨hr4d.1, hr4d.2.1, hat4⟩
        obtain ⟨g4, -⟩ := block_cell hh7 4 (by simp; exact zhs_len)
        rw [set_getD zhs_len] at g4
        have hgl7 := block_lt hh7
        have hpl7 := hp7.lt
        have hraw := hW.raw
        have hhd := hW.head
        have hrl := block_lt hhd
        have hNl := block_lt hraw
        have Hp7 : Hid (PMap w7 28 pb 1 1 (upd (fun _ => none) (key16 a1) (some rr))) := hp7
        have Hraw : Hid (w7.heap[N]? = some (.cells (ints .u8 (hdr a0 T a1 ++ (z2.take p ++ z4))).toArray 5 (0, 0))) := hraw
        have Hhd : Hid (w7.heap[rr]? = some (.cells (rcells a0 a1 T (.map none) 0 (.slice (some ⟨N, 0, none⟩) (12 + T) (12 + T))).toArray 83 (0, 0))) := hhd
        have Hwl : Hid ((z2.take p ++ z4).length = T) := hW.len
        clear hraw hhd hW hp7 hh7 hat2 hat4 hb7 hg6 hr2e hr4e hB6
        go_wp2_with fail
        refine (zzCat_ex x2 x4 p n4 n2 n4 (z2.take p) z4 w7 (by rw [List.length_take, hr2f.2.1]; omega) hr4f.2.1 (by omega) c4' (hr2f.2.2.take8 p) hr4f.2.2).mono ?_
        rintro e w8 ⟨cx, rfl, hcx, hb8⟩
        have hB8 := hB7.trans (hb8.mono hB7.size)
        have g48 : w8.cell? ⟨g, 4, none⟩ = some (.map (some pb)) := (hb8.cell (p := ⟨g, 4, none⟩) hgl7).trans g4
        have hp8 := Hp7.out.below hb8 hpl7
        have hkey : keyOf Try.prog 28 (.int .u16 a1) = some (key16 a1) := Maps.keyOf_int_mk Try.underlying28 (WalkArith.wf_u16 (by omega))
        have hlen := hp8.len Try.underlying49 3
        have hlk := hp8.look law28 Try.underlying49 (zero51 _) hkey
        rw [upd_same _ _ (law28.key hkey)] at hlk
        simp only [ptrv] at hlk
        have hhd8 := (hb8.block rr hrl).trans Hhd.out
        have Hraw8 : Hid (w8.heap[N]? = some (.cells (ints .u8 (hdr a0 T a1 ++ (z2.take p ++ z4))).toArray 5 (0, 0))) := (hb8.block N hNl).trans Hraw.out
        obtain ⟨r4, -⟩ := block_cell hhd8 4 (by simp [rcells])
        obtain ⟨r5, -⟩ := block_cell hhd8 5 (by simp [rcells])
        simp only [rcells, List.getD_eq_getElem?_getD, List.getElem?_cons_zero, List.getElem?_cons_succ, Option.getD_some] at r4 r5
        have hrl8 := block_lt hhd8
        have Hcx : Hid (At .u8 w8 (some ⟨cx, 0, none⟩) (z2.take p ++ z4)) := hcx
        have bT' : (p : Int) + (n4 : Int) ≤ (131072 : Int) := by have := HeT.out; omega
        clear hcx hhd8 hp8 hb8 g4
        go_wp2_with fail
        refine (pending_any w8 g (some pb) g48).mono ?_
        rintro e w9 ⟨rfl, rfl⟩
        go_wp2_with fail
        refine (rRaw_any w8 rr (some ⟨N, 0, none⟩) (12 + T) (12 + T) r5).mono ?_
        rintro e w9 ⟨rfl, rfl⟩
        go_wp2_with fail
        refine (zzHeader_ex a0 ((p : Int) + (n4 : Int)) a1 ht0 ht1 (by omega) (by omega) hs0 hs1' _).mono ?_
        rintro e w9 ⟨H0, rfl, hh9, hb9⟩
        have hB9 := hB8.trans (hb9.mono hB8.size)
        rw [HeT.out] at hh9
        have Hh9 : Hid (At .u8 w9 (some ⟨H0, 0, none⟩) (hdr a0 T a1)) := hh9
        have Hcx9 : Hid (At .u8 w9 (some ⟨cx, 0, none⟩) (z2.take p ++ z4)) := Hcx.out.below hb9
        have Hraw9 : Hid (w9.heap[N]? = some (.cells (ints .u8 (hdr a0 T a1 ++ (z2.take p ++ z4))).toArray 5 (0, 0))) := (hb9.block N (block_lt Hraw8.out)).trans Hraw8.out
        have r49 : w9.cell? ⟨rr, 4, none⟩ = some (.int .i64 0) := (hb9.cell (p := ⟨rr, 4, none⟩) hrl8).trans r4
        have hrl9 : rr < w9.heap.size := Nat.lt_of_lt_of_le hrl8 hb9.size
        clear hh9 r4 r5 hb9
        have hcl : (p + n4) = T := by have := HT.out; omega
        go_wp2_with fail
        have Hcl : Hid ((p + n4) = T) := hcl
        clear hcl
        refine (zzCat_ex (some ⟨H0, 0, none⟩) (some ⟨cx, 0, none⟩) 12 _ 12 _ (hdr a0 T a1) (z2.take p ++ z4) w9 (length_hdr _ _ _) (by rw [Hwl.out]) (by omega) (by omega) Hh9.out Hcx9.out).mono ?_
        rintro e w10 ⟨H1, rfl, hh10, hb10⟩
        have hB10 := hB9.trans (hb10.mono hB9.size)
        have hN10 : At .u8 w10 (some ⟨N, 0, none⟩) (hdr a0 T a1 ++ (z2.take p ++ z4)) := At.of_block ((hb10.block N (block_lt Hraw9.out)).trans Hraw9.out)
        have r410 : w10.cell? ⟨rr, 4, none⟩ = some (.int .i64 0) := (hb10.cell (p := ⟨rr, 4, none⟩) hrl9).trans r49
        have Hl : Hid ((hdr a0 T a1 ++ (z2.take p ++ z4)).length = 12 + T) := by show _ = _; rw [List.length_append, Hwl.out, length_hdr]
        clear hb10 r49
        go_wp2_with fail
        refine (zzEq_refl (some ⟨N, 0, none⟩) (some ⟨H1, 0, none⟩) (12 + T) (12 + T) _ (hdr a0 T a1 ++ (z2.take p ++ z4)) w10 Hl.out (by omega) hN10 hh10).mono ?_
        rintro e w11 ⟨rfl, k2, rfl⟩
        go_wp2_with fail
        refine (rMiss_any (w10.drewN k2) rr 0 r410).mono ?_
        rintro e w11 ⟨rfl, rfl⟩
        go_wp2
        go_ret
        exact ⟨rfl, below_drewN' hB10 k2⟩

end Go.Proofs.Qxb6604433a
