/-
  FnHelloPartsAddTwoFragments: the walk.
-/
import Derived.Test.Qxb6604433aHelloOne
import Derived.Test.Qxb6604433aAgain
import Derived.Test.Qxb6604433aLater
namespace Go.Proofs.Qxb6604433a
open Go.RowKit Go.WideShapes
set_option linter.unusedVariables false
set_option linter.unusedSimpArgs false
attribute [local go_sem ↓] Go.wp_at_zero Go.wp_at_succ

theorem cut_to64 (a : Option Addr) (n k : Nat) (hk : k ≤ n) (w : World) : (Instr.sliceAt 22 (.slice a n n) none (some (.int .i64 k)) none).run Try.prog w = .ok (.slice a k n) w := by
  have hs : (sizeOf 5).run Try.prog w = .ok 1 w := by kernel_rfl
  cases a with
  | none =>
    have h3 : (k : Int) ≤ (n : Int) := by omega
    simp [Instr.sliceAt, run_underlying Try.underlying22, Instr.slice, Instr.sliceBounds, run_sliceBound, hs, add_plain, hk]
  | some x =>
    obtain ⟨N, o, sp⟩ := x
    simp [Instr.sliceAt, run_underlying Try.underlying22, Instr.slice, Instr.sliceBounds, run_sliceBound, hs, add_plain, hk]
    intro _
    simp [Addr.add]

/-! ### the plain law -/
theorem covA {t n : Nat} (h : t ≤ n) : ∀ o, o < n → withC (withC (fun _ => false) 0 t) t (n - t) o = true := by
  intro o ho
  simp [withC]
  omega
theorem covB {t n : Nat} (h : t ≤ n) : ∀ o, o < n → withC (withC (fun _ => false) t (n - t)) 0 t o = true := by
  intro o ho
  simp [withC]
  omega
theorem bodyA {t n : Nat} {z : List Int} (hz : z.length = n) (h : t ≤ n) : (List.range n).map (withA (withA (fun _ => 0) 0 t (z.take t)) t (n - t) (z.drop t)) = z := by
  apply List.ext_getElem
  · simp [hz]
  · intro o h1 h2
    have ho : o < n := by simpa using h1
    simp only [List.getElem_map, List.getElem_range, withA]
    by_cases hc : o < t
    · rw [if_neg (by omega), if_pos (by omega)]
      simp [hc, h2]
    · rw [if_pos (by omega)]
      have e : t + (o - t) = o := by omega
      simp [e, h2]
theorem bodyB {t n : Nat} {z : List Int} (hz : z.length = n) (h : t ≤ n) : (List.range n).map (withA (withA (fun _ => 0) t (n - t) (z.drop t)) 0 t (z.take t)) = z := by
  apply List.ext_getElem
  · simp [hz]
  · intro o h1 h2
    have ho : o < n := by simpa using h1
    simp only [List.getElem_map, List.getElem_range, withA]
    by_cases hc : o < t
    · rw [if_pos (by omega)]
      simp [hc, h2]
    · rw [if_neg (by omega), if_pos (by omega)]
      have e : t + (o - t) = o := by omega
      simp [e, h2]

theorem LastPost.ret {w : World} {B p pb ob c hb rr L n5 : Nat} {typ seq recv : Int} {body : List Int} {e : Ending} {w' : World} (h : LastPost w B p pb ob c hb rr L n5 typ seq recv body e w') : e = .returned (.pointer (some ⟨hb, 0, none⟩)) := h.1

set_option maxRecDepth 100000 in
set_option maxHeartbeats 16000000 in
theorem helloTwoLaw (w : World) (s : ByteArray) (a0 a2 y4 : Int) (bb : Bool) (a3 a5 a6 : Option Addr) (n3 n5 n6 c3 c5 c6 : Nat) (z3 z5 z6 : List Int) (hsz : s.size ≤ 9223372036854775807) (ht0 : 0 ≤ a0) (ht1 : a0 ≤ 255) (hs0 : 0 ≤ a2) (hs1' : a2 ≤ 65535) (hy0 : -9223372036854775808 ≤ y4) (hy1 : y4 ≤ 9223372036854775807) (h3 : Row .u8 w a3 n3 c3 z3) (h5 : Row .u8 w a5 n5 c5 z5) (h6 : Row .u8 w a6 n6 c6 z6) :
    Calls Try.prog 6 #[.string s, .int .u8 a0, .int .u16 a2, .slice a3 n3 c3, .int .i64 y4, .slice a5 n5 c5, .slice a6 n6 c6, .bool bb] w fun e w' => e = .returned (.bool true) ∧ Below w.heap.size w w' := by
  go_enter Try.func6, Try.ntmps6
  go_wp2_with fail
  refine (zzBytes26_any w s a0 a2 y4 bb a3 a5 a6 n3 n5 n6 c3 c5 c6).mono ?_
  rintro e w' ⟨⟨b, rfl⟩, rfl⟩
  cases b with
  | false =>
    go_wp2
    go_ret
    exact ⟨rfl, Below.refl _ _⟩
  | true =>
    by_cases b0 : 1048576 < s.size
    · go_wp2
      go_ret
      exact ⟨rfl, Below.refl _ _⟩
    by_cases b3 : 1048576 < n3
    · go_wp2
      go_ret
      exact ⟨rfl, Below.refl _ _⟩
    by_cases b5 : 1048576 < n5
    · go_wp2
      go_ret
      exact ⟨rfl, Below.refl _ _⟩
    by_cases b6 : 1048576 < n6
    · go_wp2
      go_ret
      exact ⟨rfl, Below.refl _ _⟩
    by_cases b9 : 1048576 < s.size + n3 + n5 + n6
    · have b9' : (1048576 : Int) < (s.size : Int) + (n3 : Int) + (n5 : Int) + (n6 : Int) := by omega
      go_wp2
      go_ret
      exact ⟨rfl, Below.refl _ _⟩
    have c0' : s.size ≤ 1048576 := by omega
    have c3' : n3 ≤ 1048576 := by omega
    have c5' : n5 ≤ 1048576 := by omega
    have c6' : n6 ≤ 1048576 := by omega
    have c9' : (s.size : Int) + (n3 : Int) + (n5 : Int) + (n6 : Int) ≤ 1048576 := by omega
    clear b0 b3 b5 b6 b9
    by_cases bt : y4 < 1
    · go_wp2
      go_ret
      exact ⟨rfl, Below.refl _ _⟩
    by_cases bn : (n3 : Int) ≤ y4
    · go_wp2
      go_ret
      exact ⟨rfl, Below.refl _ _⟩
    obtain ⟨t, rfl⟩ := Int.eq_ofNat_of_zero_le (show 0 ≤ y4 by omega)
    have t1 : (1 : Int) ≤ (t : Int) := by omega
    have t2 : (t : Int) < (n3 : Int) := by omega
    clear bt bn hy0 hy1
    go_wp2_with fail
    refine (dup8 a3 n3 c3 z3 w h3 c3').mono ?_
    rintro e w1 ⟨x3, rfl, hr3, hx3, hb1⟩
    go_wp2_with fail
    refine (copy8 a5 n5 c5 z5 w1 (h5.below hb1) c5').mono ?_
    rintro e w2 ⟨x5, d5, rfl, -, -, -, hb2⟩
    have hB2 := hb1.trans (hb2.mono hb1.size)
    go_wp2_with fail
    refine (copy8 a6 n6 c6 z6 w2 (h6.below hB2) c6').mono ?_
    rintro e w3 ⟨x6, d6, rfl, -, -, -, hb3⟩
    have hB3 := hB2.trans (hb3.mono hB2.size)
    have hr3c := (hr3.below hb2).below hb3
    have hsz1 := hb2.size
    have hsz2 := hb3.size
    obtain ⟨dp, hdp, hcut⟩ := cut_from x3 n3 t z3 hr3.2.1 (by omega) (fun h => (hr3.1 h).1) (fun x h => (hx3 x h).2)
    have hcut' := fun w => hcut (t : Int) w rfl
    have hto := fun w => cut_to64 x3 n3 t (by omega) w
    have hdpb : ∀ x, dp = some x → x.block < w1.heap.size := fun x hx => by
      have hat1 := hdp w1 hr3.2.2 0 (by rw [List.length_drop, hr3.2.1]; omega)
      obtain ⟨b, o, e1, e2⟩ := hat1
      rw [hx] at e1
      cases e1
      exact cell_lt e2
    have Hdp : Hid (∀ w, At .u8 w x3 z3 → At .u8 w dp (z3.drop t)) := hdp
    have Hx3 : Hid (∀ x, x3 = some x → x.block < w1.heap.size) := fun x h => (hx3 x h).1
    have Hdpb : Hid (∀ x, dp = some x → x.block < w1.heap.size) := hdpb
    clear hdp hcut hdpb hx3 hb1 hb2 hb3 hB2 hr3 h3 h5 h6
    go_wp2_with fail
    refine (newMsg_ex w3 a0 n3 a2 0 x3 x5 t n3 n5 d5).mono ?_
    rintro e w4 ⟨q1, rfl, hq1, hqb1, hb4⟩
    have hB4 := hB3.trans (hb4.mono hB3.size)
    have hr3d := hr3c.below hb4
    have hql1 := block_lt hqb1
    have Hqb1 : Hid (w4.heap[q1]? = some (.cells (mcells a0 n3 a2 0 (.slice x3 t n3) (.slice x5 n5 d5)).toArray 77 (0, 0))) := hqb1
    have hs4 := hb4.size
    clear hqb1 hr3c
    go_wp2_with fail
    refine (newMsg_ex w4 a0 n3 a2 t dp x6 (n3 - t) (n3 - t) n6 d6).mono ?_
    rintro e w5 ⟨q2, rfl, hq2, hqb2, hb5⟩
    have hB5 := hB4.trans (hb5.mono hB4.size)
    have hr3e := hr3d.below hb5
    have hqb1' := (hb5.block q1 hql1).trans Hqb1.out
    have hql2 := block_lt hqb2
    have hs5 := hb5.size
    have Hqb1' : Hid (w5.heap[q1]? = some (.cells (mcells a0 n3 a2 (0 : Nat) (.slice x3 t n3) (.slice x5 n5 d5)).toArray 77 (0, 0))) := hqb1'
    have Hqb2 : Hid (w5.heap[q2]? = some (.cells (mcells a0 n3 a2 t (.slice dp (n3 - t) (n3 - t)) (.slice x6 n6 d6)).toArray 77 (0, 0))) := hqb2
    clear hqb1' hqb2 hr3d Hqb1
    cases bb with
    | false =>
      go_wp2_with fail
      refine (newParts_ex w5).mono ?_
      rintro e w6 ⟨p, rfl, hp, hpb, hb6⟩
      have hB6 := hB5.trans (hb6.mono hB5.size)
      have hr3f := hr3e.below hb6
      have Hpp : Hid (w6.heap[p]? = some (.cells (pcells (.map none) (.slice none 0 0)).toArray 75 (0, 0))) := hpb
      have hpl := block_lt hpb
      have Hq1 : Hid (w6.heap[q1]? = some (.cells (mcells a0 n3 a2 (0 : Nat) (.slice x3 t n3) (.slice x5 n5 d5)).toArray 77 (0, 0))) := (hb6.block q1 (by omega)).trans Hqb1'.out
      have Hq2 : Hid (w6.heap[q2]? = some (.cells (mcells a0 n3 a2 t (.slice dp (n3 - t) (n3 - t)) (.slice x6 n6 d6)).toArray 77 (0, 0))) := (hb6.block q2 hql2).trans Hqb2.out
      have hag3 : ∀ x, x3 = some x → x.block ≠ p := fun x hx => by have := Hx3.out x hx; omega
      have hagd : ∀ x, dp = some x → x.block ≠ p := fun x hx => by have := Hdpb.out x hx; omega
      have hwp : w.heap.size ≤ p := by have := hB5.size; omega
      have hzA : (z3.take t).length = t := by rw [List.length_take, hr3f.2.1]; omega
      have hzB : (z3.drop t).length = n3 - t := by rw [List.length_drop, hr3f.2.1]
      have hs6 := hb6.size
      have hkey := keyOf_s s c0'
      clear hpb hb4 hb5 hb6 hB3 hB4 hB5 hr3e Hqb1' Hqb2
      by_cases bL : 16384 < n3
      · go_wp2_with fail
        refine (zzAdd_nil w6 p q1 s (parts_long w6 p q1 s a0 a2 n3 (0 : Nat) _ _ Hq1.out (by omega))).mono ?_
        rintro e w7 ⟨rfl, rfl⟩
        obtain ⟨g0, -⟩ := block_cell Hpp.out 0 (by simp [pcells])
        obtain ⟨g1, -⟩ := block_cell Hpp.out 1 (by simp [pcells])
        simp only [pcells, List.getD_eq_getElem?_getD, List.getElem?_cons_zero, List.getElem?_cons_succ, Option.getD_some] at g0 g1
        have hln := fun w : World => Maps.len_nil (P := Try.prog) (w := w) Try.underlying37 3
        have hlk := fun w : World => Maps.look_nil (w := w) false law9 Try.underlying37 (zero35 w) hkey
        simp only [Bool.false_eq_true, if_false] at hlk
        go_wp2_with fail
        refine (byAddr_any w6 p none g0).mono ?_
        rintro e w7 ⟨rfl, rfl⟩
        go_wp2_with fail
        refine (byAddr_any w6 p none g0).mono ?_
        rintro e w7 ⟨rfl, rfl⟩
        go_wp2_with fail
        refine (order_any w6 p none 0 0 g1).mono ?_
        rintro e w7 ⟨rfl, rfl⟩
        go_wp2_with fail
        refine (zzAdd_nil w6 p q2 s (parts_long w6 p q2 s a0 a2 n3 (t : Nat) _ _ Hq2.out (by omega))).mono ?_
        rintro e w7 ⟨rfl, rfl⟩
        go_wp2_with fail
        refine (byAddr_any w6 p none g0).mono ?_
        rintro e w7 ⟨rfl, rfl⟩
        go_wp2_with fail
        refine (order_any w6 p none 0 0 g1).mono ?_
        rintro e w7 ⟨rfl, rfl⟩
        go_wp2
        go_ret
        exact ⟨rfl, hB6⟩
      · have cL : n3 ≤ 16384 := by omega
        clear bL
        go_wp2_with fail
        refine (zzAdd_ptr w6 p q1 s _ (fun e w' h => FirstPost.ptr h) (parts_first w6 p q1 n3 0 t n3 n5 d5 s a0 a2 x3 x5 (z3.take t) c0' ht0 ht1 hs0 hs1' Hpp.out Hq1.out (hr3f.2.2.take8 t) hag3 hzA (by omega) (by omega) cL (by omega))).mono ?_
        rintro e w7 ⟨B, pb, ob, c, hb, rr, hg7, hwB, hwpb, hpbB, hwob, hwhb, hh7, hcase⟩
        rcases hcase with ⟨en, -, -, -⟩ | ⟨en, rfl, hO, hP⟩
        · exact absurd en (by omega)
        have hB7 : Below w.heap.size w w7 := hB6.grown hg7 hB6.size (fun k hk => by cases hk; exact hwp)
        obtain ⟨cur, ho7, hcur⟩ := hO.order
        obtain ⟨g0, -⟩ := block_cell hO.parts 0 (by simp [pcells])
        obtain ⟨g1, -⟩ := block_cell hO.parts 1 (by simp [pcells])
        obtain ⟨o0, -⟩ := block_cell ho7 0 (by rcases Nat.eq_zero_or_pos cur.length with h | h
                                               · rw [List.eq_nil_of_length_eq_zero h] at hcur; cases hcur
                                               · exact h)
        rw [List.getD_eq_getElem?_getD, hcur] at o0
        simp only [pcells, List.getD_eq_getElem?_getD, List.getElem?_cons_zero, List.getElem?_cons_succ, Option.getD_some] at g0 g1 o0
        have hlen7 := hO.map.len Try.underlying37 3
        have hlk7 := hO.map.look law9 Try.underlying37 (zero35 _) hkey
        rw [upd_same _ _ (law9.key hkey)] at hlk7
        simp only [ptrv] at hlk7
        have hqp : q2 ≠ p := cells_ne_type Hq2.out Hpp.out (by decide)
        have hq7 := block_grown hg7 Hq2.out (fun e => by cases e; exact hqp rfl)
        have hatB : AtB B .u8 w7 dp (z3.drop t) := fun j hj => by
          obtain ⟨b, o, e1, e2⟩ := (Hdp.out w6 hr3f.2.2) j hj
          have := cell_lt e2
          exact ⟨b, o, by omega, e1, cell_grown hg7 e2 (hagd _ e1)⟩
        have HO : Hid (OneHeld w7 p pb ob c hb s) := hO
        have HP : Hid (PartA w7 B rr a0 a2 n3 t ((n3 : Int) - ((List.range n3).countP (withC (fun _ => false) 0 t) : Nat)) (withC (fun _ => false) 0 t) (withA (fun _ => 0) 0 t (z3.take t))) := hP
        have Hh7 : Hid (w7.heap[hb]? = some (.cells (hcells rr (13 + (n5 : Int))).toArray 80 (0, 0))) := hh7
        have Hq7 : Hid (w7.heap[q2]? = some (.cells (mcells a0 n3 a2 (t : Nat) (.slice dp (n3 - t) (n3 - t)) (.slice x6 n6 d6)).toArray 77 (0, 0))) := hq7
        have HatB : Hid (AtB B .u8 w7 dp (z3.drop t)) := hatB
        have Hg7 : Hid (w6.grownBy w7 (some p)) := hg7
        clear hO hP hh7 hq7 hatB ho7 hcur hg7
        go_wp2_with fail
        refine (byAddr_any w7 p (some pb) g0).mono ?_
        rintro e w8 ⟨rfl, rfl⟩
        go_wp2_with fail
        refine (byAddr_any w7 p (some pb) g0).mono ?_
        rintro e w8 ⟨rfl, rfl⟩
        go_wp2_with fail
        refine (order_any w7 p (some ⟨ob, 0, none⟩) 1 c g1).mono ?_
        rintro e w8 ⟨rfl, rfl⟩
        go_wp2_with fail
        refine (zzAdd_ptr w7 p q2 s _ (fun e w' h => ⟨_, LastPost.ret h⟩) (parts_last w7 B p pb ob c hb rr q2 t n3 t (n3 - t) (n3 - t) n6 d6 s a0 a2 (13 + (n5 : Int)) _ dp x6 (z3.drop t) _ _ c0' ht0 ht1 hs0 hs1' HO.out Hh7.out HP.out (by omega) hpbB (by omega) Hq7.out HatB.out hzB (by omega) (by omega) cL (by omega) (by omega) (by omega) (by omega) (covA (by omega)))).mono ?_
        rintro e w8 ⟨rfl, ⟨hp8, f8, hm8⟩, hh8, ⟨N, hW⟩, hos, htape, hout, hsz8, hfr⟩
        rw [bodyA hr3f.2.1 (by omega)] at hW
        have hB8 : Below w.heap.size w w8 := by
          have sB := hB6.size
          refine ⟨hos.trans hB7.os, htape.trans hB7.tape, hout.trans hB7.output, Nat.le_trans hB7.size hsz8, fun k hk => ?_⟩
          rw [hfr k (by omega) (by omega) (by omega) (by omega) (by omega)]
          exact hB7.block k hk
        have hr3g : Row .u8 w8 x3 n3 n3 z3 := ⟨hr3f.1, hr3f.2.1, fun j hj => by
          obtain ⟨b, o, e1, e2⟩ := hr3f.2.2 j hj
          have hl := cell_lt e2
          have hnp := hag3 _ e1
          have h7 := cell_grown Hg7.out e2 hnp
          have hne : b ≠ p := hnp
          refine ⟨b, o, e1, ?_⟩
          rw [World.cell?_of_block (w := w7) (hfr b (by omega) hne (by omega) (by omega) (by omega))]
          exact h7⟩
        obtain ⟨g08, -⟩ := block_cell hp8 0 (by simp [pcells])
        obtain ⟨g18, -⟩ := block_cell hp8 1 (by simp [pcells])
        simp only [pcells, List.getD_eq_getElem?_getD, List.getElem?_cons_zero, List.getElem?_cons_succ, Option.getD_some] at g08 g18
        have hlen8 := hm8.len Try.underlying37 3
        have HW : Hid (Whole w8 B rr N a0 a2 n3 z3) := hW
        have Hh8 : Hid (w8.heap[hb]? = some (.cells (hcells rr (13 + (n5 : Int) + (13 + (n6 : Int)))).toArray 80 (0, 0))) := hh8
        clear hp8 hm8 hh8 hW hfr hos htape hout g0 g1 o0 hlen7 hlk7 HO HP Hh7 Hq7 HatB Hg7 hB7 hB6
        go_wp2_with fail
        refine (byAddr_any w8 p (some pb) g08).mono ?_
        rintro e w9 ⟨rfl, rfl⟩
        go_wp2_with fail
        refine (order_any w8 p (some ⟨ob, 0, none⟩) 0 c g18).mono ?_
        rintro e w9 ⟨rfl, rfl⟩
        go_wp2_with fail
        refine (zzHeader_ex a0 n3 a2 ht0 ht1 (by omega) (by omega) hs0 hs1' _).mono ?_
        rintro e w9 ⟨H0, rfl, hh9, hb9⟩
        have hB9 : Below w.heap.size w w9 := hB8.trans (hb9.mono hB8.size)
        have hr9 : Row .u8 w9 x3 n3 n3 z3 := hr3g.below hb9
        have Hb9 : Hid (Below w8.heap.size w8 w9) := hb9
        have Hh9 : Hid (At .u8 w9 (some ⟨H0, 0, none⟩) (hdr a0 n3 a2)) := hh9
        clear hh9 hb9 g08 g18 hlen8 hr3g
        go_wp2_with fail
        refine (zzCat_ex (some ⟨H0, 0, none⟩) x3 12 n3 12 n3 (hdr a0 n3 a2) z3 w9 (length_hdr _ _ _) hr9.2.1 (by omega) c3' Hh9.out hr9.2.2).mono ?_
        rintro e w10 ⟨H1, rfl, hh10', hb10⟩
        have hB10 := hB9.trans (hb10.mono hB9.size)
        have hb810 : Below w8.heap.size w8 w10 := Hb9.out.trans (hb10.mono Hb9.out.size)
        have hN10 : At .u8 w10 (some ⟨N, 0, none⟩) (hdr a0 n3 a2 ++ z3) := At.of_block ((hb810.block N (block_lt HW.out.raw)).trans HW.out.raw)
        have hr10 := (hb810.block rr (block_lt HW.out.head)).trans HW.out.head
        have hh10 := (hb810.block hb (block_lt Hh8.out)).trans Hh8.out
        obtain ⟨r510, -⟩ := block_cell hr10 5 (by simp [rcells])
        obtain ⟨h010, -⟩ := block_cell hh10 0 (by simp [hcells])
        obtain ⟨h110, -⟩ := block_cell hh10 1 (by simp [hcells])
        simp only [rcells, hcells, List.getD_eq_getElem?_getD, List.getElem?_cons_zero, List.getElem?_cons_succ, Option.getD_some] at r510 h010 h110
        have Hl : Hid ((hdr a0 n3 a2 ++ z3).length = 12 + n3) := by show _ = _; rw [List.length_append, hr9.2.1, length_hdr]
        have hsum : 13 + (n5 : Int) + (13 + (n6 : Int)) = 26 + (n5 : Int) + (n6 : Int) := by omega
        rw [hsum] at h110
        clear hb10 Hh9 hb810 hr10 hh10 hsum
        go_wp2_with fail
        refine (hRaw_any w10 hb rr (some ⟨N, 0, none⟩) (12 + n3) (12 + n3) h010 r510).mono ?_
        rintro e w11 ⟨rfl, rfl⟩
        go_wp2_with fail
        refine (zzEq_refl (some ⟨N, 0, none⟩) (some ⟨H1, 0, none⟩) (12 + n3) (12 + n3) (12 + n3) (hdr a0 n3 a2 ++ z3) w10 Hl.out (by omega) hN10 hh10').mono ?_
        rintro e w11 ⟨rfl, k2, rfl⟩
        go_wp2_with fail
        refine (hRecv_any (w10.drewN k2) hb (26 + (n5 : Int) + (n6 : Int)) h110).mono ?_
        rintro e w11 ⟨rfl, rfl⟩
        go_wp2
        go_ret
        exact ⟨rfl, below_drewN' hB10 k2⟩
    | true =>
      go_wp2_with fail
      refine (newParts_ex w5).mono ?_
      rintro e w6 ⟨p, rfl, hp, hpb, hb6⟩
      have hB6 := hB5.trans (hb6.mono hB5.size)
      have hr3f := hr3e.below hb6
      have Hpp : Hid (w6.heap[p]? = some (.cells (pcells (.map none) (.slice none 0 0)).toArray 75 (0, 0))) := hpb
      have hpl := block_lt hpb
      have Hq1 : Hid (w6.heap[q1]? = some (.cells (mcells a0 n3 a2 (0 : Nat) (.slice x3 t n3) (.slice x5 n5 d5)).toArray 77 (0, 0))) := (hb6.block q1 (by omega)).trans Hqb1'.out
      have Hq2 : Hid (w6.heap[q2]? = some (.cells (mcells a0 n3 a2 t (.slice dp (n3 - t) (n3 - t)) (.slice x6 n6 d6)).toArray 77 (0, 0))) := (hb6.block q2 hql2).trans Hqb2.out
      have hag3 : ∀ x, x3 = some x → x.block ≠ p := fun x hx => by have := Hx3.out x hx; omega
      have hagd : ∀ x, dp = some x → x.block ≠ p := fun x hx => by have := Hdpb.out x hx; omega
      have hwp : w.heap.size ≤ p := by have := hB5.size; omega
      have hzA : (z3.take t).length = t := by rw [List.length_take, hr3f.2.1]; omega
      have hzB : (z3.drop t).length = n3 - t := by rw [List.length_drop, hr3f.2.1]
      have hs6 := hb6.size
      have hkey := keyOf_s s c0'
      clear hpb hb4 hb5 hb6 hB3 hB4 hB5 hr3e Hqb1' Hqb2
      by_cases bL : 16384 < n3
      · go_wp2_with fail
        refine (zzAdd_nil w6 p q2 s (parts_long w6 p q2 s a0 a2 n3 (t : Nat) _ _ Hq2.out (by omega))).mono ?_
        rintro e w7 ⟨rfl, rfl⟩
        obtain ⟨g0, -⟩ := block_cell Hpp.out 0 (by simp [pcells])
        obtain ⟨g1, -⟩ := block_cell Hpp.out 1 (by simp [pcells])
        simp only [pcells, List.getD_eq_getElem?_getD, List.getElem?_cons_zero, List.getElem?_cons_succ, Option.getD_some] at g0 g1
        have hln := fun w : World => Maps.len_nil (P := Try.prog) (w := w) Try.underlying37 3
        have hlk := fun w : World => Maps.look_nil (w := w) false law9 Try.underlying37 (zero35 w) hkey
        simp only [Bool.false_eq_true, if_false] at hlk
        go_wp2_with fail
        refine (byAddr_any w6 p none g0).mono ?_
        rintro e w7 ⟨rfl, rfl⟩
        go_wp2_with fail
        refine (byAddr_any w6 p none g0).mono ?_
        rintro e w7 ⟨rfl, rfl⟩
        go_wp2_with fail
        refine (order_any w6 p none 0 0 g1).mono ?_
        rintro e w7 ⟨rfl, rfl⟩
        go_wp2_with fail
        refine (zzAdd_nil w6 p q1 s (parts_long w6 p q1 s a0 a2 n3 (0 : Nat) _ _ Hq1.out (by omega))).mono ?_
        rintro e w7 ⟨rfl, rfl⟩
        go_wp2_with fail
        refine (byAddr_any w6 p none g0).mono ?_
        rintro e w7 ⟨rfl, rfl⟩
        go_wp2_with fail
        refine (order_any w6 p none 0 0 g1).mono ?_
        rintro e w7 ⟨rfl, rfl⟩
        go_wp2
        go_ret
        exact ⟨rfl, hB6⟩
      · have cL : n3 ≤ 16384 := by omega
        clear bL
        go_wp2_with fail
        refine (zzAdd_ptr w6 p q2 s _ (fun e w' h => FirstPost.ptr h) (parts_first w6 p q2 n3 t (n3 - t) (n3 - t) n6 d6 s a0 a2 dp x6 (z3.drop t) c0' ht0 ht1 hs0 hs1' Hpp.out Hq2.out (Hdp.out w6 hr3f.2.2) hagd hzB (by omega) (by omega) cL (by omega))).mono ?_
        rintro e w7 ⟨B, pb, ob, c, hb, rr, hg7, hwB, hwpb, hpbB, hwob, hwhb, hh7, hcase⟩
        rcases hcase with ⟨en, -, -, -⟩ | ⟨en, rfl, hO, hP⟩
        · exact absurd en (by omega)
        have hB7 : Below w.heap.size w w7 := hB6.grown hg7 hB6.size (fun k hk => by cases hk; exact hwp)
        obtain ⟨cur, ho7, hcur⟩ := hO.order
        obtain ⟨g0, -⟩ := block_cell hO.parts 0 (by simp [pcells])
        obtain ⟨g1, -⟩ := block_cell hO.parts 1 (by simp [pcells])
        obtain ⟨o0, -⟩ := block_cell ho7 0 (by rcases Nat.eq_zero_or_pos cur.length with h | h
                                               · rw [List.eq_nil_of_length_eq_zero h] at hcur; cases hcur
                                               · exact h)
        rw [List.getD_eq_getElem?_getD, hcur] at o0
        simp only [pcells, List.getD_eq_getElem?_getD, List.getElem?_cons_zero, List.getElem?_cons_succ, Option.getD_some] at g0 g1 o0
        have hlen7 := hO.map.len Try.underlying37 3
        have hlk7 := hO.map.look law9 Try.underlying37 (zero35 _) hkey
        rw [upd_same _ _ (law9.key hkey)] at hlk7
        simp only [ptrv] at hlk7
        have hqp : q1 ≠ p := cells_ne_type Hq1.out Hpp.out (by decide)
        have hq7 := block_grown hg7 Hq1.out (fun e => by cases e; exact hqp rfl)
        have hatB : AtB B .u8 w7 x3 (z3.take t) := fun j hj => by
          obtain ⟨b, o, e1, e2⟩ := (hr3f.2.2.take8 t) j hj
          have := cell_lt e2
          exact ⟨b, o, by omega, e1, cell_grown hg7 e2 (hag3 _ e1)⟩
        have HO : Hid (OneHeld w7 p pb ob c hb s) := hO
        have HP : Hid (PartA w7 B rr a0 a2 n3 (n3 - t) ((n3 : Int) - ((List.range n3).countP (withC (fun _ => false) t (n3 - t)) : Nat)) (withC (fun _ => false) t (n3 - t)) (withA (fun _ => 0) t (n3 - t) (z3.drop t))) := hP
        have Hh7 : Hid (w7.heap[hb]? = some (.cells (hcells rr (13 + (n6 : Int))).toArray 80 (0, 0))) := hh7
        have Hq7 : Hid (w7.heap[q1]? = some (.cells (mcells a0 n3 a2 (0 : Nat) (.slice x3 t n3) (.slice x5 n5 d5)).toArray 77 (0, 0))) := hq7
        have HatB : Hid (AtB B .u8 w7 x3 (z3.take t)) := hatB
        have Hg7 : Hid (w6.grownBy w7 (some p)) := hg7
        clear hO hP hh7 hq7 hatB ho7 hcur hg7
        go_wp2_with fail
        refine (byAddr_any w7 p (some pb) g0).mono ?_
        rintro e w8 ⟨rfl, rfl⟩
        go_wp2_with fail
        refine (byAddr_any w7 p (some pb) g0).mono ?_
        rintro e w8 ⟨rfl, rfl⟩
        go_wp2_with fail
        refine (order_any w7 p (some ⟨ob, 0, none⟩) 1 c g1).mono ?_
        rintro e w8 ⟨rfl, rfl⟩
        go_wp2_with fail
        refine (zzAdd_ptr w7 p q1 s _ (fun e w' h => ⟨_, LastPost.ret h⟩) (parts_last w7 B p pb ob c hb rr q1 (n3 - t) n3 0 t n3 n5 d5 s a0 a2 (13 + (n6 : Int)) _ x3 x5 (z3.take t) _ _ c0' ht0 ht1 hs0 hs1' HO.out Hh7.out HP.out (by omega) hpbB (by omega) Hq7.out HatB.out hzA (by omega) (by omega) cL (by omega) (by omega) (by omega) (by omega) (covB (by omega)))).mono ?_
        rintro e w8 ⟨rfl, ⟨hp8, f8, hm8⟩, hh8, ⟨N, hW⟩, hos, htape, hout, hsz8, hfr⟩
        rw [bodyB hr3f.2.1 (by omega)] at hW
        have hB8 : Below w.heap.size w w8 := by
          have sB := hB6.size
          refine ⟨hos.trans hB7.os, htape.trans hB7.tape, hout.trans hB7.output, Nat.le_trans hB7.size hsz8, fun k hk => ?_⟩
          rw [hfr k (by omega) (by omega) (by omega) (by omega) (by omega)]
          exact hB7.block k hk
        have hr3g : Row .u8 w8 x3 n3 n3 z3 := ⟨hr3f.1, hr3f.2.1, fun j hj => by
          obtain ⟨b, o, e1, e2⟩ := hr3f.2.2 j hj
          have hl := cell_lt e2
          have hnp := hag3 _ e1
          have h7 := cell_grown Hg7.out e2 hnp
          have hne : b ≠ p := hnp
          refine ⟨b, o, e1, ?_⟩
          rw [World.cell?_of_block (w := w7) (hfr b (by omega) hne (by omega) (by omega) (by omega))]
          exact h7⟩
        obtain ⟨g08, -⟩ := block_cell hp8 0 (by simp [pcells])
        obtain ⟨g18, -⟩ := block_cell hp8 1 (by simp [pcells])
        simp only [pcells, List.getD_eq_getElem?_getD, List.getElem?_cons_zero, List.getElem?_cons_succ, Option.getD_some] at g08 g18
        have hlen8 := hm8.len Try.underlying37 3
        have HW : Hid (Whole w8 B rr N a0 a2 n3 z3) := hW
        have Hh8 : Hid (w8.heap[hb]? = some (.cells (hcells rr (13 + (n6 : Int) + (13 + (n5 : Int)))).toArray 80 (0, 0))) := hh8
        clear hp8 hm8 hh8 hW hfr hos htape hout g0 g1 o0 hlen7 hlk7 HO HP Hh7 Hq7 HatB Hg7 hB7 hB6
        go_wp2_with fail
        refine (byAddr_any w8 p (some pb) g08).mono ?_
        rintro e w9 ⟨rfl, rfl⟩
        go_wp2_with fail
        refine (order_any w8 p (some ⟨ob, 0, none⟩) 0 c g18).mono ?_
        rintro e w9 ⟨rfl, rfl⟩
        go_wp2_with fail
        refine (zzHeader_ex a0 n3 a2 ht0 ht1 (by omega) (by omega) hs0 hs1' _).mono ?_
        rintro e w9 ⟨H0, rfl, hh9, hb9⟩
        have hB9 : Below w.heap.size w w9 := hB8.trans (hb9.mono hB8.size)
        have hr9 : Row .u8 w9 x3 n3 n3 z3 := hr3g.below hb9
        have Hb9 : Hid (Below w8.heap.size w8 w9) := hb9
        have Hh9 : Hid (At .u8 w9 (some ⟨H0, 0, none⟩) (hdr a0 n3 a2)) := hh9
        clear hh9 hb9 g08 g18 hlen8 hr3g
        go_wp2_with fail
        refine (zzCat_ex (some ⟨H0, 0, none⟩) x3 12 n3 12 n3 (hdr a0 n3 a2) z3 w9 (length_hdr _ _ _) hr9.2.1 (by omega) c3' Hh9.out hr9.2.2).mono ?_
        rintro e w10 ⟨H1, rfl, hh10', hb10⟩
        have hB10 := hB9.trans (hb10.mono hB9.size)
        have hb810 : Below w8.heap.size w8 w10 := Hb9.out.trans (hb10.mono Hb9.out.size)
        have hN10 : At .u8 w10 (some ⟨N, 0, none⟩) (hdr a0 n3 a2 ++ z3) := At.of_block ((hb810.block N (block_lt HW.out.raw)).trans HW.out.raw)
        have hr10 := (hb810.block rr (block_lt HW.out.head)).trans HW.out.head
        have hh10 := (hb810.block hb (block_lt Hh8.out)).trans Hh8.out
        obtain ⟨r510, -⟩ := block_cell hr10 5 (by simp [rcells])
        obtain ⟨h010, -⟩ := block_cell hh10 0 (by simp [hcells])
        obtain ⟨h110, -⟩ := block_cell hh10 1 (by simp [hcells])
        simp only [rcells, hcells, List.getD_eq_getElem?_getD, List.getElem?_cons_zero, List.getElem?_cons_succ, Option.getD_some] at r510 h010 h110
        have Hl : Hid ((hdr a0 n3 a2 ++ z3).length = 12 + n3) := by show _ = _; rw [List.length_append, hr9.2.1, length_hdr]
        have hsum : 13 + (n6 : Int) + (13 + (n5 : Int)) = 26 + (n5 : Int) + (n6 : Int) := by omega
        rw [hsum] at h110
        clear hb10 Hh9 hb810 hr10 hh10 hsum
        go_wp2_with fail
        refine (hRaw_any w10 hb rr (some ⟨N, 0, none⟩) (12 + n3) (12 + n3) h010 r510).mono ?_
        rintro e w11 ⟨rfl, rfl⟩
        go_wp2_with fail
        refine (zzEq_refl (some ⟨N, 0, none⟩) (some ⟨H1, 0, none⟩) (12 + n3) (12 + n3) (12 + n3) (hdr a0 n3 a2 ++ z3) w10 Hl.out (by omega) hN10 hh10').mono ?_
        rintro e w11 ⟨rfl, k2, rfl⟩
        go_wp2_with fail
        refine (hRecv_any (w10.drewN k2) hb (26 + (n5 : Int) + (n6 : Int)) h110).mono ?_
        rintro e w11 ⟨rfl, rfl⟩
        go_wp2
        go_ret
        exact ⟨rfl, below_drewN' hB10 k2⟩

end Go.Proofs.Qxb6604433a
