/-
  FnHelloPartsAddOneFragment: the walk.
-/
import Derived.Test.Qxb6604433aParts
namespace Go.Proofs.Qxb6604433a
open Go.RowKit Go.WideShapes
set_option linter.unusedVariables false
set_option linter.unusedSimpArgs false
attribute [local go_sem ↓] Go.wp_at_zero Go.wp_at_succ

theorem zzAdd_nil (w : World) (p q : Nat) (s : ByteArray) (h : Calls Try.prog 45 #[.pointer (some ⟨p, 0, none⟩), .string s, .pointer (some ⟨q, 0, none⟩)] w fun e w' => e = .returned (.pointer none) ∧ w = w') :
    Calls Try.prog 19 #[.pointer (some ⟨p, 0, none⟩), .string s, .pointer (some ⟨q, 0, none⟩)] w fun e w' => e = .returned (.pointer none) ∧ w = w' := by
  go_enter Try.func19, Try.ntmps19
  go_wp2_with fail
  refine h.mono ?_
  rintro e w' ⟨rfl, rfl⟩
  go_wp2
  go_ret
  exact ⟨rfl, rfl⟩

theorem zzAdd_ptr (w : World) (p q : Nat) (s : ByteArray) (Q : Ending → World → Prop) (hQ : ∀ e w', Q e w' → ∃ o, e = .returned (.pointer o)) (h : Calls Try.prog 45 #[.pointer (some ⟨p, 0, none⟩), .string s, .pointer (some ⟨q, 0, none⟩)] w fun e w' => Q e w') :
    Calls Try.prog 19 #[.pointer (some ⟨p, 0, none⟩), .string s, .pointer (some ⟨q, 0, none⟩)] w fun e w' => Q e w' := by
  go_enter Try.func19, Try.ntmps19
  go_wp2_with fail
  refine h.mono ?_
  intro e w' hq
  obtain ⟨o, rfl⟩ := hQ e w' hq
  have Hq : Hid (Q (.returned (.pointer o)) w') := hq
  clear hq hQ h
  go_wp2
  exact Hq.out

theorem FirstPost.ptr {w : World} {p : Nat} {s : ByteArray} {typ seq : Int} {L off ln n5 : Nat} {zs : List Int} {e : Ending} {w' : World} (h : FirstPost w p s typ seq L off ln n5 zs e w') : ∃ o, e = .returned (.pointer o) := by
  obtain ⟨B, pb, ob, c, hb, rr, -, -, -, -, -, -, -, h⟩ := h
  rcases h with ⟨-, h, -⟩ | ⟨-, h, -⟩
  · exact ⟨_, h⟩
  · exact ⟨_, h⟩

set_option maxRecDepth 100000 in
set_option maxHeartbeats 8000000 in
theorem helloOneLaw (w : World) (s : ByteArray) (a0 a2 : Int) (L off : Nat) (a4 a5 : Option Addr) (n4 n5 c4 c5 : Nat) (z4 z5 : List Int) (hsz : s.size ≤ 9223372036854775807) (ht0 : 0 ≤ a0) (ht1 : a0 ≤ 255) (hs0 : 0 ≤ a2) (hs1 : a2 ≤ 65535) (hL4 : L ≤ 4294967295) (ho4 : off ≤ 4294967295) (h4 : Row .u8 w a4 n4 c4 z4) (h5 : Row .u8 w a5 n5 c5 z5) :
    Calls Try.prog 5 #[.string s, .int .u8 a0, .int .u32 L, .int .u16 a2, .int .u32 off, .slice a4 n4 c4, .slice a5 n5 c5] w fun e w' => e = .returned (.bool true) ∧ Below w.heap.size w w' := by
  go_enter Try.func5, Try.ntmps5
  go_wp2_with fail
  refine (zzBytes16_any w s a0 L a2 off a4 a5 n4 n5 c4 c5).mono ?_
  rintro e w' ⟨⟨b, rfl⟩, rfl⟩
  cases b with
  | false =>
    go_wp2
    go_ret
    exact ⟨rfl, Below.refl _ _⟩
  | true =>
    by_cases b0 : 1048576 < s.size
    · go_wp2
      go_ret
      exact ⟨rfl, Below.refl _ _⟩
    by_cases b4 : 1048576 < n4
    · go_wp2
      go_ret
      exact ⟨rfl, Below.refl _ _⟩
    by_cases b5 : 1048576 < n5
    · go_wp2
      go_ret
      exact ⟨rfl, Below.refl _ _⟩
    by_cases b9 : 1048576 < s.size + n4 + n5
    · have b9' : (1048576 : Int) < (s.size : Int) + (n4 : Int) + (n5 : Int) := by omega
      go_wp2
      go_ret
      exact ⟨rfl, Below.refl _ _⟩
    have c0' : s.size ≤ 1048576 := by omega
    have c4' : n4 ≤ 1048576 := by omega
    have c5' : n5 ≤ 1048576 := by omega
    have c9' : (s.size : Int) + (n4 : Int) + (n5 : Int) ≤ 1048576 := by omega
    clear b0 b4 b5 b9
    by_cases bL : 16384 < L
    · go_wp2_with fail
      refine (copy8 a4 n4 c4 z4 w h4 c4').mono ?_
      rintro e w1 ⟨x4, d4, rfl, hr4, hd4, hx4, hb1⟩
      have hB1 := hb1
      go_wp2_with fail
      refine (copy8 a5 n5 c5 z5 w1 (h5.below hB1) c5').mono ?_
      rintro e w2 ⟨x5, d5, rfl, -, -, -, hb2⟩
      have hB2 := hB1.trans (hb2.mono hB1.size)
      have hr4' := hr4.below hb2
      have hs2 := hb2.size
      go_wp2_with fail
      refine (newParts_ex w2).mono ?_
      rintro e w3 ⟨g, rfl, hg, hgb, hb3⟩
      have hB3 := hB2.trans (hb3.mono hB2.size)
      have hr4'' := hr4'.below hb3
      have Hgb : Hid (w3.heap[g]? = some (.cells (pcells (.map none) (.slice none 0 0)).toArray 75 (0, 0))) := hgb
      have hg3 := block_lt hgb
      clear hgb
      go_wp2_with fail
      refine (newMsg_ex w3 a0 L a2 off x4 x5 n4 d4 n5 d5).mono ?_
      rintro e w4 ⟨q, rfl, hq, hqb, hb4⟩
      have hB4 := hB3.trans (hb4.mono hB3.size)
      have hr4q := hr4''.below hb4
      have hgb4 := (hb4.block g hg3).trans Hgb.out
      have Hgb4 : Hid (w4.heap[g]? = some (.cells (pcells (.map none) (.slice none 0 0)).toArray 75 (0, 0))) := hgb4
      have Hqb : Hid (w4.heap[q]? = some (.cells (mcells a0 L a2 off (.slice x4 n4 d4) (.slice x5 n5 d5)).toArray 77 (0, 0))) := hqb
      have hag : ∀ x, x4 = some x → x.block ≠ g := fun x hx => by have := (hx4 x hx).1; omega
      have hgw : w.heap.size ≤ g := by have := hB2.size; omega
      clear hgb4 hqb hb1 hb2 hb3 hb4 hB1 hB2 hB3 hr4 hr4' hr4'' h4 h5 hx4 Hgb
      go_wp2_with fail
      refine (zzAdd_nil w4 g q s (parts_long w4 g q s a0 a2 L off _ _ Hqb.out (by omega))).mono ?_
      rintro e w5 ⟨rfl, rfl⟩
      obtain ⟨g0, -⟩ := block_cell Hgb4.out 0 (by simp [pcells])
      obtain ⟨g1, -⟩ := block_cell Hgb4.out 1 (by simp [pcells])
      simp only [pcells, List.getD_eq_getElem?_getD, List.getElem?_cons_zero, List.getElem?_cons_succ, Option.getD_some] at g0 g1
      have hln := fun w : World => Maps.len_nil (P := Try.prog) (w := w) Try.underlying37 3
      go_wp2_with fail
      refine (byAddr_any w4 g none g0).mono ?_
      rintro e w5 ⟨rfl, rfl⟩
      go_wp2_with fail
      refine (order_any w4 g none 0 0 g1).mono ?_
      rintro e w5 ⟨rfl, rfl⟩
      go_wp2
      go_ret
      exact ⟨rfl, hB4⟩
    · have cL : L ≤ 16384 := by omega
      clear bL
      by_cases bo : L < off + n4
      · have bo' : (L : Int) < (off : Int) + (n4 : Int) := by omega
        go_wp2
        go_ret
        exact ⟨rfl, Below.refl _ _⟩
      · have co' : (off : Int) + (n4 : Int) ≤ (L : Int) := by omega
        clear bo
        go_wp2_with fail
        refine (copy8 a4 n4 c4 z4 w h4 c4').mono ?_
        rintro e w1 ⟨x4, d4, rfl, hr4, hd4, hx4, hb1⟩
        have hB1 := hb1
        go_wp2_with fail
        refine (copy8 a5 n5 c5 z5 w1 (h5.below hB1) c5').mono ?_
        rintro e w2 ⟨x5, d5, rfl, -, -, -, hb2⟩
        have hB2 := hB1.trans (hb2.mono hB1.size)
        have hr4' := hr4.below hb2
        have hs2 := hb2.size
        go_wp2_with fail
        refine (newParts_ex w2).mono ?_
        rintro e w3 ⟨g, rfl, hg, hgb, hb3⟩
        have hB3 := hB2.trans (hb3.mono hB2.size)
        have hr4'' := hr4'.below hb3
        have Hgb : Hid (w3.heap[g]? = some (.cells (pcells (.map none) (.slice none 0 0)).toArray 75 (0, 0))) := hgb
        have hg3 := block_lt hgb
        clear hgb
        go_wp2_with fail
        refine (newMsg_ex w3 a0 L a2 off x4 x5 n4 d4 n5 d5).mono ?_
        rintro e w4 ⟨q, rfl, hq, hqb, hb4⟩
        have hB4 := hB3.trans (hb4.mono hB3.size)
        have hr4q := hr4''.below hb4
        have hgb4 := (hb4.block g hg3).trans Hgb.out
        have Hgb4 : Hid (w4.heap[g]? = some (.cells (pcells (.map none) (.slice none 0 0)).toArray 75 (0, 0))) := hgb4
        have Hqb : Hid (w4.heap[q]? = some (.cells (mcells a0 L a2 off (.slice x4 n4 d4) (.slice x5 n5 d5)).toArray 77 (0, 0))) := hqb
        have hag : ∀ x, x4 = some x → x.block ≠ g := fun x hx => by have := (hx4 x hx).1; omega
        have hgw : w.heap.size ≤ g := by have := hB2.size; omega
        clear hgb4 hqb hb1 hb2 hb3 hb4 hB1 hB2 hB3 hr4 hr4' hr4'' h4 h5 hx4 Hgb
        go_wp2_with fail
        refine (zzAdd_ptr w4 g q s _ (fun e w' h => FirstPost.ptr h) (parts_first w4 g q L off n4 d4 n5 d5 s a0 a2 x4 x5 z4 c0' ht0 ht1 hs0 hs1 Hgb4.out Hqb.out hr4q.2.2 hag hr4q.2.1 hd4 (by omega) cL c5')).mono ?_
        rintro e w5 ⟨B, pb, ob, c, hb, rr, hg5, -, hwpb, hpbB, hwob, hwhb, hh5, hcase⟩
        have hB5 : Below w.heap.size w w5 := hB4.grown hg5 hB4.size (fun k hk => by cases hk; exact hgw)
        have hr5 : Row .u8 w5 x4 n4 d4 z4 := hr4q.grown hg5 hag
        have Hh5 : Hid (w5.heap[hb]? = some (.cells (hcells rr (13 + (n5 : Int))).toArray 80 (0, 0))) := hh5
        have hkey := keyOf_s s c0'
        clear hh5 hg5 Hqb Hgb4 hr4q
        rcases hcase with ⟨en, rfl, ⟨hp5, f5, hm5⟩, N, hW⟩ | ⟨en, rfl, hO, hP⟩
        · have hbody := one_whole (zs := z4) (off := off) ((one_all (by omega)).2 en) hr5.2.1 (by omega) en
          rw [hbody] at hW
          subst en
          obtain ⟨g0, -⟩ := block_cell hp5 0 (by simp [pcells])
          obtain ⟨g1, -⟩ := block_cell hp5 1 (by simp [pcells])
          simp only [pcells, List.getD_eq_getElem?_getD, List.getElem?_cons_zero, List.getElem?_cons_succ, Option.getD_some] at g0 g1
          have hlen5 : ∀ W, Below w5.heap.size w5 W → (Builtin.len_ #[37] 3 #[.map (some pb)]).run Try.prog W = .ok (.int .i64 (0 : Nat)) W := fun W hbW => (hm5.below hbW hm5.lt).len Try.underlying37 3
          have Hlen5 : Hid (∀ W, Below w5.heap.size w5 W → (Builtin.len_ #[37] 3 #[.map (some pb)]).run Try.prog W = .ok (.int .i64 (0 : Nat)) W) := hlen5
          have HW : Hid (Whole w5 B rr N a0 a2 n4 z4) := hW
          clear hW hp5 hm5 hbody hlen5
          go_wp2_with fail
          refine (byAddr_any w5 g (some pb) g0).mono ?_
          rintro e w6 ⟨rfl, rfl⟩
          go_wp2_with fail
          refine (order_any w5 g (some ⟨ob, 0, none⟩) 0 c g1).mono ?_
          rintro e w6 ⟨rfl, rfl⟩
          go_wp2_with fail
          refine (zzHeader_ex a0 n4 a2 ht0 ht1 (by omega) (by omega) hs0 hs1 _).mono ?_
          rintro e w7 ⟨H0, rfl, hh7, hb7⟩
          have hB7 : Below w.heap.size w w7 := hB5.trans (hb7.mono hB5.size)
          have hr7 : Row .u8 w7 x4 n4 d4 z4 := hr5.below hb7
          have Hb7 : Hid (Below w5.heap.size w5 w7) := hb7
          have Hh7 : Hid (At .u8 w7 (some ⟨H0, 0, none⟩) (hdr a0 n4 a2)) := hh7
          clear hh7 hb7 g0 g1 hr5 hB5
          go_wp2_with fail
          refine (zzCat_ex (some ⟨H0, 0, none⟩) x4 12 n4 12 d4 (hdr a0 n4 a2) z4 w7 (length_hdr _ _ _) hr7.2.1 (by omega) c4' Hh7.out hr7.2.2).mono ?_
          rintro e w8 ⟨H1, rfl, hh8', hb8⟩
          have hB8 := hB7.trans (hb8.mono hB7.size)
          have hb58 : Below w5.heap.size w5 w8 := Hb7.out.trans (hb8.mono Hb7.out.size)
          have hN8 : At .u8 w8 (some ⟨N, 0, none⟩) (hdr a0 n4 a2 ++ z4) := At.of_block ((hb58.block N (block_lt HW.out.raw)).trans HW.out.raw)
          have hr8 := (hb58.block rr (block_lt HW.out.head)).trans HW.out.head
          have hh8 := (hb58.block hb (block_lt Hh5.out)).trans Hh5.out
          obtain ⟨r58, -⟩ := block_cell hr8 5 (by simp [rcells])
          obtain ⟨h08, -⟩ := block_cell hh8 0 (by simp [hcells])
          obtain ⟨h18, -⟩ := block_cell hh8 1 (by simp [hcells])
          simp only [rcells, hcells, List.getD_eq_getElem?_getD, List.getElem?_cons_zero, List.getElem?_cons_succ, Option.getD_some] at r58 h08 h18
          have hln := fun k => Hlen5.out (w8.drewN k) (below_drewN' hb58 k)
          have Hl : Hid ((hdr a0 n4 a2 ++ z4).length = 12 + n4) := by show _ = _; rw [List.length_append, hr7.2.1, length_hdr]
          clear hb8 Hh7 hb58 hr8 hh8
          go_wp2_with fail
          refine (hRaw_any w8 hb rr (some ⟨N, 0, none⟩) (12 + n4) (12 + n4) h08 r58).mono ?_
          rintro e w9 ⟨rfl, rfl⟩
          go_wp2_with fail
          refine (zzEq_refl (some ⟨N, 0, none⟩) (some ⟨H1, 0, none⟩) (12 + n4) (12 + n4) (12 + n4) (hdr a0 n4 a2 ++ z4) w8 Hl.out (by omega) hN8 hh8').mono ?_
          rintro e w9 ⟨rfl, k2, rfl⟩
          go_wp2_with fail
          refine (hRecv_any (w8.drewN k2) hb (13 + (n5 : Int)) h18).mono ?_
          rintro e w9 ⟨rfl, rfl⟩
          go_wp2
          go_ret
          exact ⟨rfl, below_drewN' hB8 k2⟩
        · obtain ⟨cur, ho5, hcur⟩ := hO.order
          obtain ⟨g0, -⟩ := block_cell hO.parts 0 (by simp [pcells])
          obtain ⟨g1, -⟩ := block_cell hO.parts 1 (by simp [pcells])
          obtain ⟨o0, -⟩ := block_cell ho5 0 (by rcases Nat.eq_zero_or_pos cur.length with h | h
                                                 · rw [List.eq_nil_of_length_eq_zero h] at hcur; cases hcur
                                                 · exact h)
          rw [List.getD_eq_getElem?_getD, hcur] at o0
          simp only [pcells, List.getD_eq_getElem?_getD, List.getElem?_cons_zero, List.getElem?_cons_succ, Option.getD_some] at g0 g1 o0
          have hlen5 := hO.map.len Try.underlying37 3
          have hlk := hO.map.look law9 Try.underlying37 (zero35 _) hkey
          rw [upd_same _ _ (law9.key hkey)] at hlk
          simp only [ptrv] at hlk
          have en' : (n4 : Int) ≠ (L : Int) := by omega
          clear hO hP ho5 hcur
          go_wp2_with fail
          refine (byAddr_any w5 g (some pb) g0).mono ?_
          rintro e w6 ⟨rfl, rfl⟩
          go_wp2_with fail
          refine (order_any w5 g (some ⟨ob, 0, none⟩) 1 c g1).mono ?_
          rintro e w6 ⟨rfl, rfl⟩
          go_wp2
          go_ret
          exact ⟨rfl, hB5⟩

end Go.Proofs.Qxb6604433a
