/-
  FnHandshakeHoldOneFragment: the walk.
-/
import Derived.Test.Qxb6604433aSmall
import Derived.Test.Qxb6604433aEcdhe
namespace Go.Proofs.Qxb6604433a
open Go.RowKit Go.WideShapes
set_option linter.unusedVariables false
set_option linter.unusedSimpArgs false
attribute [local go_sem ↓] Go.wp_at_zero Go.wp_at_succ

theorem newHs_ex (w : World) : Calls Try.prog 28 #[] w fun e w' => ∃ (g : Nat) (zhs : List Value), e = .returned (.pointer (some ⟨g, 0, none⟩)) ∧ w.heap.size = g ∧ zhs[4]? = some (.map none) ∧ w'.heap[g]? = some (.cells zhs.toArray 93 (0, 0)) ∧ Below w.heap.size w w' := by
  refine (newHs_any w).mono ?_
  rintro e w' ⟨rfl, z, rfl, h4⟩
  exact ⟨_, z, rfl, rfl, h4, heap_alloc_new _ _, (Below.refl _ _).alloc (Nat.le_refl _) _⟩

theorem newMsg_ex (w : World) (typ len seq off : Int) (a b : Option Addr) (n c m d : Nat) :
    Calls Try.prog 18 #[.int .u8 typ, .int .u32 len, .int .u16 seq, .int .u32 off, .slice a n c, .slice b m d] w fun e w' => ∃ q, e = .returned (.pointer (some ⟨q, 0, none⟩)) ∧ w.heap.size = q ∧ w'.heap[q]? = some (.cells (mcells typ len seq off (.slice a n c) (.slice b m d)).toArray 77 (0, 0)) ∧ Below w.heap.size w w' := by
  refine (newMsg_any w typ len seq off a b n c m d).mono ?_
  rintro e w' ⟨rfl, rfl⟩
  exact ⟨_, rfl, rfl, heap_alloc_new _ _, (Below.refl _ _).alloc (Nat.le_refl _) _⟩

/-- What the raw bytes are, once the message is whole. -/
theorem one_whole {L off ln : Nat} {zs : List Int} (h : ∀ o, o < L → withC (fun _ => false) off ln o = true) (hz : zs.length = ln) (ho : off + ln ≤ L) (he : ln = L) : (List.range L).map (withA (fun _ => 0) off ln zs) = zs := by
  have e0 : off = 0 := by omega
  subst he; subst e0
  apply List.ext_getElem
  · simp [hz]
  · intro o h1 h2
    have ho : o < ln := by simpa using h1
    simp [withA, ho]
    have : o < zs.length := by omega
    simp [this]

theorem one_all {L off ln : Nat} (ho : off + ln ≤ L) : (∀ o, o < L → withC (fun _ => false) off ln o = true) ↔ ln = L := by
  constructor
  · intro h
    rcases Nat.eq_zero_or_pos L with e | e
    · omega
    · have h0 := h 0 e
      have h1 := h (L - 1) (by omega)
      simp [withC] at h0 h1
      omega
  · intro h o hol
    simp [withC]
    omega

theorem one_count {L off ln : Nat} (ho : off + ln ≤ L) : (List.range L).countP (withC (fun _ => false) off ln) = ln := by
  have h := count_interval off ln L ho
  have e : withC (fun _ => false) off ln = fun o => decide (off ≤ o) && decide (o < off + ln) := by
    funext o
    simp [withC]
  rw [e]
  exact h

theorem Row.grown {k : IntKind} {w w' : World} {a : Option Addr} {n c g : Nat} {zs : List Int} (h : Row k w a n c zs) (hg : w.grownBy w' (some g)) (hag : ∀ x, a = some x → x.block ≠ g) : Row k w' a n c zs := by
  refine ⟨h.1, h.2.1, fun j hj => ?_⟩
  obtain ⟨b, o, e1, e2⟩ := h.2.2 j hj
  exact ⟨b, o, e1, cell_grown hg e2 (hag _ e1)⟩

theorem zzHeader_ex (t l s : Int) (ht0 : 0 ≤ t) (ht : t ≤ 255) (hl0 : 0 ≤ l) (hl : l ≤ 4294967295) (hs0 : 0 ≤ s) (hs : s ≤ 65535) (w : World) :
    Calls Try.prog 23 #[.int .u8 t, .int .u32 l, .int .u16 s] w fun e w' => ∃ b, e = .returned (.slice (some ⟨b, 0, none⟩) 12 12) ∧ At .u8 w' (some ⟨b, 0, none⟩) (hdr t l s) ∧ Below w.heap.size w w' := by
  refine (zzHeader_any t l s ht0 ht hl0 hl hs0 hs w).mono ?_
  rintro e w' ⟨rfl, h1, h2⟩
  exact ⟨_, rfl, At.of_block h1, h2⟩

theorem zzCat_ex (a b : Option Addr) (n m c d : Nat) (xs ys : List Int) (w : World) (hx : xs.length = n) (hy : ys.length = m) (hn : n ≤ 1048576) (hm : m ≤ 1048576) (h1 : At .u8 w a xs) (h2 : At .u8 w b ys) :
    Calls Try.prog 22 #[.slice a n c, .slice b m d] w fun e w' => ∃ x, e = .returned (.slice (some ⟨x, 0, none⟩) (n + m) (n + m)) ∧ At .u8 w' (some ⟨x, 0, none⟩) (xs ++ ys) ∧ Below w.heap.size w w' := by
  refine (zzCat_any a b n m c d xs ys w hx hy hn hm h1 h2).mono ?_
  rintro e w' ⟨rfl, h1, h2⟩
  exact ⟨_, rfl, At.of_block h1, h2⟩

set_option maxRecDepth 100000 in
set_option maxHeartbeats 4000000 in
theorem oneLaw (w : World) (a0 a2 : Int) (L off : Nat) (a4 a5 : Option Addr) (n4 n5 c4 c5 : Nat) (z4 z5 : List Int) (ht0 : 0 ≤ a0) (ht1 : a0 ≤ 255) (hs0 : 0 ≤ a2) (hs1 : a2 ≤ 65535) (hL4 : L ≤ 4294967295) (ho4 : off ≤ 4294967295) (h4 : Row .u8 w a4 n4 c4 z4) (h5 : Row .u8 w a5 n5 c5 z5) :
    Calls Try.prog 7 #[.int .u8 a0, .int .u32 L, .int .u16 a2, .int .u32 off, .slice a4 n4 c4, .slice a5 n5 c5] w fun e w' => e = .returned (.bool true) ∧ Below w.heap.size w w' := by
  go_enter Try.func7, Try.ntmps7
  go_wp2_with fail
  refine (zzBytes27_any w a0 L a2 off a4 a5 n4 n5 c4 c5).mono ?_
  rintro e w' ⟨⟨b, rfl⟩, rfl⟩
  cases b with
  | false =>
    go_wp2
    go_ret
    exact ⟨rfl, Below.refl _ _⟩
  | true =>
    by_cases b4 : 1048576 < n4
    · go_wp2
      go_ret
      exact ⟨rfl, Below.refl _ _⟩
    by_cases b5 : 1048576 < n5
    · go_wp2
      go_ret
      exact ⟨rfl, Below.refl _ _⟩
    by_cases b9 : 1048576 < n4 + n5
    · have b9' : (1048576 : Int) < (n4 : Int) + (n5 : Int) := by omega
      go_wp2
      go_ret
      exact ⟨rfl, Below.refl _ _⟩
    have c4' : n4 ≤ 1048576 := by omega
    have c5' : n5 ≤ 1048576 := by omega
    have c9' : (n4 : Int) + (n5 : Int) ≤ 1048576 := by omega
    clear b4 b5 b9
    by_cases bL : 131072 < L
    · go_wp2_with fail
      refine (copy8 a4 n4 c4 z4 w h4 c4').mono ?_
      rintro e w1 ⟨x4, d4, rfl, hr4, hd4, hx4, hb1⟩
      have hB1 := hb1
      go_wp2_with fail
      refine (copy8 a5 n5 c5 z5 w1 (h5.below hB1) c5').mono ?_
      rintro e w2 ⟨x5, d5, rfl, -, -, -, hb2⟩
      have hB2 := hB1.trans (hb2.mono hB1.size)
      have hr4' := hr4.below hb2
      have hs2 := hb2.size
      go_wp2_with fail
      refine (newHs_ex w2).mono ?_
      rintro e w3 ⟨g, zhs, rfl, hg, zhs4, hgb, hb3⟩
      have zhs_len := four_lt zhs4
      have Hz4 : Hid (zhs[4]? = some (.map none)) := zhs4
      clear zhs4
      have hB3 := hB2.trans (hb3.mono hB2.size)
      have hr4'' := hr4'.below hb3
      have Hgb : Hid (w3.heap[g]? = some (.cells zhs.toArray 93 (0, 0))) := hgb
      have hg3 := block_lt hgb
      clear hgb
      go_wp2_with fail
      refine (newMsg_ex w3 a0 L a2 off x4 x5 n4 d4 n5 d5).mono ?_
      rintro e w4 ⟨q, rfl, hq, hqb, hb4⟩
      have hB4 := hB3.trans (hb4.mono hB3.size)
      have hr4q := hr4''.below hb4
      have hgb4 := (hb4.block g hg3).trans Hgb.out
      have Hgb4 : Hid (w4.heap[g]? = some (.cells zhs.toArray 93 (0, 0))) := hgb4
      have Hqb : Hid (w4.heap[q]? = some (.cells (mcells a0 L a2 off (.slice x4 n4 d4) (.slice x5 n5 d5)).toArray 77 (0, 0))) := hqb
      have hag : ∀ x, x4 = some x → x.block ≠ g := fun x hx => by have := (hx4 x hx).1; omega
      have hgw : w.heap.size ≤ g := by have := hB2.size; omega
      clear hgb4 hqb hb1 hb2 hb3 hb4 hB1 hB2 hB3 hr4 hr4' hr4'' h4 h5 hx4 Hgb
      go_wp2_with fail
      refine (zzHold_any w4 g q _ (hold_long w4 g q a0 a2 L off _ _ Hqb.out (by omega))).mono ?_
      rintro e w5 ⟨rfl, rfl⟩
      obtain ⟨g4, -⟩ := block_cell Hgb4.out 4 zhs_len
      rw [List.getD_eq_getElem?_getD, Hz4.out, Option.getD_some] at g4
      have hln := fun w : World => Maps.len_nil (P := Try.prog) (w := w) Try.underlying49 3
      go_wp2_with fail
      refine (pending_any w4 g none g4).mono ?_
      rintro e w5 ⟨rfl, rfl⟩
      go_wp2
      go_ret
      exact ⟨rfl, hB4⟩
    · have cL : L ≤ 131072 := by omega
      clear bL
      by_cases bo : L < off + n4
      · have bo' : (L : Int) < (off : Int) + (n4 : Int) := by omega
        go_wp2
        go_ret
        exact ⟨rfl, Below.refl _ _⟩
      · have co' : (off : Int) + (n4 : Int) ≤ (L : Int) := by omega
        clear bo
        go_wp2_with fail
        refine (copy8 a4 n4 c4 z4 w h4 c4').mono ?_
        rintro e w1 ⟨x4, d4, rfl, hr4, hd4, hx4, hb1⟩
        have hB1 := hb1
        go_wp2_with fail
        refine (copy8 a5 n5 c5 z5 w1 (h5.below hB1) c5').mono ?_
        rintro e w2 ⟨x5, d5, rfl, -, -, -, hb2⟩
        have hB2 := hB1.trans (hb2.mono hB1.size)
        have hr4' := hr4.below hb2
        have hs2 := hb2.size
        go_wp2_with fail
        refine (newHs_ex w2).mono ?_
        rintro e w3 ⟨g, zhs, rfl, hg, zhs4, hgb, hb3⟩
        have zhs_len := four_lt zhs4
        have Hz4 : Hid (zhs[4]? = some (.map none)) := zhs4
        clear zhs4
        have hB3 := hB2.trans (hb3.mono hB2.size)
        have hr4'' := hr4'.below hb3
        have Hgb : Hid (w3.heap[g]? = some (.cells zhs.toArray 93 (0, 0))) := hgb
        have hg3 := block_lt hgb
        clear hgb
        go_wp2_with fail
        refine (newMsg_ex w3 a0 L a2 off x4 x5 n4 d4 n5 d5).mono ?_
        rintro e w4 ⟨q, rfl, hq, hqb, hb4⟩
        have hB4 := hB3.trans (hb4.mono hB3.size)
        have hr4q := hr4''.below hb4
        have hgb4 := (hb4.block g hg3).trans Hgb.out
        have Hgb4 : Hid (w4.heap[g]? = some (.cells zhs.toArray 93 (0, 0))) := hgb4
        have Hqb : Hid (w4.heap[q]? = some (.cells (mcells a0 L a2 off (.slice x4 n4 d4) (.slice x5 n5 d5)).toArray 77 (0, 0))) := hqb
        have hag : ∀ x, x4 = some x → x.block ≠ g := fun x hx => by have := (hx4 x hx).1; omega
        have hgw : w.heap.size ≤ g := by have := hB2.size; omega
        clear hgb4 hqb hb1 hb2 hb3 hb4 hB1 hB2 hB3 hr4 hr4' hr4'' h4 h5 hx4 Hgb
        go_wp2_with fail
        refine (zzHold_any w4 g q _ (hold_first w4 g q L off n4 d4 a0 a2 x4 _ z4 zhs ht0 ht1 hs0 hs1 Hgb4.out Hz4.out Hqb.out hr4q.2.2 hag hr4q.2.1 hd4 (by omega) cL)).mono ?_
        rintro e w5 ⟨rfl, B, pb, rr, hpw, hpB, ⟨hh5, hp5⟩, hS5, hg5⟩
        have hB5 : Below w.heap.size w w5 := hB4.grown hg5 hB4.size (fun k hk => by cases hk; exact hgw)
        obtain ⟨g4, -⟩ := block_cell hh5 4 (by simp; exact zhs_len)
        rw [set_getD zhs_len] at g4
        have hkey : keyOf Try.prog 28 (.int .u16 a2) = some (key16 a2) := Maps.keyOf_int_mk Try.underlying28 (WalkArith.wf_u16 (by omega))
        have hlen := hp5.len Try.underlying49 3
        have hlk := hp5.look law28 Try.underlying49 (zero51 _) hkey
        rw [upd_same _ _ (law28.key hkey)] at hlk
        simp only [ptrv] at hlk
        have hr5 : Row .u8 w5 x4 n4 d4 z4 := hr4q.grown hg5 hag
        go_wp2_with fail
        refine (pending_any w5 g (some pb) g4).mono ?_
        rintro e w6 ⟨rfl, rfl⟩
        go_wp2_with fail
        obtain ⟨mv, miss, raw, hrh, -⟩ := hS5.head
        refine (rHead_any w5 rr a0 a2 L miss mv raw hrh).mono ?_
        rintro e w6 ⟨rfl, k1, rfl⟩
        rcases hS5 with ⟨hall, N, hW⟩ | ⟨hnall, hP⟩
        · have en : n4 = L := (one_all (by omega)).1 hall
          have hbody := one_whole hall hr5.2.1 (by omega) en
          subst en
          have hraw := hW.raw
          have hhd := hW.head
          rw [hbody] at hraw
          obtain ⟨r4, -⟩ := block_cell hhd 4 (by simp [rcells])
          obtain ⟨r5, -⟩ := block_cell hhd 5 (by simp [rcells])
          simp only [rcells, List.getD_eq_getElem?_getD, List.getElem?_cons_zero, List.getElem?_cons_succ, Option.getD_some] at r4 r5
          have hrl := block_lt hhd
          have Hraw : Hid (w5.heap[N]? = some (.cells (ints .u8 (hdr a0 n4 a2 ++ z4)).toArray 5 (0, 0))) := hraw
          clear hraw hhd hW hbody hall hrh Hqb Hgb4 hr4q hh5 hp5 hg5
          go_wp2_with fail
          refine (rRaw_any (w5.drewN k1) rr (some ⟨N, 0, none⟩) (12 + n4) (12 + n4) (by exact r5)).mono ?_
          rintro e w6 ⟨rfl, rfl⟩
          go_wp2_with fail
          refine (zzHeader_ex a0 n4 a2 ht0 ht1 (by omega) (by omega) hs0 hs1 _).mono ?_
          rintro e w7 ⟨H0, rfl, hh7, hb7⟩
          have hB7 : Below w.heap.size w w7 := (below_drewN' hB5 k1).trans (hb7.mono hB5.size)
          have hr7 : Row .u8 w7 x4 n4 d4 z4 := (show Row .u8 (w5.drewN k1) x4 n4 d4 z4 from hr5).below hb7
          have hN7 : Hid (w7.heap[N]? = some (.cells (ints .u8 (hdr a0 n4 a2 ++ z4)).toArray 5 (0, 0))) := (hb7.block N (block_lt Hraw.out)).trans Hraw.out
          have r47 : w7.cell? ⟨rr, 4, none⟩ = some (.int .i64 0) := (hb7.cell (p := ⟨rr, 4, none⟩) hrl).trans r4
          have hrl7 : rr < w7.heap.size := Nat.lt_of_lt_of_le hrl hb7.size
          clear r4 r5 hb7 Hraw hr5 hB5
          have Hh7 : Hid (At .u8 w7 (some ⟨H0, 0, none⟩) (hdr a0 n4 a2)) := hh7
          clear hh7
          go_wp2_with fail
          refine (zzCat_ex (some ⟨H0, 0, none⟩) x4 12 n4 12 d4 (hdr a0 n4 a2) z4 w7 (length_hdr _ _ _) hr7.2.1 (by omega) c4' Hh7.out hr7.2.2).mono ?_
          rintro e w8 ⟨H1, rfl, hh8', hb8⟩
          have hB8 := hB7.trans (hb8.mono hB7.size)
          have hN8 : At .u8 w8 (some ⟨N, 0, none⟩) (hdr a0 n4 a2 ++ z4) := At.of_block ((hb8.block N (block_lt hN7.out)).trans hN7.out)
          have r48 : w8.cell? ⟨rr, 4, none⟩ = some (.int .i64 0) := (hb8.cell (p := ⟨rr, 4, none⟩) hrl7).trans r47
          have Hl : Hid ((hdr a0 n4 a2 ++ z4).length = 12 + n4) := by show _ = _; rw [List.length_append, hr7.2.1, length_hdr]
          clear r47 hb8 Hh7
          go_wp2_with fail
          refine (zzEq_refl (some ⟨N, 0, none⟩) (some ⟨H1, 0, none⟩) (12 + n4) (12 + n4) (12 + n4) (hdr a0 n4 a2 ++ z4) w8 Hl.out (by omega) hN8 hh8').mono ?_
          rintro e w9 ⟨rfl, k2, rfl⟩
          go_wp2_with fail
          refine (rMiss_any (w8.drewN k2) rr 0 r48).mono ?_
          rintro e w9 ⟨rfl, rfl⟩
          go_wp2
          go_ret
          exact ⟨rfl, below_drewN' hB8 k2⟩
        · have en : n4 ≠ L := fun h => hnall ((one_all (by omega)).2 h)
          obtain ⟨mb, n', F, HH, Dt, -, hPP, -⟩ := hP
          have hhd := hPP.head
          rw [one_count (by omega)] at hhd
          obtain ⟨r4, -⟩ := block_cell hhd 4 (by simp [rcells])
          obtain ⟨r5, -⟩ := block_cell hhd 5 (by simp [rcells])
          simp only [rcells, List.getD_eq_getElem?_getD, List.getElem?_cons_zero, List.getElem?_cons_succ, Option.getD_some] at r4 r5
          clear hPP hnall hrh Hqb Hgb4 hr4q hh5 hp5 hg5 hhd
          have en' : (n4 : Int) ≠ (L : Int) := by omega
          have hnil := fun w : World => Lib.run_eql_slice_nil (P := Try.prog) w 22 5 none 0 0 0 0 Try.underlying22
          go_wp2_with fail
          refine (rRaw_any (w5.drewN k1) rr none 0 0 (by exact r5)).mono ?_
          rintro e w6 ⟨rfl, rfl⟩
          go_wp2_with fail
          refine (rMiss_any (w5.drewN k1) rr _ (by exact r4)).mono ?_
          rintro e w6 ⟨rfl, rfl⟩
          go_wp2
          go_ret
          exact ⟨rfl, below_drewN' hB5 k1⟩

end Go.Proofs.Qxb6604433a
