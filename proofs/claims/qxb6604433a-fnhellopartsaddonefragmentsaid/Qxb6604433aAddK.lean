/-
  add, with the stronger word on what stays.
-/
import Derived.Test.Qxb6604433aAdd
import Derived.Test.Qxb6604433aAsmK
namespace Go.Proofs.Qxb6604433a.K
open Go.RowKit Go.WideShapes
set_option linter.unusedVariables false
set_option linter.unusedSimpArgs false
attribute [local go_sem ↓] Go.wp_at_zero Go.wp_at_succ

/-- What add leaves of a reassembly that was not yet whole. -/
def AddPost (w : World) (B r : Nat) (typ seq : Int) (L n : Nat) (C : Nat → Bool) (A : Nat → Int) (e : Ending) (w' : World) : Prop :=
  e = .returned (.tuple #[]) ∧ Below B w w' ∧ (((∀ o, o < L → C o = true) ∧ ∃ N, Whole w' B r N typ seq L ((List.range L).map A)) ∨
    (¬ (∀ o, o < L → C o = true) ∧ PartA w' B r typ seq L n ((L : Int) - ((List.range L).countP C : Nat)) C A))

set_option maxRecDepth 100000 in
set_option maxHeartbeats 2000000 in
theorem add_part (w : World) (B r q n L off ln c : Nat) (typ seq miss mt ms ml : Int) (a : Option Addr) (rv : Value) (zs : List Int) (C : Nat → Bool) (A : Nat → Int) (ht0 : 0 ≤ typ) (ht1 : typ ≤ 255) (hs0 : 0 ≤ seq) (hs1 : seq ≤ 65535)
    (hPA : PartA w B r typ seq L n miss C A) (hq : w.heap[q]? = some (.cells (mcells mt ml ms off (.slice a ln c) rv).toArray 77 (0, 0))) (hqB : q < B) (hat : AtB B .u8 w a zs) (hzl : zs.length = ln) (hlc : ln ≤ c) (hlen : off + ln ≤ L) (hL : L ≤ 131072) (hn : n ≤ 2000000) :
    Calls Try.prog 52 #[.pointer (some ⟨r, 0, none⟩), .pointer (some ⟨q, 0, none⟩)] w fun e w' => AddPost w B r typ seq L (n + ln) (withC C off ln) (withA A off ln zs) e w' := by
  obtain ⟨mb, n0, F, H, Dt, hn0, hP, hcv, hdt, hbd, hcL, hmiss⟩ := hPA
  rw [← tot_count H C L hL hcv hcL] at hmiss
  obtain ⟨r5, -⟩ := block_cell hP.head 5 (by simp [rcells])
  obtain ⟨q3, -⟩ := block_cell hq 3 (by simp [mcells])
  obtain ⟨q4, -⟩ := block_cell hq 4 (by simp [mcells])
  simp only [rcells, mcells, List.getD_eq_getElem?_getD, List.getElem?_cons_zero, List.getElem?_cons_succ, Option.getD_some] at r5 q3 q4
  have hnq := fun (w : World) (a : Option Addr) (n c : Nat) => run_neq_slice_nil_any (P := Try.prog) w 22 5 a n c 0 0 Try.underlying22
  have Hz : Hid (zs.length = ln) := hzl
  have HS0 : ∀ q, AddSt w B r mb typ seq L n0 off 0 zs H Dt (w.drewN q) := fun q =>
    ⟨n0, miss, F, H, Dt, hP.drew q, by omega, fun o => by rw [show (decide (off ≤ o) && decide (o < off + 0)) = false from by rw [Bool.and_eq_false_iff, decide_eq_false_iff_not, decide_eq_false_iff_not]; omega]; simp,
      fun o _ => by rw [if_neg (by omega)], hmiss, hbd, (Below.refl B w).drewN q⟩
  have Hcv : Hid (∀ o, cov H o = C o) := hcv
  have Hdt : Hid (∀ o, C o = true → dat Dt o = A o) := hdt
  have HcL : Hid (∀ o, C o = true → o < L) := hcL
  have HS0' : Hid (∀ q, AddSt w B r mb typ seq L n0 off 0 zs H Dt (w.drewN q)) := HS0
  have Hat : Hid (AtB B .u8 w a zs) := hat
  clear hP hzl hq hmiss hcv hdt hcL HS0 hbd hat
  go_enter Try.func52, Try.ntmps52
  go_wp2
  go_quiet (fail)
  go_wp2
  go_loopw [4, 5] (fun t x wr => ∃ (k : Nat) (a' : Option Addr) (c' : Nat), k ≤ ln ∧ t = .int .u32 ((off + k : Nat) : Int) ∧ x = .slice a' (ln - k) c' ∧ (ln - k ≤ c') ∧ Hid (AtB B .u8 w a' (zs.drop k)) ∧ Hid (AddSt w B r mb typ seq L n0 off k zs H Dt wr)) (fun _ x _ => lenOf x)
  case atStart => exact ⟨0, a, c, Nat.zero_le _, rfl, rfl, hlc, Hat.out, HS0'.out _⟩
  case round =>
    obtain ⟨k, a', c', hk, rfl, rfl, hc', HA, HS⟩ := hrel
    by_cases hlt : k < ln
    · obtain ⟨n', mi, F', H', Dt', hP, hn', hcv, hdt, hmi, hbd, hbel⟩ := HS.out
      obtain ⟨ba, oa, hba, rfl, -⟩ := HA.out 0 (by rw [List.length_drop, Hz.out]; omega)
      obtain ⟨c3, -⟩ := block_cell hP.head 3 (by simp [rcells])
      simp only [rcells, List.getD_eq_getElem?_getD, List.getElem?_cons_zero, List.getElem?_cons_succ, Option.getD_some] at c3
      obtain ⟨p, hp⟩ : ∃ p, off + k = p := ⟨_, rfl⟩
      rw [hp]
      have hpL : p < L := by omega
      have hst : p % 64 < 64 := by omega
      obtain ⟨cc, ff, hpm, hff⟩ := hP.map
      have hlk : (Instr.lookup 81 (.map (some mb)) (.int .u32 ((p : Int) / 64)) false).run Try.prog wr = .ok (ptrv (F' (p / 64))) wr := by
        rw [← hff (p / 64)]
        exact hpm.look law27 Try.underlying81 (zero111 _) (by rw [show ((p : Int) / 64) = ((p / 64 : Nat) : Int) from by omega]; exact Maps.keyOf_int_mk Try.underlying27 (WalkArith.wf_u32 (by omega)))
      cases hF : F' (p / 64) with
      | some b =>
        rw [hF] at hlk
        simp only [ptrv] at hlk
        obtain ⟨m, w1, X, h, M, hM, T⟩ := tail_facts (n := n0) (c' := c') hP hF hp hlt Hz.out hlen hL (HA.out.below hbel.bel) (by omega) hcv hdt hmi hbd hbel
        have hsl := fun w => slice_arr b (p % 64) hst w ((p : Int) % 64) (by omega)
        obtain ⟨m1, m2, m3, hrun, e3, hor, han, hXl, hpX, mi1, mi2, c4, f4, b0, fb0, hrb, hdone⟩ := T
        have Hdone : Hid (∀ q, AddSt w B r mb typ seq L n0 off (k + m) zs H Dt (((w1.setCell ⟨r, 4, none⟩ (.int .i64 (mi - (pop X : Nat)))).setCell ⟨b, 0, none⟩ (.int .u64 hM)).drewN q)) := hdone
        have Hp : Hid (off + k = p) := hp
        clear hP hpm hff hcv hdt hmi hbd hdone hp
        go_wp2
        go_region_with ((go_at_call 58; refine (ones_any' X hXl _ _ ?_).mono ?_; (first | exact han | rfl); rintro e w' ⟨rfl, rfl⟩))
        all_goals go_wp2
        all_goals go_quiet (fail)
        all_goals go_wp2
        all_goals
          go_roundw
          case rel => exact ⟨k + m, _, _, by omega, u32_eq Hp.out, slice_eq (by omega), by omega, rest_at HA.out hc' m2 Hz.out, by rw [drew_drewN]; exact Hdone.out _⟩
          case measure => simp [lenOf]; omega
      | none =>
        rw [hF] at hlk
        simp only [ptrv] at hlk
        obtain ⟨w0, hup, hP0, hbel0, hdt0⟩ := fresh_facts (H := H) (n := n0) hP hF (by omega) (by omega) hdt hbel
        obtain ⟨m, w1, X, h, M, hM, T⟩ := tail_facts (n := n0) (c' := c') (b := wr.heap.size) hP0 (setAt_same _ _ _) hp hlt Hz.out hlen hL (HA.out.below hbel0.bel) (by omega) hcv hdt0 hmi (setAt_bd hbd (by omega)) hbel0
        have hsl := fun w => slice_arr wr.heap.size (p % 64) hst w ((p : Int) % 64) (by omega)
        have hr3 : r < wr.heap.size := block_lt hP.head
        have c3' : (wr.alloc (.cells zblk.toArray 114)).cell? ⟨r, 3, none⟩ = some (.map (some mb)) := by rw [((Go.RowKit.Below.refl _ _).alloc (Nat.le_refl _) _ : Go.RowKit.Below wr.heap.size wr _).cell (p := ⟨r, 3, none⟩) hr3]; exact c3
        obtain ⟨m1, m2, m3, hrun, e3, hor, han, hXl, hpX, mi1, mi2, c4, f4, b0, fb0, hrb, hdone⟩ := T
        have Hdone : Hid (∀ q, AddSt w B r mb typ seq L n0 off (k + m) zs H Dt (((w1.setCell ⟨r, 4, none⟩ (.int .i64 (mi - (pop X : Nat)))).setCell ⟨wr.heap.size, 0, none⟩ (.int .u64 hM)).drewN q)) := hdone
        have Hp : Hid (off + k = p) := hp
        clear hP hP0 hpm hff hcv hdt hmi hbd hdone hp hdt0 hbel0
        go_wp2_with (refine wpList_alloc_run rfl 114 rfl _ _ (run_alloc114 _) ?_)
        go_region_with ((go_at_call 58; refine (ones_any' X hXl _ _ ?_).mono ?_; (first | exact han | rfl); rintro e w' ⟨rfl, rfl⟩))
        all_goals go_wp2
        all_goals go_quiet (fail)
        all_goals go_wp2
        all_goals
          go_roundw
          case rel => exact ⟨k + m, _, _, by omega, u32_eq Hp.out, slice_eq (by omega), by omega, rest_at HA.out hc' m2 Hz.out, by rw [drew_drewN]; exact Hdone.out _⟩
          case measure => simp [lenOf]; omega
    · have ek : k = ln := by omega
      subst ek
      obtain ⟨n', mi, F', H', Dt', hP, hn', hcv, hdt, hmi, hbd, hbel⟩ := HS.out
      obtain ⟨c4, -⟩ := block_cell hP.head 4 (by simp [rcells])
      simp only [rcells, List.getD_eq_getElem?_getD, List.getElem?_cons_zero, List.getElem?_cons_succ, Option.getD_some] at c4
      have hcv2 : ∀ o, cov H' o = withC C off k o := fun o => by rw [hcv o, Hcv.out o]; rfl
      have hcL2 : ∀ o, withC C off k o = true → o < L := fun o ho => by
        unfold withC at ho
        rw [Bool.or_eq_true, Bool.and_eq_true, decide_eq_true_iff, decide_eq_true_iff] at ho
        rcases ho with h1 | h1
        · exact HcL.out o h1
        · omega
      have htc := tot_count H' (withC C off k) L hL hcv2 hcL2
      have hdt2 : ∀ o, withC C off k o = true → dat Dt' o = withA A off k zs o := fun o ho => by
        rw [hdt o (by rw [hcv2 o]; exact ho)]
        unfold withA
        by_cases c1 : off ≤ o ∧ o < off + k
        · rw [if_pos c1, if_pos c1]
        · rw [if_neg c1, if_neg c1]
          refine Hdt.out o ?_
          unfold withC at ho
          rw [show (decide (off ≤ o) && decide (o < off + k)) = false from by rw [Bool.and_eq_false_iff, decide_eq_false_iff_not, decide_eq_false_iff_not]; omega, Bool.or_false] at ho
          exact ho
      rw [htc] at hmi
      have hle := count_le (withC C off k) L
      have HP : Hid (Part wr B r mb n' typ seq L mi F' H' Dt') := hP
      have Hmi : Hid (mi = (L : Int) - ((List.range L).countP (withC C off k) : Nat)) := hmi
      by_cases hall : ∀ o, o < L → withC C off k o = true
      · have hm0 : mi = 0 := by rw [hmi, (count_all _ _).2 hall]; omega
        subst hm0
        have Hall : Hid (∀ o, o < L → withC C off k o = true) := hall
        clear hP hcv hdt hmi htc hall
        go_wp2_with fail
        refine (asm_any wr B r mb n' L typ seq F' H' Dt' ht0 ht1 hs0 hs1 HP.out hL (fun o ho => by rw [hcv2 o]; exact Hall.out o ho) hbd).mono ?_
        rintro e w' ⟨rfl, N, hW, hb⟩
        go_wp2
        go_end0
        refine ⟨rfl, hbel.trans hb, .inl ⟨Hall.out, N, ?_⟩⟩
        rw [show (List.range L).map (withA A off k zs) = (List.range L).map (dat Dt') from List.map_congr_left (fun o ho => (hdt2 o (Hall.out o (List.mem_range.1 ho))).symm)]
        exact hW
      · have hm0 : mi ≠ 0 := fun e0 => hall ((count_all _ _).1 (by omega))
        have hm1 : (mi == 0) = false := beq_eq_false_iff_ne.2 hm0
        have Hall : Hid (¬ ∀ o, o < L → withC C off k o = true) := hall
        clear hP hcv hdt hmi htc hall hm0
        go_wp2
        go_end0
        refine ⟨rfl, hbel, .inr ⟨Hall.out, mb, n', F', H', Dt', by omega, ?_, hcv2, hdt2, hbd, hcL2, rfl⟩⟩
        rw [← Hmi.out]
        exact HP.out

end Go.Proofs.Qxb6604433a.K
