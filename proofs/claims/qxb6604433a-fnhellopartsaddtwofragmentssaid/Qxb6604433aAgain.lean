/-
  helloParts.add: a second fragment that makes the hello whole.
-/
import Derived.Test.Qxb6604433aParts
namespace Go.Proofs.Qxb6604433a
open Go.RowKit Go.WideShapes
set_option linter.unusedVariables false
set_option linter.unusedSimpArgs false
attribute [local go_sem ↓] Go.wp_at_zero Go.wp_at_succ

/-- What the last fragment leaves. -/
def LastPost (w : World) (B p pb ob c hb rr L n5 : Nat) (typ seq recv : Int) (body : List Int) (e : Ending) (w' : World) : Prop :=
  e = .returned (.pointer (some ⟨hb, 0, none⟩)) ∧ Emptied w' p pb ob c ∧ w'.heap[hb]? = some (.cells (hcells rr (recv + (13 + (n5 : Int)))).toArray 80 (0, 0)) ∧ (∃ N, Whole w' B rr N typ seq L body) ∧
    (w'.os = w.os ∧ w'.tape = w.tape ∧ w'.output = w.output ∧ w.heap.size ≤ w'.heap.size ∧ ∀ k, k < B → k ≠ p → k ≠ pb → k ≠ ob → k ≠ hb → w'.heap[k]? = w.heap[k]?)

set_option maxRecDepth 100000 in
set_option maxHeartbeats 4000000 in
theorem parts_last (w : World) (B p pb ob cp hb rr q n L off ln c n5 c5 : Nat) (s : ByteArray) (typ seq recv miss : Int) (a a5 : Option Addr) (zs : List Int) (C : Nat → Bool) (A : Nat → Int) (hs : s.size ≤ 1048576) (ht0 : 0 ≤ typ) (ht1 : typ ≤ 255) (hs0 : 0 ≤ seq) (hs1 : seq ≤ 65535)
    (hO : OneHeld w p pb ob cp hb s) (hh : w.heap[hb]? = some (.cells (hcells rr recv).toArray 80 (0, 0))) (hP : PartA w B rr typ seq L n miss C A) (hpB : p < B) (hpbB : pb < B) (hqB : q < B)
    (hq : w.heap[q]? = some (.cells (mcells typ L seq off (.slice a ln c) (.slice a5 n5 c5)).toArray 77 (0, 0))) (hat : AtB B .u8 w a zs) (hzl : zs.length = ln) (hlc : ln ≤ c) (hlen : off + ln ≤ L) (hL : L ≤ 16384) (hn : n ≤ 2000000) (hn5 : n5 ≤ 1048576) (hr0 : 0 ≤ recv) (hr1 : recv ≤ 2000000) (hall : ∀ o, o < L → withC C off ln o = true) :
    Calls Try.prog 45 #[.pointer (some ⟨p, 0, none⟩), .string s, .pointer (some ⟨q, 0, none⟩)] w fun e w' => LastPost w B p pb ob cp hb rr L n5 typ seq recv ((List.range L).map (withA A off ln zs)) e w' := by
  have hkey := keyOf_s s hs
  obtain ⟨q1, -⟩ := block_cell hq 1 (by simp [mcells])
  obtain ⟨p0, -⟩ := block_cell hO.parts 0 (by simp [pcells])
  obtain ⟨h0, -⟩ := block_cell hh 0 (by simp [hcells])
  simp only [mcells, pcells, hcells, List.getD_eq_getElem?_getD, List.getElem?_cons_zero, List.getElem?_cons_succ, Option.getD_some] at q1 p0 h0
  have hlk : (Instr.lookup 37 (.map (some pb)) (.string s) false).run Try.prog w = .ok (.pointer (some ⟨hb, 0, none⟩)) w := by
    have h := hO.map.look law9 Try.underlying37 (zero35 _) hkey
    rw [upd_same _ _ (law9.key hkey)] at h
    exact h
  obtain ⟨mb, n', F, H, Dt, -, hPP, -⟩ := id hP
  have hrh := hPP.head
  have Hrh : Hid (w.heap[rr]? = some (.cells (rcells typ seq L (.map (some mb)) miss (.slice none 0 0)).toArray 83 (0, 0))) := hrh
  have HO : Hid (OneHeld w p pb ob cp hb s) := hO
  have Hh : Hid (w.heap[hb]? = some (.cells (hcells rr recv).toArray 80 (0, 0))) := hh
  have HP : Hid (PartA w B rr typ seq L n miss C A) := hP
  have Hq : Hid (w.heap[q]? = some (.cells (mcells typ L seq off (.slice a ln c) (.slice a5 n5 c5)).toArray 77 (0, 0))) := hq
  have Hat : Hid (AtB B .u8 w a zs) := hat
  have Hz : Hid (zs.length = ln) := hzl
  have Hall : Hid (∀ o, o < L → withC C off ln o = true) := hall
  clear hO hh hP hPP hrh hq hat hzl hall
  go_enter Try.func45, Try.ntmps45
  go_wp2_with (go_at_call 49; refine (matches_yes w q rr typ seq L miss off (.map (some mb)) (.slice none 0 0) (.slice a ln c) (.slice a5 n5 c5) Hrh.out Hq.out).mono ?_; rintro e w' ⟨rfl, k2, rfl⟩)
  have hb0 : Below B w (w.drewN k2) := below_drewN (Below.refl _ _) k2
  refine (K.add_part (w.drewN k2) B rr q n L off ln c typ seq miss typ seq L a (.slice a5 n5 c5) zs C A ht0 ht1 hs0 hs1 (HP.out.drewN k2) (by exact Hq.out) hqB (Hat.out.below hb0) Hz.out hlc hlen (by omega) hn).mono ?_
  rintro e w8 ⟨rfl, hb8, hS8⟩
  have hO7 : OneHeld (w.drewN k2) p pb ob cp hb s := ⟨HO.out.parts, HO.out.map, HO.out.order, HO.out.room⟩
  have hh7 : (w.drewN k2).heap[hb]? = some (.cells (hcells rr recv).toArray 80 (0, 0)) := Hh.out
  have hq7 : (w.drewN k2).heap[q]? = some (.cells (mcells typ L seq off (.slice a ln c) (.slice a5 n5 c5)).toArray 77 (0, 0)) := Hq.out
  have hp8 := (hb8.bel.block p hpB).trans hO7.parts
  have hm8 := hO7.map.below hb8.bel hpbB
  obtain ⟨cur, ho7, hcur⟩ := hO7.order
  have ho8 := (hb8.tame ob _ 9 _ ho7 (.inr rfl)).trans ho7
  have hh8 := (hb8.tame hb _ 80 _ hh7 (.inl rfl)).trans hh7
  have hq8 := (hb8.bel.block q hqB).trans hq7
  obtain ⟨h08, -⟩ := block_cell hh8 0 (by simp [hcells])
  obtain ⟨h18, f18⟩ := block_cell hh8 1 (by simp [hcells])
  obtain ⟨q58, -⟩ := block_cell hq8 5 (by simp [mcells])
  simp only [hcells, mcells, List.getD_eq_getElem?_getD, List.getElem?_cons_zero, List.getElem?_cons_succ, Option.getD_some] at h08 h18 q58
  have hbq : hb ≠ q := cells_ne_type hh8 hq8 (by decide)
  have hbp : hb ≠ p := cells_ne_type hh8 hp8 (by decide)
  have hW8 : ∃ N, Whole w8 B rr N typ seq L ((List.range L).map (withA A off ln zs)) := by
    rcases hS8 with ⟨_, h⟩ | ⟨h, _⟩
    · exact h
    · exact absurd Hall.out h
  obtain ⟨N, hW8⟩ := hW8
  -- the world behind the count of the bytes
  obtain ⟨X, hX⟩ : ∃ X, X = (w8.setCell ⟨hb, 1, none⟩ (.int .i64 (recv + (13 + (n5 : Int))))).drew := ⟨_, rfl⟩
  have hg9 : w8.grownBy X (some hb) := by rw [hX]; exact ⟨rfl, rfl, rfl, by show w8.heap.size ≤ (w8.setCell _ _).heap.size; simp [World.setCell], fun k _ hk => Below.heap_setCell _ _ _ _ (fun e => hk (by rw [e]))⟩
  have hp9 := block_grown hg9 hp8 (fun e => by cases e; exact hbp rfl)
  have ho9 := block_grown hg9 ho8 (fun e => by cases e; exact cells_ne_type hh8 ho8 (by decide) rfl)
  have hm9 := hm8.kept hg9 (fun e => by cases e; exact map_ne_cells hm8 hh8 rfl)
  have hh9 : X.heap[hb]? = some (.cells (hcells rr (recv + (13 + (n5 : Int)))).toArray 80 (0, 0)) := by
    rw [hX]
    exact block_set hh8 1 (.int .i64 (recv + (13 + (n5 : Int))))
  have hW9 := hW8.kept80 hh8 hg9
  have hgw : X.os = w.os ∧ X.tape = w.tape ∧ X.output = w.output ∧ w.heap.size ≤ X.heap.size ∧ ∀ k, k < B → k ≠ hb → k < w.heap.size → X.heap[k]? = w.heap[k]? := by
    have a2 := hb8.bel
    have s8 : w.heap.size ≤ w8.heap.size := a2.size
    have s9 := hg9.size
    refine ⟨hg9.os.trans a2.os, hg9.tape.trans a2.tape, hg9.output.trans a2.output, by omega, fun k hk hne hkl => ?_⟩
    rw [hg9.block k (by omega) (fun e => by cases e; exact hne rfl), a2.block k hk]
    rfl
  have hrw : rr < w.heap.size := block_lt Hrh.out
  have hBw : B ≤ w.heap.size := by obtain ⟨mb', n'', F', H', Dt', -, h, -⟩ := HP.out; have := h.hr; omega
  obtain ⟨r5, -⟩ := block_cell hW9.head 5 (by simp [rcells])
  simp only [rcells, List.getD_eq_getElem?_getD, List.getElem?_cons_zero, List.getElem?_cons_succ, Option.getD_some] at r5
  have HX : Hid (X = (w8.setCell ⟨hb, 1, none⟩ (.int .i64 (recv + (13 + (n5 : Int))))).drew) := hX
  have Hp9 : Hid (X.heap[p]? = some (.cells (pcells (.map (some pb)) (.slice (some ⟨ob, 0, none⟩) 1 cp)).toArray 75 (0, 0))) := hp9
  have Ho9 : Hid (X.heap[ob]? = some (.cells cur.toArray 9 (0, 0))) := ho9
  have Hm9 : Hid (PMap X 9 pb 1 1 (upd (fun _ => none) (keyS s) (some hb))) := hm9
  have Hh9 : Hid (X.heap[hb]? = some (.cells (hcells rr (recv + (13 + (n5 : Int)))).toArray 80 (0, 0))) := hh9
  have HW9 : Hid (Whole X B rr N typ seq L ((List.range L).map (withA A off ln zs))) := hW9
  have Hgw : Hid (X.os = w.os ∧ X.tape = w.tape ∧ X.output = w.output ∧ w.heap.size ≤ X.heap.size ∧ ∀ k, k < B → k ≠ hb → k < w.heap.size → X.heap[k]? = w.heap[k]?) := hgw
  have Hcur : Hid (cur[0]? = some (.string s)) := hcur
  clear hX hg9 hp9 ho9 hm9 hh9 hgw hW9 hW8 hp8 hm8 ho8 hh8 hq8 hcur ho7 hb8 hS8 hq7 hh7 hO7 q1 p0 h0 hlk
  go_wp2_with fail
  go_region_with (fail)
  all_goals
    go_wp2_with fail
    rw [← HX.out]
    refine (whole_any X rr (some ⟨N, 0, none⟩) _ _ r5).mono ?_
    rintro e w' ⟨rfl, rfl⟩
    go_wp2_with fail
    refine (forget_held X p pb ob cp 1 hb s _ cur hs HO.out.room Hp9.out Hm9.out (upd_same _ _ (law9.key hkey)) Ho9.out Hcur.out).mono ?_
    rintro e w10 ⟨rfl, hp10, hm10, hb3⟩
    go_wp2
    go_ret
    refine ⟨rfl, ⟨hp10, hm10⟩, hb3.keep Hh9.out hbp (fun e => map_ne_cells Hm9.out Hh9.out e.symm) (cells_ne_type Hh9.out Ho9.out (by decide)), ⟨N, HW9.out.but3 Hp9.out Ho9.out Hm9.out hb3⟩, ?_⟩
    obtain ⟨a1, a2, a3, a4, a5⟩ := Hgw.out
    have s2 := hb3.size
    refine ⟨hb3.os.trans a1, hb3.tape.trans a2, hb3.output.trans a3, by omega, fun k hk n1 n2 n3 n4 => ?_⟩
    rw [hb3.block k (by omega) n1 n2 n3, a5 k hk n4 (by omega)]

end Go.Proofs.Qxb6604433a
