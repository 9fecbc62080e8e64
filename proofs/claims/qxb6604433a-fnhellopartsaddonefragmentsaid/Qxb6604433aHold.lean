/-
  (*handshake).hold: the first fragment of a message, and a later one of the same message.
-/
import Derived.Test.Qxb6604433aNew
namespace Go.Proofs.Qxb6604433a
open Go.RowKit Go.WideShapes
set_option linter.unusedVariables false
set_option linter.unusedSimpArgs false
attribute [local go_sem ↓] Go.wp_at_zero Go.wp_at_succ

/-- A reassembly, whole or not. -/
def St (w : World) (B r : Nat) (typ seq : Int) (L n : Nat) (C : Nat → Bool) (A : Nat → Int) : Prop :=
  ((∀ o, o < L → C o = true) ∧ ∃ N, Whole w B r N typ seq L ((List.range L).map A)) ∨ (¬ (∀ o, o < L → C o = true) ∧ PartA w B r typ seq L n ((L : Int) - ((List.range L).countP C : Nat)) C A)

theorem range_splice (A : Nat → Int) (L off ln : Nat) (zs : List Int) (hz : zs.length = ln) (h : off + ln ≤ L) : splice ((List.range L).map A) off zs = (List.range L).map (withA A off ln zs) := by
  apply List.ext_getElem
  · rw [length_splice _ _ _ (by simp; omega)]; simp
  · intro o h1 h2
    have ho : o < L := by simpa using h2
    have e := getD_splice ((List.range L).map A) zs off o 0 (by simp; omega)
    rw [List.getD_eq_getElem?_getD, List.getElem?_eq_getElem h1] at e
    rw [Option.getD_some] at e
    rw [e]
    simp only [List.getElem_map, List.getElem_range]
    unfold withA
    rw [hz]
    split
    · simp
    · simp [ho]

theorem St.head {w : World} {B r : Nat} {typ seq : Int} {L n : Nat} {C : Nat → Bool} {A : Nat → Int} (h : St w B r typ seq L n C A) : ∃ mv miss raw, w.heap[r]? = some (.cells (rcells typ seq L mv miss raw).toArray 83 (0, 0)) ∧ B ≤ r := by
  rcases h with ⟨_, N, hW⟩ | ⟨_, mb, n', F, H, Dt, _, hP, _⟩
  · exact ⟨_, _, _, hW.head, hW.hr⟩
  · exact ⟨_, _, _, hP.head, hP.hr⟩

/-- add, at a reassembly whole or not. -/
theorem add_st (w : World) (B r q n L off ln c : Nat) (typ seq mt ms ml : Int) (a : Option Addr) (rv : Value) (zs : List Int) (C : Nat → Bool) (A : Nat → Int) (ht0 : 0 ≤ typ) (ht1 : typ ≤ 255) (hs0 : 0 ≤ seq) (hs1 : seq ≤ 65535)
    (hS : St w B r typ seq L n C A) (hq : w.heap[q]? = some (.cells (mcells mt ml ms off (.slice a ln c) rv).toArray 77 (0, 0))) (hqB : q < B) (hat : AtB B .u8 w a zs) (hzl : zs.length = ln) (hlc : ln ≤ c) (hlen : off + ln ≤ L) (hL : L ≤ 131072) (hn : n ≤ 2000000) :
    Calls Try.prog 52 #[.pointer (some ⟨r, 0, none⟩), .pointer (some ⟨q, 0, none⟩)] w fun e w' => e = .returned (.tuple #[]) ∧ Below B w w' ∧ St w' B r typ seq L (n + ln) (withC C off ln) (withA A off ln zs) := by
  rcases hS with ⟨hall, N, hW⟩ | ⟨_, hP⟩
  · refine (add_whole w B r q N L off ln c typ seq mt ms ml a rv zs _ hW hq hat.at hzl hlen hL).mono ?_
    rintro e w' ⟨rfl, hW', hb⟩
    rw [range_splice A L off ln zs hzl hlen] at hW'
    exact ⟨rfl, hb, .inl ⟨fun o ho => by unfold withC; rw [hall o ho]; rfl, N, hW'⟩⟩
  · refine (add_part w B r q n L off ln c typ seq _ mt ms ml a rv zs C A ht0 ht1 hs0 hs1 hP hq hqB hat hzl hlc hlen hL hn).mono ?_
    rintro e w' ⟨rfl, hb, hS⟩
    exact ⟨rfl, hb, hS⟩

theorem law28 : Maps.Keyed Try.prog 28 := Maps.int_keyed Try.underlying28
theorem zero51 (w : World) : (zeroValue 51).run Try.prog w = .ok (.pointer none) w := by kernel_rfl
def key16 (s : Int) : Lit := .int .u16 s

/-- The handshake h holds just one reassembly, rr, under the message_seq. -/
def Held (w : World) (h pb rr : Nat) (hc : List Value) (seq : Int) : Prop :=
  w.heap[h]? = some (.cells (hc.set 4 (.map (some pb))).toArray 93 (0, 0)) ∧ PMap w 28 pb 1 1 (upd (fun _ => none) (key16 seq) (some rr))

set_option maxRecDepth 100000 in
set_option maxHeartbeats 1000000 in
theorem hold_long (w : World) (h q : Nat) (typ seq len off : Int) (bv rv : Value) (hq : w.heap[q]? = some (.cells (mcells typ len seq off bv rv).toArray 77 (0, 0))) (hlen : 131072 < len) :
    Calls Try.prog 46 #[.pointer (some ⟨h, 0, none⟩), .pointer (some ⟨q, 0, none⟩)] w fun e w' => e = .returned (.tuple #[]) ∧ w = w' := by
  obtain ⟨q1, -⟩ := block_cell hq 1 (by simp [mcells])
  simp only [mcells, List.getD_eq_getElem?_getD, List.getElem?_cons_zero, List.getElem?_cons_succ, Option.getD_some] at q1
  clear hq
  go_enter Try.func46, Try.ntmps46
  go_wp2
  refine bodyPost_ret (results_none rfl _ _ _) rfl ?_
  exact ⟨rfl, rfl⟩

theorem set_getD {hc : List Value} (h : 4 < hc.length) (v : Value) : (hc.set 4 v).getD 4 undef = v := by simp [h]

theorem grown_chain {w wA w1 w2 w3 : World} {g pb : Nat} (hA : w.grownBy wA (some g)) (h1 : Below wA.heap.size wA w1) (h2 : w1.drew.grownBy w2 (some pb)) (h3 : Below wA.heap.size w2 w3) (hs : w.heap.size ≤ wA.heap.size) (hp : w.heap.size ≤ pb) : w.grownBy w3 (some g) := by
  have s1 := h1.size
  have s2 : w1.heap.size ≤ w2.heap.size := h2.size
  have s3 := h3.size
  refine ⟨h3.os.trans (h2.os.trans (h1.os.trans hA.os)), h3.tape.trans (h2.tape.trans (h1.tape.trans hA.tape)), h3.output.trans (h2.output.trans (h1.output.trans hA.output)), by omega, fun k hk hne => ?_⟩
  rw [h3.block k (by omega), h2.block k (by show k < w1.heap.size; omega) (fun e => by cases e; omega)]
  show w1.heap[k]? = _
  rw [h1.block k (by omega), hA.block k hk hne]

theorem PartA.drewN {w : World} {B r : Nat} {typ seq : Int} {L n : Nat} {miss : Int} {C : Nat → Bool} {A : Nat → Int} (h : PartA w B r typ seq L n miss C A) (k : Nat) : PartA (w.drewN k) B r typ seq L n miss C A := by
  obtain ⟨mb, n', F, H, Dt, h1, hP, h2⟩ := h
  exact ⟨mb, n', F, H, Dt, h1, hP.drew k, h2⟩

theorem PartA.keptLt {w w' : World} {B r k : Nat} {typ seq : Int} {L n : Nat} {miss : Int} {C : Nat → Bool} {A : Nat → Int} (h : PartA w B r typ seq L n miss C A) (hg : w.grownBy w' (some k)) (hk : k < B) : PartA w' B r typ seq L n miss C A := by
  obtain ⟨mb, n', F, H, Dt, h1, hP, h2⟩ := h
  refine ⟨mb, n', F, H, Dt, h1, hP.kept hg (fun j hj => ?_), h2⟩
  cases hj
  refine ⟨?_, ?_, fun i hi => ?_⟩
  · have := hP.hr; omega
  · have := hP.hmb; omega
  · have := (hP.blk i k hi).1; omega

set_option maxRecDepth 100000 in
set_option maxHeartbeats 2000000 in
theorem hold_first (w : World) (g q L off ln c : Nat) (typ seq : Int) (a : Option Addr) (rv : Value) (zs : List Int) (hc : List Value) (ht0 : 0 ≤ typ) (ht1 : typ ≤ 255) (hs0 : 0 ≤ seq) (hs1 : seq ≤ 65535)
    (hh : w.heap[g]? = some (.cells hc.toArray 93 (0, 0))) (hh4 : hc[4]? = some (.map none)) (hq : w.heap[q]? = some (.cells (mcells typ L seq off (.slice a ln c) rv).toArray 77 (0, 0))) (hat : At .u8 w a zs) (hag : ∀ x, a = some x → x.block ≠ g) (hzl : zs.length = ln) (hlc : ln ≤ c) (hlen : off + ln ≤ L) (hL : L ≤ 131072) :
    Calls Try.prog 46 #[.pointer (some ⟨g, 0, none⟩), .pointer (some ⟨q, 0, none⟩)] w fun e w' => e = .returned (.tuple #[]) ∧ ∃ B pb rr, w.heap.size ≤ pb ∧ pb < B ∧ Held w' g pb rr hc seq ∧ St w' B rr typ seq L ln (withC (fun _ => false) off ln) (withA (fun _ => 0) off ln zs) ∧ w.grownBy w' (some g) := by
  obtain ⟨q1, -⟩ := block_cell hq 1 (by simp [mcells])
  obtain ⟨q2, -⟩ := block_cell hq 2 (by simp [mcells])
  simp only [mcells, List.getD_eq_getElem?_getD, List.getElem?_cons_zero, List.getElem?_cons_succ, Option.getD_some] at q1 q2
  have h4l : 4 < hc.length := by
    rcases Nat.lt_or_ge 4 hc.length with h1 | h1
    · exact h1
    · rw [List.getElem?_eq_none h1] at hh4; cases hh4
  obtain ⟨h4, f4⟩ := block_cell hh 4 h4l
  rw [List.getD_eq_getElem?_getD, hh4, Option.getD_some] at h4
  have hkey : keyOf Try.prog 28 (.int .u16 seq) = some (key16 seq) := Maps.keyOf_int_mk Try.underlying28 (WalkArith.wf_u16 (by omega))
  have hlk := fun w : World => Maps.look_nil (w := w) false law28 Try.underlying49 (zero51 w) hkey
  simp only [Bool.false_eq_true, if_false] at hlk
  have hmn := fun (w : World) => run_eql_map_nil (P := Try.prog) w 49 28 51 none Try.underlying49
  have hmm := @run_makeMap Try.prog
  have Hh : Hid (w.heap[g]? = some (.cells hc.toArray 93 (0, 0))) := hh
  have Hq : Hid (w.heap[q]? = some (.cells (mcells typ L seq off (.slice a ln c) rv).toArray 77 (0, 0))) := hq
  have hhl := block_lt hh
  have hql := block_lt hq
  have hBm : ∀ k, Below w.heap.size w ((w.drewN k).alloc (.map #[] 0)) := fun k => (below_drewN (Below.refl w.heap.size w) k).alloc (Nat.le_refl _) _
  have h4a : ∀ k, ((w.drewN k).alloc (.map #[] 0)).cell? ⟨g, 4, none⟩ = some (.map none) := fun k => by rw [(hBm k).cell (p := ⟨g, 4, none⟩) hhl]; exact h4
  have f4a : ∀ k, ((w.drewN k).alloc (.map #[] 0)).frozen? ⟨g, 4, none⟩ = false := fun k => by rw [(hBm k).frozen (p := ⟨g, 4, none⟩) hhl]; exact f4
  clear hh hq hh4
  go_enter Try.func46, Try.ntmps46
  go_wp2
  go_quiet (fail)
  go_wp2_with fail
  have hgq : q ≠ g := cells_ne_type Hq.out Hh.out (by decide)
  have hszA : (((w.drewN nq).alloc (.map #[] 0)).setCell ⟨g, 4, none⟩ (.map (some w.heap.size))).heap.size = w.heap.size + 1 := by simp [World.setCell]
  have hgA : w.grownBy (((w.drewN nq).alloc (.map #[] 0)).setCell ⟨g, 4, none⟩ (.map (some w.heap.size))) (some g) :=
    ⟨rfl, rfl, rfl, by rw [hszA]; omega, fun k hk hne => by rw [Below.heap_setCell _ _ _ _ (fun e => hne (by rw [e]))]; exact (hBm nq).block k hk⟩
  have hhA : (((w.drewN nq).alloc (.map #[] 0)).setCell ⟨g, 4, none⟩ (.map (some w.heap.size))).heap[g]? = some (.cells (hc.set 4 (.map (some w.heap.size))).toArray 93 (0, 0)) :=
    block_set (heap_alloc_old (show (w.drewN nq).heap[g]? = some (.cells hc.toArray 93 (0, 0)) from Hh.out) _) 4 _
  have hpA : PMap (((w.drewN nq).alloc (.map #[] 0)).setCell ⟨g, 4, none⟩ (.map (some w.heap.size))) 28 w.heap.size 0 0 (fun _ => none) :=
    (show PMap ((w.drewN nq).alloc (.map #[] 0)) 28 w.heap.size 0 0 (fun _ => none) from PMap.made (w.drewN nq) 28).kept
      (row := some g) ⟨rfl, rfl, rfl, by simp [World.setCell], fun k _ hk => Below.heap_setCell _ _ _ _ (fun e => hk (by rw [e]))⟩ (fun e => by cases e; omega)
  obtain ⟨wA, hwA⟩ : ∃ W, W = ((w.drewN nq).alloc (.map #[] 0)).setCell ⟨g, 4, none⟩ (.map (some w.heap.size)) := ⟨_, rfl⟩
  rw [← hwA] at hszA hgA hhA hpA ⊢
  clear hwA h4 f4 h4a f4a hBm
  obtain ⟨pb, hpb⟩ : ∃ pb, pb = w.heap.size := ⟨_, rfl⟩
  rw [← hpb] at hhA hpA ⊢
  have hqA := block_grown hgA Hq.out (fun e => by cases e; exact hgq rfl)
  refine (new_any wA q L typ seq off (.slice a ln c) rv (by omega) hqA).mono ?_
  rintro e w1 ⟨rr, rfl, hP1, hb1⟩
  have hpbA : pb < wA.heap.size := hpA.lt
  have hgl : g < wA.heap.size := block_lt hhA
  have hqlA : q < wA.heap.size := block_lt hqA
  have hp1 := hpA.below hb1 hpbA
  have hh1 := (hb1.block g hgl).trans hhA
  have hq1 := (hb1.block q hqlA).trans hqA
  obtain ⟨w2, hup, hp2, hg2, hs2⟩ := (show PMap w1.drew 28 pb 0 0 (fun _ => none) from hp1).put law28 Try.underlying49 (e := 51) (by omega) hkey rr
  have hh2 := block_grown hg2 (show w1.drew.heap[g]? = _ from hh1) (fun e => by cases e; exact map_ne_cells hp1 hh1 rfl)
  have hq2 := block_grown hg2 (show w1.drew.heap[q]? = _ from hq1) (fun e => by cases e; exact map_ne_cells hp1 hq1 rfl)
  have hP2 := (hP1.drewN 1).keptLt hg2 hpbA
  obtain ⟨g41, -⟩ := block_cell hh1 4 (by simp; omega)
  obtain ⟨g42, -⟩ := block_cell hh2 4 (by simp; omega)
  obtain ⟨q21, -⟩ := block_cell hq1 2 (by simp [mcells])
  obtain ⟨q22, -⟩ := block_cell hq2 2 (by simp [mcells])
  rw [set_getD h4l] at g41 g42
  simp only [mcells, List.getD_eq_getElem?_getD, List.getElem?_cons_zero, List.getElem?_cons_succ, Option.getD_some] at q21 q22
  have Hg2 : Hid (w1.drew.grownBy w2 (some pb)) := hg2
  have hat2 : AtB wA.heap.size .u8 w2 a zs := by
    intro j hj
    obtain ⟨b, o, e1, e2⟩ := hat j hj
    have hbl := cell_lt e2
    have hbg : b ≠ g := hag _ e1
    have hcA := cell_grown hgA e2 hbg
    have hbA := cell_lt hcA
    have hc1 : w1.drew.cell? ⟨b, o + j, none⟩ = _ := (hb1.cell (p := ⟨b, o + j, none⟩) hbA).trans hcA
    refine ⟨b, o, hbA, e1, cell_grown hg2 hc1 (by omega)⟩
  have Hat2 : Hid (AtB wA.heap.size .u8 w2 a zs) := hat2
  have Hz : Hid (zs.length = ln) := hzl
  have HA : Hid (w.grownBy wA (some g)) := hgA
  have H1 : Hid (Below wA.heap.size wA w1) := hb1
  have Hpb : Hid (pb = w.heap.size) := hpb
  have HsA : Hid (wA.heap.size = w.heap.size + 1) := hszA
  simp only [ptrv] at hup
  clear hat2 hat hzl hgA hb1 hg2 hpb hszA
  go_wp2_with fail
  go_region_held3 (fun w' => w'.cell? ⟨g, 4, none⟩ = some (.map (some pb)) ∧ w'.cell? ⟨q, 2, none⟩ = some (.int .u16 seq)) (go_keep) (fail)
  go_wp2_with fail
  refine (add_part w2 wA.heap.size rr q 0 L off ln c typ seq L typ seq L a rv zs (fun _ => false) (fun _ => 0) ht0 ht1 hs0 hs1 hP2 hq2 hqlA Hat2.out Hz.out hlc hlen hL (by omega)).mono ?_
  rintro e w3 ⟨rfl, hb3, hS3⟩
  go_wp2
  go_end0
  refine ⟨rfl, wA.heap.size, pb, rr, ?_, hpbA, ⟨(hb3.block g hgl).trans hh2, hp2.below hb3 hpbA⟩, ?_, ?_⟩
  · rw [Hpb.out]; exact Nat.le_refl _
  · rw [Nat.zero_add] at hS3; exact hS3
  · exact grown_chain HA.out H1.out Hg2.out hb3 (by rw [HsA.out]; omega) (by rw [Hpb.out]; omega)

theorem St.drewN {w : World} {B r : Nat} {typ seq : Int} {L n : Nat} {C : Nat → Bool} {A : Nat → Int} (h : St w B r typ seq L n C A) (k : Nat) : St (w.drewN k) B r typ seq L n C A := by
  rcases h with ⟨h1, N, hW⟩ | ⟨h1, hP⟩
  · exact .inl ⟨h1, N, ⟨hW.head, hW.raw, hW.len, hW.hr, hW.hN⟩⟩
  · exact .inr ⟨h1, hP.drewN k⟩

set_option maxRecDepth 100000 in
set_option maxHeartbeats 2000000 in
theorem hold_again (w : World) (B g pb rr q n L off ln c : Nat) (typ seq : Int) (a : Option Addr) (rv : Value) (zs : List Int) (hc : List Value) (C : Nat → Bool) (A : Nat → Int) (ht0 : 0 ≤ typ) (ht1 : typ ≤ 255) (hs0 : 0 ≤ seq) (hs1 : seq ≤ 65535)
    (hH : Held w g pb rr hc seq) (h4l : 4 < hc.length) (hS : St w B rr typ seq L n C A) (hgB : g < B) (hpB : pb < B) (hqB : q < B) (hq : w.heap[q]? = some (.cells (mcells typ L seq off (.slice a ln c) rv).toArray 77 (0, 0))) (hat : AtB B .u8 w a zs) (hzl : zs.length = ln) (hlc : ln ≤ c) (hlen : off + ln ≤ L) (hL : L ≤ 131072) (hn : n ≤ 2000000) :
    Calls Try.prog 46 #[.pointer (some ⟨g, 0, none⟩), .pointer (some ⟨q, 0, none⟩)] w fun e w' => e = .returned (.tuple #[]) ∧ Held w' g pb rr hc seq ∧ St w' B rr typ seq L (n + ln) (withC C off ln) (withA A off ln zs) ∧ Below B w w' := by
  obtain ⟨hh, hp⟩ := hH
  obtain ⟨mv, miss, raw, hrh, hrB⟩ := hS.head
  obtain ⟨q1, -⟩ := block_cell hq 1 (by simp [mcells])
  obtain ⟨q2, -⟩ := block_cell hq 2 (by simp [mcells])
  simp only [mcells, List.getD_eq_getElem?_getD, List.getElem?_cons_zero, List.getElem?_cons_succ, Option.getD_some] at q1 q2
  obtain ⟨h4, f4⟩ := block_cell hh 4 (by simp; omega)
  rw [set_getD h4l] at h4
  have hkey : keyOf Try.prog 28 (.int .u16 seq) = some (key16 seq) := Maps.keyOf_int_mk Try.underlying28 (WalkArith.wf_u16 (by omega))
  have hlk : ∀ k, (Instr.lookup 49 (.map (some pb)) (.int .u16 seq) false).run Try.prog (w.drewN k) = .ok (.pointer (some ⟨rr, 0, none⟩)) (w.drewN k) := fun k => by
    have := (show PMap (w.drewN k) 28 pb 1 1 _ from hp).look law28 Try.underlying49 (zero51 _) hkey
    rw [upd_same _ _ (law28.key hkey)] at this
    exact this
  have hlk0 := hlk 0
  have hlk1 := hlk 1
  have Hh : Hid (w.heap[g]? = some (.cells (hc.set 4 (.map (some pb))).toArray 93 (0, 0))) := hh
  have Hp : Hid (PMap w 28 pb 1 1 (upd (fun _ => none) (key16 seq) (some rr))) := hp
  have Hq : Hid (w.heap[q]? = some (.cells (mcells typ L seq off (.slice a ln c) rv).toArray 77 (0, 0))) := hq
  have Hr : Hid (w.heap[rr]? = some (.cells (rcells typ seq L mv miss raw).toArray 83 (0, 0))) := hrh
  have HS : Hid (St w B rr typ seq L n C A) := hS
  have Hat : Hid (AtB B .u8 w a zs) := hat
  have Hz : Hid (zs.length = ln) := hzl
  clear hh hp hq hrh hS hat hzl
  go_enter Try.func46, Try.ntmps46
  go_wp2
  go_quiet (fail)
  go_wp2_with (go_at_call 49; refine (matches_yes _ q rr typ seq L miss off mv raw (.slice a ln c) rv (by exact Hr.out) (by exact Hq.out)).mono ?_; rintro e w' ⟨rfl, k2, rfl⟩)
  have hb0 : ∀ k, Below B w (w.drewN k) := fun k => below_drewN (Below.refl _ _) k
  refine (add_st (w.drewN (nq + k2)) B rr q n L off ln c typ seq typ seq L a rv zs C A ht0 ht1 hs0 hs1 (HS.out.drewN _) (by exact Hq.out) hqB (Hat.out.below (hb0 _)) Hz.out hlc hlen hL hn).mono ?_
  rintro e w3 ⟨rfl, hb3, hS3⟩
  go_wp2
  go_end0
  exact ⟨rfl, ⟨(hb3.block g hgB).trans Hh.out, (show PMap (w.drewN (nq + k2)) 28 pb 1 1 (upd (fun _ => none) (key16 seq) (some rr)) from Hp.out).below hb3 hpB⟩, hS3, (hb0 _).trans hb3⟩

end Go.Proofs.Qxb6604433a
