/-
  helloParts.add: a message that is too long; the first fragment.
-/
import Derived.Test.Qxb6604433aForget
namespace Go.Proofs.Qxb6604433a
open Go.RowKit Go.WideShapes
set_option linter.unusedVariables false
set_option linter.unusedSimpArgs false
attribute [local go_sem ↓] Go.wp_at_zero Go.wp_at_succ

def hcells (rr : Nat) (recv : Int) : List Value := [.pointer (some ⟨rr, 0, none⟩), .int .i64 recv]

/-- The parts hold just one hello, hb, under the name s. -/
structure OneHeld (w : World) (p pb ob c hb : Nat) (s : ByteArray) : Prop where
  parts : w.heap[p]? = some (.cells (pcells (.map (some pb)) (.slice (some ⟨ob, 0, none⟩) 1 c)).toArray 75 (0, 0))
  map : PMap w 9 pb 1 1 (upd (fun _ => none) (keyS s) (some hb))
  order : ∃ cur : List Value, w.heap[ob]? = some (.cells cur.toArray 9 (0, 0)) ∧ cur[0]? = some (.string s)
  room : 1 ≤ c

/-- The parts have been emptied. -/
def Emptied (w : World) (p pb ob c : Nat) : Prop :=
  w.heap[p]? = some (.cells (pcells (.map (some pb)) (.slice (some ⟨ob, 0, none⟩) 0 c)).toArray 75 (0, 0)) ∧ ∃ g, PMap w 9 pb 1 0 g

set_option maxRecDepth 100000 in
set_option maxHeartbeats 1000000 in
theorem parts_long (w : World) (p q : Nat) (s : ByteArray) (typ seq len off : Int) (bv rv : Value) (hq : w.heap[q]? = some (.cells (mcells typ len seq off bv rv).toArray 77 (0, 0))) (hlen : 16384 < len) :
    Calls Try.prog 45 #[.pointer (some ⟨p, 0, none⟩), .string s, .pointer (some ⟨q, 0, none⟩)] w fun e w' => e = .returned (.pointer none) ∧ w = w' := by
  obtain ⟨q1, -⟩ := block_cell hq 1 (by simp [mcells])
  simp only [mcells, List.getD_eq_getElem?_getD, List.getElem?_cons_zero, List.getElem?_cons_succ, Option.getD_some] at q1
  clear hq
  go_enter Try.func45, Try.ntmps45
  go_wp2
  go_ret
  exact ⟨rfl, rfl⟩

theorem PartA.grownNone {w w' : World} {B r : Nat} {typ seq : Int} {L n : Nat} {miss : Int} {C : Nat → Bool} {A : Nat → Int} (h : PartA w B r typ seq L n miss C A) (hg : w.grownBy w' none) : PartA w' B r typ seq L n miss C A := by
  obtain ⟨mb, n', F, H, Dt, h1, hP, h2⟩ := h
  exact ⟨mb, n', F, H, Dt, h1, hP.kept hg (fun j hj => by cases hj), h2⟩

theorem Try.info9 : (Try.prog.info? 9).map (fun i => (i.zero, i.size, i.bytes)) = some (some (.string ⟨#[]⟩), 1, 16) := by kernel_rfl

/-- append(nil, s): a new row whose first cell is s. -/
theorem append_name (w : World) (s : ByteArray) (nb : Nat) (hnb : w.cell? ⟨nb, 0, none⟩ = some (.string s)) :
    ∃ ob cap w', (Builtin.append_ #[39, 39] 39 #[.slice none 0 0, .slice (some ⟨nb, 0, none⟩) 1 1]).run Try.prog w = .ok (.slice (some ⟨ob, 0, none⟩) 1 cap) w' ∧ w.heap.size ≤ ob ∧ 1 ≤ cap ∧ (∃ cur : List Value, w'.heap[ob]? = some (.cells cur.toArray 9 (0, 0)) ∧ cur[0]? = some (.string s)) ∧ w.grownBy w' none := by
  obtain ⟨i0, hi, hz0, hz1, hz2⟩ := info_parts Try.info9
  obtain ⟨g, cap, w', h1, h2, h3, h4⟩ := run_append_lies (P := Try.prog) w 39 39 w.heap.size 9 i0 (.string ⟨#[]⟩) 1 16 Try.underlying39 hi hz0 hz1 hz2 rfl (by decide) (.slice none 0 0) 0 [] (World.ownsRow_nil _ _ _ _) ⟨nb, 0, none⟩ 1 1 [.string s] (by simp) (by
    intro j v hv
    have hj : j = 0 := by
      rcases Nat.eq_zero_or_pos j with h | h
      · exact h
      · rw [List.getElem?_eq_none (by simp; omega)] at hv; cases hv
    subst hj
    simp at hv
    subst hv
    rw [add_plain]
    exact hnb) (by intro v hv; simp at hv; subst hv; rfl) (by omega) (by unfold maxLen; omega) (by omega) (Nat.le_refl _) _ rfl
  refine ⟨g, cap, w', h1, ?_⟩
  obtain ⟨hl, h2⟩ := h2
  rcases h2 with ⟨h2, _⟩ | ⟨g', cap', cur, hv, hb, hg, hn, _, hc, ht⟩
  · cases h2
  · cases hv
    refine ⟨hb, by omega, ⟨cur.toList, by simpa using hg, ?_⟩, h3⟩
    have e : (cur.toList.take ((0 + 1) * 1))[0]? = some (.string s) := by rw [ht]; rfl
    rw [List.getElem?_take] at e
    simpa using e

theorem PartA.kept80 {w w' : World} {B r k : Nat} {typ seq : Int} {L n : Nat} {miss : Int} {C : Nat → Bool} {A : Nat → Int} {cs : Array Value} {fr : Nat × Nat} (h : PartA w B r typ seq L n miss C A) (hk : w.heap[k]? = some (.cells cs 80 fr)) (hg : w.grownBy w' (some k)) : PartA w' B r typ seq L n miss C A := by
  obtain ⟨mb, n', F, H, Dt, h1, hP, h2⟩ := h
  refine ⟨mb, n', F, H, Dt, h1, hP.kept hg (fun j hj => ?_), h2⟩
  cases hj
  refine ⟨cells_ne_type hk hP.head (by decide), ?_, fun i hi => ?_⟩
  · obtain ⟨c, f, hm, _⟩ := hP.map
    exact fun e => map_ne_cells hm hk e.symm
  · exact cells_ne_type hk (hP.blk i _ hi).2.1 (by decide) rfl

theorem Whole.kept80 {w w' : World} {B r N k : Nat} {typ seq : Int} {L : Nat} {body : List Int} {cs : Array Value} {fr : Nat × Nat} (h : Whole w B r N typ seq L body) (hk : w.heap[k]? = some (.cells cs 80 fr)) (hg : w.grownBy w' (some k)) : Whole w' B r N typ seq L body :=
  ⟨block_grown hg h.head (fun e => by cases e; exact cells_ne_type hk h.head (by decide) rfl), block_grown hg h.raw (fun e => by cases e; exact cells_ne_type hk h.raw (by decide) rfl), h.len, h.hr, h.hN⟩

theorem But3.keep {w w' : World} {x y z k : Nat} {o : Obj} (h : But3 w w' x y z) (hk : w.heap[k]? = some o) (h1 : k ≠ x) (h2 : k ≠ y) (h3 : k ≠ z) : w'.heap[k]? = some o := (h.block k (block_lt hk) h1 h2 h3).trans hk

theorem Whole.but3 {w w' : World} {B r N p pb ob : Nat} {typ seq : Int} {L n c : Nat} {body : List Int} {cs1 cs2 : Array Value} {f1 f2 : Nat × Nat} {f : Lit → Option Nat} (h : Whole w B r N typ seq L body) (hp : w.heap[p]? = some (.cells cs1 75 f1)) (ho : w.heap[ob]? = some (.cells cs2 9 f2)) (hm : PMap w 9 pb n c f) (hb : But3 w w' p pb ob) : Whole w' B r N typ seq L body :=
  ⟨hb.keep h.head (cells_ne_type h.head hp (by decide)) (fun e => map_ne_cells hm h.head e.symm) (cells_ne_type h.head ho (by decide)), hb.keep h.raw (cells_ne_type h.raw hp (by decide)) (fun e => map_ne_cells hm h.raw e.symm) (cells_ne_type h.raw ho (by decide)), h.len, h.hr, h.hN⟩

/-- What stands when the first fragment is about to be added. -/
structure Ready (w w6 : World) (B p pb ob c hb rr : Nat) (s : ByteArray) (typ seq : Int) (L : Nat) : Prop where
  held : OneHeld w6 p pb ob c hb s
  hello : w6.heap[hb]? = some (.cells (hcells rr 0).toArray 80 (0, 0))
  part : PartA w6 B rr typ seq L 0 L (fun _ => false) (fun _ => 0)
  grown : w.grownBy w6 (some p)
  wB : w.heap.size ≤ B
  wpb : w.heap.size ≤ pb
  pbB : pb < B
  wob : w.heap.size ≤ ob
  whb : w.heap.size ≤ hb

/-- What add of the first fragment leaves. -/
def FirstPost (w : World) (p : Nat) (s : ByteArray) (typ seq : Int) (L off ln n5 : Nat) (zs : List Int) (e : Ending) (w' : World) : Prop :=
  ∃ B pb ob c hb rr, w.grownBy w' (some p) ∧ w.heap.size ≤ B ∧ w.heap.size ≤ pb ∧ pb < B ∧ w.heap.size ≤ ob ∧ w.heap.size ≤ hb ∧ w'.heap[hb]? = some (.cells (hcells rr (13 + (n5 : Int))).toArray 80 (0, 0)) ∧
    ((ln = L ∧ e = .returned (.pointer (some ⟨hb, 0, none⟩)) ∧ Emptied w' p pb ob c ∧ ∃ N, Whole w' B rr N typ seq L ((List.range L).map (withA (fun _ => 0) off ln zs))) ∨
      (ln ≠ L ∧ e = .returned (.pointer none) ∧ OneHeld w' p pb ob c hb s ∧ PartA w' B rr typ seq L ln ((L : Int) - ((List.range L).countP (withC (fun _ => false) off ln) : Nat)) (withC (fun _ => false) off ln) (withA (fun _ => 0) off ln zs)))

set_option maxRecDepth 100000 in
set_option maxHeartbeats 4000000 in
theorem parts_first (w : World) (p q L off ln c n5 c5 : Nat) (s : ByteArray) (typ seq : Int) (a a5 : Option Addr) (zs : List Int) (hs : s.size ≤ 1048576) (ht0 : 0 ≤ typ) (ht1 : typ ≤ 255) (hs0 : 0 ≤ seq) (hs1 : seq ≤ 65535)
    (hp : w.heap[p]? = some (.cells (pcells (.map none) (.slice none 0 0)).toArray 75 (0, 0))) (hq : w.heap[q]? = some (.cells (mcells typ L seq off (.slice a ln c) (.slice a5 n5 c5)).toArray 77 (0, 0))) (hat : At .u8 w a zs) (hag : ∀ x, a = some x → x.block ≠ p) (hzl : zs.length = ln) (hlc : ln ≤ c) (hlen : off + ln ≤ L) (hL : L ≤ 16384) (hn5 : n5 ≤ 1048576) :
    Calls Try.prog 45 #[.pointer (some ⟨p, 0, none⟩), .string s, .pointer (some ⟨q, 0, none⟩)] w fun e w' => FirstPost w p s typ seq L off ln n5 zs e w' := by
  have hkey := keyOf_s s hs
  obtain ⟨q1, -⟩ := block_cell hq 1 (by simp [mcells])
  obtain ⟨p0, -⟩ := block_cell hp 0 (by simp [pcells])
  simp only [mcells, pcells, List.getD_eq_getElem?_getD, List.getElem?_cons_zero, List.getElem?_cons_succ, Option.getD_some] at q1 p0
  have hlk := fun w : World => Maps.look_nil (w := w) false law9 Try.underlying37 (zero35 w) hkey
  simp only [Bool.false_eq_true, if_false] at hlk
  have hmn := fun (w : World) => run_eql_map_nil (P := Try.prog) w 37 9 35 none Try.underlying37
  have hmm := @run_makeMap Try.prog
  have hpl := block_lt hp
  have hql := block_lt hq
  have hqp : q ≠ p := cells_ne_type hq hp (by decide)
  have Hp : Hid (w.heap[p]? = some (.cells (pcells (.map none) (.slice none 0 0)).toArray 75 (0, 0))) := hp
  have Hq : Hid (w.heap[q]? = some (.cells (mcells typ L seq off (.slice a ln c) (.slice a5 n5 c5)).toArray 77 (0, 0))) := hq
  have Hat : Hid (At .u8 w a zs) := hat
  have Hz : Hid (zs.length = ln) := hzl
  clear hp hq hat hzl
  go_enter Try.func45, Try.ntmps45
  go_wp2_with fail
  refine (forget_none w p s _ hs Hp.out).mono ?_
  rintro e w1 ⟨rfl, hb1⟩
  have hp1 := (hb1.block p hpl).trans Hp.out
  obtain ⟨p01, p0f⟩ := block_cell hp1 0 (by simp [pcells])
  obtain ⟨p11, -⟩ := block_cell hp1 1 (by simp [pcells])
  simp only [pcells, List.getD_eq_getElem?_getD, List.getElem?_cons_zero, List.getElem?_cons_succ, Option.getD_some] at p01 p11
  have hBm : Below w1.heap.size w1 (w1.alloc (.map #[] 0)) := (Below.refl _ _).alloc (Nat.le_refl _) _
  have hpl1 := block_lt hp1
  have h0a : (w1.alloc (.map #[] 0)).cell? ⟨p, 0, none⟩ = some (.map none) := by rw [hBm.cell (p := ⟨p, 0, none⟩) hpl1]; exact p01
  have f0a : (w1.alloc (.map #[] 0)).frozen? ⟨p, 0, none⟩ = false := by rw [hBm.frozen (p := ⟨p, 0, none⟩) hpl1]; exact p0f
  have HBm : Hid (Below w1.heap.size w1 (w1.alloc (.map #[] 0))) := hBm
  have Hb1 : Hid (Below w.heap.size w w1) := hb1
  have Hp1 : Hid (w1.heap[p]? = some (.cells (pcells (.map none) (.slice none 0 0)).toArray 75 (0, 0))) := hp1
  clear hBm hb1 hp1
  go_wp2_with fail
  obtain ⟨pb, hpb⟩ : ∃ pb, pb = w1.heap.size := ⟨_, rfl⟩
  obtain ⟨wA, hwA⟩ : ∃ W, W = (w1.setCell ⟨p, 0, none⟩ (.map (some w1.heap.size))).alloc (.map #[] 0) := ⟨_, rfl⟩
  have hszX : (w1.setCell ⟨p, 0, none⟩ (.map (some w1.heap.size))).heap.size = w1.heap.size := by simp [World.setCell]
  have hszA : wA.heap.size = w1.heap.size + 1 := by rw [hwA, World.size_alloc, hszX]
  have hgX : w1.grownBy (w1.setCell ⟨p, 0, none⟩ (.map (some w1.heap.size))) (some p) := ⟨rfl, rfl, rfl, by simp [World.setCell], fun k _ hk => Below.heap_setCell _ _ _ _ (fun e => hk (by rw [e]))⟩
  have hgA : w1.grownBy wA (some p) := by
    rw [hwA]
    refine ⟨rfl, rfl, rfl, by simp [World.setCell], fun k hk hne => ?_⟩
    rw [Below.heap_alloc _ _ _ (by rw [hszX]; exact hk)]
    exact hgX.block k hk hne
  have hpA : wA.heap[p]? = some (.cells (pcells (.map (some pb)) (.slice none 0 0)).toArray 75 (0, 0)) := by
    rw [hwA, hpb]
    exact heap_alloc_old (block_set Hp1.out 0 (.map (some w1.heap.size))) _
  have hmA : PMap wA 9 pb 0 0 (fun _ => none) := by
    have h := PMap.made (w1.setCell ⟨p, 0, none⟩ (.map (some w1.heap.size))) 9
    rw [hszX] at h
    rw [hwA, hpb]
    exact h
  rw [← hwA, ← hpb]
  have hqA : wA.heap[q]? = some (.cells (mcells typ L seq off (.slice a ln c) (.slice a5 n5 c5)).toArray 77 (0, 0)) := block_grown hgA ((Hb1.out.block q hql).trans Hq.out) (fun e => by cases e; exact hqp rfl)
  have Hpb : Hid (pb = w1.heap.size) := hpb
  have HszA : Hid (wA.heap.size = w1.heap.size + 1) := hszA
  have HgA : Hid (w1.grownBy wA (some p)) := hgA
  clear hwA hpb hszX hszA hgX hgA h0a f0a p01 p11 p0f HBm Hp1 q1 p0
  refine (new_any wA q L typ seq off (.slice a ln c) (.slice a5 n5 c5) (by omega) hqA).mono ?_
  rintro e w2 ⟨rr, rfl, hP2, hb2⟩
  have hplA := block_lt hpA
  have hqlA := block_lt hqA
  have hmlA := hmA.lt
  have hp2 := (hb2.block p hplA).trans hpA
  have hq2 := (hb2.block q hqlA).trans hqA
  have hm2 := hmA.below hb2 hmlA
  obtain ⟨hb, hhb⟩ : ∃ hb, hb = w2.heap.size := ⟨_, rfl⟩
  obtain ⟨w3, hw3⟩ : ∃ W, W = w2.alloc (.cells #[.pointer (some ⟨rr, 0, none⟩), .int .i64 0] 80) := ⟨_, rfl⟩
  have hg3 : w2.grownBy w3 none := by rw [hw3]; exact World.grownBy_alloc _ _ none
  have hp3 := block_grown hg3 hp2 (by simp)
  have hq3 := block_grown hg3 hq2 (by simp)
  have hm3 := hm2.kept hg3 (by simp)
  have hh3 : w3.heap[hb]? = some (.cells (hcells rr 0).toArray 80 (0, 0)) := by rw [hw3, hhb]; exact heap_alloc_new _ _
  have hP3 := hP2.grownNone hg3
  have hs3 : w3.heap.size = w2.heap.size + 1 := by rw [hw3, World.size_alloc]
  obtain ⟨w4, hup, hm4, hg4, hs4⟩ := hm3.put law9 Try.underlying37 (e := 35) (by omega) hkey hb
  have hmp : p ≠ pb := fun e => map_ne_cells hm3 hp3 e.symm
  have hp4 := block_grown hg4 hp3 (fun e => by cases e; exact hmp rfl)
  have hq4 := block_grown hg4 hq3 (fun e => by cases e; exact map_ne_cells hm3 hq3 rfl)
  have hh4 := block_grown hg4 hh3 (fun e => by cases e; exact map_ne_cells hm3 hh3 rfl)
  have hP4 := hP3.keptLt hg4 hmlA
  obtain ⟨nb, hnb⟩ : ∃ nb, nb = w4.heap.size := ⟨_, rfl⟩
  obtain ⟨w5, hw5⟩ : ∃ W, W = w4.alloc (.cells #[.string s] 9) := ⟨_, rfl⟩
  have hg5 : w4.grownBy w5 none := by rw [hw5]; exact World.grownBy_alloc _ _ none
  have hn5' : w5.heap[nb]? = some (.cells [Value.string s].toArray 9 (0, 0)) := by rw [hw5, hnb]; exact heap_alloc_new _ _
  have hs5 : w5.heap.size = w4.heap.size + 1 := by rw [hw5, World.size_alloc]
  obtain ⟨ob, cap, w6, happ, hob, hcap, ⟨cur, ho6, hcur⟩, hg6⟩ := append_name w5 s nb (by have := (block_cell hn5' 0 (by simp)).1; simpa using this)
  have hp6 := block_grown hg6 (block_grown hg5 hp4 (by simp)) (by simp)
  have hq6 := block_grown hg6 (block_grown hg5 hq4 (by simp)) (by simp)
  have hh6 := block_grown hg6 (block_grown hg5 hh4 (by simp)) (by simp)
  have hm6 := (hm4.kept hg5 (by simp)).kept hg6 (by simp)
  have hP6 := (hP4.grownNone hg5).grownNone hg6
  obtain ⟨p03, -⟩ := block_cell hp3 0 (by simp [pcells])
  obtain ⟨p14, -⟩ := block_cell hp4 1 (by simp [pcells])
  obtain ⟨p16, f16⟩ := block_cell hp6 1 (by simp [pcells])
  simp only [pcells, List.getD_eq_getElem?_getD, List.getElem?_cons_zero, List.getElem?_cons_succ, Option.getD_some] at p03 p14 p16
  simp only [ptrv] at hup
  have p14' : w5.cell? ⟨p, 1, none⟩ = some (.slice none 0 0) := by
    have := (block_cell (block_grown hg5 hp4 (by simp)) 1 (by simp [pcells])).1
    simpa [pcells] using this
  have p03' : (w2.alloc (.cells #[.pointer (some ⟨rr, 0, none⟩), .int .i64 0] 80)).cell? ⟨p, 0, none⟩ = some (.map (some pb)) := by rw [← hw3]; exact p03
  have hhp : hb ≠ p := cells_ne_type hh6 hp6 (by decide)
  have hg7 : w6.grownBy (w6.setCell ⟨p, 1, none⟩ (.slice (some ⟨ob, 0, none⟩) 1 cap)) (some p) := ⟨rfl, rfl, rfl, by simp [World.setCell], fun k _ hk => Below.heap_setCell _ _ _ _ (fun e => hk (by rw [e]))⟩
  have hq7 := block_grown hg7 hq6 (fun e => by cases e; exact hqp rfl)
  have s12 : wA.heap.size ≤ w2.heap.size := hb2.size
  have s01 := Hb1.out.size
  have sA := HszA.out
  have epb := Hpb.out
  have s56 := hg6.size
  have hready : Ready w (w6.setCell ⟨p, 1, none⟩ (.slice (some ⟨ob, 0, none⟩) 1 cap)) wA.heap.size p pb ob cap hb rr s typ seq L := by
    refine ⟨⟨block_set hp6 1 _, hm6.kept hg7 (fun e => by cases e; exact hmp rfl), ⟨cur, block_grown hg7 ho6 (fun e => by cases e; exact cells_ne_type hp6 ho6 (by decide) rfl), hcur⟩, hcap⟩,
      block_grown hg7 hh6 (fun e => by cases e; exact hhp rfl), hP6.keptLt hg7 hplA, ?_, by omega, by omega, by omega, by omega, by omega⟩
    have a1 := Hb1.out
    have a2 := HgA.out
    refine ⟨hg6.os.trans (hg5.os.trans (hg4.os.trans (hg3.os.trans (hb2.os.trans (a2.os.trans a1.os))))), hg6.tape.trans (hg5.tape.trans (hg4.tape.trans (hg3.tape.trans (hb2.tape.trans (a2.tape.trans a1.tape))))), hg6.output.trans (hg5.output.trans (hg4.output.trans (hg3.output.trans (hb2.output.trans (a2.output.trans a1.output))))), by simp [World.setCell]; omega, fun k hk hne => ?_⟩
    rw [hg7.block k (by omega) hne, hg6.block k (by omega) (by simp), hg5.block k (by omega) (by simp), hg4.block k (by omega) (fun e => by cases e; omega), hg3.block k (by omega) (by simp), hb2.block k (by omega), a2.block k (by omega) hne, a1.block k hk]
  obtain ⟨h07, -⟩ := block_cell hready.hello 0 (by simp [hcells])
  obtain ⟨h06, -⟩ := block_cell hh6 0 (by simp [hcells])
  simp only [hcells, List.getD_eq_getElem?_getD, List.getElem?_cons_zero, List.getElem?_cons_succ, Option.getD_some] at h07 h06
  have Hready : Hid (Ready w (w6.setCell ⟨p, 1, none⟩ (.slice (some ⟨ob, 0, none⟩) 1 cap)) wA.heap.size p pb ob cap hb rr s typ seq L) := hready
  have Hq7 : Hid ((w6.setCell ⟨p, 1, none⟩ (.slice (some ⟨ob, 0, none⟩) 1 cap)).heap[q]? = some (.cells (mcells typ L seq off (.slice a ln c) (.slice a5 n5 c5)).toArray 77 (0, 0))) := hq7
  have Hhb : Hid (hb = w2.heap.size) := hhb
  rw [hw3, hhb] at hup
  rw [hw5, hnb] at happ
  rw [hw5] at p14'
  rw [hhb] at h07 h06 hhp
  clear hpA hmA hqA hP2 hb2 hp2 hq2 hm2 hg3 hp3 hq3 hm3 hh3 hP3 hs3 hm4 hg4 hs4 hp4 hq4 hh4 hP4 hg5 hn5' hs5 hob hcap ho6 hcur hg6 hp6 hq6 hh6 hm6 hP6 p03 hg7 hq7 hready s12 s01 sA epb s56 HszA HgA Hpb Hb1 hw3 hw5 hnb hhb
  go_wp2_with (refine wpList_append_run rfl (.tmp 70) (.tmp 72) 39 rfl rfl (.slice none 0 0) (.slice (some ⟨w4.heap.size, 0, none⟩) 1 1) rfl rfl _ _ happ ?_)
  obtain ⟨w7, hw7⟩ : ∃ W, W = w6.setCell ⟨p, 1, none⟩ (.slice (some ⟨ob, 0, none⟩) 1 cap) := ⟨_, rfl⟩
  have hR : Ready w w7 wA.heap.size p pb ob cap hb rr s typ seq L := by rw [hw7]; exact Hready.out
  have hq7 : w7.heap[q]? = some (.cells (mcells typ L seq off (.slice a ln c) (.slice a5 n5 c5)).toArray 77 (0, 0)) := by rw [hw7]; exact Hq7.out
  rw [← hw7]
  rw [← Hhb.out]
  clear hw7 Hready Hq7 hup happ p14' p16 f16 p03' p14 h06 h07
  have hat7 : AtB wA.heap.size .u8 w7 a zs := by
    intro j hj
    obtain ⟨b, o, e1, e2⟩ := Hat.out j hj
    have hbl := cell_lt e2
    have := hR.wB
    exact ⟨b, o, by omega, e1, cell_grown hR.grown e2 (hag _ e1)⟩
  refine (K.add_part w7 wA.heap.size rr q 0 L off ln c typ seq L typ seq L a (.slice a5 n5 c5) zs (fun _ => false) (fun _ => 0) ht0 ht1 hs0 hs1 hR.part hq7 hqlA hat7 Hz.out hlc hlen (by omega) (by omega)).mono ?_
  rintro e w8 ⟨rfl, hb8, hS8⟩
  have hp8 := (hb8.bel.block p hplA).trans hR.held.parts
  have hm8 := hR.held.map.below hb8.bel hR.pbB
  obtain ⟨cur, ho7, hcur⟩ := hR.held.order
  have ho8 := (hb8.tame ob _ 9 _ ho7 (.inr rfl)).trans ho7
  have hh8 := (hb8.tame hb _ 80 _ hR.hello (.inl rfl)).trans hR.hello
  have hq8 := (hb8.bel.block q hqlA).trans hq7
  obtain ⟨h08, -⟩ := block_cell hh8 0 (by simp [hcells])
  obtain ⟨h18, f18⟩ := block_cell hh8 1 (by simp [hcells])
  obtain ⟨q58, -⟩ := block_cell hq8 5 (by simp [mcells])
  simp only [hcells, mcells, List.getD_eq_getElem?_getD, List.getElem?_cons_zero, List.getElem?_cons_succ, Option.getD_some] at h08 h18 q58
  have hbq : hb ≠ q := cells_ne_type hh8 hq8 (by decide)
  have hbp : hb ≠ p := cells_ne_type hh8 hp8 (by decide)
  have Hp8 : Hid (w8.heap[p]? = some (.cells (pcells (.map (some pb)) (.slice (some ⟨ob, 0, none⟩) 1 cap)).toArray 75 (0, 0))) := hp8
  have Hm8 : Hid (PMap w8 9 pb 1 1 (upd (fun _ => none) (keyS s) (some hb))) := hm8
  have Ho8 : Hid (w8.heap[ob]? = some (.cells cur.toArray 9 (0, 0))) := ho8
  have Hcur : Hid (cur[0]? = some (.string s)) := hcur
  have Hh8 : Hid (w8.heap[hb]? = some (.cells (hcells rr 0).toArray 80 (0, 0))) := hh8
  have HR : Hid (Ready w w7 wA.heap.size p pb ob cap hb rr s typ seq L) := hR
  have Hb8 : Hid (K.Below wA.heap.size w7 w8) := hb8
  have HS8 : Hid (((∀ o, o < L → withC (fun _ => false) off ln o = true) ∧ ∃ N, Whole w8 wA.heap.size rr N typ seq L ((List.range L).map (withA (fun _ => 0) off ln zs))) ∨
    (¬ (∀ o, o < L → withC (fun _ => false) off ln o = true) ∧ PartA w8 wA.heap.size rr typ seq L (0 + ln) ((L : Int) - ((List.range L).countP (withC (fun _ => false) off ln) : Nat)) (withC (fun _ => false) off ln) (withA (fun _ => 0) off ln zs))) := hS8
  clear hp8 hm8 ho8 hh8 hq8 hcur ho7 hR hb8 hS8 hq7 hat7
  -- the world behind the count of the bytes
  obtain ⟨X, hX⟩ : ∃ X, X = (w8.setCell ⟨hb, 1, none⟩ (.int .i64 (13 + (n5 : Int)))).drew := ⟨_, rfl⟩
  have hg9 : w8.grownBy X (some hb) := by rw [hX]; exact ⟨rfl, rfl, rfl, by show w8.heap.size ≤ (w8.setCell _ _).heap.size; simp [World.setCell], fun k _ hk => Below.heap_setCell _ _ _ _ (fun e => hk (by rw [e]))⟩
  have hp9 := block_grown hg9 Hp8.out (fun e => by cases e; exact hbp rfl)
  have ho9 := block_grown hg9 Ho8.out (fun e => by cases e; exact cells_ne_type Hh8.out Ho8.out (by decide) rfl)
  have hm9 := Hm8.out.kept hg9 (fun e => by cases e; exact map_ne_cells Hm8.out Hh8.out rfl)
  have hh9 : X.heap[hb]? = some (.cells (hcells rr (13 + (n5 : Int))).toArray 80 (0, 0)) := by
    rw [hX]
    exact block_set Hh8.out 1 (.int .i64 (13 + (n5 : Int)))
  have hgw : w.grownBy X (some p) := by
    have a1 := HR.out.grown
    have a2 := Hb8.out.bel
    have sB := HR.out.wB
    have sh := HR.out.whb
    have s7 := a1.size
    have s8 := a2.size
    have s9 := hg9.size
    refine ⟨hg9.os.trans (a2.os.trans a1.os), hg9.tape.trans (a2.tape.trans a1.tape), hg9.output.trans (a2.output.trans a1.output), by omega, fun k hk hne => ?_⟩
    rw [hg9.block k (by omega) (fun e => by cases e; omega), a2.block k (by omega), a1.block k hk hne]
  have HX : Hid (X = (w8.setCell ⟨hb, 1, none⟩ (.int .i64 (13 + (n5 : Int)))).drew) := hX
  have Hg9 : Hid (w8.grownBy X (some hb)) := hg9
  have Hp9 : Hid (X.heap[p]? = some (.cells (pcells (.map (some pb)) (.slice (some ⟨ob, 0, none⟩) 1 cap)).toArray 75 (0, 0))) := hp9
  have Ho9 : Hid (X.heap[ob]? = some (.cells cur.toArray 9 (0, 0))) := ho9
  have Hm9 : Hid (PMap X 9 pb 1 1 (upd (fun _ => none) (keyS s) (some hb))) := hm9
  have Hh9 : Hid (X.heap[hb]? = some (.cells (hcells rr (13 + (n5 : Int))).toArray 80 (0, 0))) := hh9
  have Hgw : Hid (w.grownBy X (some p)) := hgw
  clear hX hg9 hp9 ho9 hm9 hh9 hgw
  go_wp2_with fail
  go_region_with (fail)
  all_goals
    go_wp2_with fail
    rw [← HX.out]
    rcases HS8.out with ⟨hall, N, hW⟩ | ⟨hnall, hP⟩
    · have hW9 := hW.kept80 Hh8.out Hg9.out
      obtain ⟨r5, -⟩ := block_cell hW9.head 5 (by simp [rcells])
      simp only [rcells, List.getD_eq_getElem?_getD, List.getElem?_cons_zero, List.getElem?_cons_succ, Option.getD_some] at r5
      have HW9 : Hid (Whole X wA.heap.size rr N typ seq L ((List.range L).map (withA (fun _ => 0) off ln zs))) := hW9
      have Hall : Hid (ln = L) := (one_all hlen).1 hall
      clear hW hW9 hall
      refine (whole_any X rr (some ⟨N, 0, none⟩) _ _ r5).mono ?_
      rintro e w' ⟨rfl, rfl⟩
      go_wp2_with fail
      refine (forget_held X p pb ob cap 1 hb s _ cur hs HR.out.held.room Hp9.out Hm9.out (upd_same _ _ (law9.key hkey)) Ho9.out Hcur.out).mono ?_
      rintro e w10 ⟨rfl, hp10, hm10, hb3⟩
      go_wp2
      go_ret
      refine ⟨wA.heap.size, pb, ob, cap, hb, rr, ?_, HR.out.wB, HR.out.wpb, HR.out.pbB, HR.out.wob, HR.out.whb, hb3.keep Hh9.out hbp (fun e => map_ne_cells Hm9.out Hh9.out e.symm) (cells_ne_type Hh9.out Ho9.out (by decide)), .inl ⟨Hall.out, rfl, ⟨hp10, hm10⟩, N, HW9.out.but3 Hp9.out Ho9.out Hm9.out hb3⟩⟩
      have a1 := Hgw.out
      have sp := HR.out.wpb
      have so := HR.out.wob
      have s1 := a1.size
      have s2 := hb3.size
      refine ⟨hb3.os.trans a1.os, hb3.tape.trans a1.tape, hb3.output.trans a1.output, by omega, fun k hk hne => ?_⟩
      rw [hb3.block k (by omega) (fun e => hne (by rw [e])) (by omega) (by omega), a1.block k hk hne]
    · have hP9 := hP.kept80 Hh8.out Hg9.out
      obtain ⟨mb, n', F, HH, Dt, -, hPP, -⟩ := id hP9
      obtain ⟨r5, -⟩ := block_cell hPP.head 5 (by simp [rcells])
      simp only [rcells, List.getD_eq_getElem?_getD, List.getElem?_cons_zero, List.getElem?_cons_succ, Option.getD_some] at r5
      have HP9 : Hid (PartA X wA.heap.size rr typ seq L (0 + ln) ((L : Int) - ((List.range L).countP (withC (fun _ => false) off ln) : Nat)) (withC (fun _ => false) off ln) (withA (fun _ => 0) off ln zs)) := hP9
      have Hnall : Hid (ln ≠ L) := fun h => hnall ((one_all hlen).2 h)
      clear hP hP9 hPP hnall
      refine (whole_any X rr none _ _ r5).mono ?_
      rintro e w' ⟨rfl, rfl⟩
      go_wp2
      go_ret
      refine ⟨wA.heap.size, pb, ob, cap, hb, rr, Hgw.out, HR.out.wB, HR.out.wpb, HR.out.pbB, HR.out.wob, HR.out.whb, Hh9.out, .inr ⟨Hnall.out, rfl, ⟨Hp9.out, Hm9.out, ⟨cur, Ho9.out, Hcur.out⟩, HR.out.held.room⟩, ?_⟩⟩
      have h := HP9.out
      rw [Nat.zero_add] at h
      exact h

end Go.Proofs.Qxb6604433a
