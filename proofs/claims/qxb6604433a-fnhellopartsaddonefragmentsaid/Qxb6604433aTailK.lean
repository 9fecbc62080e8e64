/-
  The reassembly once more, with a stronger word on what stays: first the step of add.
-/
import Derived.Test.Qxb6604433aTail
namespace Go.Proofs.Qxb6604433a.K
open Go.RowKit Go.WideShapes
set_option linter.unusedVariables false
set_option linter.unusedSimpArgs false
attribute [local go_sem ↓] Go.wp_at_zero Go.wp_at_succ

/-- Block k is none of those that the callers of add hold: no entry of the hello's map (type 80), no row of names (type 9). -/
def Soft (w : World) (k : Nat) : Prop := ∀ (cs : Array Value) (t : TypeId) (f : Nat × Nat), w.heap[k]? = some (Obj.cells cs t f) → t ≠ 80 ∧ t ≠ 9

/-- Below B the world is as it was; and so is every block of those two types. -/
structure Below (B : Nat) (w w' : World) : Prop where
  bel : Go.RowKit.Below B w w'
  tame : ∀ (k : Nat) (cs : Array Value) (t : TypeId) (f : Nat × Nat), w.heap[k]? = some (Obj.cells cs t f) → t = 80 ∨ t = 9 → w'.heap[k]? = w.heap[k]?

theorem Below.refl (B : Nat) (w : World) : Below B w w := ⟨Go.RowKit.Below.refl B w, fun _ _ _ _ _ _ => rfl⟩
theorem Below.trans {B : Nat} {a b c : World} (h : Below B a b) (k : Below B b c) : Below B a c :=
  ⟨h.bel.trans k.bel, fun i cs t f h1 h2 => by
    have e := h.tame i cs t f h1 h2
    rw [← e]
    exact k.tame i cs t f (e.trans h1) h2⟩
theorem Below.drewN {B : Nat} {a w : World} (h : Below B a w) (q : Nat) : Below B a (w.drewN q) := ⟨⟨h.bel.os, h.bel.tape, h.bel.output, h.bel.size, h.bel.block⟩, h.tame⟩
theorem Below.alloc {B : Nat} {a w : World} (h : Below B a w) (hB : B ≤ w.heap.size) (o : Obj) : Below B a (w.alloc o) :=
  ⟨h.bel.alloc hB o, fun i cs t f h1 h2 => by
    have e := h.tame i cs t f h1 h2
    rw [← e]
    exact Go.RowKit.Below.heap_alloc _ _ _ (block_lt (e.trans h1))⟩
theorem Below.setCell {B : Nat} {a w : World} (h : Below B a w) {p : Addr} (hp : B ≤ p.block) (hs : Soft w p.block) (u : Value) : Below B a (w.setCell p u) :=
  ⟨h.bel.setCell hp u, fun i cs t f h1 h2 => by
    have e := h.tame i cs t f h1 h2
    rw [← e]
    refine Go.RowKit.Below.heap_setCell _ _ _ _ (fun e2 => ?_)
    subst e2
    have := hs cs t f (e.trans h1)
    rcases h2 with h2 | h2 <;> simp_all⟩
theorem Below.grown {B : Nat} {a w w' : World} {row : Option Nat} (h : Below B a w) (hg : w.grownBy w' row) (hB : B ≤ w.heap.size) (hr : ∀ k, row = some k → B ≤ k) (hs : ∀ k, row = some k → Soft w k) : Below B a w' :=
  ⟨h.bel.grown hg hB hr, fun i cs t f h1 h2 => by
    have e := h.tame i cs t f h1 h2
    rw [← e]
    refine hg.block i (block_lt (e.trans h1)) (fun e2 => ?_)
    have := hs i e2.symm cs t f (e.trans h1)
    rcases h2 with h2 | h2 <;> simp_all⟩
theorem soft_of {w : World} {k : Nat} {cs : Array Value} {t : TypeId} {f : Nat × Nat} (h : w.heap[k]? = some (.cells cs t f)) (h1 : t ≠ 80) (h2 : t ≠ 9) : Soft w k := by
  intro cs' t' f' h'
  rw [h] at h'
  cases h'
  exact ⟨h1, h2⟩
theorem soft_map {w : World} {K mb n c : Nat} {f : Lit → Option Nat} (h : PMap w K mb n c f) : Soft w mb := fun cs t fr h' => absurd rfl (map_ne_cells h h')

/-- What stands at the head of a round of add's loop, k bytes in. -/
def AddSt (w : World) (B r mb : Nat) (typ seq : Int) (L : Nat) (n off k : Nat) (zs : List Int) (H : Nat → Nat) (Dt : Nat → List Int) (wr : World) : Prop :=
  ∃ n' miss F H' Dt', Part wr B r mb n' typ seq L miss F H' Dt' ∧ n' ≤ n + k ∧ (∀ o, cov H' o = (cov H o || (decide (off ≤ o) && decide (o < off + k)))) ∧
    (∀ o, cov H' o = true → dat Dt' o = if off ≤ o ∧ o < off + k then zs.getD (o - off) 0 else dat Dt o) ∧ miss = (L : Int) - (totTo H' 2048 : Nat) ∧ (∀ i b, F i = some b → 64 * i < L) ∧ Below B w wr

/-- All that the walk of a round wants from the copy on, and what the round leaves. -/
structure Tail (w wr : World) (B r mb b : Nat) (typ seq mi : Int) (L n off k ln c' p : Nat) (a' : Option Addr) (zs : List Int) (H : Nat → Nat) (Dt : Nat → List Int) (m : Nat) (w1 : World) (X h M hM : Nat) : Prop where
  m1 : 0 < m
  m2 : m ≤ ln - k
  m3 : m ≤ 64 - p % 64
  run : (Builtin.copy_ #[22, 22] 3 #[.slice (some ⟨b, 1 + p % 64, none⟩) (64 - p % 64) (64 - p % 64), .slice a' (ln - k) c']).run Try.prog wr = .ok (.int .i64 m) w1
  msk : IntKind.u64.wrap (IntKind.u64.wrap (IntKind.u64.wrap (2 ^ m) - 1) * 2 ^ (p % 64)) = (M : Int)
  por : bits .or .u64 (h : Int) (M : Int) = (hM : Int)
  pan : bits .andNot .u64 (M : Int) (h : Int) = (X : Int)
  xl : X < 18446744073709551616
  xp : pop X ≤ 64
  mi1 : -131072 ≤ mi
  mi2 : mi ≤ 131072
  c4 : w1.cell? ⟨r, 4, none⟩ = some (.int .i64 mi)
  f4 : w1.frozen? ⟨r, 4, none⟩ = false
  b0 : w1.cell? ⟨b, 0, none⟩ = some (.int .u64 h)
  fb0 : w1.frozen? ⟨b, 0, none⟩ = false
  rb : r ≠ b
  done : ∀ q, AddSt w B r mb typ seq L n off (k + m) zs H Dt (((w1.setCell ⟨r, 4, none⟩ (.int .i64 (mi - (pop X : Nat)))).setCell ⟨b, 0, none⟩ (.int .u64 hM)).drewN q)

theorem tail_facts {w wr : World} {B r mb b : Nat} {typ seq mi : Int} {L n n' off k ln c' p : Nat} {a' : Option Addr} {zs : List Int} {F' : Nat → Option Nat} {H H' : Nat → Nat} {Dt Dt' : Nat → List Int}
    (hP : Part wr B r mb n' typ seq L mi F' H' Dt') (hF : F' (p / 64) = some b) (hp : off + k = p) (hk : k < ln) (hzl : zs.length = ln) (hlen : off + ln ≤ L) (hL : L ≤ 131072) (HA : AtB B .u8 wr a' (zs.drop k)) (hn' : n' ≤ n + k + 1)
    (hcv : ∀ o, cov H' o = (cov H o || (decide (off ≤ o) && decide (o < off + k)))) (hdt : ∀ o, cov H' o = true → dat Dt' o = if off ≤ o ∧ o < off + k then zs.getD (o - off) 0 else dat Dt o) (hmi : mi = (L : Int) - (totTo H' 2048 : Nat)) (hbd : ∀ i b, F' i = some b → 64 * i < L) (hbel : Below B w wr) :
    ∃ m w1 X h M hM, Tail w wr B r mb b typ seq mi L n off k ln c' p a' zs H Dt m w1 X h M hM := by
  obtain ⟨hbB, hblk, hdl, hh⟩ := hP.blk _ b hF
  have hst : p % 64 < 64 := by omega
  obtain ⟨m, hm⟩ : ∃ m, m = min (ln - k) (64 - p % 64) := ⟨_, rfl⟩
  have hxl : ((zs.drop k).take m).length = m := by rw [List.length_take, List.length_drop, hzl]; omega
  obtain ⟨w1, hrun, HB1, hgr1, hs1⟩ := copy_ex (P := Try.prog) wr 22 22 3 5 Try.underlying22 Try.size5 (some ⟨b, 1 + p % 64, none⟩) a' (64 - p % 64) (64 - p % 64) (ln - k) c' b (1 + p % 64) (bcells (H' (p / 64)) (Dt' (p / 64))) 114
    hblk (ints .u8 ((zs.drop k).take m)) m (by rw [length_ints, hxl]) hm (fun hp => ⟨rfl, (HA.take_drop m).src hp⟩) (by simp [bcells, length_ints, hdl]; omega) (ints_oneCell _ _)
  have hml := mask_lt m (p % 64) (by omega)
  have hd2 : (splice (Dt' (p / 64)) (p % 64) ((zs.drop k).take m)).length = 64 := length_splice' hdl (by rw [hxl]; omega)
  have hP1 := hP.wrote hF (H' (p / 64)) (splice (Dt' (p / 64)) (p % 64) ((zs.drop k).take m)) hd2 hh (by rw [HB1.out, bcells_splice]) hgr1
  have hb1 : w1.heap[b]? = some (.cells (bcells (H' (p / 64)) (splice (Dt' (p / 64)) (p % 64) ((zs.drop k).take m))).toArray 114 (0, 0)) := by rw [HB1.out, bcells_splice]
  obtain ⟨c4', f4'⟩ := block_cell hP1.head 4 (by simp [rcells])
  obtain ⟨b0, fb0⟩ := block_cell hb1 0 (by simp [bcells])
  have htl := tot_le H'
  have hrb : r ≠ b := cells_ne_type hP1.head hb1 (by decide)
  refine ⟨m, w1, mask m (p % 64) &&& (18446744073709551615 - H' (p / 64)), H' (p / 64), mask m (p % 64), H' (p / 64) ||| mask m (p % 64), by omega, by omega, by omega, hrun, wrapped m (p % 64) (by omega), u64_or_nat _ _ hh hml, u64_andNot_nat _ _ hml hh, and_lt _ _ hml, pop_le _, by omega, by omega, c4', f4', b0, fb0, hrb, fun q => ?_⟩
  -- the round's end
  have hP2 := hP1.missed (mi - (pop (mask m (p % 64) &&& (18446744073709551615 - H' (p / 64))) : Nat))
  have hb2 : (w1.setCell ⟨r, 4, none⟩ (.int .i64 (mi - (pop (mask m (p % 64) &&& (18446744073709551615 - H' (p / 64))) : Nat)))).heap[b]? = some (.cells (bcells (H' (p / 64)) (splice (Dt' (p / 64)) (p % 64) ((zs.drop k).take m))).toArray 114 (0, 0)) := by
    rw [Go.RowKit.Below.heap_setCell _ _ _ _ (Ne.symm hrb)]; exact hb1
  have horl : H' (p / 64) ||| mask m (p % 64) < 18446744073709551616 := by
    have := Nat.or_lt_two_pow (n := 64) (by simpa using hh) (by simpa using hml)
    simpa using this
  have hb3 := block_set hb2 0 (.int .u64 ((H' (p / 64) ||| mask m (p % 64) : Nat) : Int))
  rw [bcells_set] at hb3
  have hP3 := hP2.wrote hF (H' (p / 64) ||| mask m (p % 64)) _ hd2 horl hb3
    ⟨rfl, rfl, rfl, by simp [World.setCell], fun i _ hi => Go.RowKit.Below.heap_setCell _ _ _ _ (fun e => hi (by rw [e]))⟩
  have eH : setAt (setAt H' (p / 64) (H' (p / 64))) (p / 64) (H' (p / 64) ||| mask m (p % 64)) = setAt H' (p / 64) (H' (p / 64) ||| mask m (p % 64)) := by
    funext j; unfold setAt; split <;> simp_all
  have eD : ∀ x, setAt (setAt Dt' (p / 64) x) (p / 64) x = setAt Dt' (p / 64) x := by
    intro x; funext j; unfold setAt; split <;> simp_all
  rw [eH, eD] at hP3
  refine ⟨n', _, F', _, _, hP3.drew q, by omega, fun o => ?_, fun o ho => ?_, ?_, hbd, ?_⟩
  · rw [cov_step H' p m o (by omega), hcv o, ← hp]
    have : (decide (off + k ≤ o) && decide (o < off + k + m)) = ((decide (off ≤ o) && decide (o < off + (k + m))) && !(decide (off ≤ o) && decide (o < off + k))) := by
      rw [Bool.eq_iff_iff]; simp; omega
    rw [this]
    by_cases c1 : off ≤ o <;> by_cases c2 : o < off + k <;> by_cases c3 : o < off + (k + m) <;> simp [c1, c2, c3] <;> omega
  · rw [dat_step Dt' p m o _ hxl hdl (by omega), ← hp]
    rw [cov_step H' p m o (by omega), ← hp] at ho
    by_cases c : off + k ≤ o ∧ o < off + k + m
    · rw [if_pos c, if_pos (by omega)]
      rw [List.getD_eq_getElem?_getD, List.getD_eq_getElem?_getD, List.getElem?_take, if_pos (by omega), List.getElem?_drop, show k + (o - (off + k)) = o - off from by omega]
    · have hco : cov H' o = true := by
        have c' : (decide (off + k ≤ o) && decide (o < off + k + m)) = false := by
          rw [Bool.and_eq_false_iff, decide_eq_false_iff_not, decide_eq_false_iff_not]; omega
        rw [c', Bool.or_false] at ho
        exact ho
      rw [if_neg c, hdt o hco]
      by_cases c2 : off ≤ o ∧ o < off + k
      · rw [if_pos c2, if_pos (by omega)]
      · rw [if_neg c2, if_neg (by omega)]
  · have h1 := totTo_setAt H' (p / 64) (H' (p / 64) ||| mask m (p % 64)) 2048 (by omega)
    have h2 := pop_or (H' (p / 64)) (mask m (p % 64)) hh
    omega
  · have h1 : Below B w w1 := hbel.grown hgr1 (by have := hP.head; have := block_lt this; have := hP.hr; omega) (fun x hx => by cases hx; exact hbB) (fun x hx => by cases hx; exact soft_of hblk (by decide) (by decide))
    have h2 := (h1.setCell (p := ⟨r, 4, none⟩) hP.hr (soft_of hP1.head (by decide) (by decide)) (.int .i64 (mi - (pop (mask m (p % 64) &&& (18446744073709551615 - H' (p / 64))) : Nat)))).setCell (p := ⟨b, 0, none⟩) hbB (soft_of hb2 (by decide) (by decide)) (.int .u64 ((H' (p / 64) ||| mask m (p % 64) : Nat) : Int))
    exact h2.drewN q

theorem fresh_facts {w wr : World} {B r mb : Nat} {typ seq mi : Int} {L n n' off k p : Nat} {zs : List Int} {F' : Nat → Option Nat} {H H' : Nat → Nat} {Dt Dt' : Nat → List Int}
    (hP : Part wr B r mb n' typ seq L mi F' H' Dt') (hF : F' (p / 64) = none) (hp : p < 131072) (hn : n' < 1000000000) (hdt : ∀ o, cov H' o = true → dat Dt' o = if off ≤ o ∧ o < off + k then zs.getD (o - off) 0 else dat Dt o) (hbel : Below B w wr) :
    ∃ w0, (Instr.mapUpdate 81 (.map (some mb)) (.int .u32 ((p : Int) / 64)) (.pointer (some ⟨wr.heap.size, 0, none⟩))).run Try.prog (wr.alloc (.cells zblk.toArray 114)) = .ok () w0 ∧
      Part w0 B r mb (n' + 1) typ seq L mi (setAt F' (p / 64) (some wr.heap.size)) H' (setAt Dt' (p / 64) (List.replicate 64 0)) ∧ Below B w w0 ∧
      (∀ o, cov H' o = true → dat (setAt Dt' (p / 64) (List.replicate 64 0)) o = if off ≤ o ∧ o < off + k then zs.getD (o - off) 0 else dat Dt o) := by
  obtain ⟨c, f, hm, hf⟩ := hP.map
  have hwf : (Lit.int .u32 ((p / 64 : Nat) : Int)).wf = true := WalkArith.wf_u32 (by omega)
  have hkey : keyOf Try.prog 27 (.int .u32 ((p : Int) / 64)) = some (key32 (p / 64)) := by
    rw [show ((p : Int) / 64) = ((p / 64 : Nat) : Int) from by omega]; exact Maps.keyOf_int_mk Try.underlying27 hwf
  have hBs : B ≤ wr.heap.size := by have := hP.hr; have := block_lt hP.head; omega
  have hm' := hm.kept (World.grownBy_alloc wr (.cells zblk.toArray 114) none) (by simp)
  obtain ⟨w0, hr, hm0, hg0, hs0⟩ := hm'.put law27 Try.underlying81 (e := 111) hn hkey wr.heap.size
  refine ⟨w0, hr, ?_, ?_, fun o ho => ?_⟩
  · refine hP.fresh hBs hF hm0 (fun j => ?_) hg0
    by_cases e : j = p / 64
    · subst e
      rw [setAt_same, upd_same _ _ (law27.key hkey)]
    · rw [setAt_other _ _ e, upd_other _ _ (by unfold key32; simp; omega)]
      exact hf j
  · exact (hbel.alloc hBs _).grown hg0 (by simp; omega) (fun x hx => by cases hx; exact hP.hmb) (fun x hx => by cases hx; exact soft_map hm')
  · rw [← hdt o ho]
    unfold dat
    by_cases e : o / 64 = p / 64
    · have : H' (o / 64) = 0 := by rw [e]; exact hP.bare _ hF
      unfold cov at ho
      rw [this] at ho
      simp at ho
    · rw [setAt_other _ _ e]

end Go.Proofs.Qxb6604433a.K
