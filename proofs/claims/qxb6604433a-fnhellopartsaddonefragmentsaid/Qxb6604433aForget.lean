/-
  slices.DeleteFunc at one name; forget where nothing is held, and where the one name is.
-/
import Derived.Test.Qxb6604433aHelloA
namespace Go.Proofs.Qxb6604433a
open Go.RowKit Go.WideShapes
set_option linter.unusedVariables false
set_option linter.unusedSimpArgs false
attribute [local go_sem ↓] Go.wp_at_zero Go.wp_at_succ

theorem zero9 (w : World) : (zeroValue 9).run Try.prog w = .ok (.string ⟨#[]⟩) w := by kernel_rfl
theorem zero35 (w : World) : (zeroValue 35).run Try.prog w = .ok (.pointer none) w := by kernel_rfl
theorem law9 : Maps.Keyed Try.prog 9 := Maps.string_keyed Try.underlying9
def keyS (s : ByteArray) : Lit := .string s.data.toList
theorem keyOf_s (s : ByteArray) (h : s.size ≤ 1048576) : keyOf Try.prog 9 (.string s) = some (keyS s) := Go.WideMaps.keyOf_string_mk Try.underlying9 (by unfold maxLen; omega)

theorem cut39_from (ob c : Nat) (hc : 1 ≤ c) (w : World) : (Instr.sliceAt 39 (.slice (some ⟨ob, 0, none⟩) 1 c) (some (.int .i64 0)) none none).run Try.prog w = .ok (.slice (some ⟨ob, 0, none⟩) 1 c) w := by
  have hs : (sizeOf 9).run Try.prog w = .ok 1 w := by kernel_rfl
  have h1 : ¬ c = 0 := by omega
  simp [Instr.sliceAt, run_underlying Try.underlying39, Instr.slice, Instr.sliceBounds, run_sliceBound, hs, add_plain, hc, h1]
theorem cut39_to (ob c : Nat) (w : World) : (Instr.sliceAt 39 (.slice (some ⟨ob, 0, none⟩) 1 c) none (some (.int .i64 0)) none).run Try.prog w = .ok (.slice (some ⟨ob, 0, none⟩) 0 c) w := by
  have hs : (sizeOf 9).run Try.prog w = .ok 1 w := by kernel_rfl
  simp [Instr.sliceAt, run_underlying Try.underlying39, Instr.slice, Instr.sliceBounds, run_sliceBound, hs, add_plain]

set_option maxRecDepth 100000 in
set_option maxHeartbeats 1000000 in
theorem delete_one (w : World) (s : ByteArray) (cb ob c : Nat) (hc : 1 ≤ c) (h : w.cell? ⟨cb, 0, none⟩ = some (.string s)) (ho : w.cell? ⟨ob, 0, none⟩ = some (.string s)) (hf : w.frozen? ⟨ob, 0, none⟩ = false) :
    Calls Try.prog 56 #[.slice (some ⟨ob, 0, none⟩) 1 c, .func (.func 57) #[] #[.pointer (some ⟨cb, 0, none⟩)]] w fun e w' => e = .returned (.slice (some ⟨ob, 0, none⟩) 0 c) ∧ w.grownBy w' (some ob) := by
  have h1 := fun w => cut39_from ob c hc w
  have h2 := fun w => cut39_to ob c w
  have h3 := Lib.run_clear_slice (P := Try.prog) w 39 9 0 (.string ⟨#[]⟩) Try.underlying39 zero9 rfl rfl ob 0 1 c (by omega)
    (fun j hj => by obtain rfl : j = 0 := by omega
                    rw [Nat.zero_add, ho]; rfl) (fun j hj => by obtain rfl : j = 0 := by omega
                                                                exact hf)
  obtain ⟨w1, hw1⟩ : ∃ w1, w1 = w.setCells ob 0 (List.replicate 1 (.string ⟨#[]⟩)) := ⟨_, rfl⟩
  rw [← hw1] at h3
  have hg : w.grownBy w1 (some ob) := by rw [hw1]; exact (grown_setCells ob _ _ _).1
  clear hw1
  go_enter Try.func56, Try.ntmps56
  go_wp2_with fail
  refine (index_one w s cb ob c h ho).mono ?_
  rintro e w' ⟨rfl, rfl⟩
  go_wp2
  refine wp_loop_rounds 1 ?_
  rw [rounds_succ]
  go_wp2
  go_ret
  exact ⟨rfl, hg⟩

/-- The parts hold nothing: no map made yet. -/
def pcells (m o : Value) : List Value := [m, o]

set_option maxRecDepth 100000 in
set_option maxHeartbeats 1000000 in
theorem forget_none (w : World) (p : Nat) (s : ByteArray) (o : Value) (hs : s.size ≤ 1048576) (hp : w.heap[p]? = some (.cells (pcells (.map none) o).toArray 75 (0, 0))) :
    Calls Try.prog 50 #[.pointer (some ⟨p, 0, none⟩), .string s] w fun e w' => e = .returned (.tuple #[]) ∧ Below w.heap.size w w' := by
  obtain ⟨p0, -⟩ := block_cell hp 0 (by simp [pcells])
  simp only [pcells, List.getD_eq_getElem?_getD, List.getElem?_cons_zero, List.getElem?_cons_succ, Option.getD_some] at p0
  have hlk := fun w : World => Maps.look_nil (w := w) true law9 Try.underlying37 (zero35 w) (keyOf_s s hs)
  simp only [if_true] at hlk
  have hp0 : (w.alloc (.cells #[.string s] 9)).cell? ⟨p, 0, none⟩ = some (.map none) := by
    rw [((Below.refl _ _).alloc (Nat.le_refl _) _ : Below w.heap.size w _).cell (p := ⟨p, 0, none⟩) (block_lt hp)]; exact p0
  have hn := World.new_ne w ⟨p, 0, none⟩ p0
  clear hp
  go_enter Try.func50, Try.ntmps50
  go_wp2
  go_quiet (fail)
  go_wp2
  go_end0
  exact ⟨rfl, below_drewN' ((Below.refl _ _).alloc (Nat.le_refl _) _) _⟩

/-- All is as it was but for three blocks, and new ones. -/
structure But3 (w w' : World) (x y z : Nat) : Prop where
  os : w'.os = w.os
  tape : w'.tape = w.tape
  output : w'.output = w.output
  size : w.heap.size ≤ w'.heap.size
  block : ∀ k, k < w.heap.size → k ≠ x → k ≠ y → k ≠ z → w'.heap[k]? = w.heap[k]?

set_option maxRecDepth 100000 in
set_option maxHeartbeats 2000000 in
theorem forget_held (w : World) (p pb ob c n hb : Nat) (s : ByteArray) (f : Lit → Option Nat) (cur : List Value) (hs : s.size ≤ 1048576) (hc : 1 ≤ c)
    (hp : w.heap[p]? = some (.cells (pcells (.map (some pb)) (.slice (some ⟨ob, 0, none⟩) 1 c)).toArray 75 (0, 0))) (hm : PMap w 9 pb n 1 f) (hf : f (keyS s) = some hb) (ho : w.heap[ob]? = some (.cells cur.toArray 9 (0, 0))) (h0 : cur[0]? = some (.string s)) :
    Calls Try.prog 50 #[.pointer (some ⟨p, 0, none⟩), .string s] w fun e w' => e = .returned (.tuple #[]) ∧ w'.heap[p]? = some (.cells (pcells (.map (some pb)) (.slice (some ⟨ob, 0, none⟩) 0 c)).toArray 75 (0, 0)) ∧ (∃ g, PMap w' 9 pb n 0 g) ∧ But3 w w' p pb ob := by
  have hkey := keyOf_s s hs
  have hB1 : Below w.heap.size w (w.alloc (.cells #[.string s] 9)) := (Below.refl _ _).alloc (Nat.le_refl _) _
  have hp1 := (hB1.block p (block_lt hp)).trans hp
  have ho1 := (hB1.block ob (block_lt ho)).trans ho
  have hm1 := hm.below hB1 hm.lt
  have hcb : (w.alloc (.cells #[.string s] 9)).heap[w.heap.size]? = some (.cells [Value.string s].toArray 9 (0, 0)) := heap_alloc_new _ _
  have hs1 : w.heap.size ≤ (w.alloc (.cells #[.string s] 9)).heap.size := by simp
  have hobl := block_lt ho
  have hlk : ∀ k, (Instr.lookup 37 (.map (some pb)) (.string s) true).run Try.prog ((w.alloc (.cells #[.string s] 9)).drewN k) = .ok (.tuple #[.pointer (some ⟨hb, 0, none⟩), .bool true]) ((w.alloc (.cells #[.string s] 9)).drewN k) := fun k => by
    have h := (show PMap ((w.alloc (.cells #[.string s] 9)).drewN k) 9 pb n 1 f from hm1).lookOk law9 Try.underlying37 (zero35 _) hkey
    rw [hf] at h
    exact h
  have hlk0 := hlk 0
  have hlk1 := hlk 1
  obtain ⟨p0, -⟩ := block_cell hp1 0 (by simp [pcells])
  obtain ⟨cb0, -⟩ := block_cell hcb 0 (by simp)
  simp only [pcells, List.getD_eq_getElem?_getD, List.getElem?_cons_zero, List.getElem?_cons_succ, Option.getD_some] at p0 cb0
  have hpp : p ≠ w.heap.size := by have := block_lt hp; omega
  have Hp1 : Hid ((w.alloc (.cells #[.string s] 9)).heap[p]? = some (.cells (pcells (.map (some pb)) (.slice (some ⟨ob, 0, none⟩) 1 c)).toArray 75 (0, 0))) := hp1
  have Ho1 : Hid ((w.alloc (.cells #[.string s] 9)).heap[ob]? = some (.cells cur.toArray 9 (0, 0))) := ho1
  have Hcb : Hid ((w.alloc (.cells #[.string s] 9)).heap[w.heap.size]? = some (.cells [Value.string s].toArray 9 (0, 0))) := hcb
  have Hm1 : Hid (PMap (w.alloc (.cells #[.string s] 9)) 9 pb n 1 f) := hm1
  have HB1 : Hid (Below w.heap.size w (w.alloc (.cells #[.string s] 9))) := hB1
  have H0 : Hid (cur[0]? = some (.string s)) := h0
  have Hf : Hid (f (keyS s) = some hb) := hf
  clear hp ho hm h0 hp1 ho1 hm1 hcb hB1 hf
  go_enter Try.func50, Try.ntmps50
  go_wp2
  go_quiet (fail)
  go_wp2_with fail
  obtain ⟨cb, hcbe⟩ : ∃ cb, cb = w.heap.size := ⟨_, rfl⟩
  obtain ⟨W, hW⟩ : ∃ W, W = (w.alloc (.cells #[.string s] 9)).drewN nq := ⟨_, rfl⟩
  have hpW : W.heap[p]? = some (.cells (pcells (.map (some pb)) (.slice (some ⟨ob, 0, none⟩) 1 c)).toArray 75 (0, 0)) := by rw [hW]; exact Hp1.out
  have hoW : W.heap[ob]? = some (.cells cur.toArray 9 (0, 0)) := by rw [hW]; exact Ho1.out
  have hcW : W.heap[cb]? = some (.cells [Value.string s].toArray 9 (0, 0)) := by rw [hW, hcbe]; exact Hcb.out
  have hmW : PMap W 9 pb n 1 f := by rw [hW]; exact Hm1.out
  have hBW : Below w.heap.size w W := by rw [hW]; exact below_drewN' HB1.out nq
  rw [← hW, ← hcbe]
  have HBW : Hid (Below w.heap.size w W) := hBW
  have Hcbe : Hid (cb = w.heap.size) := hcbe
  clear hW hcbe p0 cb0 hlk hlk0 hlk1 Hp1 Ho1 Hcb Hm1 HB1 hBW
  obtain ⟨w2, hdel, hm2, hg2, hs2⟩ := (show PMap W.drew 9 pb n 1 f from hmW).del law9 Try.underlying37 (ty := 0) hkey
  have hp2 := block_grown hg2 (show W.drew.heap[p]? = _ from hpW) (fun e => by cases e; exact map_ne_cells hmW hpW rfl)
  have ho2 := block_grown hg2 (show W.drew.heap[ob]? = _ from hoW) (fun e => by cases e; exact map_ne_cells hmW hoW rfl)
  have hc2 := block_grown hg2 (show W.drew.heap[cb]? = _ from hcW) (fun e => by cases e; exact map_ne_cells hmW hcW rfl)
  obtain ⟨p0, -⟩ := block_cell hpW 0 (by simp [pcells])
  obtain ⟨c0, -⟩ := block_cell hcW 0 (by simp)
  obtain ⟨p02, -⟩ := block_cell hp2 0 (by simp [pcells])
  obtain ⟨p12, p1f⟩ := block_cell hp2 1 (by simp [pcells])
  obtain ⟨c02, -⟩ := block_cell hc2 0 (by simp)
  obtain ⟨o02, of2⟩ := block_cell ho2 0 (by rcases Nat.eq_zero_or_pos cur.length with h | h
                                            · have := H0.out; rw [List.eq_nil_of_length_eq_zero h] at this; cases this
                                            · exact h)
  rw [List.getD_eq_getElem?_getD, H0.out] at o02
  simp only [pcells, List.getD_eq_getElem?_getD, List.getElem?_cons_zero, List.getElem?_cons_succ, Option.getD_some] at p0 c0 p02 p12 c02 o02
  have hpo : p ≠ ob := cells_ne_type hpW hoW (by decide)
  have hpm : p ≠ pb := fun e => map_ne_cells hmW hpW e.symm
  have hmf : ∀ (fn : Fn) (first cap : Array Value) (w : World), (Instr.makeFunc fn first cap).run Try.prog w = .ok (.func fn first cap) w := fun _ _ _ _ => rfl
  have Hp2 : Hid (w2.heap[p]? = some (.cells (pcells (.map (some pb)) (.slice (some ⟨ob, 0, none⟩) 1 c)).toArray 75 (0, 0))) := hp2
  have Hm2 : Hid (PMap w2 9 pb n (1 - if (f (keyS s)).isSome then 1 else 0) (upd f (keyS s) none)) := hm2
  have Hg2 : Hid (W.drew.grownBy w2 (some pb)) := hg2
  have Ho2 : Hid (w2.heap[ob]? = some (.cells cur.toArray 9 (0, 0))) := ho2
  clear hpW hoW hcW hmW hp2 ho2 hc2 hm2 hg2
  go_region_held3 (fun w' => w'.cell? ⟨p, 0, none⟩ = some (.map (some pb)) ∧ w'.cell? ⟨cb, 0, none⟩ = some (.string s)) (go_keep) (fail)
  go_wp2_with fail
  refine (delete_one w2 s cb ob c hc c02 o02 of2).mono ?_
  rintro e w3 ⟨rfl, hg3⟩
  have hp3 := block_grown hg3 Hp2.out (fun e => by cases e; exact hpo rfl)
  have hm3 := Hm2.out.kept hg3 (fun e => by cases e; exact map_ne_cells Hm2.out Ho2.out rfl)
  obtain ⟨p13, pf3⟩ := block_cell hp3 1 (by simp [pcells])
  simp only [pcells, List.getD_eq_getElem?_getD, List.getElem?_cons_zero, List.getElem?_cons_succ, Option.getD_some] at p13
  have Hp3 : Hid (w3.heap[p]? = some (.cells (pcells (.map (some pb)) (.slice (some ⟨ob, 0, none⟩) 1 c)).toArray 75 (0, 0))) := hp3
  have Hm3 : Hid (PMap w3 9 pb n (1 - if (f (keyS s)).isSome then 1 else 0) (upd f (keyS s) none)) := hm3
  have Hg3 : Hid (w2.grownBy w3 (some ob)) := hg3
  clear hp3 hm3 hg3
  go_wp2
  go_end0
  have hgp : w3.grownBy (w3.setCell ⟨p, 1, none⟩ (.slice (some ⟨ob, 0, none⟩) 0 c)) (some p) := ⟨rfl, rfl, rfl, by simp [World.setCell], fun k _ hk => Below.heap_setCell _ _ _ _ (fun e => hk (by rw [e]))⟩
  refine ⟨rfl, block_set Hp3.out 1 _, ⟨upd f (keyS s) none, ?_⟩, ?_⟩
  · have h := Hm3.out.kept hgp (fun e => by cases e; exact hpm rfl)
    rw [Hf.out] at h
    exact h
  · have a1 := HBW.out
    have a2 := Hg2.out
    have a3 := Hg3.out
    have s1 := a1.size
    have s2 : W.heap.size ≤ w2.heap.size := a2.size
    have s3 := a3.size
    refine ⟨a3.os.trans (a2.os.trans a1.os), a3.tape.trans (a2.tape.trans a1.tape), a3.output.trans (a2.output.trans a1.output), by simp [World.setCell]; omega, fun k hk n1 n2 n3 => ?_⟩
    rw [Below.heap_setCell _ _ _ _ n1, a3.block k (by omega) (fun e => by cases e; exact n3 rfl), a2.block k (by show k < W.heap.size; omega) (fun e => by cases e; exact n2 rfl)]
    exact a1.block k hk

end Go.Proofs.Qxb6604433a
