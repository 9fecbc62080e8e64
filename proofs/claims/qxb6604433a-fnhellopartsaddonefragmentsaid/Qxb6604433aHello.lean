import Derived.Test.Qxb6604433aBuild
import Derived.Deep.RegionHeld3
namespace Go.Proofs.Qxb6604433a
open Go.RowKit Go.WideShapes
set_option linter.unusedVariables false
set_option linter.unusedSimpArgs false

theorem Try.info70 : (Try.prog.info? 70).map (fun i => (i.zero, i.size, i.bytes)) = some (some (.agg #[.int .u16 0, .slice none 0 0]), 2, 32) := by kernel_rfl

/-- the cells of n zero extensions -/
def zexts (n : Nat) : List Value := (madeCells #[.int .u16 0, .slice none 0 0] (n * 2)).toList
theorem length_zexts (n : Nat) : (zexts n).length = n * 2 := by simp [zexts, size_madeCells]

theorem make_exts (n : Nat) (hn : n ≤ 2097152) (w : World) :
    (Instr.makeSlice 66 (.int .i64 n) (.int .i64 n)).run Try.prog w = .ok (.slice (some ⟨w.heap.size, 0, none⟩) n n) (w.alloc (.cells (zexts n).toArray 70)) := by
  obtain ⟨i0, hi, hz0, hz1, hz2⟩ := info_parts Try.info70
  have h := run_make w 66 70 i0 (.agg #[.int .u16 0, .slice none 0 0]) Try.underlying66 hi hz0 .i64 .i64 (n : Int) (n : Int) (by omega) (by omega) (by rw [hz2]; omega) (by omega)
  rw [h, hz1]
  simp [zexts, Value.cells]

/-- Block g of w holds at least the first k of the extensions (ts, us). -/
def Exts (vs : List Value) (n k : Nat) (ts : List Int) (us : List Value) : Prop :=
  vs.length = n * 2 ∧ ∀ j, j < k → vs.getD (j * 2) undef = .int .u16 (ts.getD j 0) ∧ vs.getD (j * 2 + 1) undef = us.getD j undef

theorem exts_new (w : World) (o o' : Obj) : Hid (((w.alloc o).alloc o').heap[w.heap.size + 1]? = some o') := by
  have := heap_alloc_new (w.alloc o) o'
  rw [World.size_alloc] at this
  exact this
theorem below_two {B : Nat} {w wr : World} {o1 o2 : Nat} {v1 v2 : Value} (h : Below B w wr) : Below B w ((wr.setCell ⟨B, o1, none⟩ v1).setCell ⟨B, o2, none⟩ v2).drew :=
  ((h.setCell (Nat.le_refl _) _).setCell (Nat.le_refl _) _).drew

theorem cell_new (w : World) (cs : Array Value) (t : TypeId) (k : Nat) (v : Value) (h : cs[k]? = some v) : (w.alloc (.cells cs t)).cell? ⟨w.heap.size, k, none⟩ = some v := by
  unfold World.cell?
  rw [heap_alloc_new]
  simpa using h

/-- What ZZnewClientHello leaves: a new hello h, whose extensions lie in row g. -/
def HelloPost (w : World) (n : Nat) (ts : List Int) (us : List Value) (e : Ending) (w' : World) : Prop :=
  ∃ (h g : Nat) (vs : List Value), e = .returned (.pointer (some ⟨h, 0, none⟩)) ∧ w.heap.size ≤ g ∧ w'.cell? ⟨h, 37, none⟩ = some (.slice (some ⟨g, 0, none⟩) n n) ∧ w'.heap[g]? = some (.cells vs.toArray 70 (0, 0)) ∧ Exts vs n n ts us ∧ Below w.heap.size w w'

theorem Try.size57 : (Try.prog.info? 57).map (·.size) = some 32 := by kernel_rfl

theorem Exts.step {vs : List Value} {n k : Nat} {t : Int} {ts : List Int} {us : List Value} {x : Option Addr} {l c : Nat} (h : Hid (Exts vs n k ts us)) (hu : Hid (us.getD k undef = .slice x l c)) (ht : Hid (ts.getD k 0 = t)) (hk : k < n) :
    Hid (Exts ((vs.set (k * 2) (.int .u16 t)).set (k * 2 + 1) (.slice x l c)) n (k + 1) ts us) := by
  obtain ⟨h1, h2⟩ := h.out
  refine ⟨by simpa using h1, fun j hj => ?_⟩
  by_cases e : j = k
  · subst e
    rw [hu.out, ht.out]
    have e1 : j * 2 < vs.length := by omega
    have e2 : j * 2 + 1 < vs.length := by omega
    simp [e1, e2]
  · obtain ⟨g1, g2⟩ := h2 j (by omega)
    rw [← g1, ← g2]
    simp only [List.getD_eq_getElem?_getD]
    rw [List.getElem?_set_ne (by omega), List.getElem?_set_ne (by omega), List.getElem?_set_ne (by omega), List.getElem?_set_ne (by omega)]
    exact ⟨rfl, rfl⟩

set_option maxRecDepth 100000 in
set_option maxHeartbeats 1000000 in
theorem newHello_any (v : Int) (cs : Array Value) (hcs : cs.size = 32) (a2 a3 a4 a5 a6 a7 : Option Addr) (n2 n3 n4 n5 n c2 c3 c4 c5 c6 c7 : Nat) (ts : List Int) (us : List Value) (w : World) (hn : n ≤ 1048576) (h6 : At .u16 w a6 ts) (h6l : ts.length = n) (h7 : Outer w a7 n us) :
    Calls Try.prog 39 #[.int .u16 v, .agg cs, .slice a2 n2 c2, .slice a3 n3 c3, .slice a4 n4 c4, .slice a5 n5 c5, .slice a6 n c6, .slice a7 n c7] w fun e w' => HelloPost w n ts us e w' := by
  have hmk := fun w => make_exts n (by omega) w
  have size57 : (Try.prog.info? 57).map (·.size) = some cs.size := by rw [hcs]; exact Try.size57
  go_enter Try.func39, Try.ntmps39
  go_wp2
  go_loopw [24] (fun i wr => ∃ (k : Nat) (vs : List Value), k ≤ n ∧ i = .int .i64 k ∧ Hid (Exts vs n k ts us) ∧ Hid (wr.heap[w.heap.size + 1]? = some (.cells vs.toArray 70 (0, 0))) ∧ Below (w.heap.size + 1) (w.alloc (.cells cs 57)) wr) (fun i _ => n - (intOf i).toNat)
  case atStart => exact ⟨0, zexts n, Nat.zero_le _, rfl, ⟨length_zexts n, fun j hj => absurd hj (Nat.not_lt_zero _)⟩, exts_new _ _ _, (Below.refl _ _).alloc (by simp) _⟩
  case round =>
    obtain ⟨k, vs, hk, rfl, HE, HB, hbel⟩ := hrel
    by_cases hlt : k < n
    · obtain ⟨b7, o7, x, l, c, rfl, hc7, hu7⟩ := h7.2 k hlt
      obtain ⟨b6, o6, rfl, hc6⟩ := h6 k (by omega)
      have hw1 : Below w.heap.size w wr := ((Below.refl _ _).alloc (Nat.le_refl _) _ : Below w.heap.size w (w.alloc (.cells cs 57))).trans (hbel.mono (by omega))
      have g7 : wr.cell? ⟨b7, o7 + k, none⟩ = some (.slice x l c) := by rw [hw1.cell (p := ⟨b7, o7 + k, none⟩) (cell_lt hc7)]; exact hc7
      have g6 : wr.cell? ⟨b6, o6 + k, none⟩ = some (.int .u16 (ts.getD k 0)) := by rw [hw1.cell (p := ⟨b6, o6 + k, none⟩) (cell_lt hc6)]; exact hc6
      have HU : Hid (us.getD k undef = .slice x l c) := hu7
      obtain ⟨t, ht⟩ : ∃ t, ts.getD k 0 = t := ⟨_, rfl⟩
      rw [ht] at g6
      have HT : Hid (ts.getD k 0 = t) := ht
      clear ht
      obtain ⟨e0, f0⟩ := block_cell HB.out (k * 2) (by rw [HE.out.1]; omega)
      obtain ⟨e1, f1⟩ := block_cell HB.out (k * 2 + 1) (by rw [HE.out.1]; omega)
      generalize vs.getD (k * 2) undef = p0 at e0
      generalize vs.getD (k * 2 + 1) undef = p1 at e1
      have hlt' : (k : Int) < (n : Int) := by omega
      have n7 : b7 ≠ w.heap.size + 1 := by have := cell_lt hc7; omega
      have n6 : b6 ≠ w.heap.size + 1 := by have := cell_lt hc6; omega
      have n7' : w.heap.size + 1 ≠ b7 := n7.symm
      have n6' : w.heap.size + 1 ≠ b6 := n6.symm
      clear h6 h7 hc7 hc6 hu7 hw1 h6l
      go_wp2
      go_region_held3 (fun w' => w'.cell? ⟨b7, o7 + k, none⟩ = some (.slice x l c) ∧ w'.cell? ⟨b6, o6 + k, none⟩ = some (.int .u16 t)) (go_keep) (fail)
      go_wp2
      go_roundw
      case rel => exact ⟨k + 1, _, by omega, by go_num, Exts.step HE HU HT hlt, (block_set (block_set HB.out _ _) _ _), below_two hbel⟩
      case measure => simp [intOf]; omega
    · have hz : wr.heap[w.heap.size]? = some (.cells cs 57 (0, 0)) := (hbel.block _ (by omega)).trans (heap_alloc_new _ _)
      have HZ : Hid (wr.heap[w.heap.size]? = some (.cells cs 57 (0, 0))) := hz
      clear hz
      go_wp2_with (first | (refine wpList_load_row rfl 57 (.tmp 9) rfl w.heap.size rfl 57 cs (0, 0) (.array 32 5) HZ.out Try.underlying57 rfl size57 ?_) | (refine wpList_build rfl 96 #[(0, .tmp 40), (1, .tmp 41), (2, .tmp 42)] rfl #[(0, .int .u16 v), (1, .agg cs), (2, .slice a2 n2 c2)] (by simp only [List.map_toArray, List.map_cons, List.map_nil]; rfl) _ (run_build96 v cs hcs a2 n2 c2 _) ?_) | (refine wpList_build rfl 98 #[(0, .tmp 43), (1, .tmp 44), (2, .tmp 45), (3, .tmp 46), (4, .tmp 47)] rfl #[(0, .agg (headCells v cs (.slice a2 n2 c2))), (1, .slice a3 n3 c3), (2, .slice a4 n4 c4), (3, .slice a5 n5 c5), (4, .slice (some ⟨w.heap.size + 1, 0, none⟩) n n)] (by simp only [List.map_toArray, List.map_cons, List.map_nil]; rfl) _ (run_build98 v cs hcs a2 a3 a4 a5 _ n2 c2 n3 c3 n4 c4 n5 c5 _ _ _) ?_))
      go_ret
      have hk' : k = n := by omega
      have hsz := hbel.size
      rw [World.size_alloc] at hsz
      have hlt2 := block_lt HB.out
      exact ⟨wr.heap.size, w.heap.size + 1, vs, rfl, by omega, cell_new wr _ _ 37 _ (helloCells_37 v cs hcs (.slice a2 n2 c2) (.slice a3 n3 c3) (.slice a4 n4 c4) (.slice a5 n5 c5) (.slice (some ⟨w.heap.size + 1, 0, none⟩) n n)), by rw [Below.heap_alloc _ _ _ hlt2]; exact HB.out, by rw [← hk'] at HE ⊢; exact HE.out, (((Below.refl _ _).alloc (Nat.le_refl _) _).trans (hbel.mono (by omega))).alloc (by omega) _⟩

end Go.Proofs.Qxb6604433a
