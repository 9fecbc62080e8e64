import Derived.Test.Qxb6604433aClone16
import Derived.Deep.DeepMust
namespace Go.Proofs.Qxb6604433a
open Go.RowKit Go.WideShapes
set_option linter.unusedVariables false
set_option linter.unusedSimpArgs false

theorem Try.info22 : (Try.prog.info? 22).map (fun i => (i.zero, i.size, i.bytes)) = some (some (.slice none 0 0), 1, 24) := by kernel_rfl

/-- A slice of bytes that can be cloned in w. -/
def Inner (w : World) (v : Value) : Prop :=
  v = .slice none 0 0 ∨ ∃ x n c zs, v = .slice (some x) n c ∧ zs.length = n ∧ n ≤ 2097152 ∧ At .u8 w (some x) zs

theorem Inner.below {w w' : World} {v : Value} (h : Inner w v) (hb : Below w.heap.size w w') : Inner w' v := by
  rcases h with h | ⟨x, n, c, zs, h1, h2, h3, h4⟩
  · exact .inl h
  · exact .inr ⟨x, n, c, zs, h1, h2, h3, h4.below hb⟩

def IsSlice (v : Value) : Prop := ∃ a n c, v = .slice a n c

def nils (n : Nat) : List Value := List.replicate n (.slice none 0 0)
theorem length_nils (n : Nat) : (nils n).length = n := by simp [nils]

theorem make_slices (n : Nat) (hn : n ≤ 2097152) (w : World) :
    (Instr.makeSlice 59 (.int .i64 n) (.int .i64 n)).run Try.prog w = .ok (.slice (some ⟨w.heap.size, 0, none⟩) n n) (w.alloc (.cells (nils n).toArray 22)) := by
  obtain ⟨i0, hi, hz0, hz1, hz2⟩ := info_parts Try.info22
  have h := run_make w 59 22 i0 (.slice none 0 0) Try.underlying59 hi hz0 .i64 .i64 (n : Int) (n : Int) (by omega) (by omega) (by rw [hz2]; omega) (by omega)
  rw [h]
  have e : madeCells (Value.slice none 0 0).cells ((n : Int).toNat * i0.size) = (nils n).toArray := by
    apply Array.toList_inj.1
    rw [hz1]
    simp only [Int.toNat_natCast, Nat.mul_one]
    exact toList_madeCells_one _ _
  rw [e]
  simp

/-- Block g of w is a row of n cells, the values vs. -/
theorem block_set {w : World} {g : Nat} {vs : List Value} {t : TypeId} (h : w.heap[g]? = some (.cells vs.toArray t (0, 0))) (k : Nat) (v : Value) :
    (w.setCell ⟨g, k, none⟩ v).heap[g]? = some (.cells (vs.set k v).toArray t (0, 0)) := by
  rw [setCell_eq_setRow w g k vs.toArray t (0, 0) v h, setRow_heap w g _ _ t _ h]
  simp

theorem block_cell {w : World} {g : Nat} {vs : List Value} {t : TypeId} (h : w.heap[g]? = some (.cells vs.toArray t (0, 0))) (k : Nat) (hk : k < vs.length) :
    w.cell? ⟨g, k, none⟩ = some (vs.getD k undef) ∧ w.frozen? ⟨g, k, none⟩ = false := by
  constructor
  · simp [World.cell?, h, hk]
  · simp [World.frozen?, h]

theorem block_lt {w : World} {g : Nat} {o : Obj} (h : w.heap[g]? = some o) : g < w.heap.size := by
  rw [Array.getElem?_eq_some_iff] at h
  exact h.1

theorem mem_set {P : Value → Prop} {vs : List Value} (h : ∀ v ∈ vs, P v) (k : Nat) (x : Value) (hx : P x) : ∀ v ∈ vs.set k x, P v := by
  intro v hv
  rcases List.mem_or_eq_of_mem_set hv with h1 | h1
  · exact h v h1
  · rw [h1]; exact hx

set_option maxHeartbeats 400000 in
theorem zzCloneDeep_nil (w : World) : Calls Try.prog 38 #[.slice none 0 0] w fun e w' => e = .returned (.slice none 0 0) ∧ w' = w := by
  have hq := fun (w : World) (a : Option Addr) (n c : Nat) => Lib.run_eql_slice_nil (P := Try.prog) w 59 22 a n c 0 0 Try.underlying59
  go_enter Try.func38, Try.ntmps38
  go_wp2
  go_ret
  exact ⟨rfl, rfl⟩

set_option maxRecDepth 100000 in
set_option maxHeartbeats 400000 in
theorem zzCloneDeep_any (x : Addr) (n c : Nat) (us : List Value) (w : World) (hz : us.length = n) (hn : n ≤ 2097152)
    (hc : ∀ j, j < n → ∃ b off, x = ⟨b, off, none⟩ ∧ w.cell? ⟨b, off + j, none⟩ = some (us.getD j undef)) (hin : ∀ j, j < n → Inner w (us.getD j undef)) :
    Calls Try.prog 38 #[.slice (some x) n c] w fun e w' => e = .returned (.slice (some ⟨w.heap.size, 0, none⟩) n n) ∧ (∃ vs : List Value, vs.length = n ∧ (∀ v ∈ vs, IsSlice v) ∧ w'.heap[w.heap.size]? = some (.cells vs.toArray 22 (0, 0))) ∧ Below w.heap.size w w' := by
  have hmk := fun w => make_slices n hn w
  have Hz : Hid (us.length = n) := hz
  have hq := fun (w : World) (a : Option Addr) (n c : Nat) => Lib.run_eql_slice_nil (P := Try.prog) w 59 22 a n c 0 0 Try.underlying59
  clear hz
  go_enter Try.func38, Try.ntmps38
  go_wp2
  go_loopw [4] (fun i wr => ∃ (k : Nat) (vs : List Value), k ≤ n ∧ i = .int .i64 k ∧ vs.length = n ∧ (∀ v ∈ vs, IsSlice v) ∧ wr.heap[w.heap.size]? = some (.cells vs.toArray 22 (0, 0)) ∧ Below w.heap.size w wr) (fun i _ => n - (intOf i).toNat)
  case atStart => exact ⟨0, nils n, Nat.zero_le _, rfl, length_nils n, fun v hv => ⟨none, 0, 0, List.eq_of_mem_replicate hv⟩, heap_alloc_new _ _, (Below.refl _ _).alloc (Nat.le_refl _) _⟩
  case round =>
    obtain ⟨k, vs, hk, rfl, hvl, hvs, hblk, hbel⟩ := hrel
    have Hvl : Hid (vs.length = n) := hvl
    have Hvs : Hid (∀ v ∈ vs, IsSlice v) := hvs
    have Hblk : Hid (wr.heap[w.heap.size]? = some (.cells vs.toArray 22 (0, 0))) := hblk
    have hltN := block_lt hblk
    clear hvl hvs hblk
    by_cases hlt : k < n
    · obtain ⟨b, off, rfl, hcj⟩ := hc k hlt
      have hck : wr.cell? ⟨b, off + k, none⟩ = some (us.getD k undef) := by rw [hbel.cell (p := ⟨b, off + k, none⟩) (cell_lt hcj)]; exact hcj
      have hik := (hin k hlt).below hbel
      generalize us.getD k undef = u at hck hik
      clear hc hin hcj
      rcases hik with rfl | ⟨x, m, c2, zs, rfl, hzl, hm, hat⟩
      · obtain ⟨hcN, hfN⟩ := block_cell Hblk.out k (by rw [Hvl.out]; exact hlt)
        go_wp2_with (go_at_call 11; go_must (refine (zzClone_nil _).mono ?_); rintro e w' ⟨rfl, rfl⟩)
        go_roundw
        case rel => exact ⟨k + 1, vs.set k (.slice none 0 0), by omega, by go_num, by rw [List.length_set]; exact Hvl.out, mem_set Hvs.out k _ ⟨_, _, _, rfl⟩, block_set Hblk.out k _, hbel.setCell (Nat.le_refl _) _⟩
        case measure => simp [intOf]; omega
      · go_wp2_with (go_at_call 11; go_must (refine (zzClone_any _ _ _ zs _ hzl hm hat).mono ?_); rintro e w1 ⟨rfl, hg1, hb1⟩; have HB : Hid (w1.heap[w.heap.size]? = some (.cells vs.toArray 22 (0, 0))) := (hb1.block _ hltN).trans Hblk.out; obtain ⟨hcN, hfN⟩ := block_cell HB.out k (by rw [Hvl.out]; exact hlt))
        go_roundw
        case rel => exact ⟨k + 1, vs.set k (.slice (some ⟨wr.heap.size, 0, none⟩) m m), by omega, by go_num, by rw [List.length_set]; exact Hvl.out, mem_set Hvs.out k _ ⟨_, _, _, rfl⟩, block_set HB.out k _, (hbel.trans (hb1.mono (by omega))).setCell (Nat.le_refl _) _⟩
        case measure => simp [intOf]; omega
    · go_wp2
      go_ret
      exact ⟨rfl, ⟨vs, Hvl.out, Hvs.out, Hblk.out⟩, hbel⟩

end Go.Proofs.Qxb6604433a
