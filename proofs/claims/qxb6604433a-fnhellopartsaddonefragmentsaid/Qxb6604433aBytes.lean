import Derived.Test.Qxb6604433aRows
import Derived.WalkKit
import Derived.WalkSpells
import Derived.WalkLawsBesides
import Derived.Deep.QuietTactic
import Derived.BigQuiet
import Derived.Laws.CopyOwn
namespace Go.Proofs.Qxb6604433a
open Go.RowKit Go.WideShapes
set_option linter.unusedVariables false
set_option linter.unusedSimpArgs false

/-- The slice of numbers that begins at 'a' reads 'zs' in w. -/
def At (k : IntKind) (w : World) (a : Option Addr) (zs : List Int) : Prop :=
  ∀ j, j < zs.length → ∃ b off, a = some ⟨b, off, none⟩ ∧ w.cell? ⟨b, off + j, none⟩ = some (.int k (zs.getD j 0))

theorem At.drewN {k : IntKind} {w : World} {a : Option Addr} {zs : List Int} (h : At k w a zs) (n : Nat) : At k (w.drewN n) a zs := by
  intro j hj
  obtain ⟨b, off, h1, h2⟩ := h j hj
  exact ⟨b, off, h1, by simpa using h2⟩

set_option maxHeartbeats 400000 in
theorem zzEq_ne (a1 a2 : Option Addr) (n1 n2 c1 c2 : Nat) (w : World) (hne : n1 ≠ n2) :
    Calls Try.prog 13 #[.slice a1 n1 c1, .slice a2 n2 c2] w fun e w' => e = .returned (.bool false) ∧ w' = w := by
  have hb : ((n1 : Int) != (n2 : Int)) = true := by rw [bne_iff_ne]; omega
  go_enter Try.func13, Try.ntmps13
  go_wp2
  go_ret
  exact ⟨rfl, rfl⟩

theorem drewN_drewN (w : World) (m n : Nat) : (w.drewN m).drewN n = w.drewN (m + n) := by
  simp [World.drewN, Nat.add_assoc]

theorem ret_bool {a b : Bool} (h : a = b) : Ending.returned (.bool a) = .returned (.bool b) := by rw [h]
theorem ret_int {k : IntKind} {a b : Int} (h : a = b) : Ending.returned (.int k a) = .returned (.int k b) := by rw [h]

theorem take_ext (xs ys : List Int) (k n : Nat) (hx : xs.length = n) (hy : ys.length = n) (hk : k < n) (h : xs.take k = ys.take k) (he : (xs[k]?.getD 0 != ys[k]?.getD 0) = false) : xs.take (k + 1) = ys.take (k + 1) := by
  rw [List.take_succ_eq_append_getElem (by omega), List.take_succ_eq_append_getElem (by omega), h]
  rw [List.getElem?_eq_getElem (by omega), List.getElem?_eq_getElem (by omega)] at he
  simp at he
  rw [he]

theorem take_ne (xs ys : List Int) (k : Nat) (he : (xs[k]?.getD 0 != ys[k]?.getD 0) = true) : decide (xs = ys) = false := by
  rw [decide_eq_false_iff_not]
  intro h
  rw [h] at he
  simp at he

set_option maxHeartbeats 400000 in
theorem zzEq_same (a1 a2 : Option Addr) (n c1 c2 : Nat) (xs ys : List Int) (w : World) (hx : xs.length = n) (hy : ys.length = n) (hm : n ≤ 4611686018427387904) (h1 : At .u8 w a1 xs) (h2 : At .u8 w a2 ys) :
    Calls Try.prog 13 #[.slice a1 n c1, .slice a2 n c2] w fun e w' => e = .returned (.bool (decide (xs = ys))) ∧ ∃ n, w' = w.drewN n := by
  have Hx : Hid (xs.length = n) := hx
  have Hy : Hid (ys.length = n) := hy
  clear hx hy
  go_enter Try.func13, Try.ntmps13
  go_wp2
  go_loopw [5] (fun i wr => ∃ k q : Nat, k ≤ n ∧ i = .int .i64 k ∧ wr = w.drewN q ∧ xs.take k = ys.take k) (fun i _ => n - (intOf i).toNat)
  case atStart => exact ⟨0, 0, Nat.zero_le _, rfl, rfl, rfl⟩
  case round =>
    obtain ⟨k, q, hk, rfl, rfl, heq⟩ := hrel
    have Heq : Hid (xs.take k = ys.take k) := heq
    clear heq
    by_cases hlt : k < n
    · obtain ⟨b1, o1, rfl, g1⟩ := h1 k (by rw [Hx.out]; exact hlt)
      obtain ⟨b2, o2, rfl, g2⟩ := h2 k (by rw [Hy.out]; exact hlt)
      clear h1 h2
      have hlt' : (k : Int) < (n : Int) := by omega
      go_wp2
      go_quiet (fail)
      go_wp2
      · go_ret
        exact ⟨ret_bool (take_ne xs ys k ‹_›).symm, _, drewN_drewN _ _ _⟩
      · go_roundw
        case rel => exact ⟨k + 1, q + nq, by omega, by go_num, rfl, take_ext xs ys k n Hx.out Hy.out hlt Heq.out ‹_›⟩
        case measure => simp [intOf]; omega
    · go_wp2
      go_ret
      exact ⟨by have := Heq.out; rw [List.take_of_length_le (by rw [Hx.out]; omega), List.take_of_length_le (by rw [Hy.out]; omega)] at this; exact ret_bool (by simp [this]), _, rfl⟩

/-- Two slices that read the same: true. -/
theorem zzEq_refl (a1 a2 : Option Addr) (n c1 c2 : Nat) (xs : List Int) (w : World) (hx : xs.length = n) (hm : n ≤ 4611686018427387904) (h1 : At .u8 w a1 xs) (h2 : At .u8 w a2 xs) :
    Calls Try.prog 13 #[.slice a1 n c1, .slice a2 n c2] w fun e w' => e = .returned (.bool true) ∧ ∃ n, w' = w.drewN n := by
  refine (zzEq_same a1 a2 n c1 c2 xs xs w hx hx hm h1 h2).mono ?_
  rintro e w' ⟨rfl, h⟩
  exact ⟨by simp, h⟩

/-! ### memory that is made: a row of numbers -/
def zeros (k : IntKind) (n : Nat) : List Value := List.replicate n (.int k 0)
def ints (k : IntKind) (zs : List Int) : List Value := zs.map (Value.int k)
theorem length_ints (k : IntKind) (zs : List Int) : (ints k zs).length = zs.length := by simp [ints]
theorem length_zeros (k : IntKind) (n : Nat) : (zeros k n).length = n := by simp [zeros]

theorem Try.info5 : (Try.prog.info? 5).map (fun i => (i.zero, i.size, i.bytes)) = some (some (.int .u8 0), 1, 1) := by kernel_rfl
theorem Try.info28 : (Try.prog.info? 28).map (fun i => (i.zero, i.size, i.bytes)) = some (some (.int .u16 0), 1, 2) := by kernel_rfl
theorem Try.size5 : (Try.prog.info? 5).map (·.size) = some 1 := by kernel_rfl
theorem Try.size28 : (Try.prog.info? 28).map (·.size) = some 1 := by kernel_rfl

theorem make_bytes (n : Nat) (hn : n ≤ 2097152) (w : World) :
    (Instr.makeSlice 22 (.int .i64 n) (.int .i64 n)).run Try.prog w = .ok (.slice (some ⟨w.heap.size, 0, none⟩) n n) (w.alloc (.cells (zeros .u8 n).toArray 5)) := by
  obtain ⟨i0, hi, hz0, hz1, hz2⟩ := info_parts Try.info5
  have h := run_make w 22 5 i0 (.int .u8 0) Try.underlying22 hi hz0 .i64 .i64 (n : Int) (n : Int) (by omega) (by omega) (by rw [hz2]; omega) (by omega)
  rw [h]
  have e : madeCells (Value.int .u8 0).cells ((n : Int).toNat * i0.size) = (zeros .u8 n).toArray := by
    apply Array.toList_inj.1
    rw [hz1]
    simp only [Int.toNat_natCast, Nat.mul_one]
    exact toList_madeCells_one _ _
  rw [e]
  simp

theorem splice_all {α : Type} (L cs : List α) (h : L.length = cs.length) : splice L 0 cs = cs := by
  simp [splice, h]

theorem At.of_block {k : IntKind} {w : World} {g : Nat} {zs : List Int} {t : TypeId} {f : Nat × Nat} (h : w.heap[g]? = some (.cells (ints k zs).toArray t f)) : At k w (some ⟨g, 0, none⟩) zs := by
  intro j hj
  refine ⟨g, 0, rfl, ?_⟩
  simp [World.cell?, h, ints, hj]

theorem cell_lt {w : World} {b o : Nat} {v : Value} (h : w.cell? ⟨b, o, none⟩ = some v) : b < w.heap.size := by
  unfold World.cell? at h
  by_cases hb : b < w.heap.size
  · exact hb
  · rw [Array.getElem?_eq_none (by simpa using hb)] at h
    simp at h

theorem At.below {k : IntKind} {w w' : World} {a : Option Addr} {zs : List Int} (h : At k w a zs) (hb : Below w.heap.size w w') : At k w' a zs := by
  intro j hj
  obtain ⟨b, off, h1, h2⟩ := h j hj
  exact ⟨b, off, h1, by rw [hb.cell (p := ⟨b, off + j, none⟩) (cell_lt h2)]; exact h2⟩

/-- The cells of a source of 'copy'. -/
theorem At.src {k : IntKind} {w : World} {a : Option Addr} {zs : List Int} (h : At k w a zs) (hp : 0 < (ints k zs).length) : ∃ ad, a = some ad ∧ ∀ j v, (ints k zs)[j]? = some v → w.cell? (ad.add j) = some v := by
  obtain ⟨b, off, rfl, _⟩ := h 0 (by simpa [ints] using hp)
  refine ⟨_, rfl, fun j v hv => ?_⟩
  have hj : j < zs.length := by
    have := (List.getElem?_eq_some_iff.1 hv).1
    simpa [ints] using this
  obtain ⟨b', off', e, h2⟩ := h j hj
  cases e
  rw [add_plain, h2]
  simp [ints, hj] at hv ⊢
  exact hv

/-- 'copy' as an equation on its run, the world behind it a letter: 'cs' lies over the row 'cur' of block g from place 'off' on; no other block has turned. -/
theorem copy_ex {P : Program} (w : World) (dT sT ty elem : TypeId) (hu : P.underlying dT = some (.slice elem)) (hsz : (P.info? elem).map (·.size) = some 1)
    (dp sp : Option Addr) (dLen dCap sLen sCap : Nat) (g off : Nat) (cur : List Value) (t : TypeId) (hg : w.heap[g]? = some (.cells cur.toArray t (0, 0))) (cs : List Value) (m : Nat) (hm : cs.length = m) (hn : m = Nat.min sLen dLen)
    (hpos : 0 < cs.length → dp = some ⟨g, off, none⟩ ∧ ∃ ad, sp = some ad ∧ ∀ j v, cs[j]? = some v → w.cell? (ad.add j) = some v)
    (hfit : off + m ≤ cur.length) (h1 : ∀ v ∈ cs, v.oneCell' = true) :
    ∃ w', (Builtin.copy_ #[dT, sT] ty #[.slice dp dLen dCap, .slice sp sLen sCap]).run P w = .ok (.int .i64 m) w' ∧ Hid (w'.heap[g]? = some (.cells (splice cur off cs).toArray t (0, 0))) ∧ w.grownBy w' (some g) ∧ Hid (w'.heap.size = w.heap.size) := by
  subst hm
  by_cases h0 : cs.length = 0
  · obtain rfl : cs = [] := List.eq_nil_of_length_eq_zero h0
    refine ⟨w, ?_, ?_, World.grownBy.refl _ _, rfl⟩
    · have := run_copy_none (P := P) w dT sT ty elem dp sp dLen dCap sLen sCap hu hsz (by simpa using hn.symm)
      rw [this]; rfl
    · show _ = _
      simpa [splice] using hg
  · obtain ⟨rfl, ad, rfl, hsrc⟩ := hpos (by omega)
    refine ⟨_, run_copy_row (P := P) w dT sT ty elem g off dLen dCap ad sLen sCap cur.toArray t cs hu hsz hg hn hsrc (by simpa using hfit) h1, ?_, ?_, ?_⟩
    · show _ = _
      rw [setRow_heap w g _ _ t _ hg]
      simp [splice]
    · exact ⟨rfl, rfl, rfl, by simp [World.setRow], fun i _ hi => setRow_other w g i _ (fun e => hi (by rw [e]))⟩
    · show _ = _
      simp [World.setRow]

theorem grown_trans_alloc {w w' : World} {o : Obj} (h : (w.alloc o).grownBy w' (some w.heap.size)) : Below w.heap.size w w' :=
  ((Below.refl _ _).alloc (Nat.le_refl _) o).grown h (by simp) (fun k hk => by cases hk; exact Nat.le_refl _)

set_option maxHeartbeats 400000 in
theorem zzClone_nil (w : World) : Calls Try.prog 11 #[.slice none 0 0] w fun e w' => e = .returned (.slice none 0 0) ∧ w' = w := by
  have hq := fun (w : World) (a : Option Addr) (n c : Nat) => Lib.run_eql_slice_nil (P := Try.prog) w 22 5 a n c 0 0 Try.underlying22
  go_enter Try.func11, Try.ntmps11
  go_wp2
  go_ret
  exact ⟨rfl, rfl⟩

set_option maxRecDepth 100000 in
set_option maxHeartbeats 400000 in
theorem zzClone_any (x : Addr) (n c : Nat) (zs : List Int) (w : World) (hz : zs.length = n) (hn : n ≤ 2097152) (h : At .u8 w (some x) zs) :
    Calls Try.prog 11 #[.slice (some x) n c] w fun e w' => e = .returned (.slice (some ⟨w.heap.size, 0, none⟩) n n) ∧ w'.heap[w.heap.size]? = some (.cells (ints .u8 zs).toArray 5 (0, 0)) ∧ Below w.heap.size w w' := by
  have hmk := fun w => make_bytes n hn w
  have Hz : Hid (zs.length = n) := hz
  have hq := fun (w : World) (a : Option Addr) (n c : Nat) => Lib.run_eql_slice_nil (P := Try.prog) w 22 5 a n c 0 0 Try.underlying22
  clear hz
  obtain ⟨w1, hrun, hg1, hgr, hs1⟩ := copy_ex (P := Try.prog) (w.alloc (.cells (zeros .u8 n).toArray 5)) 22 22 3 5 Try.underlying22 Try.size5 (some ⟨w.heap.size, 0, none⟩) (some x) n n n c w.heap.size 0 (zeros .u8 n) 5
    (heap_alloc_new _ _) (ints .u8 zs) n (by rw [length_ints, Hz.out]) (by simp) (fun hp => ⟨rfl, (h.below ((Below.refl _ _).alloc (Nat.le_refl _) _)).src hp⟩) (by rw [length_zeros]; omega) (ints_oneCell _ _)
  have hb1 := grown_trans_alloc hgr
  clear hgr
  go_enter Try.func11, Try.ntmps11
  go_wp2
  go_ret
  refine ⟨rfl, ?_, hb1⟩
  rw [hg1.out, splice_all _ _ (by rw [length_ints, length_zeros, Hz.out])]

end Go.Proofs.Qxb6604433a
