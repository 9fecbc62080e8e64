/-
  FnFilledCountAgreesWithWordTopBits: the walk.
-/
import Derived.Test.Qxb6604677aFill
import Derived.WalkSpells
import Derived.WalkLawsBesides
import Derived.Deep.QuietTactic
import Derived.BigQuiet
import Derived.Laws.CopyOwn
import Derived.Handy
namespace Go.Proofs.Qxb6604677a
open Go.RowKit Go.WideShapes
set_option linter.unusedVariables false
set_option linter.unusedSimpArgs false

theorem block_set {w : World} {g : Nat} {vs : List Value} {t : TypeId} (h : w.heap[g]? = some (.cells vs.toArray t (0, 0))) (k : Nat) (v : Value) :
    (w.setCell ⟨g, k, none⟩ v).heap[g]? = some (.cells (vs.set k v).toArray t (0, 0)) := by
  rw [setCell_eq_setRow w g k vs.toArray t (0, 0) v h, setRow_heap w g _ _ t _ h]
  simp
theorem block_cell {w : World} {g : Nat} {vs : List Value} {t : TypeId} (h : w.heap[g]? = some (.cells vs.toArray t (0, 0))) (k : Nat) (hk : k < vs.length) :
    w.cell? ⟨g, k, none⟩ = some (vs.getD k undef) ∧ w.frozen? ⟨g, k, none⟩ = false := by
  constructor
  · simp [World.cell?, h, hk]
  · simp [World.frozen?, h]
theorem cell_lt {w : World} {b o : Nat} {v : Value} (h : w.cell? ⟨b, o, none⟩ = some v) : b < w.heap.size := by
  rcases Nat.lt_or_ge b w.heap.size with h1 | h1
  · exact h1
  · simp [World.cell?, Array.getElem?_eq_none h1] at h

def words (zs : List Int) : List Value := zs.map (Value.int .u64)
theorem length_words (zs : List Int) : (words zs).length = zs.length := by simp [words]
theorem Try.info27 : (Try.prog.info? 27).map (fun i => (i.zero, i.size, i.bytes)) = some (some (.int .u64 0), 1, 8) := by kernel_rfl
theorem make_words (n : Nat) (hn : n ≤ 2097152) (w : World) :
    (Instr.makeSlice 25 (.int .i64 n) (.int .i64 n)).run Try.prog w = .ok (.slice (some ⟨w.heap.size, 0, none⟩) n n) (w.alloc (.cells (words (List.replicate n 0)).toArray 27)) := by
  obtain ⟨i0, hi, hz0, hz1, hz2⟩ := info_parts Try.info27
  have h := run_make w 25 27 i0 (.int .u64 0) Try.underlying25 hi hz0 .i64 .i64 (n : Int) (n : Int) (by omega) (by omega) (by rw [hz2]; omega) (by omega)
  rw [h]
  have e : madeCells (Value.int .u64 0).cells ((n : Int).toNat * i0.size) = (words (List.replicate n 0)).toArray := by
    apply Array.toList_inj.1
    rw [hz1]
    simp only [Int.toNat_natCast, Nat.mul_one]
    exact (toList_madeCells_one _ _).trans (by simp [words])
  rw [e]
  simp

theorem words_cell {w : World} {g : Nat} {zs : List Int} (h : w.heap[g]? = some (.cells (words zs).toArray 27 (0, 0))) {i : Nat} (hi : i < zs.length) : w.cell? ⟨g, 0 + i, none⟩ = some (.int .u64 (zs.getD i 0)) := by
  have := (block_cell h i (by rw [length_words]; exact hi)).1
  rw [Nat.zero_add, this]
  simp [words, hi]

/-- One word of such a row, as a slice of its own. -/
theorem slice_one (g n i : Nat) (hi : i < n) (x y : Int) (hx : x = i) (hy : y = i + 1) (w : World) : (Instr.sliceAt 25 (.slice (some ⟨g, 0, none⟩) n n) (some (.int .i64 x)) (some (.int .i64 y)) none).run Try.prog w = .ok (.slice (some ⟨g, i, none⟩) 1 (n - i)) w := by
  subst hx
  subst hy
  have hs : (sizeOf 27).run Try.prog w = .ok 1 w := by kernel_rfl
  have h1 : ¬ n = i := by omega
  obtain ⟨m, hm⟩ : ∃ m, m = i + 1 := ⟨_, rfl⟩
  have h3 : m ≤ n := by omega
  have h4 : i ≤ m := by omega
  have h5 : m - i = 1 := by omega
  rw [show (i : Int) + 1 = (m : Int) from by omega]
  simp [Instr.sliceAt, run_underlying Try.underlying25, Instr.slice, Instr.sliceBounds, run_sliceBound, hs, add_plain, h1, h3, h4, h5]

theorem set_same {rs zs : List Int} {n k : Nat} {t : Int} (h : rs.length = n ∧ ∀ j, j < k → rs.getD j 0 = zs.getD j 0) (ht : zs.getD k 0 = t) (hk : k < n) : (rs.set k t).length = n ∧ ∀ j, j < k + 1 → (rs.set k t).getD j 0 = zs.getD j 0 := by
  refine ⟨by simpa using h.1, fun j hj => ?_⟩
  by_cases e : j = k
  · subst e
    rw [ht]
    have : j < rs.length := by omega
    simp [this]
  · rw [← h.2 j (by omega)]
    simp only [List.getD_eq_getElem?_getD]
    rw [List.getElem?_set_ne (by omega)]

theorem same_all {rs zs : List Int} {n : Nat} (h : rs.length = n ∧ ∀ j, j < n → rs.getD j 0 = zs.getD j 0) (hz : zs.length = n) : rs = zs := by
  apply List.ext_getElem
  · omega
  · intro j h1 h2
    have := h.2 j (by omega)
    rw [List.getD_eq_getElem?_getD, List.getD_eq_getElem?_getD, List.getElem?_eq_getElem h1, List.getElem?_eq_getElem h2] at this
    simpa using this

theorem words_set {w : World} {g : Nat} {rs : List Int} (h : Hid (w.heap[g]? = some (.cells (words rs).toArray 27 (0, 0)))) (k : Nat) (t : Int) :
    Hid ((w.setCell ⟨g, k, none⟩ (.int .u64 t)).heap[g]? = some (.cells (words (rs.set k t)).toArray 27 (0, 0))) := by
  show _ = _
  rw [block_set h.out k (.int .u64 t)]
  simp [words, List.map_set]

theorem words_new (w : World) (n : Nat) : Hid ((w.alloc (.cells (words (List.replicate n 0)).toArray 27)).heap[w.heap.size]? = some (.cells (words (List.replicate n 0)).toArray 27 (0, 0))) := by
  show _ = _
  rw [heap_alloc_new]

set_option maxRecDepth 100000 in
set_option maxHeartbeats 2000000 in
theorem countLaw (x : Addr) (n c : Nat) (zs : List Int) (w : World) (hz : zs.length = n) (hat : ∀ i, i < n → ∃ b o, x = ⟨b, o, none⟩ ∧ w.cell? ⟨b, o + i, none⟩ = some (.int .u64 (zs.getD i 0))) (hwf : ∀ i, i < n → 0 ≤ zs.getD i 0 ∧ zs.getD i 0 ≤ 18446744073709551615) :
    Calls Try.prog 5 #[.slice (some x) n c] w fun e w' => e = .returned (.bool true) ∧ Below w.heap.size w w' := by
  have Hz : Hid (zs.length = n) := hz
  have Hat : Hid (∀ i, i < n → ∃ b o, x = ⟨b, o, none⟩ ∧ w.cell? ⟨b, o + i, none⟩ = some (.int .u64 (zs.getD i 0))) := hat
  have Hwf : Hid (∀ i, i < n → 0 ≤ zs.getD i 0 ∧ zs.getD i 0 ≤ 18446744073709551615) := hwf
  clear hz hat hwf
  have hnq := fun (w : World) (a : Option Addr) (n c : Nat) => run_neq_slice_nil_any (P := Try.prog) w 25 27 a n c 0 0 Try.underlying25
  go_enter Try.func5, Try.ntmps5
  go_wp2_with fail
  refine (zzBytes7 _ n c w).mono ?_
  rintro e w' ⟨⟨bb, rfl⟩, rfl⟩
  cases bb with
  | false =>
    go_wp2
    go_ret
    exact ⟨rfl, Below.refl _ _⟩
  | true =>
    by_cases hn : 131072 < n
    · go_wp2
      go_ret
      exact ⟨rfl, Below.refl _ _⟩
    have hn' : n ≤ 131072 := by omega
    clear hn
    have hmk := fun w => make_words n (by omega) w
    go_wp2
    go_loopw [24] (fun i wr => ∃ (k : Nat) (rs : List Int), k ≤ n ∧ i = .int .i64 k ∧ Hid (rs.length = n ∧ ∀ j, j < k → rs.getD j 0 = zs.getD j 0) ∧ Hid (wr.heap[w.heap.size]? = some (.cells (words rs).toArray 27 (0, 0))) ∧ Below w.heap.size w wr) (fun i _ => n - (intOf i).toNat)
    case atStart => exact ⟨0, List.replicate n 0, Nat.zero_le _, rfl, ⟨by simp, fun j hj => absurd hj (Nat.not_lt_zero _)⟩, words_new _ _, (Below.refl _ _).alloc (Nat.le_refl _) _⟩
    case round =>
      obtain ⟨k, rs, hk, rfl, HR, HN, hbr⟩ := hrel
      by_cases hlt : k < n
      · obtain ⟨b, o, rfl, hc⟩ := Hat.out k hlt
        have g6 : wr.cell? ⟨b, o + k, none⟩ = some (.int .u64 (zs.getD k 0)) := by rw [hbr.cell (p := ⟨b, o + k, none⟩) (cell_lt hc)]; exact hc
        obtain ⟨e0, f0⟩ := block_cell HN.out k (by rw [length_words, HR.out.1]; exact hlt)
        obtain ⟨t, ht⟩ : ∃ t, zs.getD k 0 = t := ⟨_, rfl⟩
        rw [ht] at g6
        have HT : Hid (zs.getD k 0 = t) := ht
        clear ht hc
        go_wp2
        go_roundw
        case rel => exact ⟨k + 1, rs.set k t, by omega, by go_num, set_same HR.out HT.out hlt, words_set HN k t, hbr.setCell (Nat.le_refl _) _⟩
        case measure => simp [intOf]; omega
      · have ek : k = n := by omega
        subst ek
        have ers := same_all HR.out Hz.out
        subst ers
        clear HR
        obtain ⟨g, hg⟩ : ∃ g, w.heap.size = g := ⟨_, rfl⟩
        rw [hg] at HN ⊢
        have Hg : Hid (w.heap.size = g) := hg
        have Hb : Hid (Below w.heap.size w wr) := hbr
        clear hg hbr
        go_wp2
        go_loop [5, 6] (fun t s => ∃ q : Nat, q ≤ 8 * k ∧ s = .int .i64 q ∧ t = .int .i64 (cnt rs q)) (fun _ s => 8 * k - (intOf s).toNat)
        case atStart => exact ⟨0, by omega, rfl, rfl⟩
        case round =>
          obtain ⟨q, hq, rfl, rfl⟩ := hrel
          have hcl := cnt_le rs q
          by_cases hql : q < 8 * k
          · have hi : q / 8 < k := by omega
            have hcell := words_cell HN.out (i := q / 8) (by rw [Hz.out]; exact hi)
            obtain ⟨b0, b1⟩ := Hwf.out (q / 8) hi
            have hsl := fun w => slice_one g k (q / 8) hi ((q : Int) / 8) ((q : Int) / 8 + 1) (by omega) (by omega) w
            have h1 := filled8 g 0 k k q (q / 8) (q % 8) (rs.getD (q / 8) 0) wr (by omega) (by omega) hi (by omega) b0 b1 hcell
            have h2 := filled8 g (q / 8) 1 (k - q / 8) (q % 8) 0 (q % 8) (rs.getD (q / 8) 0) wr (by omega) (by omega) (by omega) (by omega) b0 b1 (by rw [Nat.zero_add] at hcell; exact hcell)
            have hcs := cnt_succ rs q
            have hql' : (q : Int) < 8 * (k : Int) := by omega
            have hcast : ((q % 8 : Nat) : Int) = (q : Int) % 8 := by omega
            rw [hcast] at h2
            obtain ⟨F, hF⟩ : ∃ F, fill (rs.getD (q / 8) 0) (q % 8) = F := ⟨_, rfl⟩
            rw [hF] at h1 h2 hcs
            clear hF hcell b0 b1 hcast
            cases F with
            | true =>
              have Hcs : Hid (cnt rs (q + 1) = cnt rs q + 1) := by show _ = _; simpa using hcs
              clear hcs
              go_wp2_with fail
              refine h1.mono ?_
              rintro e w' ⟨rfl, rfl⟩
              go_wp2_with fail
              refine h2.mono ?_
              rintro e w' ⟨rfl, rfl⟩
              clear h1 h2
              go_wp2
              go_round
              case rel => exact ⟨q + 1, by omega, by go_num, by rw [Hcs.out]; go_num⟩
              case measure => simp [intOf]; omega
            | false =>
              have Hcs : Hid (cnt rs (q + 1) = cnt rs q) := by show _ = _; simpa using hcs
              clear hcs
              go_wp2_with fail
              refine h1.mono ?_
              rintro e w' ⟨rfl, rfl⟩
              go_wp2_with fail
              refine h2.mono ?_
              rintro e w' ⟨rfl, rfl⟩
              clear h1 h2
              go_wp2
              go_round
              case rel => exact ⟨q + 1, by omega, by go_num, by rw [Hcs.out]⟩
              case measure => simp [intOf]; omega
          · have eq8 : q = 8 * k := by omega
            subst eq8
            have hcw := cnt_wnt rs k
            go_wp2
            go_loop [9, 10] (fun t s => ∃ i : Nat, i ≤ k ∧ s = .int .i64 i ∧ t = .int .i64 (wnt rs i)) (fun _ s => k - (intOf s).toNat)
            case atStart => exact ⟨0, by omega, rfl, rfl⟩
            case round =>
              obtain ⟨i, hi, rfl, rfl⟩ := hrel
              have hwl := wnt_le rs i
              by_cases hil : i < k
              · have hcell := words_cell HN.out (i := i) (by rw [Hz.out]; exact hil)
                rw [Nat.zero_add] at hcell
                obtain ⟨b0, b1⟩ := Hwf.out i hil
                have h9 := tops9 (rs.getD i 0) wr b0 b1
                have hle := tops_le (rs.getD i 0)
                have hws := wnt_succ rs i
                obtain ⟨T, hT⟩ : ∃ T, topsTo (rs.getD i 0) 8 = T := ⟨_, rfl⟩
                rw [hT] at h9 hle hws
                obtain ⟨y, hy⟩ : ∃ y, rs.getD i 0 = y := ⟨_, rfl⟩
                rw [hy] at hcell h9
                have Hws : Hid (wnt rs (i + 1) = wnt rs i + (8 - T)) := hws
                clear hws hT hy b0 b1
                go_wp2_with fail
                refine h9.mono ?_
                rintro e w' ⟨rfl, rfl⟩
                clear h9
                go_wp2
                go_round
                case rel => exact ⟨i + 1, by omega, by go_num, by rw [Hws.out]; go_num⟩
                case measure => simp [intOf]; omega
              · have ei : i = k := by omega
                subst ei
                go_wp2
                go_ret
                exact ⟨rfl, Hb.out⟩

set_option maxRecDepth 100000 in
set_option maxHeartbeats 1000000 in
theorem countLaw_nil (w : World) : Calls Try.prog 5 #[.slice none 0 0] w fun e w' => e = .returned (.bool true) ∧ Below w.heap.size w w' := by
  have hnq := fun (w : World) (a : Option Addr) (n c : Nat) => run_neq_slice_nil_any (P := Try.prog) w 25 27 a n c 0 0 Try.underlying25
  go_enter Try.func5, Try.ntmps5
  go_wp2_with fail
  refine (zzBytes7 _ 0 0 w).mono ?_
  rintro e w' ⟨⟨bb, rfl⟩, rfl⟩
  cases bb with
  | false =>
    go_wp2
    go_ret
    exact ⟨rfl, Below.refl _ _⟩
  | true =>
    go_wp2
    go_loop [5, 6] (fun t s => t = .int .i64 0 ∧ s = .int .i64 0) (fun _ _ => 0)
    case atStart => exact ⟨rfl, rfl⟩
    case round =>
      obtain ⟨rfl, rfl⟩ := hrel
      go_wp2
      go_loop [9, 10] (fun t s => t = .int .i64 0 ∧ s = .int .i64 0) (fun _ _ => 0)
      case atStart => exact ⟨rfl, rfl⟩
      case round =>
        obtain ⟨rfl, rfl⟩ := hrel
        go_wp2
        go_ret
        exact ⟨rfl, Below.refl _ _⟩

end Go.Proofs.Qxb6604677a
