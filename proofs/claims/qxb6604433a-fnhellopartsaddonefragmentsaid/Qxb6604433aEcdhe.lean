import Derived.Test.Qxb6604433aClones
import Derived.Handy
namespace Go.Proofs.Qxb6604433a
open Go.RowKit Go.WideShapes
set_option linter.unusedVariables false
set_option linter.unusedSimpArgs false

theorem below_drewN' {B : Nat} {w w' : World} (h : Below B w w') (n : Nat) : Below B w (w'.drewN n) := ⟨h.os, h.tape, h.output, h.size, h.block⟩

/-- The first k of 'rs' are the last k of 'ts', turned round. -/
def RevTo (ts rs : List Int) (n k : Nat) : Prop := rs.length = n ∧ ∀ j, j < k → rs.getD j 0 = ts.getD (n - 1 - j) 0

theorem RevTo.step {ts rs : List Int} {n k : Nat} {t : Int} (h : RevTo ts rs n k) (ht : Hid (ts.getD (n - 1 - k) 0 = t)) (hk : k < n) : Hid (RevTo ts (rs.set k t) n (k + 1)) := by
  refine ⟨by simpa using h.1, fun j hj => ?_⟩
  by_cases e : j = k
  · subst e
    rw [ht.out]
    have : j < rs.length := by rw [h.1]; exact hk
    simp [this]
  · rw [← h.2 j (by omega)]
    simp only [List.getD_eq_getElem?_getD]
    rw [List.getElem?_set_ne (by omega)]

theorem RevTo.mem {ts rs : List Int} {n : Nat} (h : RevTo ts rs n n) (hl : ts.length = n) (q : Int) : q ∈ rs ↔ q ∈ ts := by
  constructor
  · intro hq
    obtain ⟨j, hj, e⟩ := List.mem_iff_getElem.1 hq
    have h2 := h.2 j (by rw [← h.1]; exact hj)
    have hj' : n - 1 - j < ts.length := by have := h.1; omega
    rw [List.getD_eq_getElem?_getD, List.getD_eq_getElem?_getD, List.getElem?_eq_getElem hj, List.getElem?_eq_getElem hj'] at h2
    rw [← e]
    have h3 : rs[j] = ts[n - 1 - j] := by simpa using h2
    rw [h3]
    exact List.getElem_mem hj'
  · intro hq
    obtain ⟨j, hj, e⟩ := List.mem_iff_getElem.1 hq
    have hn0 : j < n := by omega
    have h2 := h.2 (n - 1 - j) (by omega)
    rw [show n - 1 - (n - 1 - j) = j from by omega] at h2
    have hj' : n - 1 - j < rs.length := by have := h.1; omega
    rw [List.getD_eq_getElem?_getD, List.getD_eq_getElem?_getD, List.getElem?_eq_getElem hj, List.getElem?_eq_getElem hj'] at h2
    rw [← e]
    have h3 : rs[n - 1 - j] = ts[j] := by simpa using h2
    rw [← h3]
    exact List.getElem_mem hj'

theorem zeros_new (w : World) (n : Nat) : Hid ((w.alloc (.cells (zeros .u16 n).toArray 28)).heap[w.heap.size]? = some (.cells (ints .u16 (List.replicate n 0)).toArray 28 (0, 0))) := by
  show _ = _
  rw [heap_alloc_new]
  simp [zeros, ints]

theorem ints_set {w : World} {g : Nat} {rs : List Int} (h : Hid (w.heap[g]? = some (.cells (ints .u16 rs).toArray 28 (0, 0)))) (k : Nat) (t : Int) :
    Hid ((w.setCell ⟨g, k, none⟩ (.int .u16 t)).heap[g]? = some (.cells (ints .u16 (rs.set k t)).toArray 28 (0, 0))) := by
  show _ = _
  rw [block_set h.out k (.int .u16 t)]
  simp [ints, List.map_set]

set_option maxRecDepth 100000 in
set_option maxHeartbeats 2000000 in
theorem ecdheLaw (v : Int) (cs : Array Value) (hcs : cs.size = 32) (a2 a3 a4 a5 a6 a7 : Option Addr) (n2 n3 n4 n5 n6 n7 c2 c3 c4 c5 c6 c7 : Nat) (z2 z3 z4 z5 ts : List Int) (us : List Value) (w : World)
    (h2 : Row .u8 w a2 n2 c2 z2) (h3 : Row .u8 w a3 n3 c3 z3) (h4 : Row .u16 w a4 n4 c4 z4) (h5 : Row .u8 w a5 n5 c5 z5) (h6 : Row .u16 w a6 n6 c6 ts) (h70 : a7 = none → n7 = 0 ∧ c7 = 0) (h7 : Outer w a7 n7 us) (hin : ∀ j, j < n7 → InnerU w (us.getD j undef)) :
    Calls Try.prog 9 #[.int .u16 v, .agg cs, .slice a2 n2 c2, .slice a3 n3 c3, .slice a4 n4 c4, .slice a5 n5 c5, .slice a6 n6 c6, .slice a7 n7 c7] w fun e w' => e = .returned (.bool true) ∧ Below w.heap.size w w' := by
  have size57 : (Try.prog.info? 57).map (·.size) = some cs.size := by rw [hcs]; exact Try.size57
  have HZ : Hid ((w.alloc (.cells cs 57)).heap[w.heap.size]? = some (.cells cs 57 (0, 0))) := heap_alloc_new _ _
  have hB0 : Below w.heap.size w (w.alloc (.cells cs 57)) := (Below.refl _ _).alloc (Nat.le_refl _) _
  have Hcs : Hid (cs.size = 32) := hcs
  clear hcs
  go_enter Try.func9, Try.ntmps9
  go_wp2_with (refine wpList_load_row rfl 57 (.tmp 9) rfl w.heap.size rfl 57 cs (0, 0) (.array 32 5) HZ.out Try.underlying57 rfl size57 ?_)
  refine (zzBytesE_any v cs a2 a3 a4 a5 a6 a7 n2 n3 n4 n5 n6 n7 c2 c3 c4 c5 c6 c7 us _ (h7.below hB0)).mono ?_
  rintro e w1 ⟨⟨b, rfl⟩, hw1⟩
  have hB1 : Below (w.heap.size + 1) (w.alloc (.cells cs 57)) w1 := by rw [hw1]; exact (Below.refl _ _).alloc (by simp) _
  clear hw1
  cases b with
  | false => 
    go_wp2
    go_ret
    exact ⟨rfl, hB0.trans (hB1.mono (by omega))⟩
  | true =>
    go_wp2_with fail
    have hB1' : Below w.heap.size w w1 := hB0.trans (hB1.mono (by omega))
    refine (zzTooBig_any a2 a3 a4 a5 a6 a7 n2 n3 n4 n5 n6 n7 c2 c3 c4 c5 c6 c7 us w1 (h7.below hB1')).mono ?_
    rintro e w2 ⟨rfl | ⟨rfl, b2, b3, b4, b5, b6, b7, bu⟩, rfl⟩
    · go_wp2
      go_ret
      exact ⟨rfl, hB1'⟩
    · have Hu : Hid (∀ j, j < n7 → ∀ x l c, us.getD j undef = .slice x l c → l ≤ 1048576) := bu
      clear bu
      by_cases hne : n7 = n6
      · subst hne
        go_wp2_with fail
        refine (clone8 a2 n2 c2 z2 _ (h2.below hB1') b2).mono ?_
        rintro e w2 ⟨a2', c2', rfl, -, hb2⟩
        have hB2 := hB1'.trans (hb2.mono hB1'.size)
        go_wp2_with fail
        refine (clone8 a3 n3 c3 z3 _ (h3.below hB2) b3).mono ?_
        rintro e w3 ⟨a3', c3', rfl, -, hb3⟩
        have hB3 := hB2.trans (hb3.mono hB2.size)
        go_wp2_with fail
        refine (clone16 a4 n4 c4 z4 _ (h4.below hB3) b4).mono ?_
        rintro e w4 ⟨a4', c4', rfl, -, hb4⟩
        have hB4 := hB3.trans (hb4.mono hB3.size)
        go_wp2_with fail
        refine (clone8 a5 n5 c5 z5 _ (h5.below hB4) b5).mono ?_
        rintro e w5 ⟨a5', c5', rfl, -, hb5⟩
        have hB5 := hB4.trans (hb5.mono hB4.size)
        go_wp2_with fail
        refine (clone16 a6 n7 c6 ts _ (h6.below hB5) b6).mono ?_
        rintro e w6 ⟨a6', c6', rfl, hr6, hb6⟩
        have hB6 := hB5.trans (hb6.mono hB5.size)
        go_wp2_with fail
        refine (cloneDeep a7 n7 c7 us _ h70 b7 (h7.below hB6) (fun j hj => (hin j hj).below hB6) Hu.out).mono ?_
        rintro e w7 ⟨a7', c7', us', rfl, ho7, hb7⟩
        have hB7 := hB6.trans (hb7.mono hB6.size)
        have hr7 := hr6.below hb7
        have HZ7 : Hid (w7.heap[w.heap.size]? = some (.cells cs 57 (0, 0))) := by
          have q : Below (w.heap.size + 1) (w.alloc (.cells cs 57)) w7 := by
            have s0 : w.heap.size + 1 ≤ w1.heap.size := by have := hB1.size; rw [World.size_alloc] at this; exact this
            have s2 := hb2.size
            have s3 := hb3.size
            have s4 := hb4.size
            have s5 := hb5.size
            have s6 := hb6.size
            exact ((((((hB1.trans (hb2.mono s0)).trans (hb3.mono (by omega))).trans (hb4.mono (by omega))).trans (hb5.mono (by omega))).trans (hb6.mono (by omega))).trans (hb7.mono (by omega)))
          exact (q.block _ (by omega)).trans HZ.out
        clear hb2 hb3 hb4 hb5 hb6 hb7 hB2 hB3 hB4 hB5 hB6 hr6 h2 h3 h4 h5 h6 h7 hin Hu hB1 hB1' HZ
        go_wp2_with (refine wpList_load_row rfl 57 (.tmp 9) rfl w.heap.size rfl 57 cs (0, 0) (.array 32 5) HZ7.out Try.underlying57 rfl size57 ?_)
        refine (newHello_any v cs Hcs.out a2' a3' a4' a5' a6' a7' n2 n3 n4 n5 n7 c2' c3' c4' c5' c6' c7' ts us' w7 b7 hr7.2.2 hr7.2.1 ho7).mono ?_
        rintro e w8 ⟨h, g, vs, rfl, hgs, hc37, hblk, hE, hb8⟩
        have hB8 := hB7.trans (hb8.mono hB7.size)
        have hr8 := hr7.below hb8
        have Hblk : Hid (w8.heap[g]? = some (.cells vs.toArray 70 (0, 0))) := hblk
        clear hblk
        go_wp2_with fail
        refine (ecdhe_any h g n7 vs ts us' w8 b7 hc37 Hblk.out hE hr8.2.1 ho7.isSlice).mono ?_
        rintro e w9 ⟨hb9, hres⟩
        have hB9 := hB8.trans (hb9.mono hB8.size)
        have hr9 := hr8.below hb9
        have Hres : Hid ((11 ∈ ts ∧ ∃ r d cap, e = .returned (.slice (some ⟨r, 0, none⟩) 1 1) ∧ w9.heap[r]? = some (.cells #[.int .u16 11, .slice (some ⟨d, 0, none⟩) 2 cap] 70 (0, 0)) ∧ At .u8 w9 (some ⟨d, 0, none⟩) [1, 0]) ∨ (11 ∉ ts ∧ e = .returned (.slice none 0 0))) := hres
        clear hres
        obtain ⟨ra, rn, rfl⟩ : ∃ ra rn, e = .returned (.slice ra rn rn) := by
          rcases Hres.out with ⟨_, r, d, cap, he, _⟩ | ⟨_, he⟩
          · exact ⟨_, _, he⟩
          · exact ⟨_, _, he⟩
        clear hr7 hr8 hb8 hB7 hB8 hc37 Hblk hE HZ7 hgs ho7
        have hmk := fun w => make_u16s n7 (by omega) w
        go_wp2
        go_loopw [21] (fun i wr => ∃ (k : Nat) (rs : List Int), k ≤ n7 ∧ i = .int .i64 k ∧ Hid (RevTo ts rs n7 k) ∧ Hid (wr.heap[w9.heap.size]? = some (.cells (ints .u16 rs).toArray 28 (0, 0))) ∧ Below w9.heap.size w9 wr) (fun i _ => n7 - (intOf i).toNat)
        case atStart => exact ⟨0, List.replicate n7 0, Nat.zero_le _, rfl, ⟨by simp, fun j hj => absurd hj (Nat.not_lt_zero _)⟩, zeros_new _ _, (Below.refl _ _).alloc (Nat.le_refl _) _⟩
        case round =>
          obtain ⟨k, rs, hk, rfl, HR, HN, hbr⟩ := hrel
          by_cases hlt : k < n7
          · obtain ⟨b6x, o6, rfl, hc6⟩ := hr9.2.2 (n7 - 1 - k) (by rw [hr9.2.1]; omega)
            have g6 : wr.cell? ⟨b6x, o6 + (n7 - 1 - k), none⟩ = some (.int .u16 (ts.getD (n7 - 1 - k) 0)) := by rw [hbr.cell (p := ⟨b6x, o6 + (n7 - 1 - k), none⟩) (cell_lt hc6)]; exact hc6
            obtain ⟨e0, f0⟩ := block_cell HN.out k (by rw [length_ints, HR.out.1]; exact hlt)
            obtain ⟨t, ht⟩ : ∃ t, ts.getD (n7 - 1 - k) 0 = t := ⟨_, rfl⟩
            rw [ht] at g6
            have HT : Hid (ts.getD (n7 - 1 - k) 0 = t) := ht
            clear ht hc6
            go_wp2
            go_roundw
            case rel => exact ⟨k + 1, rs.set k t, by omega, by go_num, HR.out.step HT hlt, ints_set HN k t, hbr.setCell (Nat.le_refl _) _⟩
            case measure => simp [intOf]; omega
          · have e : k = n7 := by omega
            subst e
            have hms := fun w => make_slices k (by omega) w
            go_wp2_with fail
            have hbr9 : Below w9.heap.size w9 (wr.alloc (.cells (nils k).toArray 22)) := hbr.alloc hbr.size _
            have hat : At .u16 (wr.alloc (.cells (nils k).toArray 22)) (some ⟨w9.heap.size, 0, none⟩) rs := (At.of_block HN.out).below ((Below.refl _ _).alloc (Nat.le_refl _) _)
            have hou : Outer (wr.alloc (.cells (nils k).toArray 22)) (some ⟨wr.heap.size, 0, none⟩) k (nils k) := outer_of_block (length_nils k) (fun v hv => ⟨none, 0, 0, List.eq_of_mem_replicate hv⟩) (heap_alloc_new _ _)
            refine (newHello_any 0 _ (by rfl) none none none none (some ⟨w9.heap.size, 0, none⟩) (some ⟨wr.heap.size, 0, none⟩) 0 0 0 0 k 0 0 0 0 k k rs (nils k) _ b7 hat HR.out.1 hou).mono ?_
            rintro e w10 ⟨h', g', vs', rfl, -, hc37, hblk, hE, hb10⟩
            have Hblk : Hid (w10.heap[g']? = some (.cells vs'.toArray 70 (0, 0))) := hblk
            clear hblk
            have hB10 : Below w9.heap.size w9 w10 := hbr9.trans (hb10.mono hbr9.size)
            go_wp2_with fail
            refine (ecdhe_any h' g' k vs' rs (nils k) w10 b7 hc37 Hblk.out hE HR.out.1 hou.isSlice).mono ?_
            rintro e w11 ⟨hb11, hres⟩
            have hB11 : Below w9.heap.size w9 w11 := hB10.trans (hb11.mono hB10.size)
            have hrF := hr9.below hB11
            have hBF : Below w.heap.size w w11 := hB9.trans (hB11.mono hB9.size)
            have hmem := HR.out.mem hr9.2.1 11
            have Hmem : Hid ((11 : Int) ∈ rs ↔ (11 : Int) ∈ ts) := hmem
            clear hmem hc37 Hblk hE hb10 hB10 hbr9 hat hou hms hmk
            rcases hres with ⟨hm, r2, d2, cap2, rfl, hr2, hd2⟩ | ⟨hm, rfl⟩
            · rcases Hres.out with ⟨hm1, r1, d1, cap1, he, hr1, hd1⟩ | ⟨hm1, he⟩
              · cases he
                have g1 : w11.heap[r1]? = some (.cells [Value.int .u16 11, .slice (some ⟨d1, 0, none⟩) 2 cap1].toArray 70 (0, 0)) := (hB11.block _ (block_lt hr1)).trans hr1
                have g2 : w11.heap[r2]? = some (.cells [Value.int .u16 11, .slice (some ⟨d2, 0, none⟩) 2 cap2].toArray 70 (0, 0)) := hr2
                have hdd1 := hd1.below hB11
                clear hr1 hr2 hd1
                obtain ⟨q10, -⟩ := block_cell g1 0 (by simp)
                obtain ⟨q11, -⟩ := block_cell g1 1 (by simp)
                obtain ⟨q20, -⟩ := block_cell g2 0 (by simp)
                obtain ⟨q21, -⟩ := block_cell g2 1 (by simp)
                have k1 := block_lt g1
                have k2 := block_lt g2
                clear g1 g2
                simp only [List.getD_eq_getElem?_getD, List.getElem?_cons_zero, List.getElem?_cons_succ, Option.getD_some] at q10 q11 q20 q21
                have hdm : decide ((11 : Int) ∈ ts) = true := by simpa using hm1
                go_wp2_with fail
                refine wp_loop_rounds 2 ?_
                rw [rounds_succ]
                go_wp2_with fail
                go_region_held3 (fun w' => w'.cell? ⟨r1, 0, none⟩ = some (.int .u16 11) ∧ w'.cell? ⟨r1, 1, none⟩ = some (.slice (some ⟨d1, 0, none⟩) 2 cap1) ∧ w'.cell? ⟨r2, 0, none⟩ = some (.int .u16 11) ∧ w'.cell? ⟨r2, 1, none⟩ = some (.slice (some ⟨d2, 0, none⟩) 2 cap2)) (go_keep) ((go_at_call 41; refine (extTyp_any _ _ _ _ _).mono ?_; rintro e w' ⟨rfl, rfl⟩))
                obtain ⟨W, hW⟩ : ∃ W, W = ((w11.alloc (.cells #[.int .u16 11, .slice (some ⟨d1, 0, none⟩) 2 cap1] 70)).alloc (.cells #[.int .u16 11, .slice (some ⟨d2, 0, none⟩) 2 cap2] 70)).drew := ⟨_, rfl⟩
                have hBW : Below w11.heap.size w11 W := by rw [hW]; exact (((Below.refl _ _).alloc (Nat.le_refl _) _).alloc (by simp) _).drew
                rw [← hW]
                clear hW
                have p10 : W.cell? ⟨r1, 0, none⟩ = some (.int .u16 11) := by rw [hBW.cell (p := ⟨r1, 0, none⟩) k1]; exact q10
                have p11 : W.cell? ⟨r1, 1, none⟩ = some (.slice (some ⟨d1, 0, none⟩) 2 cap1) := by rw [hBW.cell (p := ⟨r1, 1, none⟩) k1]; exact q11
                have p20 : W.cell? ⟨r2, 0, none⟩ = some (.int .u16 11) := by rw [hBW.cell (p := ⟨r2, 0, none⟩) k2]; exact q20
                have p21 : W.cell? ⟨r2, 1, none⟩ = some (.slice (some ⟨d2, 0, none⟩) 2 cap2) := by rw [hBW.cell (p := ⟨r2, 1, none⟩) k2]; exact q21
                have dW1 := hdd1.below hBW
                have dW2 := hd2.below hBW
                have kW1 : r1 < W.heap.size := Nat.lt_of_lt_of_le k1 hBW.size
                have kW2 : r2 < W.heap.size := Nat.lt_of_lt_of_le k2 hBW.size
                have hBF2 : Below w.heap.size w W := hBF.trans (hBW.mono hBF.size)
                have hrF2 := hrF.below hBW
                go_wp2_with fail
                go_region_held3 (fun w' => w'.cell? ⟨r1, 0, none⟩ = some (.int .u16 11) ∧ w'.cell? ⟨r1, 1, none⟩ = some (.slice (some ⟨d1, 0, none⟩) 2 cap1) ∧ w'.cell? ⟨r2, 0, none⟩ = some (.int .u16 11) ∧ w'.cell? ⟨r2, 1, none⟩ = some (.slice (some ⟨d2, 0, none⟩) 2 cap2)) (go_keep) (first | (go_at_call 42; refine (extData_any _ _ _ _ _).mono ?_; rintro e w' ⟨rfl, rfl⟩) | (go_at_call 13; refine (zzEq_refl _ _ 2 _ _ [1, 0] _ rfl (by omega) (dW1.below (by go_grown)) (dW2.below (by go_grown))).mono ?_; rintro e w' ⟨rfl, nn, rfl⟩))
                go_wp2_with fail
                rw [rounds_succ]
                go_wp2_with fail
                have hBX : Below W.heap.size W (((W.alloc (.cells #[.int .u16 11, .slice (some ⟨d1, 0, none⟩) 2 cap1] 70)).alloc (.cells #[.int .u16 11, .slice (some ⟨d2, 0, none⟩) 2 cap2] 70)).drewN (1 + nn)) :=
                  below_drewN' (((Below.refl _ _).alloc (Nat.le_refl _) _).alloc (by simp) _) _
                refine (offers_any a6' k c6' ts _ b7 (hrF2.2.2.below hBX) hrF2.2.1).mono ?_
                rintro e w12 ⟨rfl, rfl⟩
                go_wp2
                go_ret
                exact ⟨rfl, hBF2.trans (hBX.mono hBF2.size)⟩
              · exact absurd (Hmem.out.1 hm) hm1
            · rcases Hres.out with ⟨hm1, r1, d1, cap1, he, hr1, hd1⟩ | ⟨hm1, he⟩
              · exact absurd (Hmem.out.2 hm1) hm
              · cases he
                have hdm : decide ((11 : Int) ∈ ts) = false := by simpa using hm1
                go_wp2_with fail
                refine wp_loop_rounds 1 ?_
                rw [rounds_succ]
                go_wp2_with fail
                refine (offers_any a6' k c6' ts w11 b7 hrF.2.2 hrF.2.1).mono ?_
                rintro e w12 ⟨rfl, rfl⟩
                go_wp2
                go_ret
                exact ⟨rfl, hBF⟩
      · have hbn : ((n7 : Int) != (n6 : Int)) = true := by rw [bne_iff_ne]; omega
        go_wp2
        go_ret
        exact ⟨rfl, hB1'⟩

end Go.Proofs.Qxb6604433a
