/-
  (*reassembly).assemble: every byte has come: raw is written, in whatever order the map's blocks come.
-/
import Derived.Test.Qxb6604433aTail
import Derived.OpenShut
namespace Go.Proofs.Qxb6604433a
open Go.RowKit Go.WideShapes
set_option linter.unusedVariables false
set_option linter.unusedSimpArgs false
attribute [local go_sem ↓] Go.wp_at_zero Go.wp_at_succ

theorem cell_grown {w w' : World} {g : Nat} (hg : w.grownBy w' (some g)) {b o : Nat} {v : Value} (h : w.cell? ⟨b, o, none⟩ = some v) (hne : b ≠ g) : w'.cell? ⟨b, o, none⟩ = some v := by
  have hb := cell_lt h
  have e := hg.block b hb (fun e => hne (by cases e; rfl))
  rw [← h]
  unfold World.cell?
  simp only []
  rw [e]

theorem slice_zero (N c : Nat) (w : World) : (Instr.sliceAt 22 (.slice (some ⟨N, 0, none⟩) c c) none (some (.int .i64 0)) none).run Try.prog w = .ok (.slice (some ⟨N, 0, none⟩) 0 c) w := by
  have hs : (sizeOf 5).run Try.prog w = .ok 1 w := by kernel_rfl
  simp [Instr.sliceAt, run_underlying Try.underlying22, Instr.slice, Instr.sliceBounds, run_sliceBound, hs, add_plain]

/-- While raw is being written: row N holds 'row'; head, map and blocks as they were. -/
structure Mid (w wx : World) (B r mb n N : Nat) (typ seq : Int) (L : Nat) (F : Nat → Option Nat) (H : Nat → Nat) (Dt : Nat → List Int) (row : List Value) : Prop where
  head : wx.heap[r]? = some (.cells (rcells typ seq L (.map (some mb)) 0 (.slice (some ⟨N, 0, none⟩) (12 + L) (12 + L))).toArray 83 (0, 0))
  hr : B ≤ r
  hN : B ≤ N
  raw : wx.heap[N]? = some (.cells row.toArray 5 (0, 0))
  map : ∃ c f, PMap wx 27 mb n c f ∧ ∀ i, f (key32 i) = F i
  blk : ∀ i b, F i = some b → wx.heap[b]? = some (.cells (bcells (H i) (Dt i)).toArray 114 (0, 0)) ∧ (Dt i).length = 64
  bel : Below B w wx

theorem Mid.wrote {w wx w' : World} {B r mb n N : Nat} {typ seq : Int} {L : Nat} {F : Nat → Option Nat} {H : Nat → Nat} {Dt : Nat → List Int} {row row' : List Value} (h : Mid w wx B r mb n N typ seq L F H Dt row) (hg : wx.grownBy w' (some N)) (hb : w'.heap[N]? = some (.cells row'.toArray 5 (0, 0))) : Mid w w' B r mb n N typ seq L F H Dt row' := by
  obtain ⟨c, f, h1, h2⟩ := h.map
  refine ⟨block_grown hg h.head (fun e => by cases e; exact cells_ne_type h.head h.raw (by decide) rfl), h.hr, h.hN, hb, ⟨c, f, h1.kept hg (fun e => by cases e; exact map_ne_cells h1 h.raw rfl), h2⟩, fun i b hi => ?_, ?_⟩
  · obtain ⟨q1, q2⟩ := h.blk i b hi
    exact ⟨block_grown hg q1 (fun e => by cases e; exact cells_ne_type q1 h.raw (by decide) rfl), q2⟩
  · exact h.bel.grown hg (by have := block_lt h.raw; have := h.hN; omega) (fun k hk => by cases hk; exact h.hN)

theorem Mid.drew {w wx : World} {B r mb n N : Nat} {typ seq : Int} {L : Nat} {F : Nat → Option Nat} {H : Nat → Nat} {Dt : Nat → List Int} {row : List Value} (h : Mid w wx B r mb n N typ seq L F H Dt row) (q : Nat) : Mid w (wx.drewN q) B r mb n N typ seq L F H Dt row :=
  ⟨h.head, h.hr, h.hN, h.raw, h.map, h.blk, ⟨h.bel.os, h.bel.tape, h.bel.output, h.bel.size, h.bel.block⟩⟩

theorem Part.mid {w : World} {B r mb n : Nat} {typ seq : Int} {L : Nat} {F : Nat → Option Nat} {H : Nat → Nat} {Dt : Nat → List Int} (h : Part w B r mb n typ seq L 0 F H Dt) :
    Mid w ((w.setCell ⟨r, 5, none⟩ (.slice (some ⟨w.heap.size, 0, none⟩) (12 + L) (12 + L))).alloc (.cells (zeros .u8 (12 + L)).toArray 5)) B r mb n w.heap.size typ seq L F H Dt (zeros .u8 (12 + L)) := by
  obtain ⟨c, f, h1, h2⟩ := h.map
  have hg : w.grownBy (w.setCell ⟨r, 5, none⟩ (.slice (some ⟨w.heap.size, 0, none⟩) (12 + L) (12 + L))) (some r) := ⟨rfl, rfl, rfl, by simp [World.setCell], fun k _ hk => Below.heap_setCell _ _ _ _ (fun e => hk (by rw [e]))⟩
  have hsz : (w.setCell ⟨r, 5, none⟩ (.slice (some ⟨w.heap.size, 0, none⟩) (12 + L) (12 + L))).heap.size = w.heap.size := by simp [World.setCell]
  have hhead := block_set h.head 5 (.slice (some ⟨w.heap.size, 0, none⟩) (12 + L) (12 + L))
  have hBs : B ≤ w.heap.size := by have := h.hr; have := block_lt h.head; omega
  refine ⟨heap_alloc_old hhead _, h.hr, hBs, ?_, ⟨c, f, (h1.kept hg (fun e => ?_)).kept (World.grownBy_alloc _ _ none) (by simp), h2⟩, fun i b hi => ?_, ?_⟩
  · have := heap_alloc_new (w.setCell ⟨r, 5, none⟩ (.slice (some ⟨w.heap.size, 0, none⟩) (12 + L) (12 + L))) (.cells (zeros .u8 (12 + L)).toArray 5)
    rw [hsz] at this
    exact this
  · cases e
    exact map_ne_cells h1 h.head rfl
  · obtain ⟨q1, q2, q3, _⟩ := h.blk i b hi
    exact ⟨heap_alloc_old (block_grown hg q2 (fun e => by cases e; exact cells_ne_type h.head q2 (by decide) rfl)) _, q3⟩
  · exact ((Below.refl _ _).setCell (p := ⟨r, 5, none⟩) h.hr _).alloc (by rw [hsz]; exact hBs) _

theorem Mid.ranged {w wx w' : World} {B r mb n N : Nat} {typ seq : Int} {L : Nat} {F : Nat → Option Nat} {H : Nat → Nat} {Dt : Nat → List Int} {row : List Value} (h : Mid w wx B r mb n N typ seq L F H Dt row) (hg : wx.grownBy w' none) : Mid w w' B r mb n N typ seq L F H Dt row := by
  obtain ⟨c, f, h1, h2⟩ := h.map
  refine ⟨block_grown hg h.head (by simp), h.hr, h.hN, block_grown hg h.raw (by simp), ⟨c, f, h1.kept hg (by simp), h2⟩, fun i b hi => ?_, ?_⟩
  · obtain ⟨q1, q2⟩ := h.blk i b hi
    exact ⟨block_grown hg q1 (by simp), q2⟩
  · exact h.bel.grown hg (by have := block_lt h.raw; have := h.hN; omega) (fun k hk => by cases hk)

theorem head_row (typ seq : Int) (L : Nat) : splice (zeros .u8 (12 + L)) 0 (ints .u8 (hdr typ L seq)) = ints .u8 (hdr typ L seq ++ List.replicate L 0) := by
  unfold splice
  rw [length_ints, length_hdr]
  simp [zeros, ints]

theorem slice_from (N c l : Nat) (hl : l < c) (x : Int) (hx : x = l) (w : World) : (Instr.sliceAt 22 (.slice (some ⟨N, 0, none⟩) c c) (some (.int .i64 x)) none none).run Try.prog w = .ok (.slice (some ⟨N, l, none⟩) (c - l) (c - l)) w := by
  subst hx
  have hs : (sizeOf 5).run Try.prog w = .ok 1 w := by kernel_rfl
  have h1 : (l : Int) ≤ (c : Int) := by omega
  have h2 : ¬ c = l := by omega
  have h3 : l ≤ c := by omega
  simp [Instr.sliceAt, run_underlying Try.underlying22, Instr.slice, Instr.sliceBounds, run_sliceBound, hs, add_plain, h2, h3]

theorem slice_all (b : Nat) (w : World) : (Instr.sliceAt 112 (.pointer (some ⟨b, 1, none⟩)) none none none).run Try.prog w = .ok (.slice (some ⟨b, 1, none⟩) 64 64) w := by
  have ha : Try.prog.arrayLen 112 = 64 := by kernel_rfl
  have hs : (sizeOf (Try.prog.elem 112)).run Try.prog w = .ok 1 w := by kernel_rfl
  rw [run_sliceAt_array_all (ht := by kernel_rfl), hs]
  simp [Result.andThen_ok, slicedAt, ha, add_plain]

/-- copy as one step of a region that draws its order; the world behind it a letter. -/
theorem step_copy_ex {P : Program} {ops : Array Oper} {o : Oper} {a : Act} {w : World} {K : Act → World → Prop} {Q : Exit → Act → World → Prop} {E : Prop} (hgd : o.guard = none) (d s : Operand) (dT sT : TypeId)
    (ho : o.op = .call { callee := .builtin .copy, args := #[d, s], argTypes := #[dT, sT] }) (elem : TypeId) (hu : P.underlying dT = some (.slice elem)) (hsz : (P.info? elem).map (·.size) = some 1)
    (dp sp : Option Addr) (dLen dCap sLen sCap : Nat) (hd : a.eval d = .slice dp dLen dCap) (hs : a.eval s = .slice sp sLen sCap)
    (g off : Nat) (cur : List Value) (t : TypeId) (hg : w.heap[g]? = some (.cells cur.toArray t (0, 0))) (cs : List Value) (m : Nat) (hm : cs.length = m) (hn : m = Nat.min sLen dLen)
    (hpos : 0 < cs.length → dp = some ⟨g, off, none⟩ ∧ ∃ ad, sp = some ad ∧ ∀ j v, cs[j]? = some v → w.cell? (ad.add j) = some v) (hfit : off + m ≤ cur.length) (h1 : ∀ v ∈ cs, v.oneCell' = true)
    (h : ∀ w', Hid (w'.heap[g]? = some (.cells (splice cur off cs).toArray t (0, 0))) → w.grownBy w' (some g) → K (a.put o.dst (.int .i64 m)) w') :
    if Region.wanted o (yielded ops a.tmps) = true then Oper.wp P o a w K Q else E := by
  have hw : Region.wanted o (yielded ops a.tmps) = true := by simp [Region.wanted, hgd]
  rw [if_pos hw]
  obtain ⟨w', hrun, h2, h3, _⟩ := copy_ex (P := P) w dT sT o.type elem hu hsz dp sp dLen dCap sLen sCap g off cur t hg cs m hm hn hpos hfit h1
  unfold Oper.wp
  simp [execOp, ho, resolve, invoke, builtin, hd, hs, hrun, Result.andThen]
  exact h w' h2 h3

theorem iter_block {w : World} {mb it n : Nat} {D : DataW Unit} {left : Lit → Bool} {cnt : Nat} (h : w.ranges Try.prog 27 ptrElem mb it n D left cnt) : ∃ o, w.heap[it]? = some o ∧ ∀ cs t f, o ≠ .cells cs t f := by
  obtain ⟨es, clock, since, seen, c0, hb, F, hs, rfl, hr, _⟩ := h
  exact ⟨_, hr, fun cs t f e => by cases e⟩

theorem Mid.stepped {w wx w' : World} {B r mb n N it : Nat} {typ seq : Int} {L : Nat} {F : Nat → Option Nat} {H : Nat → Nat} {Dt : Nat → List Int} {row : List Value} {D : DataW Unit} {left : Lit → Bool} {cnt : Nat} (h : Mid w wx B r mb n N typ seq L F H Dt row) (hrg : wx.ranges Try.prog 27 ptrElem mb it n D left cnt) (hB : B ≤ it) (hg : wx.grownBy w' (some it)) : Mid w w' B r mb n N typ seq L F H Dt row := by
  obtain ⟨o, ho, hno⟩ := iter_block hrg
  obtain ⟨c, f, h1, h2⟩ := h.map
  have ne : ∀ g cs t f, wx.heap[g]? = some (.cells cs t f) → some g ≠ some it := by
    intro g cs t f hg e
    cases e
    rw [ho] at hg
    cases hg
    exact hno _ _ _ rfl
  refine ⟨block_grown hg h.head (ne _ _ _ _ h.head), h.hr, h.hN, block_grown hg h.raw (ne _ _ _ _ h.raw), ⟨c, f, h1.kept hg (fun e => by cases e; exact hrg.ne rfl), h2⟩, fun i b hi => ?_, ?_⟩
  · obtain ⟨q1, q2⟩ := h.blk i b hi
    exact ⟨block_grown hg q1 (ne _ _ _ _ q1), q2⟩
  · exact h.bel.grown hg (by have := block_lt h.raw; have := h.hN; omega) (fun k hk => by cases hk; exact hB)

/-- The message is whole: raw holds its header and its body. -/
structure Whole (w' : World) (B r N : Nat) (typ seq : Int) (L : Nat) (body : List Int) : Prop where
  head : w'.heap[r]? = some (.cells (rcells typ seq L (.map none) 0 (.slice (some ⟨N, 0, none⟩) (12 + L) (12 + L))).toArray 83 (0, 0))
  raw : w'.heap[N]? = some (.cells (ints .u8 (hdr typ L seq ++ body)).toArray 5 (0, 0))
  len : body.length = L
  hr : B ≤ r
  hN : B ≤ N

theorem splice_behind (k : IntKind) (A bs xs : List Int) (o : Nat) : splice (ints k (A ++ bs)) (A.length + o) (ints k xs) = ints k (A ++ splice bs o xs) := by
  unfold splice
  rw [length_ints]
  have e0 : ints k (A ++ bs) = ints k A ++ ints k bs := by simp [ints]
  have e1 : (ints k (A ++ bs)).take (A.length + o) = ints k A ++ (ints k bs).take o := by
    rw [e0, ← length_ints k A, List.take_length_add_append]
  have e2 : (ints k (A ++ bs)).drop (A.length + o + xs.length) = (ints k bs).drop (o + xs.length) := by
    rw [e0, Nat.add_assoc, ← length_ints k A, List.drop_length_add_append]
  rw [e1, e2]
  simp [ints]

theorem src_block {w : World} {b h : Nat} {d : List Int} {t : TypeId} {f : Nat × Nat} (hb : w.heap[b]? = some (.cells (bcells h d).toArray t f)) : At .u8 w (some ⟨b, 1, none⟩) d := by
  intro j hj
  refine ⟨b, 1, rfl, ?_⟩
  simp [World.cell?, hb, bcells, ints, Nat.add_comm 1 j, hj]

theorem At.take8 {k : IntKind} {w : World} {a : Option Addr} {zs : List Int} (h : At k w a zs) (n : Nat) : At k w a (zs.take n) := by
  intro j hj
  have hj2 : j < zs.length := by rw [List.length_take] at hj; omega
  have hj3 : j < n := by rw [List.length_take] at hj; omega
  obtain ⟨b, off, h1, h2⟩ := h j hj2
  refine ⟨b, off, h1, ?_⟩
  rw [h2]
  simp [List.getElem?_take, hj3]

theorem filled {left : Lit → Bool} {bs : List Int} {L : Nat} {Dt : Nat → List Int} (h : bs.length = L ∧ ∀ o, o < L → left (key32 (o / 64)) = true ∨ bs.getD o 0 = dat Dt o) (hl : ∀ kl, left kl = false) : bs = (List.range L).map (dat Dt) := by
  apply List.ext_getElem
  · simp [h.1]
  · intro o h1 h2
    rcases h.2 o (by rw [← h.1]; exact h1) with h3 | h3
    · rw [hl] at h3; cases h3
    · rw [List.getD_eq_getElem?_getD, List.getElem?_eq_getElem h1] at h3
      simpa using h3

theorem fills {left : Lit → Bool} {bs : List Int} {L i m : Nat} {Dt : Nat → List Int} (h : bs.length = L ∧ ∀ o, o < L → left (key32 (o / 64)) = true ∨ bs.getD o 0 = dat Dt o) (hd : (Dt i).length = 64) (hm : m = min 64 (L - 64 * i)) :
    (splice bs (64 * i) ((Dt i).take m)).length = L ∧ ∀ o, o < L → (left (key32 (o / 64)) && !(key32 (o / 64)).sameKey (.int .u32 (i : Int))) = true ∨ (splice bs (64 * i) ((Dt i).take m)).getD o 0 = dat Dt o := by
  by_cases hiL : 64 * i ≤ L
  · have hxl : ((Dt i).take m).length = m := by rw [List.length_take, hd]; omega
    have hfit : 64 * i + ((Dt i).take m).length ≤ bs.length := by rw [hxl, h.1]; omega
    refine ⟨by rw [length_splice _ _ _ hfit]; exact h.1, fun o ho => ?_⟩
    rw [getD_splice _ _ _ _ _ hfit, hxl]
    by_cases e : o / 64 = i
    · right
      rw [if_pos (by omega)]
      unfold dat
      rw [e, List.getD_eq_getElem?_getD, List.getD_eq_getElem?_getD, List.getElem?_take, if_pos (by omega), show o - 64 * i = o % 64 from by omega]
    · rw [if_neg (by omega)]
      rcases h.2 o ho with h1 | h1
      · left
        rw [h1, Maps.sameKey_ne (by unfold key32; simp; omega)]
        rfl
      · exact .inr h1
  · have hm0 : m = 0 := by omega
    subst hm0
    have es : splice bs (64 * i) ((Dt i).take 0) = bs := by simp [splice]
    rw [es]
    refine ⟨h.1, fun o ho => ?_⟩
    rcases h.2 o ho with h1 | h1
    · left
      rw [h1, Maps.sameKey_ne (by unfold key32; simp; omega)]
      rfl
    · exact .inr h1

theorem starts {D : DataW Unit} {ff : Lit → Option Nat} {F : Nat → Option Nat} {H : Nat → Nat} {L o : Nat} (hall : ∀ o, o < L → cov H o = true) (ho : o < L) (hff : ∀ i, ff (key32 i) = F i) (hD : ∀ z, D.atKey z .nil = ptrd (ff z) ∧ Maps.has D z = (ff z).isSome) (hF : ∀ i, F i = none → H i = 0) : Maps.has D (key32 (o / 64)) = true := by
  rw [(hD _).2, hff]
  cases e : F (o / 64) with
  | some b => rfl
  | none =>
    have := hall o ho
    unfold cov at this
    rw [hF _ e] at this
    simp at this

theorem entry_is {D : DataW Unit} {ff : Lit → Option Nat} {F : Nat → Option Nat} {x : Int} {v : Value} {y : DataW Unit × List MemPlace} (hwx : (Lit.int .u32 x).wf = true) (hv : ptrElem v = some y) (hat : ∀ zd, D.atKey (.int .u32 x) zd = y.1) (hff : ∀ i, ff (key32 i) = F i) (hD : ∀ z, D.atKey z .nil = ptrd (ff z) ∧ Maps.has D z = (ff z).isSome) :
    ∃ (i b : Nat), x = (i : Int) ∧ F i = some b ∧ v = .pointer (some ⟨b, 0, none⟩) := by
  obtain ⟨h0, h1⟩ := bounds_u32 hwx
  obtain ⟨i, rfl⟩ := Int.eq_ofNat_of_zero_le h0
  obtain ⟨o, rfl, hy⟩ := ptrElem_any hv
  have h2 := Maps.has_true_of_atKey hat
  rw [(hD _).2] at h2
  have h3 := hat .nil
  rw [(hD _).1, hy] at h3
  have h4 := ptrd_inj h3
  have h5 : ff (.int .u32 (i : Int)) = F i := hff i
  rw [h5] at h2 h4
  cases e : F i with
  | none => rw [e] at h2; cases h2
  | some b =>
    rw [e] at h4
    subst h4
    exact ⟨i, b, rfl, e, rfl⟩

set_option maxRecDepth 100000 in
set_option maxHeartbeats 1000000 in
theorem asm_any (w : World) (B r mb n L : Nat) (typ seq : Int) (F : Nat → Option Nat) (H : Nat → Nat) (Dt : Nat → List Int) (ht0 : 0 ≤ typ) (ht1 : typ ≤ 255) (hs0 : 0 ≤ seq) (hs1 : seq ≤ 65535)
    (hP : Part w B r mb n typ seq L 0 F H Dt) (hL : L ≤ 131072) (hall : ∀ o, o < L → cov H o = true) (hbd : ∀ i b, F i = some b → 64 * i < L) :
    Calls Try.prog 59 #[.pointer (some ⟨r, 0, none⟩)] w fun e w' => e = .returned (.tuple #[]) ∧ ∃ N, Whole w' B r N typ seq L ((List.range L).map (dat Dt)) ∧ Below B w w' := by
  have hmk := fun w => make_bytes' (12 + (L : Int)) (12 + L) (by omega) (by omega) w
  obtain ⟨c2, -⟩ := block_cell hP.head 2 (by simp [rcells])
  obtain ⟨c5, f5⟩ := block_cell hP.head 5 (by simp [rcells])
  simp only [rcells, List.getD_eq_getElem?_getD, List.getElem?_cons_zero, List.getElem?_cons_succ, Option.getD_some] at c2 c5
  have hrl := block_lt hP.head
  have hM0 := hP.mid
  have HF := hP.bare
  have HFb : Hid (∀ i b, F i = some b → H i < 18446744073709551616) := fun i b h => (hP.blk i b h).2.2.2
  clear hP
  go_enter Try.func59, Try.ntmps59
  go_wp2
  obtain ⟨wA, hwA⟩ : ∃ W, W = (w.setCell ⟨r, 5, none⟩ (.slice (some ⟨w.heap.size, 0, none⟩) (12 + L) (12 + L))).alloc (.cells (zeros .u8 (12 + L)).toArray 5) := ⟨_, rfl⟩
  rw [← hwA] at hM0 ⊢
  clear hwA c2 c5 f5
  obtain ⟨N, hN⟩ : ∃ N, N = w.heap.size := ⟨_, rfl⟩
  rw [← hN] at hM0 ⊢
  have HN : Hid (N = w.heap.size) := hN
  clear hN
  obtain ⟨c0, -⟩ := block_cell hM0.head 0 (by simp [rcells])
  obtain ⟨c1, -⟩ := block_cell hM0.head 1 (by simp [rcells])
  obtain ⟨c2, -⟩ := block_cell hM0.head 2 (by simp [rcells])
  obtain ⟨c5, -⟩ := block_cell hM0.head 5 (by simp [rcells])
  simp only [rcells, List.getD_eq_getElem?_getD, List.getElem?_cons_zero, List.getElem?_cons_succ, Option.getD_some] at c0 c1 c2 c5
  have hrN : r ≠ N := cells_ne_type hM0.head hM0.raw (by decide)
  have hb0 : (0 : Int) ≤ 12 + (L : Int) := by omega
  have hsl0 := fun w => slice_zero N (12 + L) w
  go_region_held3 (fun w' => w'.cell? ⟨r, 0, none⟩ = some (.int .u8 typ) ∧ w'.cell? ⟨r, 1, none⟩ = some (.int .u16 seq) ∧ w'.cell? ⟨r, 2, none⟩ = some (.int .u32 L) ∧ w'.cell? ⟨r, 5, none⟩ = some (.slice (some ⟨N, 0, none⟩) (12 + L) (12 + L))) (go_keep)
    ((go_at_call 61; refine (head_any N (12 + L) (zeros .u8 (12 + L)) typ L seq wA.drew ht0 ht1 (by omega) (by omega) hs0 hs1 hM0.raw (length_zeros _ _) (by omega)).mono ?_; rintro e w2 ⟨rfl, hb2, hg2⟩; have hM2 := (hM0.drew 1).wrote hg2 hb2; have d0 := cell_grown hg2 c0 hrN; have d1 := cell_grown hg2 c1 hrN; have d2 := cell_grown hg2 c2 hrN; have d5 := cell_grown hg2 c5 hrN))
  obtain ⟨c3, -⟩ := block_cell hM2.head 3 (by simp [rcells])
  simp only [rcells, List.getD_eq_getElem?_getD, List.getElem?_cons_zero, List.getElem?_cons_succ, Option.getD_some] at c3
  obtain ⟨cc, ff, ⟨D, hown, hDs, hD⟩, hff⟩ := hM2.map
  obtain ⟨w3, hrange, hrg0, hg0, hsz0⟩ := hown.range law27 Try.underlying81
  have hM3 := hM2.ranged hg0
  rw [head_row typ seq L] at hM3
  clear hM0 hb2 hg2 d0 d1 d2 d5 c0 c1 c2 c5
  go_wp2

  have hBit : B ≤ w2.heap.size := by have := hM2.hN; have := block_lt hM2.raw; omega
  have hmN : mb ≠ N := map_ne_cells ⟨D, hown, hDs, hD⟩ hM2.raw
  have hitN : w2.heap.size ≠ N := by have := block_lt hM2.raw; omega
  go_loopw [2] (fun _ wr => ∃ left cnt bs, Hid (wr.ranges Try.prog 27 ptrElem mb w2.heap.size n D left cnt) ∧ Hid (Mid w wr B r mb n N typ seq L F H Dt (ints .u8 (hdr typ L seq ++ bs))) ∧ Hid (bs.length = L ∧ ∀ o, o < L → left (key32 (o / 64)) = true ∨ bs.getD o 0 = dat Dt o)) (fun _ wr => wr.rangeLeft mb w2.heap.size)
  case atStart => exact ⟨_, _, List.replicate L 0, hrg0, hM3, by simp, fun o ho => .inl (starts hall ho hff hD HF)⟩
  case round =>
    obtain ⟨left, cnt, bs, HR, HM, HB⟩ := hrel
    rcases HR.out.next law27 0 with ⟨h0, hl, hrun⟩ | ⟨key, v, kl, y, w4, cnt', hkey, hlk, hv, hat, hrun, hrg, hlt, hgr, hsz, hen⟩
    · obtain ⟨q3, f3⟩ := block_cell HM.out.head 3 (by simp [rcells])
      go_wp2
      go_end0
      refine ⟨rfl, N, ⟨block_set HM.out.head 3 (.map none), ?_, by simp, HM.out.hr, HM.out.hN⟩, HM.out.bel.setCell (p := ⟨r, 3, none⟩) HM.out.hr _⟩
      rw [Below.heap_setCell _ _ _ _ (Ne.symm hrN), HM.out.raw, filled HB.out hl]
    · obtain ⟨x, rfl, rfl, hwx⟩ := Maps.keyOf_int_inv Try.underlying27 hkey
      obtain ⟨i, b, rfl, hFi, rfl⟩ := entry_is hwx hv hat hff hD
      have hi64 := hbd i b hFi
      have hM4 := HM.out.stepped HR.out hBit hgr
      obtain ⟨e5, -⟩ := block_cell hM4.head 5 (by simp [rcells])
      simp only [rcells, List.getD_eq_getElem?_getD, List.getElem?_cons_zero, List.getElem?_cons_succ, Option.getD_some] at e5
      have hsf := fun w => slice_from N (12 + L) (12 + 64 * i) (by omega) (12 + (i : Int) * 64) (by omega) w
      have hsa := fun w => slice_all b w
      have hi2 : i < 2048 := by omega
      have hw0 : IntKind.i64.wrap (i : Int) = (i : Int) := wraps_i64 _ (by omega) (by omega)
      have hw1 : IntKind.i64.wrap ((i : Int) * 64) = (i : Int) * 64 := wraps_i64 _ (by omega) (by omega)
      have hw2 : IntKind.i64.wrap (12 + (i : Int) * 64) = 12 + (i : Int) * 64 := wraps_i64 _ (by omega) (by omega)
      obtain ⟨m, hm⟩ : ∃ m, m = min 64 (L - 64 * i) := ⟨_, rfl⟩
      have HRG : Hid (w4.ranges Try.prog 27 ptrElem mb w2.heap.size n D (fun z => left z && !z.sameKey (.int .u32 (i : Int))) cnt') := hrg
      clear hrg
      go_wp2
      go_region_held3 (fun w' => w'.cell? ⟨r, 5, none⟩ = some (.slice (some ⟨N, 0, none⟩) (12 + L) (12 + L))) (go_keep)
        ((refine step_copy_ex rfl (.tmp 54) (.tmp 58) 22 22 rfl 5 Try.underlying22 Try.size5 _ _ _ _ _ _ rfl rfl N (12 + 64 * i) (ints .u8 (hdr typ L seq ++ bs)) 5 hM4.raw (ints .u8 ((Dt i).take m)) m (by rw [length_ints, List.length_take, (hM4.blk i b hFi).2]; omega) (by rw [show 12 + L - (12 + 64 * i) = L - 64 * i from by omega]; exact hm) (fun hp => ⟨rfl, ((src_block (hM4.blk i b hFi).1).take8 m).src hp⟩) (by rw [length_ints, List.length_append, length_hdr, HB.out.1]; omega) (ints_oneCell _ _) ?_; intro w5 hb5 hg5; have k5 := cell_grown hg5 e5 hrN))
      have hM5 := (hM4.drew 1).wrote hg5 hb5.out
      rw [show 12 + 64 * i = (hdr typ L seq).length + 64 * i from rfl, splice_behind] at hM5
      have hrg5 := World.ranges.kept (show (w4.drewN 1).ranges Try.prog 27 ptrElem mb w2.heap.size n D (fun z => left z && !z.sameKey (.int .u32 (i : Int))) cnt' from HRG.out) hg5 (fun e => by cases e; exact hmN rfl) (fun e => by cases e; exact hitN rfl)
      have HB' := fills HB.out (hM4.blk i b hFi).2 hm
      go_wp2
      go_roundw
      case rel => exact ⟨_, cnt', _, hrg5, hM5, HB'⟩
      case measure => rw [hrg5.left_eq, HR.out.left_eq]; exact hlt

end Go.Proofs.Qxb6604433a
