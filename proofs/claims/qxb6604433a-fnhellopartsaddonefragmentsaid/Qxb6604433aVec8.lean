import Derived.Test.Qxb6604433aFind
import Derived.Deep.AppendLies
namespace Go.Proofs.Qxb6604433a
open Go.RowKit Go.WideShapes
set_option linter.unusedVariables false
set_option linter.unusedSimpArgs false

/-- append of bytes onto nil or onto a slice that the call owns: the equation on its run. -/
theorem append_ex (w : World) (base : Nat) (v : Value) (n : Nat) (xs : List Int) (hown : w.ownsRow base 5 1 v n (ints .u8 xs)) (ad : Addr) (m c : Nat) (news : List Int) (hl : news.length = m) (hat : At .u8 w (some ad) news) (hm : 0 < m) (hnm : n + m ≤ 2097152) (hbase : base ≤ w.heap.size) :
    ∃ g cap w', (Builtin.append_ #[22, 22] 22 #[v, .slice (some ad) m c]).run Try.prog w = .ok (.slice (some ⟨g, 0, none⟩) (n + m) cap) w' ∧ w'.ownsRow base 5 1 (.slice (some ⟨g, 0, none⟩) (n + m) cap) (n + m) (ints .u8 (xs ++ news)) ∧ w.grownBy w' v.ownBlock := by
  obtain ⟨i0, hi, hz0, hz1, hz2⟩ := info_parts Try.info5
  obtain ⟨g, cap, w', h1, h2, h3, h4⟩ := run_append_lies (P := Try.prog) w 22 22 base 5 i0 (.int .u8 0) 1 1 Try.underlying22 hi hz0 hz1 hz2 rfl (by decide) v n (ints .u8 xs) hown ad m c (ints .u8 news) (by rw [length_ints]; omega) (by
    obtain ⟨ad', e, h⟩ := hat.src (by rw [length_ints]; omega)
    cases e
    exact h) (ints_oneCell _ _) hm (by unfold maxLen; omega) (by omega) hbase _ rfl
  exact ⟨g, cap, w', h1, by simpa [ints] using h2, h3⟩

/-- append at the operation, by an equation on its run. -/
theorem wpList_append_run {P : Program} {w : World} {ops : Array Oper} {rest : List Oper} {o : Oper} {a : Act} {Q : Exit → Act → World → Prop} (hgd : o.guard = none) (s x : Operand) (t : TypeId)
    (ho : o.op = .call { callee := .builtin .append, args := #[s, x], argTypes := #[t, t] }) (hty : o.type = t) (v v2 : Value) (hs : a.eval s = v) (hx : a.eval x = v2) (r : Value) (w' : World)
    (hrun : (Builtin.append_ #[t, t] t #[v, v2]).run P w = .ok r w') (h : wpList P ops Q rest (a.put o.dst r) w') : wpList P ops Q (o :: rest) a w := by
  refine wpList_plain hgd fun K hK => ?_
  unfold Oper.wp
  simp [execOp, ho, resolve, invoke, builtin, hs, hx, hty, hrun, Result.andThen]
  exact hK _ _ h

theorem owns_at {w : World} {base : Nat} {g n cap : Nat} {xs : List Int} (h : w.ownsRow base 5 1 (.slice (some ⟨g, 0, none⟩) n cap) n (ints .u8 xs)) : At .u8 w (some ⟨g, 0, none⟩) xs ∧ base ≤ g := by
  obtain ⟨hl, h2⟩ := h
  rcases h2 with ⟨h2, _⟩ | ⟨g', cap', cur, hv, hb, hg, hn, _, hc, ht⟩
  · cases h2
  · cases hv
    refine ⟨fun j hj => ⟨g, 0, rfl, ?_⟩, hb⟩
    have hj' : j < (ints .u8 xs).length := by rw [length_ints]; exact hj
    have e : cur.toList[j]? = some (.int .u8 (xs.getD j 0)) := by
      have e2 : (cur.toList.take (n * 1))[j]? = some (.int .u8 (xs.getD j 0)) := by
        rw [ht]
        simp [ints, hj]
      rw [List.getElem?_take] at e2
      split at e2
      · exact e2
      · cases e2
    simp only [World.cell?, hg]
    simpa using e

theorem grownBy_none_below {w w' : World} (h : w.grownBy w' none) : Below w.heap.size w w' := (Below.refl _ _).grown h (Nat.le_refl _) (fun k hk => by cases hk)

set_option maxRecDepth 100000 in
set_option maxHeartbeats 1000000 in
theorem vec8_any (z c : Nat) (x : Int) (w : World) (hz : w.cell? ⟨z, 0, none⟩ = some (.int .u8 x)) :
    Calls Try.prog 55 #[.slice none 0 0, .slice (some ⟨z, 0, none⟩) 1 c] w fun e w' => ∃ g cap, e = .returned (.slice (some ⟨g, 0, none⟩) 2 cap) ∧ At .u8 w' (some ⟨g, 0, none⟩) [1, x] ∧ Below w.heap.size w w' := by
  have hB0 : Below w.heap.size w (w.alloc (.cells #[.int .u8 1] 5)) := (Below.refl _ _).alloc (Nat.le_refl _) _
  obtain ⟨g1, cap1, w1, hr1, ho1, hg1⟩ := append_ex (w.alloc (.cells #[.int .u8 1] 5)) w.heap.size (.slice none 0 0) 0 [] (World.ownsRow_nil _ _ _ _) ⟨w.heap.size, 0, none⟩ 1 1 [1] rfl
    (At.of_block (t := 5) (f := (0, 0)) (heap_alloc_new _ _)) (by omega) (by omega) (by simp)
  have hB1 : Below w.heap.size w w1 := hB0.grown hg1 (by simp) (fun k hk => by cases hk)
  have hz1 : At .u8 w1 (some ⟨z, 0, none⟩) [x] := by
    intro j hj
    have e : j = 0 := by simpa using hj
    subst e
    exact ⟨z, 0, rfl, by rw [hB1.cell (p := ⟨z, 0 + 0, none⟩) (cell_lt hz)]; exact hz⟩
  have hb1 := (owns_at ho1).2
  obtain ⟨g2, cap2, w2, hr2, ho2, hg2⟩ := append_ex w1 w.heap.size (.slice (some ⟨g1, 0, none⟩) 1 cap1) 1 [1] ho1 ⟨z, 0, none⟩ 1 c [x] rfl hz1 (by omega) (by omega) hB1.size
  have hB2 : Below w.heap.size w w2 := hB1.grown hg2 hB1.size (fun k hk => by cases hk; exact hb1)
  have H2 := (owns_at ho2).1
  clear ho1 ho2 hg1 hg2 hz1
  go_enter Try.func55, Try.ntmps55
  go_wp2_with (first | (at_builtin; refine wpList_append_run rfl (.tmp 5) (.tmp 9) 22 rfl rfl _ _ rfl rfl _ _ hr1 ?_) | (at_builtin; refine wpList_append_run rfl (.tmp 10) (.tmp 11) 22 rfl rfl _ _ rfl rfl _ _ hr2 ?_))
  go_ret
  exact ⟨_, _, rfl, H2, hB2⟩

end Go.Proofs.Qxb6604433a
