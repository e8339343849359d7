/-
  What is proved here: a law for the last six operations of the statement list = append(append(append([]int{}, list[:i]...), v), list[i:]...) where list is a boxed variable: whatever order is picked, the box holds the new list; no program of a seat is named.
-/
import Derived.Test.YtiioojnoggcnmaaRegZ
import Derived.Test.YtiioojnoggcnmaaApp
namespace Go.Proofs.Ytiioojnoggcnmaa
open Go.RowKit
set_option linter.unusedVariables false

theorem eval_put_same {a : Act} {d : Tmp} {v : Value} (h : d < a.tmps.size) : (a.put (some d) v).eval (.tmp d) = v := by
  simp [Act.put, Act.eval, h]
theorem eval_put_other {a : Act} {d s : Tmp} {v : Value} (h : d ≠ s) : (a.put (some d) v).eval (.tmp s) = a.eval (.tmp s) := by
  simp [Act.put, Act.eval, h]
theorem size_put {a : Act} {d : Option Tmp} {v : Value} : (a.put d v).tmps.size = a.tmps.size := by
  cases d <;> simp [Act.put]

section
variable {P : Program} {ops : Array Oper} {Q : Exit → Act → World → Prop} {S : World → Prop} {t e : TypeId}

theorem run_build0 {o : Oper} {a : Act} {w : World} (ho : o.op = .buildSlice t 0 #[]) (he : ElemOk P t e 1 8) : (execOp a.eval o).run P w = .ok (.value (.slice (some ⟨w.heap.size, 0, none⟩) 0 0)) (w.alloc (.cells #[] e)) := by
  obtain ⟨ht, _, i, z, hi, hz, h1, _, _⟩ := he
  unfold execOp
  rw [ho]
  simp [Instr.buildSlice, run_underlying ht, sizeOf, typeInfo, hi, go_sem, Instr.fill]

theorem run_build1 {o : Oper} {a : Act} {w : World} {s : Tmp} {x : Int} (ho : o.op = .buildSlice t 1 #[(0, .tmp s)]) (hx : a.eval (.tmp s) = .int .i64 x) (he : ElemOk P t e 1 8) :
    (execOp a.eval o).run P w = .ok (.value (.slice (some ⟨w.heap.size, 0, none⟩) 1 1)) (w.alloc (.cells #[.int .i64 x] e)) := by
  obtain ⟨ht, _, i, z, hi, hz, h1, _, h3⟩ := he
  have hx2 : a.tmps[s]?.getD undef = .int .i64 x := by simpa [Act.eval] using hx
  unfold execOp
  rw [ho]
  simp [Instr.buildSlice, run_underlying ht, sizeOf, typeInfo, hi, h1, go_sem, Instr.fill, hx2, zeroValue, hz]


/-- The shape of the six operations: which number each has, what it does, where it puts its value, and what may come up when. -/
structure InsShape (ops : Array Oper) (t : TypeId) (i0 i1 i2 i3 i4 i5 : Nat) (o0 o1 o2 o3 o4 o5 : Oper) (d0 d1 d2 d3 d4 s1 s2 s4 sb : Tmp) : Prop where
  g0 : ops[i0]? = some o0
  g1 : ops[i1]? = some o1
  g2 : ops[i2]? = some o2
  g3 : ops[i3]? = some o3
  g4 : ops[i4]? = some o4
  g5 : ops[i5]? = some o5
  gd : o0.guard = none ∧ o1.guard = none ∧ o2.guard = none ∧ o3.guard = none ∧ o4.guard = none ∧ o5.guard = none
  p0 : o0.op = .buildSlice t 0 #[]
  p1 : o1.op = .call { callee := .builtin .append, args := #[.tmp d0, .tmp s1], argTypes := #[t, t] }
  p2 : o2.op = .buildSlice t 1 #[(0, .tmp s2)]
  p3 : o3.op = .call { callee := .builtin .append, args := #[.tmp d1, .tmp d2], argTypes := #[t, t] }
  p4 : o4.op = .call { callee := .builtin .append, args := #[.tmp d3, .tmp s4], argTypes := #[t, t] }
  p5 : o5.op = .store t (.tmp sb) (.tmp d4)
  q : o0.dst = some d0 ∧ o1.dst = some d1 ∧ o2.dst = some d2 ∧ o3.dst = some d3 ∧ o4.dst = some d4 ∧ o5.dst = none

theorem ins_tail {i0 i1 i2 i3 i4 i5 : Nat} {o0 o1 o2 o3 o4 o5 : Oper} {d0 d1 d2 d3 d4 s1 s2 s4 sb : Tmp} (sh : InsShape ops t i0 i1 i2 i3 i4 i5 o0 o1 o2 o3 o4 o5 d0 d1 d2 d3 d4 s1 s2 s4 sb)
    (he : ElemOk P t e 1 8) (hit : (P.info? t).map (fun i => i.size) = some 1) {L3 : Array Bool} (r3 : Region.ready .any ops L3 = [i3]) (r4 : Region.ready .any ops (L3.setIfInBounds i3 true) = [i4])
    (r5 : Region.ready .any ops ((L3.setIfInBounds i3 true).setIfInBounds i4 true) = [i5]) (r6 : Region.ready .any ops (((L3.setIfInBounds i3 true).setIfInBounds i4 true).setIfInBounds i5 true) = [])
    (hd : d3 ≠ s4 ∧ d3 ≠ sb ∧ d4 ≠ sb) {b : Act} (hd3 : d3 < b.tmps.size) (hd4 : d4 < b.tmps.size) {w1 W : World} {bx : Addr} {u : Value} (hbx : w1.cell? bx = some u) (hfz : w1.frozen? bx = false)
    (hS : ∀ W', Below w1.heap.size w1 W' → S W') {g1 i cap1 b2 m2 c2 : Nat} {xs ys : List Value} {x : Int} {A2 : Option Addr}
    (e1 : b.eval (.tmp d1) = .slice (some ⟨g1, 0, none⟩) i cap1) (e2 : b.eval (.tmp d2) = .slice (some ⟨b2, 0, none⟩) 1 1) (e4 : b.eval (.tmp s4) = .slice A2 m2 c2) (eb : b.eval (.tmp sb) = .pointer (some bx))
    (hown : W.ownsRow w1.heap.size e 1 (.slice (some ⟨g1, 0, none⟩) i cap1) i xs) (hsrc : Src W 1 (some ⟨b2, 0, none⟩) 1 [.int .i64 x]) (hbel : Below w1.heap.size w1 W)
    (hsrc2 : ∀ W', Below w1.heap.size w1 W' → Src W' 1 A2 m2 ys) (hlim : i + 1 + m2 ≤ 17592186044416)
    (fin : ∀ g3 cap3 v3 w4, w4.ownsRow w1.heap.size e 1 (.slice (some ⟨g3, 0, none⟩) (i + 1 + m2) cap3) (i + 1 + m2) (xs ++ [.int .i64 x] ++ ys) → Below w1.heap.size w1 w4 →
      Q .normal ((b.put (some d3) v3).put (some d4) (.slice (some ⟨g3, 0, none⟩) (i + 1 + m2) cap3)) (w4.setCell bx (.slice (some ⟨g3, 0, none⟩) (i + 1 + m2) cap3))) :
    wpAnyZ P .any ops Q S i5 3 L3 b W := by
  obtain ⟨_, _, _, gd3, gd4, gd5⟩ := sh.gd
  obtain ⟨_, _, _, q3, q4, q5⟩ := sh.q
  refine wpAnyZ_one r3 sh.g3 gd3 ?_
  refine wp_app W sh.p3 he w1.heap.size g1 i cap1 xs e1 hown (some ⟨b2, 0, none⟩) 1 1 [.int .i64 x] e2 hsrc (by unfold maxLen; omega) (by omega) hbel.size (i + 1) rfl _ rfl ?_
  intro g2 cap2 w3 hown2 hgrow2 hat2
  have hb3 : Below w1.heap.size w1 w3 := below_app hgrow2 (hown.lt _ rfl).1 hbel
  refine ⟨fun _ => hS _ hb3, ?_⟩
  rw [q3]
  refine wpAnyZ_one r4 sh.g4 gd4 ?_
  refine wp_app w3 sh.p4 he w1.heap.size g2 (i + 1) cap2 _ (eval_put_same hd3) hown2 A2 m2 c2 ys ((eval_put_other hd.1).trans e4) (hsrc2 _ hb3) (by unfold maxLen; omega) (by omega) hb3.size (i + 1 + m2) rfl _ rfl ?_
  intro g3 cap3 w4 hown3 hgrow3 hat3
  have hb4 : Below w1.heap.size w1 w4 := below_app hgrow3 (hown2.lt _ rfl).1 hb3
  refine ⟨fun _ => hS _ hb4, ?_⟩
  rw [q4]
  refine wpAnyZ_one r5 sh.g5 gd5 ?_
  have hlt := World.block_lt_of_cell? _ _ hbx
  refine wp_store_slice sh.p5 q5 (((eval_put_other hd.2.2).trans (eval_put_other hd.2.1)).trans eb) (eval_put_same (by rw [size_put]; exact hd4)) hit ((hb4.cell hlt).trans hbx) ((hb4.frozen hlt).trans hfz) ?_
  exact ⟨fun h => absurd rfl h, wpAnyZ_done r6 (fin g3 cap3 _ w4 hown3 hb4) _⟩

theorem ins_six {i0 i1 i2 i3 i4 i5 : Nat} {o0 o1 o2 o3 o4 o5 : Oper} {d0 d1 d2 d3 d4 s1 s2 s4 sb : Tmp} (sh : InsShape ops t i0 i1 i2 i3 i4 i5 o0 o1 o2 o3 o4 o5 d0 d1 d2 d3 d4 s1 s2 s4 sb)
    (he : ElemOk P t e 1 8) (hit : (P.info? t).map (fun i => i.size) = some 1) {L : Array Bool}
    (r0 : Region.ready .any ops L = [i0, i2]) (ra : Region.ready .any ops (L.setIfInBounds i0 true) = [i1, i2]) (rab : Region.ready .any ops ((L.setIfInBounds i0 true).setIfInBounds i1 true) = [i2])
    (rac : Region.ready .any ops ((L.setIfInBounds i0 true).setIfInBounds i2 true) = [i1]) (rc : Region.ready .any ops (L.setIfInBounds i2 true) = [i0])
    (r3 : Region.ready .any ops (((L.setIfInBounds i0 true).setIfInBounds i1 true).setIfInBounds i2 true) = [i3])
    (r4 : Region.ready .any ops ((((L.setIfInBounds i0 true).setIfInBounds i1 true).setIfInBounds i2 true).setIfInBounds i3 true) = [i4])
    (r5 : Region.ready .any ops (((((L.setIfInBounds i0 true).setIfInBounds i1 true).setIfInBounds i2 true).setIfInBounds i3 true).setIfInBounds i4 true) = [i5])
    (r6 : Region.ready .any ops ((((((L.setIfInBounds i0 true).setIfInBounds i1 true).setIfInBounds i2 true).setIfInBounds i3 true).setIfInBounds i4 true).setIfInBounds i5 true) = [])
    (hi02 : i0 ≠ i2) (hi12 : i1 ≠ i2) (hdd : d0 ≠ d2 ∧ d1 ≠ d2 ∧ d0 ≠ s1 ∧ d0 ≠ s2 ∧ d0 ≠ s4 ∧ d0 ≠ sb ∧ d1 ≠ s2 ∧ d1 ≠ s4 ∧ d1 ≠ sb ∧ d2 ≠ s1 ∧ d2 ≠ s4 ∧ d2 ≠ sb ∧ d2 ≠ d0 ∧ d2 ≠ d1)
    (hd : d3 ≠ s4 ∧ d3 ≠ sb ∧ d4 ≠ sb) {a : Act} (hd0 : d0 < a.tmps.size) (hd1 : d1 < a.tmps.size) (hd2 : d2 < a.tmps.size) (hd3 : d3 < a.tmps.size) (hd4 : d4 < a.tmps.size)
    {w1 : World} {bx : Addr} {u : Value} (hbx : w1.cell? bx = some u) (hfz : w1.frozen? bx = false) (hS : ∀ W', Below w1.heap.size w1 W' → S W') {i c1 m2 c2 : Nat} {xs ys : List Value} {x : Int} {A1 A2 : Option Addr}
    (e1 : a.eval (.tmp s1) = .slice A1 i c1) (e2 : a.eval (.tmp s2) = .int .i64 x) (e4 : a.eval (.tmp s4) = .slice A2 m2 c2) (eb : a.eval (.tmp sb) = .pointer (some bx))
    (hsrc1 : ∀ W', Below w1.heap.size w1 W' → Src W' 1 A1 i xs) (hsrc2 : ∀ W', Below w1.heap.size w1 W' → Src W' 1 A2 m2 ys) (hlim : i + 1 + m2 ≤ 17592186044416)
    (fin : ∀ g3 cap3 v0 v1 v2 v3 w4, w4.ownsRow w1.heap.size e 1 (.slice (some ⟨g3, 0, none⟩) (i + 1 + m2) cap3) (i + 1 + m2) (xs ++ [.int .i64 x] ++ ys) → Below w1.heap.size w1 w4 →
      Q .normal (((((a.put (some d0) v0).put (some d1) v1).put (some d2) v2).put (some d3) v3).put (some d4) (.slice (some ⟨g3, 0, none⟩) (i + 1 + m2) cap3)) (w4.setCell bx (.slice (some ⟨g3, 0, none⟩) (i + 1 + m2) cap3))) :
    wpAnyZ P .any ops Q S i5 6 L a w1.drew := by
  obtain ⟨gd0, gd1, gd2, _, _, _⟩ := sh.gd
  obtain ⟨q0, q1, q2, _, _, _⟩ := sh.q
  obtain ⟨n02, n12, n0s1, n0s2, n0s4, n0b, n1s2, n1s4, n1b, n2s1, n2s4, n2b, n20, n21⟩ := hdd
  have hsz : ∀ {d v}, (a.put d v).tmps.size = a.tmps.size := size_put
  refine wpAnyZ_two r0 sh.g0 gd0 sh.g2 gd2 ?_ ?_
  · refine wp_run (run_build0 sh.p0 he) ?_
    rw [q0]
    have hbA : Below w1.heap.size w1 (w1.drew.alloc (.cells #[] e)) := (Below.refl _ _).drew.alloc (Nat.le_refl _) _
    refine ⟨fun _ => hS _ hbA, ?_⟩
    refine wpAnyZ_two ra sh.g1 gd1 sh.g2 gd2 ?_ ?_
    · refine wp_app _ sh.p1 he w1.heap.size w1.heap.size 0 0 [] (eval_put_same hd0) (ownE w1.drew (Nat.le_refl _)) A1 i c1 xs ((eval_put_other n0s1).trans e1) (hsrc1 _ hbA) (by unfold maxLen; omega) (by omega) hbA.size i (by omega) xs rfl ?_
      intro g1 cap1 w2 hown1 hgrow1 _
      have hb2 : Below w1.heap.size w1 w2 := below_app hgrow1 (Nat.le_refl _) hbA
      refine ⟨fun _ => hS _ hb2, ?_⟩
      rw [q1]
      refine wpAnyZ_one rab sh.g2 gd2 ?_
      refine wp_run (run_build1 sh.p2 (((eval_put_other n1s2).trans (eval_put_other n0s2)).trans e2) he) ?_
      rw [q2]
      have hb2' := hb2.alloc hb2.size (.cells #[.int .i64 x] e)
      refine ⟨fun _ => hS _ hb2', ?_⟩
      exact ins_tail sh he hit r3 r4 r5 r6 hd (by rw [size_put, size_put, size_put]; exact hd3) (by rw [size_put, size_put, size_put]; exact hd4) hbx hfz hS
        ((eval_put_other n21).trans (eval_put_same (by rw [size_put]; exact hd1))) (eval_put_same (by rw [size_put, size_put]; exact hd2)) (((eval_put_other n2s4).trans ((eval_put_other n1s4).trans (eval_put_other n0s4))).trans e4)
        (((eval_put_other n2b).trans ((eval_put_other n1b).trans (eval_put_other n0b))).trans eb) (hown1.alloc _) (Src.one _ _ _) hb2' hsrc2 hlim (fun g3 cap3 v3 w4 h1 h2 => fin g3 cap3 _ _ _ v3 w4 h1 h2)
    · refine wp_run (run_build1 sh.p2 ((eval_put_other n0s2).trans e2) he) ?_
      rw [q2]
      have hbB := hbA.alloc hbA.size (.cells #[.int .i64 x] e)
      refine ⟨fun _ => hS _ hbB, ?_⟩
      refine wpAnyZ_one rac sh.g1 gd1 ?_
      refine wp_app _ sh.p1 he w1.heap.size w1.heap.size 0 0 [] ((eval_put_other n20).trans (eval_put_same hd0)) ((ownE w1.drew (Nat.le_refl _)).alloc _) A1 i c1 xs ((eval_put_other n2s1).trans ((eval_put_other n0s1).trans e1)) (hsrc1 _ hbB) (by unfold maxLen; omega) (by omega) hbB.size i (by omega) xs rfl ?_
      intro g1 cap1 w2 hown1 hgrow1 _
      have hb2 : Below w1.heap.size w1 w2 := below_app hgrow1 (Nat.le_refl _) hbB
      refine ⟨fun _ => hS _ hb2, ?_⟩
      rw [q1, Array.setIfInBounds_comm _ _ hi12.symm, Act.put_comm _ _ _ (fun d h1 h2 => by injection h1 with h1; injection h2 with h2; exact n12 (h2.trans h1.symm))]
      exact ins_tail sh he hit r3 r4 r5 r6 hd (by rw [size_put, size_put, size_put]; exact hd3) (by rw [size_put, size_put, size_put]; exact hd4) hbx hfz hS
        ((eval_put_other n21).trans (eval_put_same (by rw [size_put]; exact hd1))) (eval_put_same (by rw [size_put, size_put]; exact hd2)) (((eval_put_other n2s4).trans ((eval_put_other n1s4).trans (eval_put_other n0s4))).trans e4)
        (((eval_put_other n2b).trans ((eval_put_other n1b).trans (eval_put_other n0b))).trans eb) hown1 (Src.grown (Src.one_at _ _ _ _ rfl) hgrow1 (by simp)) hb2 hsrc2 hlim (fun g3 cap3 v3 w4 h1 h2 => fin g3 cap3 _ _ _ v3 w4 h1 h2)
  · refine wp_run (run_build1 sh.p2 e2 he) ?_
    rw [q2]
    have hbC0 : Below w1.heap.size w1 (w1.drew.alloc (.cells #[.int .i64 x] e)) := (Below.refl _ _).drew.alloc (Nat.le_refl _) _
    refine ⟨fun _ => hS _ hbC0, ?_⟩
    refine wpAnyZ_one rc sh.g0 gd0 ?_
    refine wp_run (run_build0 sh.p0 he) ?_
    rw [q0]
    have hbC := hbC0.alloc hbC0.size (.cells #[] e)
    refine ⟨fun _ => hS _ hbC, ?_⟩
    rw [Array.setIfInBounds_comm _ _ hi02.symm, Act.put_comm _ _ _ (fun d h1 h2 => by injection h1 with h1; injection h2 with h2; exact n02 (h2.trans h1.symm))]
    refine wpAnyZ_one rac sh.g1 gd1 ?_
    refine wp_app _ sh.p1 he w1.heap.size (w1.drew.alloc (.cells #[.int .i64 x] e)).heap.size 0 0 [] ((eval_put_other n20).trans (eval_put_same hd0)) (ownE _ hbC0.size) A1 i c1 xs ((eval_put_other n2s1).trans ((eval_put_other n0s1).trans e1)) (hsrc1 _ hbC) (by unfold maxLen; omega) (by omega) hbC.size i (by omega) xs rfl ?_
    intro g1 cap1 w2 hown1 hgrow1 _
    have hb2 : Below w1.heap.size w1 w2 := below_app hgrow1 hbC0.size hbC
    refine ⟨fun _ => hS _ hb2, ?_⟩
    rw [q1, Array.setIfInBounds_comm _ _ hi12.symm, Act.put_comm _ _ _ (fun d h1 h2 => by injection h1 with h1; injection h2 with h2; exact n12 (h2.trans h1.symm))]
    exact ins_tail sh he hit r3 r4 r5 r6 hd (by rw [size_put, size_put, size_put]; exact hd3) (by rw [size_put, size_put, size_put]; exact hd4) hbx hfz hS
      ((eval_put_other n21).trans (eval_put_same (by rw [size_put]; exact hd1))) (eval_put_same (by rw [size_put, size_put]; exact hd2)) (((eval_put_other n2s4).trans ((eval_put_other n1s4).trans (eval_put_other n0s4))).trans e4)
      (((eval_put_other n2b).trans ((eval_put_other n1b).trans (eval_put_other n0b))).trans eb) hown1 (Src.grown ((Src.one_at _ _ _ _ rfl).alloc _) hgrow1 (by simp)) hb2 hsrc2 hlim (fun g3 cap3 v3 w4 h1 h2 => fin g3 cap3 _ _ _ v3 w4 h1 h2)

end
end Go.Proofs.Ytiioojnoggcnmaa
