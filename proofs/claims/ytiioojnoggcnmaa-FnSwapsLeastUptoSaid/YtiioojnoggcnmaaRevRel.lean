/-
  What is proved here: that the methods of sort.Reverse of a counter keep the relation that those of the counter keep; no condition.
-/
import Derived.Test.YtiioojnoggcnmaaCntRel
namespace Go.Proofs.Ytiioojnoggcnmaa
open Go.RowKit Go.Sort
set_option linter.unusedVariables false

theorem rev_less_at (rb cb : Nat) (W : World) (h : W.cell? ⟨rb, 0, none⟩ = some (.iface 49 (.pointer (some ⟨cb, 0, none⟩)))) :
    Sem.run Try.prog (method 233 70 (.pointer (some ⟨rb, 0, none⟩)) "Less") W = .ok (124, .agg #[(.iface 49 (.pointer (some ⟨cb, 0, none⟩)))]) W := by
  have e : Sem.run Try.prog (method 233 70 (.pointer (some ⟨rb, 0, none⟩)) "Less") W = Sem.run Try.prog (do pure (124, ← loadVar 72 ⟨rb, 0, none⟩)) W := by kernel_rfl
  rw [e]
  simp [go_sem, h]
theorem rev_swap_at (rb cb : Nat) (W : World) (h : W.cell? ⟨rb, 0, none⟩ = some (.iface 49 (.pointer (some ⟨cb, 0, none⟩)))) :
    Sem.run Try.prog (method 233 70 (.pointer (some ⟨rb, 0, none⟩)) "Swap") W = .ok (123, .pointer (some ⟨cb, 0, none⟩)) W := by
  have e : Sem.run Try.prog (method 233 70 (.pointer (some ⟨rb, 0, none⟩)) "Swap") W = Sem.run Try.prog (do match ← loadVar 54 ⟨rb, 0, none⟩ with
      | .iface t' v' => method (233 - 1) t' v' "Swap"
      | .nilIface => runtimePanic .nilDeref
      | _ => stuck "method row: interface value expected") W := by kernel_rfl
  have e2 : Sem.run Try.prog (method (233 - 1) 49 (.pointer (some ⟨cb, 0, none⟩)) "Swap") W = .ok (123, .pointer (some ⟨cb, 0, none⟩)) W := by kernel_rfl
  rw [e]
  simp [go_sem, h]
  exact e2
theorem rev_len_at (rb cb : Nat) (W : World) (h : W.cell? ⟨rb, 0, none⟩ = some (.iface 49 (.pointer (some ⟨cb, 0, none⟩)))) :
    Sem.run Try.prog (method 233 70 (.pointer (some ⟨rb, 0, none⟩)) "Len") W = .ok (121, .pointer (some ⟨cb, 0, none⟩)) W := by
  have e : Sem.run Try.prog (method 233 70 (.pointer (some ⟨rb, 0, none⟩)) "Len") W = Sem.run Try.prog (do match ← loadVar 54 ⟨rb, 0, none⟩ with
      | .iface t' v' => method (233 - 1) t' v' "Len"
      | .nilIface => runtimePanic .nilDeref
      | _ => stuck "method row: interface value expected") W := by kernel_rfl
  have e2 : Sem.run Try.prog (method (233 - 1) 49 (.pointer (some ⟨cb, 0, none⟩)) "Len") W = .ok (121, .pointer (some ⟨cb, 0, none⟩)) W := by kernel_rfl
  rw [e]
  simp [go_sem, h]
  exact e2

variable {B0 g n cap cb rb : Nat} {d0 : Array Int} {w : World}

theorem CntAt.held {c : Nat} {W : World} {d : Array Int} (h : CntAt B0 g n cap cb d0 w c W d) (hrg : rb ≠ g) (hrc : rb ≠ cb) (hrb : rb < w.heap.size) {v : Value} (hw : w.cell? ⟨rb, 0, none⟩ = some v) : W.cell? ⟨rb, 0, none⟩ = some v := by
  obtain ⟨k, _, _, _, _, _, _, h7⟩ := h
  exact (World.cell?_of_block (h7.2.2.2.2 rb hrb hrg hrc)).trans hw

set_option maxRecDepth 100000 in
set_option maxHeartbeats 2000000 in
theorem rev_less {c : Nat} {W : World} {d : Array Int} (h : CntAt B0 g n cap cb d0 w c W d) (hg : g < w.heap.size) (hcb : cb < w.heap.size) (hn : n < 4611686018427387904) (i j : Nat) (zi zj : Int) (hi : i < n) (hj : j < n) (ei : zi = i) (ej : zj = j) :
    Calls Try.prog 124 #[.agg #[(.iface 49 (.pointer (some ⟨cb, 0, none⟩)))], .int .i64 zi, .int .i64 zj] W fun e w' => e = .returned (.bool (ltInt d[j]! d[i]!)) ∧ CntAt B0 g n cap cb d0 w c w' d ∧ Past w.heap.size W w' := by
  subst ei ej
  have hw : w.heap.size ≤ W.heap.size := by obtain ⟨k, _, _, _, _, _, _, h7⟩ := id h; exact h7.2.2.2.1
  obtain ⟨W1, hW1⟩ : ∃ W1, W1 = W.alloc (.cells #[(.iface 49 (.pointer (some ⟨cb, 0, none⟩)))] 72) := ⟨_, rfl⟩
  have h1 : CntAt B0 g n cap cb d0 w c W1 d := by rw [hW1]; exact h.near hg hcb ((RowKit.Below.refl _ _).alloc hw _)
  have hP1 : Past w.heap.size W W1 := by rw [hW1]; exact (Past.refl _ _).alloc _
  have HC := Lib.hid (h1.less hg hcb hn j i (j : Int) (i : Int) hj hi rfl rfl)
  have HP1 := Lib.hid hP1
  have mL := cnt_less_at (some ⟨cb, 0, none⟩)
  have eL : ∀ args w, (callFunc 122 args).run Try.prog w = .ok (.enter 122 args) w := enters_of Try.func122 (by kernel_rfl) rfl
  clear h h1 hP1
  go_enter Try.func124, Try.ntmps124
  go_wp2_with fail
  rw [← hW1]
  refine HC.out.mono ?_
  rintro e w2 ⟨rfl, h2, hP2⟩
  have H2 := Lib.hid h2
  have HP2 := Lib.hid (HP1.out.trans hP2)
  clear h2 hP2 HC hW1
  go_wp2_with fail
  go_ret
  exact ⟨rfl, H2.out, HP2.out⟩

/-- The order of Reverse. -/
def gtInt (x y : Int) : Bool := ltInt y x
theorem swo_gtInt : SWO gtInt := by
  constructor <;> intros <;> simp_all [gtInt, ltInt] <;> omega

theorem rev_rel (hne : cb ≠ g) (hg : g < w.heap.size) (hcb : cb < w.heap.size) (hrg : rb ≠ g) (hrc : rb ≠ cb) (hrb : rb < w.heap.size) (hw : w.cell? ⟨rb, 0, none⟩ = some (.iface 49 (.pointer (some ⟨cb, 0, none⟩)))) (hn : n < 4611686018427387904) :
    IfRel Try.prog gtInt w.heap.size n (CntAt B0 g n cap cb d0 w) 70 (.pointer (some ⟨rb, 0, none⟩)) 124 123 (.agg #[(.iface 49 (.pointer (some ⟨cb, 0, none⟩)))]) (.pointer (some ⟨cb, 0, none⟩)) where
  near h hb := h.near hg hcb hb
  more := fun ⟨k, h1, h2⟩ hc => ⟨k, Nat.le_trans h1 hc, h2⟩
  size h := ⟨by obtain ⟨k, _, _, _, _, _, _, h7⟩ := id h; exact h7.2.2.2.1, h.size⟩
  eL := enters_of Try.func124 (by kernel_rfl) rfl
  eS := enters_of Try.func123 (by kernel_rfl) rfl
  mL h := rev_less_at rb cb _ (h.held hrg hrc hrb hw)
  mS h := rev_swap_at rb cb _ (h.held hrg hrc hrb hw)
  less i j zi zj h hi hj ei ej := rev_less h hg hcb hn i j zi zj hi hj ei ej
  swap i j zi zj h hi hj ei ej := h.swap hne hg hcb hn i j zi zj hi hj ei ej
theorem rev_len (hne : cb ≠ g) (hg : g < w.heap.size) (hcb : cb < w.heap.size) (hrg : rb ≠ g) (hrc : rb ≠ cb) (hrb : rb < w.heap.size) (hw : w.cell? ⟨rb, 0, none⟩ = some (.iface 49 (.pointer (some ⟨cb, 0, none⟩)))) :
    LenRel Try.prog w.heap.size n (CntAt B0 g n cap cb d0 w) 70 (.pointer (some ⟨rb, 0, none⟩)) 121 (.pointer (some ⟨cb, 0, none⟩)) where
  eN := enters_of Try.func121 (by kernel_rfl) rfl
  mN h := rev_len_at rb cb _ (h.held hrg hrc hrb hw)
  len h := (cnt_len hne hg hcb).len h

set_option maxHeartbeats 1000000 in
theorem reverse_any (Ty : TypeId) (rv : Value) (W : World) : Calls Try.prog 37 #[.iface Ty rv] W fun e w' => e = .returned (.iface 70 (.pointer (some ⟨W.heap.size, 0, none⟩))) ∧ w' = W.alloc (.cells #[.iface Ty rv] 72) := by
  go_enter Try.func37, Try.ntmps37
  go_wp2
  go_ret
  exact ⟨rfl, rfl⟩

end Go.Proofs.Ytiioojnoggcnmaa
