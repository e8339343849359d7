/-
  What is proved here: the walk of the law FnBagCut, for lists of at most 2^20 elements; no other condition.
-/
import Derived.Test.YtgnjncadecelhaaBag
import Derived.Test.YtgnjncadecelhaaBagLaws
import Derived.Test.YtgnjncadecelhaaJoin
import Derived.Test.YtgnjncadecelhaaSubK
import Derived.Test.YtgnjncadecelhaaSame
namespace Go.Proofs.Ytgnjncadecelhaa
open Go.RowKit
set_option linter.unusedVariables false

set_option maxRecDepth 100000 in
set_option maxHeartbeats 2000000 in
theorem walk_FnBagCut (v0 : Value) (x0 : List Int) (v1 : Value) (x1 : List (Int × Int)) (a2 : Int) (w : World) (h0 : Ro w v0 x0) (f0 : ∀ x ∈ x0, (Lit.int .i64 x).wf = true) (n0 : x0.length ≤ 1048576) (h1 : Ros2 w v1 x1) (f1 : ∀ x ∈ x1, (Lit.int .i64 x.1).wf = true ∧ (Lit.int .i64 x.2).wf = true) (n1 : x1.length ≤ 1048576) (f2 : (Lit.int .i64 a2).wf = true) :
    Calls Try.prog 5 #[v0, v1, .int .i64 a2] w fun e w' => e = .returned (.bool true) ∧ Below w.heap.size w w' := by
  have R_v0 := Lib.hid h0
  clear h0 f0
  have R_v1 := Lib.hid h1
  clear h1 f1
  clear f2
  obtain ⟨A0, c0, b0, off0, rfl, hnc0, hcm0, -, -⟩ := R_v0.out.shape
  obtain ⟨l0, hl0⟩ : ∃ n, n = x0.length := ⟨_, rfl⟩
  rw [← hl0] at R_v0 n0 hnc0 ⊢
  have HL0 := Lib.hid hl0
  clear hl0
  unfold maxLen at hcm0
  obtain ⟨A1, c1, b1, off1, rfl, hnc1, hcm1, -, -⟩ := R_v1.out.shape
  obtain ⟨l1, hl1⟩ : ∃ n, n = x1.length := ⟨_, rfl⟩
  rw [← hl1] at R_v1 n1 hnc1 ⊢
  have HL1 := Lib.hid hl1
  clear hl1
  obtain ⟨q, hq⟩ : ∃ q : Nat, (q : Int) = a2 % ((l1 : Int) + 1) := ⟨(a2 % ((l1 : Int) + 1)).toNat, by have := Int.emod_nonneg a2 (show (l1 : Int) + 1 ≠ 0 by omega); omega⟩
  have hql : q ≤ l1 := by have := Int.emod_lt_of_pos a2 (show (0 : Int) < (l1 : Int) + 1 by omega); omega
  have HQ := Lib.hid hq
  clear hq
  have hsl : (∃ a, A1 = some a ∧ l1 = 0 ∧ c1 = 0) ∨ (∃ a, A1 = some a ∧ l1 = 0 ∧ c1 ≠ 0) ∨ (A1 = none ∧ l1 = 0) ∨ (∃ b off, A1 = some ⟨b, off, none⟩ ∧ 0 < l1 ∧ c1 = q) ∨ (∃ b off, A1 = some ⟨b, off, none⟩ ∧ 0 < l1 ∧ c1 ≠ q) := by
    rcases Nat.eq_zero_or_pos l1 with h | h
    · cases A1 with
      | none => exact .inr (.inr (.inl ⟨rfl, h⟩))
      | some a => by_cases hc : c1 = 0
                  · exact .inl ⟨a, rfl, h, hc⟩
                  · exact .inr (.inl ⟨a, rfl, h, hc⟩)
    · obtain ⟨b, off, e⟩ := R_v1.out.some h
      by_cases hc : c1 = q
      · exact .inr (.inr (.inr (.inl ⟨b, off, e, h, hc⟩)))
      · exact .inr (.inr (.inr (.inr ⟨b, off, e, h, hc⟩)))
  obtain ⟨V1, V2, RT, RD, hVV⟩ : ∃ V1 V2, Hid (Ros2 w V1 (x1.take q)) ∧ Hid (Ros2 w V2 (x1.drop q)) ∧ Hid ((∃ a, A1 = some a ∧ l1 = 0 ∧ c1 = 0 ∧ q = 0 ∧ V1 = .slice (some a) 0 0 ∧ V2 = .slice (some a) 0 0) ∨ (∃ a, A1 = some a ∧ l1 = 0 ∧ c1 ≠ 0 ∧ q = 0 ∧ V1 = .slice (some a) 0 c1 ∧ V2 = .slice (some (a.add 0)) 0 c1) ∨ (A1 = none ∧ l1 = 0 ∧ q = 0 ∧ V1 = .slice none 0 c1 ∧ V2 = .slice none 0 c1) ∨
      (∃ b off, A1 = some ⟨b, off, none⟩ ∧ 0 < l1 ∧ c1 = q ∧ l1 = q ∧ V1 = .slice (some ⟨b, off, none⟩) q q ∧ V2 = .slice (some ⟨b, off, none⟩) 0 0) ∨ (∃ b off, A1 = some ⟨b, off, none⟩ ∧ 0 < l1 ∧ c1 ≠ q ∧ V1 = .slice (some ⟨b, off, none⟩) q c1 ∧ V2 = .slice (some ⟨b, off + q * 2, none⟩) (l1 - q) (c1 - q))) := by
    have ht : l1 = 0 → (x1.take q).length = 0 := fun h => by rw [List.length_take, ← HL1.out]; omega
    have hd : l1 = 0 → (x1.drop q).length = 0 := fun h => by rw [List.length_drop, ← HL1.out]; omega
    rcases hsl with ⟨a, e, h, hc⟩ | ⟨a, e, h, hc⟩ | ⟨e, h⟩ | ⟨b, off, e, h, hc⟩ | ⟨b, off, e, h, hc⟩
    · exact ⟨_, _, ros2_none w _ _ (Nat.zero_le _) (ht h), ros2_none w _ _ (Nat.zero_le _) (hd h), .inl ⟨a, e, h, hc, by omega, rfl, rfl⟩⟩
    · exact ⟨_, _, ros2_none w _ _ hcm1 (ht h), ros2_none w _ _ hcm1 (hd h), .inr (.inl ⟨a, e, h, hc, by omega, rfl, rfl⟩)⟩
    · exact ⟨_, _, ros2_none w _ _ hcm1 (ht h), ros2_none w _ _ hcm1 (hd h), .inr (.inr (.inl ⟨e, h, by omega, rfl, rfl⟩))⟩
    · subst e
      refine ⟨_, _, ?_, ros2_none w _ 0 (Nat.zero_le _) (by rw [List.length_drop, ← HL1.out]; omega), .inr (.inr (.inr (.inl ⟨b, off, rfl, h, hc, by omega, rfl, rfl⟩)))⟩
      have h2 := R_v1.out.takeAt hql
      rwa [hc] at h2
    · subst e
      exact ⟨_, _, R_v1.out.takeAt hql, R_v1.out.dropAt hql hc, .inr (.inr (.inr (.inr ⟨b, off, rfl, h, hc, rfl, rfl⟩)))⟩
  clear hsl
  unfold maxLen at hcm1
  obtain ⟨r1, hr1⟩ : ∃ r, r = bagRun ([], asc x0) (x1.take q) := ⟨_, rfl⟩
  have hlen1 := bagRun_len ([], asc x0) (x1.take q)
  rw [← hr1, asc_len, ← HL0.out, List.length_take, ← HL1.out] at hlen1
  obtain ⟨hlena, hlenb⟩ := hlen1
  simp only [List.length_nil] at hlena
  obtain ⟨r2, hr2⟩ : ∃ r, r = bagRun ([], asc r1.2) (x1.drop q) := ⟨_, rfl⟩
  have hlen2 := bagRun_len ([], asc r1.2) (x1.drop q)
  rw [← hr2, asc_len, List.length_drop, ← HL1.out] at hlen2
  obtain ⟨hlenc, hlend⟩ := hlen2
  simp only [List.length_nil] at hlenc
  obtain ⟨r3, hr3⟩ : ∃ r, r = bagRun ([], asc x0) x1 := ⟨_, rfl⟩
  have hcut := run_cut x0 (x1.take q) (x1.drop q)
  rw [← hr1, ← hr2, List.take_append_drop, ← hr3] at hcut
  have HR1 := Lib.hid hr1
  have HR2 := Lib.hid hr2
  have HR3 := Lib.hid hr3
  have HC1 := Lib.hid hcut.1
  have HC2 := Lib.hid hcut.2
  have hal1 : r1.1.length ≤ l1 := by omega
  have hal2 : r2.1.length ≤ l1 := by omega
  have hal3 : r1.2.length ≤ l0 + l1 := by omega
  have HB1 := Lib.hid hal1
  have HB2 := Lib.hid hal2
  have HB3 := Lib.hid hal3
  clear hr1 hr2 hr3 hcut hlena hlenb hlenc hlend hal1 hal2 hal3
  rcases hVV.out with ⟨a, rfl, rfl, rfl, rfl, rfl, rfl⟩ | ⟨a, rfl, rfl, hcz, rfl, rfl, rfl⟩ | ⟨rfl, rfl, rfl, rfl, rfl⟩ | ⟨b, off, rfl, hl1p, rfl, rfl, rfl, rfl⟩ | ⟨b, off, rfl, hl1p, hcq, rfl, rfl⟩
  all_goals clear hVV
  all_goals
    have R_d1 := RT
    have R_d2 := RD
    clear RT RD
    go_enter Try.func5, Try.ntmps5
    go_wp2_with fail
    refine (specAt_any a2 _ _ (by omega) (by omega)).mono ?_
    first | rw [← HQ.out] | rw [show a2 % 1 = 0 by omega]
    rintro e w' ⟨rfl, rfl⟩
    go_wp2_with fail
    refine (bag_any _ _ x0 (x1.take _) _ R_v0.out R_d1.out (by rw [List.length_take, ← HL0.out, ← HL1.out]; omega)).mono ?_
    rw [← HR1.out]
    rintro e W1 ⟨t1, g1, rfl, o1, p1, -, b1⟩
    replace R_v0 := Lib.hid (R_v0.out.below b1)
    replace R_v1 := Lib.hid (R_v1.out.below b1)
    replace R_d1 := Lib.hid (R_d1.out.below b1)
    replace R_d2 := Lib.hid (R_d2.out.below b1)
    have bt1 : Below w.heap.size w W1 := b1
    clear b1
    have R_t1 : Hid (Ro W1 t1 (r1.1)) := o1.ro
    have R_g1 : Hid (Ro W1 g1 (r1.2)) := p1.ro
    clear o1 p1
    go_wp2_with fail
    refine (bag_any _ _ r1.2 (x1.drop _) _ R_g1.out R_d2.out (by have := HB3.out; rw [List.length_drop, ← HL1.out]; omega)).mono ?_
    rw [← HR2.out]
    rintro e W2 ⟨t2, g2, rfl, o2, p2, -, b2⟩
    replace R_v0 := Lib.hid (R_v0.out.below b2)
    replace R_v1 := Lib.hid (R_v1.out.below b2)
    replace R_d1 := Lib.hid (R_d1.out.below b2)
    replace R_d2 := Lib.hid (R_d2.out.below b2)
    replace R_t1 := Lib.hid (R_t1.out.below b2)
    replace R_g1 := Lib.hid (R_g1.out.below b2)
    have bt2 : Below w.heap.size w W2 := bt1.trans (b2.mono bt1.size)
    clear bt1
    clear b2
    have R_t2 : Hid (Ro W2 t2 (r2.1)) := o2.ro
    have R_g2 : Hid (Ro W2 g2 (r2.2)) := p2.ro
    clear o2 p2
    go_wp2_with fail
    refine (bag_any _ _ x0 x1 _ R_v0.out R_v1.out (by rw [← HL0.out, ← HL1.out]; omega)).mono ?_
    rw [← HR3.out]
    rintro e W3 ⟨t3, g3, rfl, o3, p3, -, b3⟩
    replace R_v0 := Lib.hid (R_v0.out.below b3)
    replace R_v1 := Lib.hid (R_v1.out.below b3)
    replace R_d1 := Lib.hid (R_d1.out.below b3)
    replace R_d2 := Lib.hid (R_d2.out.below b3)
    replace R_t1 := Lib.hid (R_t1.out.below b3)
    replace R_g1 := Lib.hid (R_g1.out.below b3)
    replace R_t2 := Lib.hid (R_t2.out.below b3)
    replace R_g2 := Lib.hid (R_g2.out.below b3)
    have bt3 : Below w.heap.size w W3 := bt2.trans (b3.mono bt2.size)
    clear bt2
    clear b3
    have R_t3 : Hid (Ro W3 t3 (r3.1)) := o3.ro
    have R_g3 : Hid (Ro W3 g3 (r3.2)) := p3.ro
    clear o3 p3
    go_wp2_with fail
    refine (joined_any _ _ r1.1 r2.1 _ R_t1.out R_t2.out (by have := HB1.out; have := HB2.out; omega)).mono ?_
    rintro e W4 ⟨u1, rfl, o4, b4⟩
    replace R_v0 := Lib.hid (R_v0.out.below b4)
    replace R_v1 := Lib.hid (R_v1.out.below b4)
    replace R_d1 := Lib.hid (R_d1.out.below b4)
    replace R_d2 := Lib.hid (R_d2.out.below b4)
    replace R_t1 := Lib.hid (R_t1.out.below b4)
    replace R_g1 := Lib.hid (R_g1.out.below b4)
    replace R_t2 := Lib.hid (R_t2.out.below b4)
    replace R_g2 := Lib.hid (R_g2.out.below b4)
    replace R_t3 := Lib.hid (R_t3.out.below b4)
    replace R_g3 := Lib.hid (R_g3.out.below b4)
    have bt4 : Below w.heap.size w W4 := bt3.trans (b4.mono bt3.size)
    clear bt3
    clear b4
    have R_u1 := Lib.hid o4.ro
    clear o4
    go_wp2_with fail
    refine (same_yes _ _ _ _ _ R_u1.out R_t3.out HC1.out).mono ?_
    rintro e W5 ⟨rfl, b5⟩
    replace R_v0 := Lib.hid (R_v0.out.below b5)
    replace R_v1 := Lib.hid (R_v1.out.below b5)
    replace R_d1 := Lib.hid (R_d1.out.below b5)
    replace R_d2 := Lib.hid (R_d2.out.below b5)
    replace R_t1 := Lib.hid (R_t1.out.below b5)
    replace R_g1 := Lib.hid (R_g1.out.below b5)
    replace R_t2 := Lib.hid (R_t2.out.below b5)
    replace R_g2 := Lib.hid (R_g2.out.below b5)
    replace R_t3 := Lib.hid (R_t3.out.below b5)
    replace R_g3 := Lib.hid (R_g3.out.below b5)
    replace R_u1 := Lib.hid (R_u1.out.below b5)
    have bt5 : Below w.heap.size w W5 := bt4.trans (b5.mono bt4.size)
    clear bt4
    clear b5
    go_wp2_with fail
    refine (same_yes _ _ _ _ _ R_g2.out R_g3.out HC2.out).mono ?_
    rintro e W6 ⟨rfl, b6⟩
    replace R_v0 := Lib.hid (R_v0.out.below b6)
    replace R_v1 := Lib.hid (R_v1.out.below b6)
    replace R_d1 := Lib.hid (R_d1.out.below b6)
    replace R_d2 := Lib.hid (R_d2.out.below b6)
    replace R_t1 := Lib.hid (R_t1.out.below b6)
    replace R_g1 := Lib.hid (R_g1.out.below b6)
    replace R_t2 := Lib.hid (R_t2.out.below b6)
    replace R_g2 := Lib.hid (R_g2.out.below b6)
    replace R_t3 := Lib.hid (R_t3.out.below b6)
    replace R_g3 := Lib.hid (R_g3.out.below b6)
    replace R_u1 := Lib.hid (R_u1.out.below b6)
    have bt6 : Below w.heap.size w W6 := bt5.trans (b6.mono bt5.size)
    clear bt5
    clear b6
    go_wp2_with fail
    refine (works_any _).mono ?_
    rintro e W7 ⟨rfl, b7⟩
    replace R_v0 := Lib.hid (R_v0.out.below b7)
    replace R_v1 := Lib.hid (R_v1.out.below b7)
    replace R_d1 := Lib.hid (R_d1.out.below b7)
    replace R_d2 := Lib.hid (R_d2.out.below b7)
    replace R_t1 := Lib.hid (R_t1.out.below b7)
    replace R_g1 := Lib.hid (R_g1.out.below b7)
    replace R_t2 := Lib.hid (R_t2.out.below b7)
    replace R_g2 := Lib.hid (R_g2.out.below b7)
    replace R_t3 := Lib.hid (R_t3.out.below b7)
    replace R_g3 := Lib.hid (R_g3.out.below b7)
    replace R_u1 := Lib.hid (R_u1.out.below b7)
    have bt7 : Below w.heap.size w W7 := bt6.trans (b7.mono bt6.size)
    clear bt6
    clear b7
    go_wp2_with fail
    go_ret
    exact ⟨rfl, bt7⟩

end Go.Proofs.Ytgnjncadecelhaa
