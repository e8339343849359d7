/-
  What is proved here: the contract of the laws' helper hasKeys (all three keys are among some keys); condition: at most 2^44 keys.
-/
import Derived.Test.YtiioojnoggcnmaaRowsPlain
import Derived.Test.YtiioojnoggcnmaaWf
namespace Go.Proofs.Ytiioojnoggcnmaa
open Go.RowKit
set_option linter.unusedVariables false

/-- Is the key i among the keys? -/
def hasK (ks : List Int) (i : Nat) : Bool := ks.any fun z => (z % 3).toNat == i
theorem hasK_step {ks : List Int} {j : Nat} {z : Int} (h : ks[j]? = some z) (i : Nat) : hasK (ks.take (j + 1)) i = (hasK (ks.take j) i || ((z % 3).toNat == i)) := by
  unfold hasK
  rw [List.take_add_one, h, List.any_append]
  simp
theorem hasK_some {ks : List Int} {i : Nat} (h : hasK ks i = true) : ∃ z ∈ ks, (z % 3).toNat = i := by
  unfold hasK at h
  rw [List.any_eq_true] at h
  obtain ⟨z, hz, e⟩ := h
  exact ⟨z, hz, by simpa using e⟩

set_option maxHeartbeats 2000000 in
theorem hasKeys_any (va : Value) (ks : List Int) (w : World) (ha : Ro w va ks) (hn : ks.length ≤ 17592186044416) :
    Calls Try.prog 34 #[va] w fun e w' => e = .returned (.bool (hasK ks 0 && hasK ks 1 && hasK ks 2)) ∧ Below w.heap.size w w' := by
  have HR := Lib.hid ha
  obtain ⟨A, c, b, off, rfl, hnc, hcm, -, -⟩ := Ro.shape ha
  obtain ⟨n, hxn⟩ : ∃ n, n = ks.length := ⟨_, rfl⟩
  rw [← hxn] at hn hnc HR ⊢
  have HX := Lib.hid hxn
  clear hxn ha
  unfold maxLen at hcm
  obtain ⟨r, hr⟩ : ∃ r, r = (hasK ks 0 && hasK ks 1 && hasK ks 2) := ⟨_, rfl⟩
  rw [← hr]
  have HRR := Lib.hid hr
  clear hr
  go_enter Try.func34, Try.ntmps34
  go_wp2_with fail
  go_loopg [8] n (fun kx s8 wr => ∃ (j : Nat) (f0 f1 f2 : Bool), s8 = .int .i64 j ∧ j ≤ n ∧ n - j ≤ kx ∧ wr = w.alloc (.cells #[.bool f0, .bool f1, .bool f2] 64) ∧ Hid (f0 = hasK (ks.take j) 0 ∧ f1 = hasK (ks.take j) 1 ∧ f2 = hasK (ks.take j) 2))
  case atStart => exact ⟨0, false, false, false, rfl, Nat.zero_le _, by omega, rfl, rfl, rfl, rfl⟩
  case round =>
    obtain ⟨j, f0, f1, f2, rfl, hj, hjk, rfl, HF⟩ := hrel
    have hb : Below w.heap.size w (w.alloc (.cells #[.bool f0, .bool f1, .bool f2] 64)) := (Below.refl _ _).alloc (Nat.le_refl _) _
    by_cases hlt : j < n
    · obtain ⟨z, hz⟩ := get_some HX.out hlt
      obtain ⟨b3, o3, rfl, hc, hbl⟩ := (HR.out.below hb).at hz
      have HST := Lib.hid (hasK_step hz)
      clear hz
      obtain ⟨t, ht⟩ : ∃ t, t = z % 3 := ⟨_, rfl⟩
      have ht0 : 0 ≤ t := by rw [ht]; exact Int.emod_nonneg _ (by decide)
      have ht3 : t < 3 := by rw [ht]; exact Int.emod_lt_of_pos _ (by decide)
      have HT := Lib.hid ht
      clear ht
      go_wp2_with fail
      refine (specAt_any z 3 _ (by omega) (by omega)).mono ?_
      rw [← HT.out]
      rintro e w' ⟨rfl, rfl⟩
      obtain h | h | h : t = 0 ∨ t = 1 ∨ t = 2 := by omega
      · subst h
        have HN : Hid (true = hasK (ks.take (j + 1)) 0 ∧ f1 = hasK (ks.take (j + 1)) 1 ∧ f2 = hasK (ks.take (j + 1)) 2) := by
          show _ ∧ _ ∧ _
          rw [HST.out, HST.out, HST.out, ← HT.out, ← HF.out.1, ← HF.out.2.1, ← HF.out.2.2]
          simp
        clear ht0 ht3 hc hb
        go_wp2_with fail
        go_roundg (n - (j + 1))
        case measure => omega
        case rel => exact ⟨j + 1, true, f1, f2, by go_num, by omega, by omega, rfl, HN.out⟩
      · subst h
        have HN : Hid (f0 = hasK (ks.take (j + 1)) 0 ∧ true = hasK (ks.take (j + 1)) 1 ∧ f2 = hasK (ks.take (j + 1)) 2) := by
          show _ ∧ _ ∧ _
          rw [HST.out, HST.out, HST.out, ← HT.out, ← HF.out.1, ← HF.out.2.1, ← HF.out.2.2]
          simp
        clear ht0 ht3 hc hb
        go_wp2_with fail
        go_roundg (n - (j + 1))
        case measure => omega
        case rel => exact ⟨j + 1, f0, true, f2, by go_num, by omega, by omega, rfl, HN.out⟩
      · subst h
        have HN : Hid (f0 = hasK (ks.take (j + 1)) 0 ∧ f1 = hasK (ks.take (j + 1)) 1 ∧ true = hasK (ks.take (j + 1)) 2) := by
          show _ ∧ _ ∧ _
          rw [HST.out, HST.out, HST.out, ← HT.out, ← HF.out.1, ← HF.out.2.1, ← HF.out.2.2]
          simp
        clear ht0 ht3 hc hb
        go_wp2_with fail
        go_roundg (n - (j + 1))
        case measure => omega
        case rel => exact ⟨j + 1, f0, f1, true, by go_num, by omega, by omega, rfl, HN.out⟩
    · obtain rfl : j = n := by omega
      have hres : r = (f0 && f1 && f2) := by
        have h := HF.out
        rw [List.take_of_length_le (by rw [← HX.out]; exact Nat.le_refl _)] at h
        rw [HRR.out, ← h.1, ← h.2.1, ← h.2.2]
      subst hres
      clear HF HRR
      cases f0 <;> cases f1 <;> cases f2
      all_goals
        go_wp2_with fail
        go_ret
        exact ⟨rfl, hb⟩

end Go.Proofs.Ytiioojnoggcnmaa
