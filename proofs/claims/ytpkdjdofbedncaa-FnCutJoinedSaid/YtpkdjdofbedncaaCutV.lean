/-
  What is proved here: the least greatest sum of the cuts into a number of parts exists; its value as a function; no condition.
-/
import Derived.Test.YtpkdjdofbedncaaCutMore
namespace Go.Proofs.Ytpkdjdofbedncaa
set_option linter.unusedVariables false

theorem least_ex {p : Nat → Prop} (hup : ∀ a b, a ≤ b → p a → p b) : ∀ n, p n → ∃ c, ∀ m, c ≤ m ↔ p m := by
  intro n
  induction n with
  | zero => intro h; exact ⟨0, fun m => ⟨fun _ => hup 0 m (Nat.zero_le _) h, fun _ => Nat.zero_le _⟩⟩
  | succ n ih =>
    intro h
    by_cases h2 : p n
    · exact ih h2
    · refine ⟨n + 1, fun m => ⟨fun hm => hup _ _ hm h, fun hm => ?_⟩⟩
      rcases Nat.lt_or_ge n m with h3 | h3
      · exact h3
      · exact absurd (hup m n h3 hm) h2
theorem cut_ex (q : Nat) (ls : List Nat) : ∃ c, IsCut (q + 1) ls c := least_ex (fun a b hab h => C_up h hab) ls.sum (C_mono (C_one.2 (Nat.le_refl _)) (by omega))
noncomputable def cutv (q : Nat) (ls : List Nat) : Nat := Classical.choose (cut_ex q ls)
theorem cutv_is (q : Nat) (ls : List Nat) : IsCut (q + 1) ls (cutv q ls) := Classical.choose_spec (cut_ex q ls)
theorem cutv_eq {q : Nat} {ls : List Nat} {c : Nat} (h : IsCut (q + 1) ls c) : c = cutv q ls := cut_unique h (cutv_is q ls)
/-- The greatest part, if the loads are divided at i. -/
noncomputable def divAt (p q : Nat) (ls : List Nat) (i : Nat) : Nat := max (cutv p (ls.take i)) (cutv q (ls.drop i))
theorem div_best {p q : Nat} {ls : List Nat} {c : Nat} (h : IsCut (p + 1 + (q + 1)) ls c) : (∀ i, i ≤ ls.length → c ≤ divAt p q ls i) ∧ ∃ i, i ≤ ls.length ∧ divAt p q ls i = c :=
  cut_joined h (fun i _ => cutv_is p _) (fun i _ => cutv_is q _)
/-- What the loop over the places holds. -/
def Best (p q : Nat) (ls : List Nat) (k : Nat) (b : Int) : Prop := (k = 0 ∧ b < 0) ∨ (0 < k ∧ (∀ i, i < k → b ≤ divAt p q ls i) ∧ ∃ i, i < k ∧ b = divAt p q ls i)
theorem best_step {p q : Nat} {ls : List Nat} {k : Nat} {b : Int} (h : Best p q ls k b) : Best p q ls (k + 1) (if b < 0 ∨ (divAt p q ls k : Int) < b then (divAt p q ls k : Int) else b) := by
  right
  refine ⟨by omega, ?_⟩
  rcases h with ⟨h0, h1⟩ | ⟨h0, h1, i, hi, h2⟩
  · subst h0
    rw [if_pos (.inl h1)]
    exact ⟨fun i hi => by rw [show i = 0 by omega]; exact Int.le_refl _, 0, by omega, rfl⟩
  · have hb : ¬ b < 0 := by omega
    by_cases hlt : (divAt p q ls k : Int) < b
    · rw [if_pos (.inr hlt)]
      refine ⟨fun j hj => ?_, k, by omega, rfl⟩
      by_cases e : j = k
      · subst e; exact Int.le_refl _
      · have := h1 j (by omega); omega
    · rw [if_neg (by omega)]
      refine ⟨fun j hj => ?_, i, by omega, h2⟩
      by_cases e : j = k
      · subst e; omega
      · exact h1 j (by omega)
theorem best_end {p q : Nat} {ls : List Nat} {b : Int} {c : Nat} (h : Best p q ls (ls.length + 1) b) (hc : IsCut (p + 1 + (q + 1)) ls c) : b = c := by
  obtain ⟨h1, i, hi, h2⟩ := div_best hc
  rcases h with ⟨h0, _⟩ | ⟨_, h3, j, hj, h4⟩
  · omega
  · have := h3 i (by omega)
    have := h1 j (by omega)
    omega

end Go.Proofs.Ytpkdjdofbedncaa
