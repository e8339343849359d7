/-
  What is proved here: contracts of the small functions 'at' (both packages) and of sort.Search, over this seat's translation; conditions: the divisor is between 1 and 2^62, the length given to Search is below 2^62.
-/
import Derived.Test.YtiioojnoggcnmaaProg
import Derived.WalkKit
import Derived.WalkSpells
import Derived.WalkLawsBesides
import Derived.Lib.Hide
import Derived.Deep.LoopGhost
import Derived.Deep.QuietTactic
import Derived.BigQuiet
import Derived.Shelf.Abstract
namespace Go.Proofs.Ytiioojnoggcnmaa
open Go.RowKit
set_option linter.unusedVariables false

theorem int_info : (Try.prog.info? 3).map (fun i => (i.zero, i.size, i.bytes)) = some (some (.int .i64 0), 1, 8) := by kernel_rfl

theorem ret_int {k : IntKind} {a b : Int} (h : a = b) : Ending.returned (.int k a) = .returned (.int k b) := by rw [h]

theorem at_law (i n : Int) : (i.tmod n + n) % n = i % n := by
  rw [Int.add_emod_right, Int.tmod_def, Int.sub_mul_emod_self_left]

theorem tmod_bounds (i n : Int) (hn : 1 ≤ n) : -n < i.tmod n ∧ i.tmod n < n :=
  ⟨Int.lt_tmod_of_pos i (by omega), Int.tmod_lt_of_pos i (by omega)⟩

set_option maxHeartbeats 400000 in
theorem at_any (i n : Int) (w : World) (hn : 1 ≤ n) (hm : n ≤ 4611686018427387904) :
    Calls Try.prog 42 #[.int .i64 i, .int .i64 n] w fun e w' => e = .returned (.int .i64 (i % n)) ∧ w = w' := by
  have hb := tmod_bounds i n hn
  have hb1 := hb.1; have hb2 := hb.2
  go_enter Try.func42, Try.ntmps42
  go_wp2
  go_ret
  exact ⟨ret_int (at_law i n), rfl⟩

theorem specAt_any (i n : Int) (w : World) (hn : 1 ≤ n) (hm : n ≤ 4611686018427387904) :
    Calls Try.prog 32 #[.int .i64 i, .int .i64 n] w fun e w' => e = .returned (.int .i64 (i % n)) ∧ w = w' := by
  have hb := tmod_bounds i n hn
  have hb1 := hb.1; have hb2 := hb.2
  go_enter Try.func32, Try.ntmps32
  go_wp2
  go_ret
  exact ⟨ret_int (at_law i n), rfl⟩

/-- What sort.Search has found: the place i, ahead of which p is false and from which on it is true; nothing old has changed. -/
def Found (n : Nat) (p : Nat → Bool) (w : World) (e : Ending) (w' : World) : Prop :=
  ∃ i : Nat, e = .returned (.int .i64 i) ∧ i ≤ n ∧ (∀ t, t < i → p t = false) ∧ (∀ t, i ≤ t → t < n → p t = true) ∧ Below w.heap.size w w'

/-- What the function value does at each place, in every world in which what lay in w is unchanged. -/
def Asks (g : Nat) (cb : Array Value) (n : Nat) (p : Nat → Bool) (w : World) : Prop :=
  ∀ (W : World) (i : Nat), Below w.heap.size w W → i < n → Calls Try.prog g (#[.int .i64 i] ++ cb) W fun e w' => e = .returned (.bool (p i)) ∧ Below w.heap.size w w'

set_option maxHeartbeats 1000000 in
theorem search_any (g : Nat) (cb : Array Value) (n : Nat) (p : Nat → Bool) (w : World) (eg : ∀ args w, (callFunc g args).run Try.prog w = .ok (.enter g args) w) (hsz : n < 4611686018427387904)
    (hf : Asks g cb n p w) (hmono : ∀ a b, a ≤ b → b < n → p a = true → p b = true) :
    Calls Try.prog 48 #[.int .i64 n, .func (.func g) #[] cb] w (Found n p w) := by
  have M := Lib.hid hmono
  clear hmono
  go_enter Try.func48, Try.ntmps48
  go_wp2
  go_loopg [5, 6] n (fun kx s5 s6 wr => ∃ (lo hi : Nat), s5 = .int .i64 lo ∧ s6 = .int .i64 hi ∧ lo ≤ hi ∧ hi ≤ n ∧ hi - lo ≤ kx ∧ Below w.heap.size w wr ∧
    Hid ((∀ t, t < lo → p t = false) ∧ (∀ t, hi ≤ t → t < n → p t = true)))
  case atStart => exact ⟨0, n, rfl, rfl, Nat.zero_le _, Nat.le_refl _, by omega, Below.refl _ _, (⟨fun t ht => absurd ht (Nat.not_lt_zero _), fun t h1 h2 => by omega⟩ : (∀ t, t < 0 → p t = false) ∧ (∀ t, n ≤ t → t < n → p t = true))⟩
  case round =>
    obtain ⟨lo, hi, rfl, rfl, hlh, hin, hg, hbel, I⟩ := hrel
    by_cases hlt : lo < hi
    · have hc := hf wr ((lo + hi) / 2) hbel (by omega)
      rw [show (((lo + hi) / 2 : Nat) : Int) = ((lo : Int) + (hi : Int)) / 2 by omega] at hc
      cases hp : p ((lo + hi) / 2) <;> rw [hp] at hc
      · have HP := Lib.hid hp
        clear hp
        go_wp2_with fail
        refine hc.mono ?_
        rintro e w' ⟨rfl, hb'⟩
        go_wp2_with fail
        go_roundg (hi - ((lo + hi) / 2 + 1))
        case measure => omega
        case rel =>
          have I2 : Hid ((∀ t, t < (lo + hi) / 2 + 1 → p t = false) ∧ (∀ t, hi ≤ t → t < n → p t = true)) := ⟨fun t ht => (by
            cases h : p t with
            | false => rfl
            | true => have := M.out t ((lo + hi) / 2) (by omega) (by omega) h; rw [HP.out] at this; cases this), I.out.2⟩
          exact ⟨(lo + hi) / 2 + 1, hi, by rw [show ((lo : Int) + (hi : Int)) / 2 + 1 = (((lo + hi) / 2 + 1 : Nat) : Int) by omega], rfl, by omega, hin, Nat.le_refl _, hb', I2⟩
      · have HP := Lib.hid hp
        clear hp
        go_wp2_with fail
        refine hc.mono ?_
        rintro e w' ⟨rfl, hb'⟩
        go_wp2_with fail
        go_roundg ((lo + hi) / 2 - lo)
        case measure => omega
        case rel =>
          have I2 : Hid ((∀ t, t < lo → p t = false) ∧ (∀ t, (lo + hi) / 2 ≤ t → t < n → p t = true)) := ⟨I.out.1, fun t ht htn => M.out ((lo + hi) / 2) t ht htn HP.out⟩
          exact ⟨lo, (lo + hi) / 2, rfl, by rw [show ((lo : Int) + (hi : Int)) / 2 = (((lo + hi) / 2 : Nat) : Int) by omega], by omega, by omega, Nat.le_refl _, hb', I2⟩
    · obtain rfl : hi = lo := by omega
      go_wp2
      go_ret
      exact ⟨hi, rfl, hin, I.out.1, I.out.2, hbel⟩

theorem search_at (N : Int) (g : Nat) (cb : Array Value) (n : Nat) (p : Nat → Bool) (w : World) (hN : N = n) (eg : ∀ args w, (callFunc g args).run Try.prog w = .ok (.enter g args) w) (hsz : n < 4611686018427387904)
    (hf : Asks g cb n p w) (hmono : ∀ a b, a ≤ b → b < n → p a = true → p b = true) :
    Calls Try.prog 48 #[.int .i64 N, .func (.func g) #[] cb] w (Found n p w) := by
  subst hN
  exact search_any g cb n p w eg hsz hf hmono

end Go.Proofs.Ytiioojnoggcnmaa
