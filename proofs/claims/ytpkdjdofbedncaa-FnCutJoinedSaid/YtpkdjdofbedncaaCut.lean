/-
  What is proved here: contracts of Cut of the thin package and of its function value: it returns the least greatest sum of all cuts; condition: at most 2^44 loads.
-/
import Derived.Test.YtpkdjdofbedncaaOwn
import Derived.Test.YtpkdjdofbedncaaCutPlain
namespace Go.Proofs.Ytpkdjdofbedncaa
open Go.RowKit
set_option linter.unusedVariables false

/-- The loads by their remainders. -/
def lds (xs : List Int) : List Nat := xs.map (fun z => (z % 1000).toNat)
theorem lds_at {xs : List Int} {j l : Nat} {z : Int} (h : xs[j]? = some z) (hl : z % 1000 = (l : Int)) : (lds xs).take (j + 1) = (lds xs).take j ++ [l] := by
  unfold lds
  rw [List.take_add_one, List.getElem?_map, h]
  simp [hl]
theorem lds_len (xs : List Int) : (lds xs).length = xs.length := by simp [lds]
theorem lds_sum (xs : List Int) (j : Nat) : ((lds xs).take j).sum ≤ 999 * j := by
  induction j with
  | zero => simp
  | succ j ih =>
    rw [List.take_add_one]
    cases h : (lds xs)[j]? with
    | none => simp; omega
    | some l =>
      have hl : l < 1000 := by
        unfold lds at h
        rw [List.getElem?_map] at h
        obtain ⟨z, _, hz⟩ := Option.map_eq_some_iff.1 h
        omega
      simp
      omega

/-- What the function value says. -/
def cutB (q : Nat) (ls : List Nat) (m : Nat) : Bool := ls.all (fun l => decide (l ≤ m)) && decide ((greedy m ls).2 ≤ q + 1)
theorem cutB_iff (q : Nat) (ls : List Nat) (m : Nat) : cutB q ls m = true ↔ C (q + 1) m ls := by
  unfold cutB
  rw [Bool.and_eq_true, List.all_eq_true]
  constructor
  · rintro ⟨h1, h2⟩
    exact (greedy_iff (fun l hl => by simpa using h1 l hl)).1 (by simpa using h2)
  · intro h
    have h1 := C_each h
    exact ⟨fun l hl => by simpa using h1 l hl, by simpa using (greedy_iff h1).2 h⟩

theorem enters_cut1 : ∀ args w, (callFunc 41 args).run Try.prog w = .ok (.enter 41 args) w := enters_of Try.func41 (by kernel_rfl) rfl

theorem gstep_new {m s c l : Nat} (h : m < s + l) : gstep m (s, c) l = (l, c + 1) := by simp [gstep, h]
theorem gstep_old {m s c l : Nat} (h : ¬ m < s + l) : gstep m (s, c) l = (s + l, c) := by simp [gstep, h]

set_option maxHeartbeats 1000000 in
theorem cut1_any (W : World) (bx bk m q n c b off : Nat) (k : Int) (A : Option Addr) (xs : List Int) (hn : n = xs.length) (hnm : n ≤ 17592186044416) (hm : m ≤ 4611686018427387904) (hk : k % 10 = (q : Int))
    (ha : 0 < n → A = some ⟨b, off, none⟩) (hcell : ∀ j x, xs[j]? = some x → W.cell? ⟨b, off + j, none⟩ = some (.int .i64 x))
    (hx : W.cell? ⟨bx, 0, none⟩ = some (.slice A n c)) (hck : W.cell? ⟨bk, 0, none⟩ = some (.int .i64 k)) :
    Calls Try.prog 41 #[.int .i64 m, .pointer (some ⟨bx, 0, none⟩), .pointer (some ⟨bk, 0, none⟩)] W fun e w' => e = .returned (.bool (cutB q (lds xs) m)) ∧ W = w' := by
  have HX := Lib.hid hn
  have HC := Lib.hid hcell
  have HA := Lib.hid ha
  have hq9 : q < 10 := by omega
  have HK := Lib.hid hk
  clear hn hcell ha hk
  go_enter Try.func41, Try.ntmps41
  go_wp2_with fail
  go_loopg [5, 6, 11] n (fun kx s5 s6 s11 wr => ∃ j s t : Nat, j ≤ n ∧ s11 = .int .i64 j ∧ s5 = .int .i64 s ∧ s6 = .int .i64 t ∧ n - j ≤ kx ∧ s ≤ m ∧ t ≤ j + 1 ∧ wr = W ∧ Hid (greedy m ((lds xs).take j) = (s, t)) ∧ Hid (∀ l ∈ (lds xs).take j, l ≤ m))
  case atStart => exact ⟨0, 0, 1, Nat.zero_le _, rfl, rfl, rfl, by omega, by omega, by omega, rfl, by show greedy m ((lds xs).take 0) = (0, 1); simp [greedy], by show ∀ l ∈ (lds xs).take 0, l ≤ m; simp⟩
  case round =>
    obtain ⟨j, s, t, hj, rfl, rfl, rfl, hjk, hs, ht, rfl, HG, HM⟩ := hrel
    by_cases hlt : j < n
    · obtain ⟨x, hxj⟩ : ∃ x, xs[j]? = some x := ⟨xs[j]'(by have := HX.out; omega), List.getElem?_eq_getElem _⟩
      obtain rfl := HA.out (by omega)
      have hc := HC.out j x hxj
      obtain ⟨l, hl⟩ := Int.eq_ofNat_of_zero_le (show 0 ≤ x % 1000 by omega)
      have hl9 : l < 1000 := by omega
      have HT := Lib.hid (lds_at hxj hl)
      have hml : l ∈ lds xs := by
        unfold lds
        exact List.mem_map.2 ⟨x, List.mem_of_getElem? hxj, by rw [hl]; rfl⟩
      have HML := Lib.hid hml
      have HL := Lib.hid hl
      clear hxj hl hml
      go_wp2_with fail
      refine (at_any _ _ _ (by omega) (by omega)).mono ?_
      rintro e w' ⟨rfl, rfl⟩
      rw [HL.out]
      by_cases hbig : m < l
      · go_wp2_with fail
        go_ret
        refine ⟨?_, rfl⟩
        have hz : cutB q (lds xs) m = false := by
          unfold cutB
          rw [show (lds xs).all (fun l => decide (l ≤ m)) = false from List.all_eq_false.2 ⟨l, HML.out, by simp; omega⟩]
          rfl
        rw [hz]
        rfl
      · by_cases hnew : m < s + l
        · go_wp2_with fail
          go_roundg (n - (j + 1))
          case measure => omega
          case rel =>
            refine ⟨j + 1, l, t + 1, by omega, by go_num, by go_num, by go_num, by omega, by omega, by omega, rfl, ?_, ?_⟩
            · show greedy m ((lds xs).take (j + 1)) = (l, t + 1)
              rw [HT.out, greedy_snoc, HG.out, gstep_new hnew]
            · show ∀ l ∈ (lds xs).take (j + 1), l ≤ m
              rw [HT.out]
              intro a ha
              rw [List.mem_append] at ha
              rcases ha with ha | ha
              · exact HM.out a ha
              · simp at ha; omega
        · go_wp2_with fail
          go_roundg (n - (j + 1))
          case measure => omega
          case rel =>
            refine ⟨j + 1, s + l, t, by omega, by go_num, by go_num, by go_num, by omega, by omega, by omega, rfl, ?_, ?_⟩
            · show greedy m ((lds xs).take (j + 1)) = (s + l, t)
              rw [HT.out, greedy_snoc, HG.out, gstep_old (by omega)]
            · show ∀ l ∈ (lds xs).take (j + 1), l ≤ m
              rw [HT.out]
              intro a ha
              rw [List.mem_append] at ha
              rcases ha with ha | ha
              · exact HM.out a ha
              · simp at ha; omega
    · obtain rfl : j = n := by omega
      have htk : (lds xs).take j = lds xs := List.take_of_length_le (by rw [lds_len, ← HX.out]; exact Nat.le_refl _)
      have hfin : cutB q (lds xs) m = decide (t ≤ q + 1) := by
        have h1 := HG.out
        have h2 := HM.out
        rw [htk] at h1 h2
        unfold cutB
        rw [show (lds xs).all (fun l => decide (l ≤ m)) = true from List.all_eq_true.2 (fun l hl => by simpa using h2 l hl), h1]
        rfl
      have HF := Lib.hid hfin
      clear htk hfin
      go_wp2_with fail
      refine (at_any _ _ _ (by omega) (by omega)).mono ?_
      rintro e w' ⟨rfl, rfl⟩
      rw [HK.out]
      go_wp2_with fail
      go_ret
      refine ⟨?_, rfl⟩
      rw [HF.out]
      congr 2
      simp
      omega

def CutIs (q : Nat) (ls : List Nat) (w : World) (e : Ending) (w' : World) : Prop := ∃ c : Nat, e = .returned (.int .i64 c) ∧ IsCut (q + 1) ls c ∧ c ≤ ls.sum ∧ Below w.heap.size w w'

set_option maxHeartbeats 1000000 in
theorem cut_any (v : Value) (xs : List Int) (k : Int) (q : Nat) (w : World) (h : Ro w v xs) (hn : xs.length ≤ 17592186044416) (hk : k % 10 = (q : Int)) :
    Calls Try.prog 13 #[v, .int .i64 k] w (CutIs q (lds xs) w) := by
  obtain ⟨A, c, b, off, rfl, hnc, hcm, ha, hcell⟩ := h
  obtain ⟨n, hxn⟩ : ∃ n, n = xs.length := ⟨_, rfl⟩
  rw [← hxn] at hn hnc ha ⊢
  have HX := Lib.hid hxn
  have HC := Lib.hid hcell
  have HA := Lib.hid ha
  have HK := Lib.hid hk
  clear hxn hcell ha hk
  unfold maxLen at hcm
  go_enter Try.func13, Try.ntmps13
  go_wp2_with fail
  go_loopg [5, 10] n (fun kx s5 s10 wr => ∃ j s : Nat, j ≤ n ∧ s10 = .int .i64 j ∧ s5 = .int .i64 s ∧ n - j ≤ kx ∧ s ≤ 999 * j ∧ wr = (w.alloc (.cells #[.slice A n c] 22)).alloc (.cells #[.int .i64 k] 3) ∧ Hid (s = ((lds xs).take j).sum))
  case atStart => exact ⟨0, 0, Nat.zero_le _, rfl, rfl, by omega, by omega, rfl, by show 0 = ((lds xs).take 0).sum; simp⟩
  case round =>
    obtain ⟨j, s, hj, rfl, rfl, hjk, hs, hwr, HS⟩ := hrel
    have hsz : wr.heap.size = w.heap.size + 1 + 1 := by rw [hwr]; simp
    have hbel : Below w.heap.size w wr := by rw [hwr]; exact ((Below.refl _ _).alloc (Nat.le_refl _) _).alloc (by simp) _
    have q1 : wr.cell? ⟨w.heap.size, 0, none⟩ = some (.slice A n c) := by rw [hwr]; simp [go_sem]
    have q2 : wr.cell? ⟨w.heap.size + 1, 0, none⟩ = some (.int .i64 k) := by rw [hwr]; simp [go_sem]
    have HWR := Lib.hid hwr
    have HSZ := Lib.hid hsz
    have hszl : w.heap.size + 1 < wr.heap.size := by omega
    clear hwr hsz
    by_cases hlt : j < n
    · obtain ⟨x, hxj⟩ : ∃ x, xs[j]? = some x := ⟨xs[j]'(by have := HX.out; omega), List.getElem?_eq_getElem _⟩
      obtain ⟨rfl, hbl⟩ := HA.out (by omega)
      have hc : wr.cell? ⟨b, off + j, none⟩ = some (.int .i64 x) := (hbel.cell (p := ⟨b, off + j, none⟩) hbl).trans (HC.out j x hxj)
      obtain ⟨l, hl⟩ := Int.eq_ofNat_of_zero_le (show 0 ≤ x % 1000 by omega)
      have hl9 : l < 1000 := by omega
      have HT := Lib.hid (lds_at hxj hl)
      have HL := Lib.hid hl
      clear hxj hl
      go_wp2_with fail
      refine (at_any _ _ _ (by omega) (by omega)).mono ?_
      rintro e w' ⟨rfl, rfl⟩
      rw [HL.out]
      go_wp2_with fail
      go_roundg (n - (j + 1))
      case measure => omega
      case rel => exact ⟨j + 1, s + l, by omega, by go_num, by go_num, by omega, by omega, HWR.out, by show s + l = ((lds xs).take (j + 1)).sum; rw [HT.out, HS.out, List.sum_append]; simp⟩
    · obtain rfl : j = n := by omega
      have hs2 : s = (lds xs).sum := by
        have := HS.out
        rwa [List.take_of_length_le (by rw [lds_len, ← HX.out]; exact Nat.le_refl _)] at this
      have HS2 := Lib.hid hs2
      clear hs2 HS
      go_wp2_with fail
      refine (search_at _ _ _ s (cutB q (lds xs)) _ rfl enters_cut1 (by omega) ?hf (fun a b hab _ h => (cutB_iff _ _ _).2 (C_up ((cutB_iff _ _ _).1 h) hab))).mono ?_
      case hf =>
        intro W i hb hi
        refine (cut1_any W _ _ i q j c b off k A xs HX.out hn (by omega) HK.out (fun h => (HA.out h).1) (fun t x hx => ?_) ((hb.cell (p := ⟨w.heap.size, 0, none⟩) (by simp; omega)).trans q1) ((hb.cell (p := ⟨w.heap.size + 1, 0, none⟩) (by simp; omega)).trans q2)).mono ?_
        · have hp : 0 < j := by rw [HX.out]; have := (List.getElem?_eq_some_iff.1 hx).1; omega
          have hbl := (HA.out hp).2
          exact ((hb.cell (p := ⟨b, off + t, none⟩) (by simp; omega)).trans (hbel.cell (p := ⟨b, off + t, none⟩) hbl)).trans (HC.out t x hx)
        · rintro o w' ⟨rfl, rfl⟩
          exact ⟨rfl, hb⟩
      rintro o w' ⟨i, rfl, hi, h1, h2, hb⟩
      have hcf := cut_found (cutB_iff q (lds xs)) (by rw [← HS2.out]; exact hi) h1 (by rw [← HS2.out]; exact h2)
      have HCF := Lib.hid hcf
      clear h1 h2 hcf
      go_wp2_with fail
      go_ret
      exact ⟨i, rfl, HCF.out, by rw [← HS2.out]; exact hi, hbel.trans (hb.mono (by omega))⟩

end Go.Proofs.Ytpkdjdofbedncaa
