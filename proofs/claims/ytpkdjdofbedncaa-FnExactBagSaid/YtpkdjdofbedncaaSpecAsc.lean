/-
  What is proved here: the contract of the reference's Ascending: it returns the ascending list; condition: at most 2^43 elements.
-/
import Derived.Test.YtpkdjdofbedncaaOwn
import Derived.Test.YtpkdjdofbedncaaAscPlain
import Derived.Deep.RegionLaw
namespace Go.Proofs.Ytpkdjdofbedncaa
open Go.RowKit
set_option linter.unusedVariables false

/-- What the outer loop holds: what came out is ascending, nothing left is less, and together they are what came in. -/
def Picked (xs out lft : List Int) : Prop := Asc out ∧ (∀ a ∈ out, ∀ b ∈ lft, a ≤ b) ∧ (out ++ lft).Perm xs

theorem picked_step {xs out lft : List Int} {j : Nat} {m : Int} (h : Picked xs out lft) (hj : lft[j]? = some m) (hmin : ∀ b ∈ lft, m ≤ b) : Picked xs (out ++ [m]) (lft.eraseIdx j) := by
  obtain ⟨h1, h2, h3⟩ := h
  obtain ⟨hjl, rfl⟩ := List.getElem?_eq_some_iff.1 hj
  refine ⟨?_, ?_, ?_⟩
  · unfold Asc at *
    rw [List.pairwise_append]
    exact ⟨h1, by simp, fun a ha b hb => by simp at hb; subst hb; exact h2 a ha _ (List.getElem_mem hjl)⟩
  · intro a ha b hb
    have hbl : b ∈ lft := List.mem_of_mem_eraseIdx hb
    rw [List.mem_append] at ha
    rcases ha with ha | ha
    · exact h2 a ha b hbl
    · simp at ha; subst ha; exact hmin b hbl
  · have hp : (lft[j] :: lft.eraseIdx j).Perm lft := by
      have h5 : lft = lft.take j ++ lft[j] :: lft.drop (j + 1) := by rw [← List.drop_eq_getElem_cons hjl, List.take_append_drop]
      rw [List.eraseIdx_eq_take_drop_succ]
      exact List.perm_middle.symm.trans (by rw [← h5])
    rw [List.append_assoc]
    exact ((List.Perm.refl out).append (by simpa using hp)).trans h3

theorem own_nil_of_len {E : TypeId} {B g cap : Nat} {w : World} {L : List Int} (h : Own E B w (.slice (some ⟨g, 0, none⟩) 0 cap) L) : L = [] := List.eq_nil_of_length_eq_zero (own_lt h).2.2.1

set_option maxRecDepth 100000 in
set_option maxHeartbeats 2000000 in
theorem specAscending_any (v : Value) (xs : List Int) (w : World) (h : Ro w v xs) (hn : xs.length ≤ 8796093022208) :
    Calls Try.prog 52 #[v] w (Made 3 (asc xs) w) := by
  have HR := Lib.hid h
  obtain ⟨A, c, b, off, rfl, hnc, hcm, ha, hcell⟩ := h
  obtain ⟨n, hxn⟩ : ∃ n, n = xs.length := ⟨_, rfl⟩
  rw [← hxn] at hn hnc HR ⊢
  have HX := Lib.hid hxn
  clear hxn hcell ha
  unfold maxLen at hcm
  go_enter Try.func52, Try.ntmps52
  go_wp2_with (at_builtin; refine wpList_app _ rfl (.tmp 8) (.tmp 9) rfl ints_ok w.heap.size w.heap.size 0 0 [] (by rfl) (ownE _ (Nat.le_refl _)) _ n c (xs.map (Value.int .i64)) (by rfl) ((Ro.src HR.out).2.alloc _) (by unfold maxLen; omega) (by omega) (by simp) n (by omega) _ rfl ?_; intro g0 cap0 w0 hown0 hgrow0 hat0)
  have ho0 : Own 3 w.heap.size w0 (.slice (some ⟨g0, 0, none⟩) n cap0) xs := by unfold Own; rw [← HX.out]; exact hown0
  have hb0 : Below w.heap.size w w0 := ((Below.refl _ _).alloc (Nat.le_refl _) _).grown hgrow0 (by simp) (fun k hk => by injection hk with hk; omega)
  have hg0 := (own_lt ho0).2.1
  have HO := Lib.hid ho0
  clear ho0 hown0 hgrow0 hat0
  go_wp2_with fail
  go_loopg [3, 4] n (fun kx s3 s4 wr => ∃ (l m g cap capl : Nat) (lft out : List Int), s3 = .slice (some ⟨g0, 0, none⟩) l capl ∧ s4 = .slice (some ⟨g, 0, none⟩) m cap ∧ l ≤ kx ∧ l + m = n ∧ Below w.heap.size w wr ∧ w0.heap.size < wr.heap.size ∧
    Hid (Own 3 w.heap.size wr (.slice (some ⟨g0, 0, none⟩) l capl) lft) ∧ Hid (Own 3 w0.heap.size wr (.slice (some ⟨g, 0, none⟩) m cap) out) ∧ Hid (Picked xs out lft))
  case atStart =>
    refine ⟨n, 0, w0.heap.size, 0, cap0, xs, [], rfl, rfl, Nat.le_refl _, by omega, hb0.alloc hb0.size _, by simp, HO.out.below ((Below.refl _ _).alloc (Nat.le_refl _) _), ownE (e := 3) (size := 1) w0 (Nat.le_refl _), ?_⟩
    exact ⟨by simp [Asc], fun a ha => by simp at ha, by simp⟩
  case round =>
    obtain ⟨l, m, g, cap, capl, lft, out, rfl, rfl, hlk, hlm, hb, hsz, HO1, HO2, HP⟩ := hrel
    clear HO
    obtain ⟨_, hgl1, hll, hlc, hcapl⟩ := own_lt HO1.out
    obtain ⟨hgB, hgl2, hml, hmc, hcap⟩ := own_lt HO2.out
    have HLL := Lib.hid hll
    have HML := Lib.hid hml
    clear hll hml
    unfold maxLen at hcapl hcap
    obtain ⟨wo, rfl⟩ : ∃ wo : World, wo = wr := ⟨_, rfl⟩
    by_cases hl0 : 0 < l
    · go_wp2_with fail
      go_loopg [5, 17] l (fun kx s5 s17 wq => ∃ (j q : Nat) (y : Int), s5 = .int .i64 q ∧ s17 = .int .i64 j ∧ j ≤ l ∧ l - j ≤ kx ∧ q < l ∧ wq = wo ∧ Hid (lft[q]? = some y) ∧ Hid (∀ t x, t < j → lft[t]? = some x → y ≤ x))
      case atStart =>
        refine ⟨0, 0, lft[0]'(by rw [HLL.out]; exact hl0), rfl, rfl, Nat.zero_le _, by omega, hl0, rfl, ?_, ?_⟩
        · exact List.getElem?_eq_getElem _
        · exact fun t x ht => absurd ht (by omega)
      case round =>
        obtain ⟨j, q, y, rfl, rfl, hj, hjk, hq, rfl, HQ, HM⟩ := hrel
        have hcq := (own_cell HO1.out HQ.out).1
        have z0 : (0 : Int) ≤ (q : Int) := by omega
        have z1 : (q : Int) < (l : Int) := by omega
        by_cases hjl : j < l
        · obtain ⟨x, hx⟩ : ∃ x, lft[j]? = some x := ⟨lft[j]'(by rw [HLL.out]; exact hjl), List.getElem?_eq_getElem _⟩
          have hcx := (own_cell HO1.out hx).1
          have HXJ := Lib.hid hx
          clear hx
          by_cases hxy : x < y
          · go_wp2_with fail
            go_roundg (l - (j + 1))
            case measure => omega
            case rel =>
              refine ⟨j + 1, j, x, rfl, by go_num, by omega, by omega, hjl, rfl, HXJ.out, ?_⟩
              intro t z ht hz
              by_cases htj : t = j
              · subst htj
                have := HXJ.out
                rw [hz] at this
                injection this with this
                omega
              · have := HM.out t z (by omega) hz
                omega
          · go_wp2_with fail
            go_roundg (l - (j + 1))
            case measure => omega
            case rel =>
              refine ⟨j + 1, q, y, rfl, by go_num, by omega, by omega, hq, rfl, HQ.out, ?_⟩
              intro t z ht hz
              by_cases htj : t = j
              · subst htj
                have := HXJ.out
                rw [hz] at this
                injection this with this
                omega
              · exact HM.out t z (by omega) hz
        · have hmin : ∀ b ∈ lft, y ≤ b := by
            intro b hb'
            obtain ⟨t, ht, rfl⟩ := List.mem_iff_getElem.1 hb'
            exact HM.out t _ (by rw [HLL.out] at ht; omega) (List.getElem?_eq_getElem ht)
          have HST := Lib.hid (picked_step HP.out HQ.out hmin)
          clear hmin
          have hown : wr.ownsRow w0.heap.size 3 1 (.slice (some ⟨g, 0, none⟩) m cap) m (out.map (Value.int .i64)) := by
            have := HO2.out; unfold Own at this; rwa [HML.out] at this
          have hownl : wr.ownsRow w.heap.size 3 1 (.slice (some ⟨g0, 0, none⟩) l capl) l (lft.map (Value.int .i64)) := by
            have := HO1.out; unfold Own at this; rwa [HLL.out] at this
          have HOW := Lib.hid hown
          have HOL := Lib.hid hownl
          clear hown hownl
          go_wp2_with (at_builtin; refine wpList_app _ rfl (.tmp 30) (.tmp 35) rfl ints_ok w0.heap.size g m cap (out.map (Value.int .i64)) (by rfl) (HOW.out.alloc _) _ 1 1 [.int .i64 y] (by rfl) (Src.one _ _ _) (by unfold maxLen; omega) (by omega) (by simp; omega) (m + 1) rfl _ rfl ?_; intro g2 cap2 w2 hown2 hgrow2 hat2)
          have hol2 : w2.ownsRow w.heap.size 3 1 (.slice (some ⟨g0, 0, none⟩) l capl) l (lft.map (Value.int .i64)) := World.ownsRow.kept (HOL.out.alloc _) hgrow2 (.inr (by simp [Value.ownBlock]; omega))
          have hsz2 : wr.heap.size < w2.heap.size := by have := hgrow2.size; simp at this; omega
          have hb2 : Below w.heap.size w w2 := (hb.alloc (by omega) _).grown hgrow2 (by simp; omega) (fun k hk => by injection hk with hk; omega)
          have hg2 : w0.heap.size ≤ g2 := (hown2.lt _ rfl).1
          have HO22 := Lib.hid hown2
          have HOL2 := Lib.hid hol2
          clear hown2 hol2 hgrow2 hat2
          have y0 : (0 : Int) ≤ (q : Int) + 1 := by omega
          have y1 : (q : Int) + 1 ≤ (l : Int) := by omega
          have y2 : (q : Int) ≤ (capl : Int) := by omega
          have y3 : (q : Int) + 1 ≤ (capl : Int) := by omega
          have y4 : (l : Int) ≤ (capl : Int) := by omega
          have y5 : ((q : Int) + 1).toNat = q + 1 := by omega
          have y6 : IntKind.i64.wrap ((q : Int) + 1) = (q : Int) + 1 := IntWalk.i64_in _ (by omega)
          go_wp2_with fail
          go_region_law ((refine step_del _ (by rfl) (.tmp 39) (.tmp 43) (by rfl) ints_ok w.heap.size g0 l capl q (lft.map (Value.int .i64)) (by go_simp) HOL2.out.drew (oneCell_ints _) hq (if capl = q + 1 then some ⟨g0, 0, none⟩ else some ⟨g0, q + 1, none⟩) (l - (q + 1)) (capl - (q + 1)) (by go_simp) rfl rfl ?_; intro w3 hown3 hgrow3))
          clear y5 y6
          have hb3 : Below w.heap.size w w3 := (hb2.drew).grown hgrow3 hb2.size (fun k hk => by injection hk with hk; omega)
          have hsz3 : w2.heap.size ≤ w3.heap.size := hgrow3.size
          have hol3 : Own 3 w.heap.size w3 (.slice (some ⟨g0, 0, none⟩) (l - 1) capl) (lft.eraseIdx q) := by
            unfold Own
            rw [List.length_eraseIdx, if_pos (by rw [HLL.out]; exact hq), HLL.out, map_erase]
            exact hown3
          have ho3 : Own 3 w0.heap.size w3 (.slice (some ⟨g2, 0, none⟩) (m + 1) cap2) (out ++ [y]) := by
            unfold Own
            rw [List.length_append, HML.out, List.map_append]
            exact World.ownsRow.kept HO22.out.drew hgrow3 (.inr (by simp [Value.ownBlock]; omega))
          have HA1 := Lib.hid hol3
          have HA2 := Lib.hid ho3
          clear hol3 ho3 hown3 hgrow3
          go_wp2_with fail
          all_goals go_roundg (l - 1)
          all_goals first | omega | skip
          all_goals exact ⟨l - 1, m + 1, g2, cap2, capl, lft.eraseIdx q, out ++ [y], slice_cap (by omega), rfl, Nat.le_refl _, by omega, hb3, by omega, HA1.out, HA2.out, HST.out⟩
    · obtain rfl : l = 0 := by omega
      have hnil := own_nil_of_len HO1.out
      subst hnil
      go_wp2_with fail
      go_ret
      refine ⟨_, rfl, ?_, hb⟩
      obtain ⟨p1, _, p3⟩ := HP.out
      rw [List.append_nil] at p3
      rw [← asc_eq p1 p3]
      exact HO2.out.mono hb0.size

end Go.Proofs.Ytpkdjdofbedncaa
