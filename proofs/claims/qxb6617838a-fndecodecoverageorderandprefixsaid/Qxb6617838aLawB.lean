/- The second law's own walk. -/
import Derived.Test.Qxb6617838aLawA
namespace Go.Proofs.Qxb6617838a
open Go.RowKit
set_option linter.unusedVariables false

set_option maxRecDepth 100000 in
set_option maxHeartbeats 1000000 in
theorem lawB_any (w : World) (A B : Array Value) (v1 v2 : Nat) (c : Nat → Int) (s : Nat → Nat) (hA : A.size = 16) (hB : B.size = 512) (hc : ∀ k, k < 16 → A[k]? = some (.int .i64 (c k))) (hs : ∀ k, k < 512 → B[k]? = some (.int .u16 (s k)))
    (hsb : ∀ k, k < 512 → s k ≤ 65535) :
    Calls Try.prog 4 #[.agg A, .agg B, .int .u32 v1, .int .u32 v2] w fun e w' => e = .returned (.bool true) ∧ Below w.heap.size w w' := by
  have hgA : ((w.alloc (.cells A 22)).alloc (.cells B 24)).heap[w.heap.size]? = some (.cells A 22 (0, 0)) := heap_alloc2_old w _ _
  have hgB : ((w.alloc (.cells A 22)).alloc (.cells B 24)).heap[w.heap.size + 1]? = some (.cells B 24 (0, 0)) := heap_alloc2_new w _ _
  have h22 : (Try.prog.info? 22).map (·.size) = some A.size := by rw [hA]; exact Try.size22
  have h24 : (Try.prog.info? 24).map (·.size) = some B.size := by rw [hB]; exact Try.size24
  have hbel : Below w.heap.size w ((w.alloc (.cells A 22)).alloc (.cells B 24)) := ((Below.refl _ _).alloc (Nat.le_refl _) _).alloc (by simp) _
  by_cases hv1 : (32768 : Int) ≤ (v1 : Int)
  · clear hA hB hc hs hsb hgA hgB h22 h24
    go_enter Try.func4, Try.ntmps4
    go_wp2
    go_ret
    exact ⟨rfl, hbel⟩
  by_cases hv2 : (32768 : Int) ≤ (v2 : Int)
  · clear hA hB hc hs hsb hgA hgB h22 h24
    go_enter Try.func4, Try.ntmps4
    go_wp2
    go_ret
    exact ⟨rfl, hbel⟩
  have HV1 : Hid (v1 < 32768) := by show _ < _; omega
  have HV2 : Hid (v2 < 32768) := by show _ < _; omega
  have HC : Hid _ := hc
  have HS : Hid _ := hs
  have HSB : Hid _ := hsb
  have HA : Hid _ := hA
  have HB : Hid _ := hB
  clear hc hs hsb hA hB
  go_enter Try.func4, Try.ntmps4
  go_wp2_with (refine wpList_load_row rfl 22 (.tmp 4) rfl w.heap.size rfl 22 A (0, 0) _ hgA Try.underlying22 rfl h22 ?_)
  refine (ok_any _ A c HC.out).mono ?_
  rintro e w1 ⟨b, rfl, hok, bel1⟩
  have hgA1 := below_block bel1 hgA
  have hgB1 := below_block bel1 hgB
  have HBL : Hid (Below w.heap.size w w1) := hbel.trans (bel1.mono hbel.size)
  have HOK : Hid _ := hok
  clear hok bel1 hgA hgB hbel
  cases b with
  | false =>
    go_wp2_with fail
    go_ret
    exact ⟨rfl, HBL.out⟩
  | true =>
    obtain ⟨hpos, hfit⟩ := HOK.out rfl
    have hc' : ∀ k, k < 15 → A[k + 1]? = some (.int .i64 ((cn c (k + 1) : Nat) : Int)) := fun k hk => by
      rw [HC.out (k + 1) (by omega)]
      have := hpos k hk
      unfold cn
      rw [Int.toNat_of_nonneg this]
    have HC' : Hid _ := hc'
    have HF : Hid _ := hfit
    clear hc' hfit hpos HOK HC
    go_wp2_with (refine wpList_load_row rfl 22 (.tmp 4) rfl w.heap.size rfl 22 A (0, 0) _ hgA1 Try.underlying22 rfl h22 ?_)
    refine (covered_any _ A (cn c) HC'.out HF.out).mono ?_
    rintro e w2 ⟨rfl, bel2⟩
    have hgA2 := below_block bel2 hgA1
    have hgB2 := below_block bel2 hgB1
    have HBL2 : Hid (Below w.heap.size w w2) := HBL.out.trans (bel2.mono HBL.out.size)
    clear bel2 hgA1 hgB1
    go_wp2_with (first | (refine wpList_load_row rfl 22 (.tmp 4) rfl w.heap.size rfl 22 A (0, 0) _ hgA2 Try.underlying22 rfl h22 ?_) | (refine wpList_load_row rfl 24 (.tmp 5) rfl (w.heap.size + 1) rfl 24 B (0, 0) _ hgB2 Try.underlying24 rfl h24 ?_))
    refine (zzdecode_any _ A B v1 (cn c) s HA.out HB.out HC'.out HS.out HSB.out HF.out HV1.out).mono ?_
    rintro e w3 ⟨⟨a1, b1, rfl, hD1⟩, bel3⟩
    have hgA3 := below_block bel3 hgA2
    have hgB3 := below_block bel3 hgB2
    have HBL3 : Hid (Below w.heap.size w w3) := HBL2.out.trans (bel3.mono HBL2.out.size)
    have HD1 : Hid (Pre.IsDec (cn c) s v1 a1 b1) := hD1
    clear bel3 hgA2 hgB2 hD1
    go_wp2_with (first | (refine wpList_load_row rfl 22 (.tmp 4) rfl w.heap.size rfl 22 A (0, 0) _ hgA3 Try.underlying22 rfl h22 ?_) | (refine wpList_load_row rfl 24 (.tmp 5) rfl (w.heap.size + 1) rfl 24 B (0, 0) _ hgB3 Try.underlying24 rfl h24 ?_))
    refine (zzdecode_any _ A B v2 (cn c) s HA.out HB.out HC'.out HS.out HSB.out HF.out HV2.out).mono ?_
    rintro e w4 ⟨⟨a2, b2, rfl, hD2⟩, bel4⟩
    have HBL4 : Hid (Below w.heap.size w w4) := HBL3.out.trans (bel4.mono HBL3.out.size)
    have HD2 : Hid (Pre.IsDec (cn c) s v2 a2 b2) := hD2
    clear bel4 hgA3 hgB3 hD2 h22 h24 HBL HBL2 HBL3
    have hb1 := HD1.out.len_le
    have hb2 := HD2.out.len_le
    have hc1 := HD1.out.covered
    have hc2 := HD2.out.covered
    have hn1 := HD1.out.none
    have hord := HD1.out.order HD2.out
    have hpre := HD1.out.pre HD2.out
    generalize Pre.S (cn c) 15 = S at *
    clear HA HB HC' HS HSB HF HD1 HD2
    have hl1 : v1 < 32768 := HV1.out
    have hl2 : v2 < 32768 := HV2.out
    clear hv1 hv2 HV1 HV2
    by_cases z1 : b1 = 0
    · have ha1 := hn1 z1
      subst z1 ha1
      have g1 : S ≤ v1 := by omega
      clear hn1 hc1 hpre
      by_cases z2 : b2 = 0
      · subst z2
        have g2 : S ≤ v2 := by omega
        clear hc2 hord
        go_wp2
        all_goals
          go_ret
          exact ⟨rfl, HBL4.out⟩
      · have z2' : 0 < b2 := by omega
        have g2 : v2 < S := by omega
        have g3 : v2 < v1 := by omega
        clear hc2 hord z2
        go_wp2
        all_goals
          go_ret
          exact ⟨rfl, HBL4.out⟩
    · have z1' : 0 < b1 := by omega
      have g1 : v1 < S := by omega
      clear hn1 hc1 z1
      have ep : ∀ x : Nat, (x : Int) / 2 ^ (15 - b1) = ((x / 2 ^ (15 - b1) : Nat) : Int) := fun x => by simp
      by_cases heq : v1 / 2 ^ (15 - b1) = v2 / 2 ^ (15 - b1)
      · obtain ⟨ea, eb⟩ := hpre z1' heq
        subst ea eb
        have tb : ((v1 : Int) / 2 ^ (15 - b2) == (v2 : Int) / 2 ^ (15 - b2)) = true := by rw [ep, ep, heq]; simp
        have g2 : v2 < S := by omega
        clear ep heq hpre hord hc2
        go_wp2
        all_goals
          go_ret
          exact ⟨rfl, HBL4.out⟩
      · have tb : ((v1 : Int) / 2 ^ (15 - b1) == (v2 : Int) / 2 ^ (15 - b1)) = false := by rw [ep, ep, beq_eq_false_iff_ne]; omega
        clear ep heq hpre
        by_cases z2 : b2 = 0
        · subst z2
          have g2 : S ≤ v2 := by omega
          clear hord hc2
          go_wp2
          all_goals
            go_ret
            exact ⟨rfl, HBL4.out⟩
        · have z2' : 0 < b2 := by omega
          have g2 : v2 < S := by omega
          by_cases hle : v1 ≤ v2
          · have hbb := hord hle z2'
            clear hord hc2 z2
            go_wp2
            all_goals
              go_ret
              exact ⟨rfl, HBL4.out⟩
          · clear hord hc2 z2
            have hgt : v2 < v1 := by omega
            clear hle
            go_wp2
            all_goals
              go_ret
              exact ⟨rfl, HBL4.out⟩

end Go.Proofs.Qxb6617838a
