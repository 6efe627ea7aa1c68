/- The first law's own walk. -/
import Derived.Test.Qxb6617838aTile
namespace Go.Proofs.Qxb6617838a
open Go.RowKit
set_option linter.unusedVariables false

theorem below_block {w w' : World} (hb : Below w.heap.size w w') {g : Nat} {o : Obj} (h : w.heap[g]? = some o) : w'.heap[g]? = some o := by
  rw [hb.block g (lt_of_block h)]; exact h

set_option maxRecDepth 100000 in
set_option maxHeartbeats 1000000 in
theorem lawA_any (w : World) (A B : Array Value) (v : Nat) (c : Nat → Int) (s : Nat → Nat) (hA : A.size = 16) (hB : B.size = 512) (hc : ∀ k, k < 16 → A[k]? = some (.int .i64 (c k))) (hs : ∀ k, k < 512 → B[k]? = some (.int .u16 (s k)))
    (hsb : ∀ k, k < 512 → s k ≤ 65535) :
    Calls Try.prog 3 #[.agg A, .agg B, .int .u32 v] w fun e w' => e = .returned (.bool true) ∧ Below w.heap.size w w' := by
  have hgA : ((w.alloc (.cells A 22)).alloc (.cells B 24)).heap[w.heap.size]? = some (.cells A 22 (0, 0)) := heap_alloc2_old w _ _
  have hgB : ((w.alloc (.cells A 22)).alloc (.cells B 24)).heap[w.heap.size + 1]? = some (.cells B 24 (0, 0)) := heap_alloc2_new w _ _
  have h22 : (Try.prog.info? 22).map (·.size) = some A.size := by rw [hA]; exact Try.size22
  have h24 : (Try.prog.info? 24).map (·.size) = some B.size := by rw [hB]; exact Try.size24
  have hbel : Below w.heap.size w ((w.alloc (.cells A 22)).alloc (.cells B 24)) := ((Below.refl _ _).alloc (Nat.le_refl _) _).alloc (by simp) _
  by_cases hv2 : (32768 : Int) ≤ (v : Int)
  · clear hA hB hc hs hsb hgA hgB h22 h24
    go_enter Try.func3, Try.ntmps3
    go_wp2
    go_ret
    exact ⟨rfl, hbel⟩
  · have HV : Hid (v < 32768) := by show _ < _; omega
    have HC : Hid _ := hc
    have HS : Hid _ := hs
    have HSB : Hid _ := hsb
    have HA : Hid _ := hA
    have HB : Hid _ := hB
    clear hc hs hsb hA hB
    go_enter Try.func3, Try.ntmps3
    go_wp2_with (refine wpList_load_row rfl 22 (.tmp 3) rfl w.heap.size rfl 22 A (0, 0) _ hgA Try.underlying22 rfl h22 ?_)
    refine (ok_any _ A c HC.out).mono ?_
    rintro e w1 ⟨b, rfl, hok, bel1⟩
    have hgA1 := below_block bel1 hgA
    have hgB1 := below_block bel1 hgB
    have HBL : Hid (Below w.heap.size w w1) := hbel.trans (bel1.mono hbel.size)
    have HOK : Hid _ := hok
    clear hok bel1 hgA hgB hbel
    cases b with
    | false =>
      go_wp2_with fail
      go_ret
      exact ⟨rfl, HBL.out⟩
    | true =>
      obtain ⟨hpos, hfit⟩ := HOK.out rfl
      have hc' : ∀ k, k < 15 → A[k + 1]? = some (.int .i64 ((cn c (k + 1) : Nat) : Int)) := fun k hk => by
        rw [HC.out (k + 1) (by omega)]
        have := hpos k hk
        unfold cn
        rw [Int.toNat_of_nonneg this]
      have HC' : Hid _ := hc'
      have HF : Hid _ := hfit
      clear hc' hfit hpos HOK HC
      go_wp2_with (first | (refine wpList_load_row rfl 22 (.tmp 3) rfl w.heap.size rfl 22 A (0, 0) _ hgA1 Try.underlying22 rfl h22 ?_) | (refine wpList_load_row rfl 24 (.tmp 4) rfl (w.heap.size + 1) rfl 24 B (0, 0) _ hgB1 Try.underlying24 rfl h24 ?_))
      refine (zzdecode_any _ A B v (cn c) s HA.out HB.out HC'.out HS.out HSB.out HF.out HV.out).mono ?_
      rintro e w2 ⟨⟨a1, b1, rfl, hD1⟩, bel2⟩
      have hgA2 := below_block bel2 hgA1
      have hgB2 := below_block bel2 hgB1
      have HBL2 : Hid (Below w.heap.size w w2) := HBL.out.trans (bel2.mono HBL.out.size)
      clear bel2 hgA1 hgB1
      go_wp2_with (first | (refine wpList_load_row rfl 22 (.tmp 3) rfl w.heap.size rfl 22 A (0, 0) _ hgA2 Try.underlying22 rfl h22 ?_) | (refine wpList_load_row rfl 24 (.tmp 4) rfl (w.heap.size + 1) rfl 24 B (0, 0) _ hgB2 Try.underlying24 rfl h24 ?_))
      refine (tiling_any _ A B v (cn c) s HC'.out HS.out HSB.out HF.out HV.out).mono ?_
      rintro e w3 ⟨⟨a2, b2, rfl, hD2⟩, bel3⟩
      have HBL3 : Hid (Below w.heap.size w w3) := HBL2.out.trans (bel3.mono HBL2.out.size)
      obtain ⟨rfl, rfl⟩ := hD1.unique hD2
      clear bel3 hgA2 hgB2 hD1 hD2
      go_wp2_with fail
      go_ret
      exact ⟨rfl, HBL3.out⟩

end Go.Proofs.Qxb6617838a
