/- The law's own walk. -/
import Derived.Test.Qxb6617119aOut
namespace Go.Proofs.Qxb6617119a
open Go.RowKit
set_option linter.unusedVariables false

/-- The record of one member is one that the law speaks of. -/
def okRec (l v : Int) : Prop := 0 ≤ l ∧ l ≤ 31 ∧ 0 ≤ v ∧ v ≤ l

/-- The loop over the script: k calls of lead made. -/
structure KL (n : Nat) (l0 w0 ids : Nat → Nat) (X : Nat → Bool) (wB : World) (tb : Nat) (th tl tw : Option Addr) (dh dl dw : Nat) (k : Nat) (wr : World) : Prop where
  bel : Below wB.heap.size wB wr
  box : wr.heap[tb]? = some (.cells #[.slice th n dh, .slice tl n dl, .slice tw n dw] 43 (0, 0))
  tab : 0 < n → ∃ g1 g2, tl = some ⟨g1, 0, none⟩ ∧ tw = some ⟨g2, 0, none⟩ ∧ wB.heap.size ≤ g1 ∧ wB.heap.size ≤ g2 ∧ Tab wr tb g1 g2 n dl dw (.slice th n dh) (Rec.SL l0 ids k) (Rec.SW l0 w0 ids X k)

theorem KL.start {n : Nat} {l0 w0 ids : Nat → Nat} {X : Nat → Bool} {w7 w8 w9 : World} {th tl tw : Option Addr} {dh dl dw : Nat}
    (b8 : Below w7.heap.size w7 w8) (b9 : Below w8.heap.size w8 w9) (ol : Own w7.heap.size w8 tl 3 n (fun i => .int .i64 (l0 i : Int))) (ow : Own w8.heap.size w9 tw 3 n (fun i => .int .i64 (w0 i : Int))) :
    KL n l0 w0 ids X w7 w9.heap.size th tl tw dh dl dw 0 (w9.alloc (.cells #[.slice th n dh, .slice tl n dl, .slice tw n dw] 43)) := by
  have s8 := b8.size
  have s9 := b9.size
  refine ⟨(b8.trans (b9.mono s8)).alloc (by omega) _, Go.heap_alloc_new w9 _, fun hn => ?_⟩
  obtain ⟨g1, h1, rfl, r1⟩ := ol hn
  obtain ⟨g2, h2, rfl, r2⟩ := ow hn
  have l1 := r1.lt
  have l2 := r2.lt
  exact ⟨g1, g2, rfl, rfl, h1, by omega, ⟨Go.heap_alloc_new w9 _, (r1.below b9 l1).old _, r2.old _, by omega, by omega, by omega⟩⟩

theorem KL.step {n : Nat} {l0 w0 ids : Nat → Nat} {X : Nat → Bool} {wB : World} {tb : Nat} {th : Option Addr} {g1 g2 dh dl dw k : Nat} {wr wr' : World}
    (h : KL n l0 w0 ids X wB tb th (some ⟨g1, 0, none⟩) (some ⟨g2, 0, none⟩) dh dl dw k wr) (h1 : wB.heap.size ≤ g1) (h2 : wB.heap.size ≤ g2)
    (ht : Tab wr' tb g1 g2 n dl dw (.slice th n dh) (upd (Rec.SL l0 ids k) (ids k) (stepL (Rec.SL l0 ids k (ids k)))) (upd (Rec.SW l0 w0 ids X k) (ids k) (stepW (Rec.SL l0 ids k (ids k)) (Rec.SW l0 w0 ids X k (ids k)) (X k))))
    (hb : Below wB.heap.size wr wr') : KL n l0 w0 ids X wB tb th (some ⟨g1, 0, none⟩) (some ⟨g2, 0, none⟩) dh dl dw (k + 1) wr' :=
  ⟨h.bel.trans hb, ht.box, fun _ => ⟨g1, g2, rfl, rfl, h1, h2, ht⟩⟩

theorem Tab.drewN {w : World} {tb gl gw n cl cw : Nat} {vh : Value} {L W : Nat → Nat} (h : Tab w tb gl gw n cl cw vh L W) (q : Nat) : Tab (w.drewN q) tb gl gw n cl cw vh L W :=
  ⟨h.box, h.led, h.won, h.n1, h.n2, h.n3⟩
theorem Tab.drew {w : World} {tb gl gw n cl cw : Nat} {vh : Value} {L W : Nat → Nat} (h : Tab w tb gl gw n cl cw vh L W) : Tab w.drew tb gl gw n cl cw vh L W :=
  ⟨h.box, h.led, h.won, h.n1, h.n2, h.n3⟩

set_option maxHeartbeats 4000000 in
set_option maxRecDepth 100000 in
theorem law_in (w : World) (o0 o1 o2 o3 o4 : Option Addr) (n c0 c1 c2 T c3 c4 : Nat) (F : Nat → Nat) (L W I : Nat → Int) (X : Nat → Bool)
    (hn : n ≤ 65536) (hT : T ≤ 65536) (hsum : 8 * n + 8 * n + 8 * n + 8 * T + T ≤ 1048576)
    (z0 : o0 = none → n = 0 ∧ c0 = 0) (z1 : o1 = none → n = 0 ∧ c1 = 0) (z2 : o2 = none → n = 0 ∧ c2 = 0) (z3 : o3 = none → T = 0 ∧ c3 = 0) (z4 : o4 = none → T = 0 ∧ c4 = 0)
    (s0 : Sl w o0 n (fun i => .float .f64 (F i))) (s1 : Sl w o1 n (fun i => .int .i64 (L i))) (s2 : Sl w o2 n (fun i => .int .i64 (W i))) (s3 : Sl w o3 T (fun i => .int .i64 (I i))) (s4 : Sl w o4 T (fun i => .bool (X i))) :
    Calls Try.prog 5 #[.slice o0 n c0, .slice o1 n c1, .slice o2 n c2, .slice o3 T c3, .slice o4 T c4] w fun e w' => e = .returned (.bool true) ∧ Below w.heap.size w w' := by
  go_enter Try.func5, Try.ntmps5
  go_wp2_with (go_at_call 14; refine (bytes_any _ _ _ _ _ _ _ _ _ _ _ _ _ _ _ _ (by omega) (by omega) (by omega) (by omega) (by omega)).mono ?_; rintro e w' ⟨⟨b, rfl⟩, rfl⟩)
  · go_ret
    exact ⟨rfl, Below.refl _ _⟩
  go_loopg [12] n (fun g i wr => ∃ k q : Nat, k ≤ n ∧ g = n - k ∧ i = .int .i64 k ∧ wr = w'.drewN q ∧ ∀ i, i < k → okRec (L i) (W i))
  case atStart => exact ⟨0, 0, by omega, by omega, rfl, rfl, fun i hi => absurd hi (by omega)⟩
  case round =>
    obtain ⟨k, q, hk, rfl, rfl, rfl, hok⟩ := hrel
    have HOK : Hid _ := hok
    clear hok
    by_cases hlt : k < n
    · obtain ⟨b1, off1, rfl, hc1⟩ := s1 (by omega)
      obtain ⟨b2, off2, rfl, hc2⟩ := s2 (by omega)
      have e1 := hc1 k hlt
      have e2 := hc2 k hlt
      have hlt' : (k : Int) < (n : Int) := by omega
      by_cases t1 : L k < 0
      · go_wp2
        go_quiet (fail)
        go_wp2
        go_ret
        exact ⟨rfl, below_drewN (below_drewN (Below.refl _ _) _) _⟩
      have d1 : decide (L k < 0) = false := decide_eq_false t1
      by_cases t2 : 31 < L k
      · go_wp2
        go_quiet (fail)
        go_wp2
        go_ret
        exact ⟨rfl, below_drewN (below_drewN (Below.refl _ _) _) _⟩
      have d2 : decide (31 < L k) = false := decide_eq_false t2
      by_cases t3 : W k < 0
      · go_wp2
        go_quiet (fail)
        go_wp2
        go_ret
        exact ⟨rfl, below_drewN (below_drewN (Below.refl _ _) _) _⟩
      have d3 : decide (W k < 0) = false := decide_eq_false t3
      by_cases t4 : L k < W k
      · go_wp2
        go_quiet (fail)
        go_wp2
        go_ret
        exact ⟨rfl, below_drewN (below_drewN (Below.refl _ _) _) _⟩
      have d4 : decide (L k < W k) = false := decide_eq_false t4
      go_wp2
      go_quiet (fail)
      go_wp2
      go_roundg (n - (k + 1))
      case measure => omega
      case rel => exact ⟨k + 1, _, by omega, rfl, by go_num, rfl, fun i hi => by
        by_cases e : i = k
        · subst e; exact ⟨by omega, by omega, by omega, by omega⟩
        · exact HOK.out i (by omega)⟩
    · obtain rfl : n = k := by omega
      go_wp2
      go_loopg [13] T (fun g i wr => ∃ k : Nat, k ≤ T ∧ g = T - k ∧ i = .int .i64 k ∧ wr = w'.drewN q ∧ ∀ i, i < k → 0 ≤ I i ∧ I i < n)
      case atStart => exact ⟨0, by omega, by omega, rfl, rfl, fun i hi => absurd hi (by omega)⟩
      case round =>
        obtain ⟨k, hk2, rfl, rfl, rfl, hin⟩ := hrel
        have HIN : Hid _ := hin
        clear hin
        by_cases hlt2 : k < T
        · obtain ⟨b3, off3, rfl, hc3⟩ := s3 (by omega)
          have e3 := hc3 k hlt2
          by_cases t1 : I k < 0
          · go_wp2
            go_ret
            exact ⟨rfl, below_drewN (Below.refl _ _) _⟩
          by_cases t2 : (n : Int) ≤ I k
          · go_wp2
            go_ret
            exact ⟨rfl, below_drewN (Below.refl _ _) _⟩
          go_wp2
          go_roundg (T - (k + 1))
          case measure => omega
          case rel => exact ⟨k + 1, by omega, rfl, by go_num, rfl, fun i hi => by
            by_cases e : i = k
            · subst e; exact ⟨by omega, by omega⟩
            · exact HIN.out i (by omega)⟩
        · obtain rfl : T = k := by omega
          obtain ⟨l0, hl0⟩ : ∃ l0 : Nat → Nat, ∀ i, l0 i = (L i).toNat := ⟨_, fun _ => rfl⟩
          obtain ⟨w0, hw0⟩ : ∃ w0 : Nat → Nat, ∀ i, w0 i = (W i).toNat := ⟨_, fun _ => rfl⟩
          obtain ⟨ids, hids⟩ : ∃ ids : Nat → Nat, ∀ i, ids i = (I i).toNat := ⟨_, fun _ => rfl⟩
          have hl : ∀ m, m < n → l0 m ≤ 31 := fun m hm => by have := HOK.out m hm; unfold okRec at this; rw [hl0]; omega
          have hw : ∀ m, m < n → w0 m ≤ l0 m := fun m hm => by have := HOK.out m hm; unfold okRec at this; rw [hl0, hw0]; omega
          have hid : ∀ j, j < T → ids j < n := fun j hj => by have := HIN.out j hj; rw [hids]; omega
          have s1' : Sl (w'.drewN q) o1 n (fun i => .int .i64 (l0 i)) := (s1.drewN q).congr (fun i hi => by have := HOK.out i hi; unfold okRec at this; rw [hl0, Int.toNat_of_nonneg this.1])
          have s2' : Sl (w'.drewN q) o2 n (fun i => .int .i64 (w0 i)) := (s2.drewN q).congr (fun i hi => by have := HOK.out i hi; unfold okRec at this; rw [hw0, Int.toNat_of_nonneg this.2.2.1])
          have s3' : Sl (w'.drewN q) o3 T (fun i => .int .i64 (ids i)) := (s3.drewN q).congr (fun i hi => by have := HIN.out i hi; rw [hids, Int.toNat_of_nonneg this.1])
          have s0' := s0.drewN q
          have s4' := s4.drewN q
          have HB0 : Hid (Below w'.heap.size w' (w'.drewN q)) := below_drewN (Below.refl _ _) q
          clear hl0 hw0 hids HOK HIN s0 s1 s2 s3 s4 hk hk2 hlt hlt2
          generalize hW0 : w'.drewN q = W0 at *
          clear hW0
          go_wp2_with fail
          refine (cloneFloats_any o0 n c0 F _ z0 (by omega) s0').mono ?_
          rintro e w1 ⟨a0, d0, rfl, y0, own0, bel1⟩
          have s1' := s1'.below bel1
          have s2' := s2'.below bel1
          have s3' := s3'.below bel1
          have s4' := s4'.below bel1
          go_wp2_with fail
          refine (cloneInts_any o1 n c1 (fun i => (l0 i : Int)) _ z1 (by omega) s1').mono ?_
          rintro e w2 ⟨a1, d1, rfl, y1, own1, bel2⟩
          have s2' := s2'.below bel2
          have s3' := s3'.below bel2
          have s4' := s4'.below bel2
          have own0 := own0.below bel2
          go_wp2_with fail
          refine (cloneInts_any o2 n c2 (fun i => (w0 i : Int)) _ z2 (by omega) s2').mono ?_
          rintro e w3 ⟨a2, d2, rfl, y2, own2, bel3⟩
          have s3' := s3'.below bel3
          have s4' := s4'.below bel3
          have own0 := own0.below bel3
          have own1 := own1.below bel3
          go_wp2_with fail
          refine (cloneInts_any o3 T c3 (fun i => (ids i : Int)) _ z3 (by omega) s3').mono ?_
          rintro e w4 ⟨a3, d3, rfl, y3, own3, bel4⟩
          have s4' := s4'.below bel4
          have own0 := own0.below bel4
          have own1 := own1.below bel4
          have own2 := own2.below bel4
          go_wp2_with fail
          refine (cloneBools_any o4 T c4 X _ z4 (by omega) s4').mono ?_
          rintro e w5 ⟨a4, d4, rfl, y4, own4, bel5⟩
          have own0 := own0.below bel5
          have own1 := own1.below bel5
          have own2 := own2.below bel5
          have own3 := own3.below bel5
          go_wp2_with fail
          refine (decayed_any w5 a1 a2 a3 a4 d1 d2 d3 d4 n T l0 w0 ids X hn hT hid hl hw own1.sl own2.sl own3.sl own4.sl).mono ?_
          rintro e w6 ⟨gl, gw, rfl, rl, rwn, bel6⟩
          have own0 := own0.below bel6
          have own1 := own1.below bel6
          have own2 := own2.below bel6
          have own3 := own3.below bel6
          have own4 := own4.below bel6
          go_wp2_with fail
          refine (cloneFloats_any a0 n d0 F _ y0 (by omega) own0.sl).mono ?_
          rintro e w7 ⟨th, dh, rfl, yh, ownh, bel7⟩
          have own0 := own0.below bel7
          have own1 := own1.below bel7
          have own2 := own2.below bel7
          have own3 := own3.below bel7
          have own4 := own4.below bel7
          have rl := rl.below bel7 rl.lt
          have rwn := rwn.below bel7 rwn.lt
          go_wp2_with fail
          refine (cloneInts_any a1 n d1 (fun i => (l0 i : Int)) _ y1 (by omega) own1.sl).mono ?_
          rintro e w8 ⟨tl, dl, rfl, yl, ownl, bel8⟩
          have own2 := own2.below bel8
          go_wp2_with fail
          refine (cloneInts_any a2 n d2 (fun i => (w0 i : Int)) _ y2 (by omega) own2.sl).mono ?_
          rintro e w9 ⟨tw, dw, rfl, yw, ownw, bel9⟩
          go_wp2_with fail
          refine (table_any w9 th tl tw n dh n dl n dw).mono ?_
          rintro e w10 ⟨rfl, rfl⟩
          have HBW : Hid (Below w'.heap.size w' w7) := by
            have t0 := HB0.out
            have q0 := t0.size
            have q1 := bel1.size
            have q2 := bel2.size
            have q3 := bel3.size
            have q4 := bel4.size
            have q5 := bel5.size
            have q6 := bel6.size
            exact ((((((t0.trans (bel1.mono (by omega))).trans (bel2.mono (by omega))).trans (bel3.mono (by omega))).trans (bel4.mono (by omega))).trans (bel5.mono (by omega))).trans (bel6.mono (by omega))).trans (bel7.mono (by omega))
          have hst : KL n l0 w0 ids X w7 w9.heap.size th tl tw dh dl dw 0 (w9.alloc (.cells #[.slice th n dh, .slice tl n dl, .slice tw n dw] 43)) := KL.start bel8 bel9 ownl ownw
          clear HB0 bel1 bel2 bel3 bel4 bel5 bel6 bel7 bel8 bel9 ownl ownw own1 own2 s0' s1' s2' s3' s4' z0 z1 z2 z3 z4 y0 y1 y2 y3 y4 yh yl yw
          go_wp2_with fail
          go_loopg [17] T (fun g i wr => ∃ k : Nat, k ≤ T ∧ g = T - k ∧ i = .int .i64 k ∧ KL n l0 w0 ids X w7 w9.heap.size th tl tw dh dl dw k wr)
          case atStart => exact ⟨0, by omega, by omega, rfl, hst⟩
          case round =>
            clear hst
            obtain ⟨k, hk, rfl, rfl, hK⟩ := hrel
            by_cases hlt : k < T
            · obtain ⟨g3, _, rfl, r3⟩ := own3 (by omega)
              obtain ⟨g4, _, rfl, r4⟩ := own4 (by omega)
              have e3 := (r3.below hK.bel r3.lt).cell hlt
              have e4 := (r4.below hK.bel r4.lt).cell hlt
              have hik := hid k hlt
              obtain ⟨g1, g2, rfl, rfl, hg1, hg2, htab⟩ := hK.tab (by omega)
              have hinv := Rec.inv l0 w0 ids X (ids k) (hl _ hik) (hw _ hik) k
              have hLb := hinv.2.2.2
              have hWb := hinv.2.2.1
              clear hinv
              have hlt' : (k : Int) < (T : Int) := by omega
              go_wp2_with fail
              have hcon := zzlead_any wr.drew w9.heap.size g1 g2 n dl dw (ids k) (.slice th n dh) (Rec.SL l0 ids k) (Rec.SW l0 w0 ids X k) (X k) hik (by omega) hLb hWb htab.drew
              go_region_with (go_at_call 12; refine hcon.mono ?_; rintro e w'' ⟨rfl, ht, hb⟩)
              all_goals
                go_wp2_with fail
                go_roundg (T - (k + 1))
                case measure => omega
                case rel => exact ⟨k + 1, by omega, rfl, by go_num, hK.step hg1 hg2 ht (((Below.refl _ _).drew).trans (hb.below hg1 hg2))⟩
            · obtain rfl : T = k := by omega
              go_wp2_with fail
              refine (fields_any wr w9.heap.size _ _ _ th tl tw n dh n dl n dw rfl rfl rfl hK.box).mono ?_
              rintro e wf ⟨rfl, qf, rfl⟩
              go_wp2_with fail
              obtain ⟨wo, hwo⟩ : ∃ wo : World, wo = wr := ⟨_, rfl⟩
              subst hwo
              go_loopg [21] n (fun g i wr' => ∃ k q : Nat, k ≤ n ∧ g = n - k ∧ i = .int .i64 k ∧ wr' = wo.drewN q)
              case atStart => exact ⟨0, qf, by omega, by omega, rfl, rfl⟩
              case round =>
                obtain ⟨k, q2, hk3, rfl, rfl, hwd⟩ := hrel
                have HWD : Hid _ := hwd
                by_cases hlt3 : k < n
                · obtain ⟨g0, _, rfl, r0⟩ := own0 (by omega)
                  obtain ⟨gh, _, rfl, rh⟩ := ownh (by omega)
                  obtain ⟨g1, g2, rfl, rfl, hg1, hg2, htab⟩ := hK.tab (by omega)
                  have e0 : wr.cell? ⟨g0, k, none⟩ = some (.float .f64 (F k)) := by rw [hwd]; exact (r0.below hK.bel r0.lt).cell hlt3
                  have e1 : wr.cell? ⟨gh, k, none⟩ = some (.float .f64 (F k)) := by rw [hwd]; exact (rh.below hK.bel rh.lt).cell hlt3
                  have e2 : wr.cell? ⟨g1, k, none⟩ = some (.int .i64 (Rec.SL l0 ids T k)) := by rw [hwd]; exact htab.led.cell hlt3
                  have e3 : wr.cell? ⟨g2, k, none⟩ = some (.int .i64 (Rec.SW l0 w0 ids X T k)) := by rw [hwd]; exact htab.won.cell hlt3
                  have e4 : wr.cell? ⟨gl, k, none⟩ = some (.int .i64 (Rec.SL l0 ids T k)) := by rw [hwd]; exact (rl.below hK.bel rl.lt).cell hlt3
                  have e5 : wr.cell? ⟨gw, k, none⟩ = some (.int .i64 (Rec.SW l0 w0 ids X T k)) := by rw [hwd]; exact (rwn.below hK.bel rwn.lt).cell hlt3
                  have hlt4 : (k : Int) < (n : Int) := by omega
                  clear hwd
                  go_wp2_with fail
                  go_quiet ((go_at_call 17; exact Calls.quiet_of_same (same_any _ _)))
                  go_wp2_with fail
                  go_quiet (fail)
                  go_wp2_with fail
                  go_roundg (n - (k + 1))
                  case measure => omega
                  case rel => exact ⟨k + 1, _, by omega, rfl, by go_num, by rw [HWD.out, World.drewN_drewN]⟩
                · clear hwd
                  go_wp2
                  go_ret
                  refine ⟨rfl, ?_⟩
                  rw [HWD.out]
                  exact below_drewN (HBW.out.trans (hK.bel.mono HBW.out.size)) _

end Go.Proofs.Qxb6617119a
