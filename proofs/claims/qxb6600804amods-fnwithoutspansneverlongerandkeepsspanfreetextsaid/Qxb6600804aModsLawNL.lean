/-
  The walk of 'FnWithoutSpansNeverLongerAndKeepsSpanFreeText' (7).
-/
import Derived.Test.Qxb6600804aModsNLPlain
import Derived.Test.Qxb6600804aModsViews
namespace Go.Proofs.Qxb6600804aMods
open Go.RowKit
set_option linter.unusedVariables false
set_option linter.unusedSimpArgs false

theorem zz22_true (a0 a1 a2 : Option Addr) (n c0 q1 c1 q2 c2 : Nat) (w : World) (h : n + q1 + q2 ≤ 1048576) :
    Calls Trym.prog 22 #[.slice a0 n c0, .slice a1 q1 c1, .slice a2 q2 c2] w fun e w' => e = .returned (.bool true) ∧ w' = w := by
  have h1 : (n : Int) ≤ 1048576 := by omega
  have h2 : (q1 : Int) ≤ 1048576 := by omega
  have h3 : (q2 : Int) ≤ 1048576 := by omega
  have h4 : (n : Int) + (q1 : Int) ≤ 1048576 := by omega
  have h5 : (n : Int) + (q1 : Int) + (q2 : Int) ≤ 1048576 := by omega
  go_enter Trym.func22, Trym.ntmps22
  go_wp2
  go_ret
  exact ⟨rfl, rfl⟩
theorem zz22_false (a0 a1 a2 : Option Addr) (n c0 q1 c1 q2 c2 : Nat) (w : World) (h : ¬ n + q1 + q2 ≤ 1048576) :
    Calls Trym.prog 22 #[.slice a0 n c0, .slice a1 q1 c1, .slice a2 q2 c2] w fun e w' => e = .returned (.bool false) ∧ w' = w := by
  by_cases h1 : (n : Int) ≤ 1048576
  · by_cases h2 : (q1 : Int) ≤ 1048576
    · by_cases h4 : (n : Int) + (q1 : Int) ≤ 1048576
      · by_cases h3 : (q2 : Int) ≤ 1048576
        · have h5 : ¬ (n : Int) + (q1 : Int) + (q2 : Int) ≤ 1048576 := by omega
          go_enter Trym.func22, Trym.ntmps22
          go_wp2
          go_ret
          exact ⟨rfl, rfl⟩
        · go_enter Trym.func22, Trym.ntmps22
          go_wp2
          go_ret
          exact ⟨rfl, rfl⟩
      · go_enter Trym.func22, Trym.ntmps22
        go_wp2
        go_ret
        exact ⟨rfl, rfl⟩
    · go_enter Trym.func22, Trym.ntmps22
      go_wp2
      go_ret
      exact ⟨rfl, rfl⟩
  · go_enter Trym.func22, Trym.ntmps22
    go_wp2
    go_ret
    exact ⟨rfl, rfl⟩

theorem law7_long (a0 a1 a2 : Option Addr) (n c0 q1 c1 q2 c2 : Nat) (w : World) (h : ¬ n + q1 + q2 ≤ 1048576) :
    Calls Trym.prog 7 #[.slice a0 n c0, .slice a1 q1 c1, .slice a2 q2 c2] w fun e w' => e = .returned (.bool true) ∧ Below w.heap.size w w' := by
  have hz := zz22_false a0 a1 a2 n c0 q1 c1 q2 c2 w h
  go_enter Trym.func7, Trym.ntmps7
  go_wp2_with (go_at_call 22; refine hz.mono ?_; rintro e w' ⟨rfl, rfl⟩)
  go_ret
  exact ⟨rfl, Below.refl _ _⟩

theorem law7_big (a0 a1 a2 : Option Addr) (n c0 q1 c1 q2 c2 : Nat) (w : World) (h : n + q1 + q2 ≤ 1048576) (hb : ¬ (n ≤ 524288 ∧ q1 ≤ 16384 ∧ q2 ≤ 16384)) :
    Calls Trym.prog 7 #[.slice a0 n c0, .slice a1 q1 c1, .slice a2 q2 c2] w fun e w' => e = .returned (.bool true) ∧ Below w.heap.size w w' := by
  have hz := zz22_true a0 a1 a2 n c0 q1 c1 q2 c2 w h
  by_cases h1 : (n : Int) ≤ 524288
  · by_cases h2 : (q1 : Int) ≤ 16384
    · have h3 : ¬ (q2 : Int) ≤ 16384 := by omega
      go_enter Trym.func7, Trym.ntmps7
      go_wp2_with (go_at_call 22; refine hz.mono ?_; rintro e w' ⟨rfl, rfl⟩)
      go_ret
      exact ⟨rfl, Below.refl _ _⟩
    · go_enter Trym.func7, Trym.ntmps7
      go_wp2_with (go_at_call 22; refine hz.mono ?_; rintro e w' ⟨rfl, rfl⟩)
      go_ret
      exact ⟨rfl, Below.refl _ _⟩
  · go_enter Trym.func7, Trym.ntmps7
    go_wp2_with (go_at_call 22; refine hz.mono ?_; rintro e w' ⟨rfl, rfl⟩)
    go_ret
    exact ⟨rfl, Below.refl _ _⟩

theorem law7_ne (a0 a1 a2 : Option Addr) (n c0 q1 c1 q2 c2 : Nat) (w : World) (h : n + q1 + q2 ≤ 1048576) (hb : n ≤ 524288 ∧ q1 ≤ 16384 ∧ q2 ≤ 16384) (hne : q1 ≠ q2) :
    Calls Trym.prog 7 #[.slice a0 n c0, .slice a1 q1 c1, .slice a2 q2 c2] w fun e w' => e = .returned (.bool true) ∧ Below w.heap.size w w' := by
  have hz := zz22_true a0 a1 a2 n c0 q1 c1 q2 c2 w h
  have hv := val_ne a0 a1 a2 n c0 q1 c1 q2 c2 w hne
  have h1 : (n : Int) ≤ 524288 := by omega
  have h2 : (q1 : Int) ≤ 16384 := by omega
  have h3 : (q2 : Int) ≤ 16384 := by omega
  clear hne
  go_enter Trym.func7, Trym.ntmps7
  go_wp2_with (first | (go_at_call 22; refine hz.mono ?_; rintro e w' ⟨rfl, rfl⟩) | (go_at_call 17; refine hv.mono ?_; rintro e w' ⟨rfl, rfl⟩))
  go_ret
  exact ⟨rfl, Below.refl _ _⟩

set_option maxHeartbeats 1600000 in
set_option maxRecDepth 100000 in
theorem law7_main (a0 a1 a2 : Option Addr) (n c0 q c1 c2 : Nat) (d S E : List Int) (w : World) (h : n + q + q ≤ 1048576) (hb : n ≤ 524288 ∧ q ≤ 16384) (hby : Byt d)
    (hv : Vw w a0 n d) (h1 : VwI w a1 q S) (h2 : VwI w a2 q E) (k0 : a0 = none → c0 = 0) (k1 : a1 = none → c1 = 0) (k2 : a2 = none → c2 = 0) :
    Calls Trym.prog 7 #[.slice a0 n c0, .slice a1 q c1, .slice a2 q c2] w fun e w' => e = .returned (.bool true) ∧ Below w.heap.size w w' := by
  have hz := zz22_true a0 a1 a2 n c0 q c1 q c2 w h
  have hval := val_eq a0 a1 a2 n c0 q c1 c2 S E w (by omega) (by omega) h1 h2
  have g1 : (n : Int) ≤ 524288 := by omega
  have g2 : (q : Int) ≤ 16384 := by omega
  have K0 : Hid (a0 = none → c0 = 0) := k0
  have K1 : Hid (a1 = none → c1 = 0) := k1
  have K2 : Hid (a2 = none → c2 = 0) := k2
  have HBY : Hid (Byt d) := hby
  clear k0 k1 k2 hby
  go_enter Trym.func7, Trym.ntmps7
  go_upto_if 37 with (first | (go_at_call 22; refine hz.mono ?_; rintro e wz ⟨rfl, hwz⟩; have hwz' := hwz.symm; subst hwz'; clear hwz) | (go_at_call 17; refine hval.mono ?_; rintro e w1 ⟨⟨t, rfl, ht⟩, hb1⟩))
  have HT : Hid (t = true → Val n S E q) := ht
  clear ht hz hval
  cases t with
  | false =>
    go_wp2
    go_ret
    exact ⟨rfl, hb1⟩
  | true =>
    have HVal : Hid (Val n S E q) := HT.out rfl
    clear HT
    go_upto_region 7 with fail
    go_cut [0] (fun v wx => ∃ a0', v = .slice a0' n n ∧ Vw wx a0' n d ∧ Below w.heap.size w wx)
    case first =>
      have hcl := clone_v a0 n c0 d w1 (by omega) (hv.below hb1) K0.out
      go_wp2_with (go_at_call 11; refine hcl.mono ?_; rintro e w2 ⟨⟨a0', rfl, hv0⟩, hb2⟩)
      go_meet
      case rel => exact ⟨_, rfl, by assumption, bt hb1 (by assumption)⟩
    obtain ⟨a0', rfl, hv0, hb2⟩ := hcut
    obtain ⟨wa, rfl⟩ : ∃ wa, wa = wc := ⟨wc, rfl⟩
    go_upto_region 8 with fail
    go_cut [1] (fun v wx => ∃ a1', v = .slice a1' q q ∧ VwI wx a1' q S ∧ Below wa.heap.size wa wx)
    case first =>
      have hcl := cloneI_v a1 q c1 S wa (by omega) (h1.below hb2) K1.out
      go_wp2_with (go_at_call 18; refine hcl.mono ?_; rintro e w2 ⟨⟨a1', rfl, hv1⟩, hb3⟩)
      go_meet
      case rel => exact ⟨_, rfl, by assumption, by assumption⟩
    obtain ⟨a1', rfl, hv1, hb3⟩ := hcut
    obtain ⟨wb, rfl⟩ : ∃ wb, wb = wc := ⟨wc, rfl⟩
    have hb4 := bt hb2 hb3
    have hv0b := hv0.below hb3
    clear hv0 hb2 hb3
    go_upto_region 9 with fail
    go_cut [2] (fun v wx => ∃ a2', v = .slice a2' q q ∧ VwI wx a2' q E ∧ Below wb.heap.size wb wx)
    case first =>
      have hcl := cloneI_v a2 q c2 E wb (by omega) (h2.below hb4) K2.out
      go_wp2_with (go_at_call 18; refine hcl.mono ?_; rintro e w2 ⟨⟨a2', rfl, hv2⟩, hb3⟩)
      go_meet
      case rel => exact ⟨_, rfl, by assumption, by assumption⟩
    obtain ⟨a2', rfl, hv2, hb5⟩ := hcut
    obtain ⟨wd, rfl⟩ : ∃ wd, wd = wc := ⟨wc, rfl⟩
    have hb6 := bt hb4 hb5
    have hv0d := hv0b.below hb5
    have hv1d := hv1.below hb5
    clear hv0b hv1 hb4 hb5
    have hws := zzws_all a0' a1' a2' n q d S E wd (by omega) (by omega) HBY.out hv0d hv1d hv2 HVal.out
    have hlen := wsl_len hv.1 HVal.out
    obtain ⟨L, hL⟩ : ∃ L, wsl d S E q = L := ⟨_, rfl⟩
    have HL : Hid (wsl d S E q = L) := hL
    rw [hL] at hws hlen
    clear hL
    go_upto_region 10 with fail
    go_cut [7] (fun v wx => ∃ g, v = .slice (some ⟨g, 0, none⟩) L.length n ∧ At wx g 0 L ∧ Below wd.heap.size wd wx)
    case first =>
      go_wp2_with (go_at_call 19; refine hws.mono ?_; rintro e w2 ⟨⟨g, rfl, hatL⟩, hb7⟩)
      go_meet
      case rel => exact ⟨_, rfl, by assumption, by assumption⟩
    obtain ⟨g, rfl, hatL, hb7⟩ := hcut
    obtain ⟨we, rfl⟩ : ∃ we, we = wc := ⟨wc, rfl⟩
    have hbe := bt hb6 hb7
    have hv0e := hv0d.below hb7
    have hv1e := hv1d.below hb7
    have hv2e := hv2.below hb7
    clear hws hv0d hv1d hv2 hb6 hb7 hv h1 h2 K0 K1 K2 hb1
    have hlenI : ¬ (n : Int) < (L.length : Int) := by omega
    go_wp2
    have HD : Hid (d.length = n) := hv0e.1
    go_loopw [8, 9] (fun v8 v9 wr => ∃ (k : Nat) (B : Bool), k ≤ q ∧ v9 = .int .i64 k ∧ v8 = .bool B ∧ Hid (B = true ↔ ∀ j, j < k → nth S j = nth E j) ∧ Below we.heap.size we wr) (fun _ v9 _ => q - (intOf v9).toNat)
    case atStart => exact ⟨0, true, Nat.zero_le _, rfl, rfl, ⟨fun _ j hj => absurd hj (Nat.not_lt_zero _), fun _ => rfl⟩, Below.refl _ _⟩
    case round =>
      obtain ⟨k, B, hk, rfl, rfl, HB, hbr⟩ := hrel
      by_cases hkq : k < q
      · obtain ⟨b1, o1, e1, t1⟩ := (hv1e.below hbr).2.2 (by omega)
        obtain ⟨b2, o2, e2, t2⟩ := (hv2e.below hbr).2.2 (by omega)
        subst e1
        subst e2
        have y1 := t1.2 k (by rw [hv1e.1]; omega)
        have y2 := t2.2 k (by rw [hv2e.1]; omega)
        have HT1 : Hid (nth S k = nth E k → (B = true ↔ ∀ j, j < k + 1 → nth S j = nth E j)) := fun he => ⟨fun h j hj => by
          by_cases e : j = k
          · rw [e]; exact he
          · exact HB.out.1 h j (by omega), fun h => HB.out.2 (fun j hj => h j (by omega))⟩
        have HT2 : Hid (nth S k ≠ nth E k → (false = true ↔ ∀ j, j < k + 1 → nth S j = nth E j)) := fun he => ⟨fun h => (by cases h), fun h => absurd (h k (by omega)) he⟩
        obtain ⟨x, hx⟩ : ∃ x, nth S k = x := ⟨_, rfl⟩
        obtain ⟨y, hy⟩ : ∃ y, nth E k = y := ⟨_, rfl⟩
        rw [hx] at y1 HT1 HT2
        rw [hy] at y2 HT1 HT2
        clear hx hy t1 t2 HB
        have hkI : (k : Int) < (q : Int) := by omega
        by_cases hxy : x = y
        · subst hxy
          have HN := HT1.out rfl
          have HN' : Hid (B = true ↔ ∀ j, j < k + 1 → nth S j = nth E j) := HN
          clear HN HT1 HT2
          go_wp2
          go_quiet (fail)
          go_wp2
          go_roundw
          case rel => exact ⟨k + 1, B, by omega, by go_num, rfl, HN', below_drewN hbr _⟩
          case measure => simp [intOf]; omega
        · have hne : (x != y) = true := by simpa using hxy
          have HN' : Hid (false = true ↔ ∀ j, j < k + 1 → nth S j = nth E j) := HT2.out hxy
          clear HT1 HT2
          go_wp2
          go_quiet (fail)
          go_wp2
          go_roundw
          case rel => exact ⟨k + 1, false, by omega, by go_num, rfl, HN', below_drewN hbr _⟩
          case measure => simp [intOf]; omega
      · have hkq' : q = k := by omega
        subst hkq'
        have hbw := bt hbe hbr
        have hatr := hatL.below hbr
        have hv0r := hv0e.below hbr
        have hv1r := hv1e.below hbr
        have hv2r := hv2e.below hbr
        clear hatL hv0e hv1e hv2e hbe hbr
        cases B with
        | true =>
          have hLd : L = d := by rw [← HL.out]; exact wsl_empty HVal.out (HB.out.1 rfl)
          have hLn : L.length = n := by rw [hLd]; exact HD.out
          have heq : Calls Trym.prog 20 #[.slice (some ⟨g, 0, none⟩) L.length n, .slice a0' n n] wr fun e w' => e = .returned (.bool true) ∧ Below wr.heap.size wr w' := by
            rw [hLn]
            exact eq_v (some ⟨g, 0, none⟩) a0' n n n d wr (by omega) ⟨HD.out, fun h => (by cases h), fun _ => ⟨g, 0, rfl, by rw [← hLd]; exact hatr⟩⟩ hv0r
          clear hLd hLn HB HL HVal HD
          go_wp2_with (go_at_call 20; refine heq.mono ?_; rintro e w9 ⟨rfl, hb9⟩; have hb10 := bt hbw hb9)
          go_ret
          exact ⟨rfl, by assumption⟩
        | false =>
          have hq0 : 0 < q := by
            rcases Nat.eq_zero_or_pos q with h0 | h0
            · have := HB.out.2 (fun j hj => by omega)
              cases this
            · exact h0
          obtain ⟨f1, f2⟩ := wsl_first HD.out HVal.out hq0
          obtain ⟨f3, f4, f5, f6⟩ := wsl_last HD.out HVal.out hq0
          obtain ⟨v1, v2, v3, v4, v5, v6, v7, v8⟩ := val_at HVal.out hq0
          rw [HL.out] at f1 f2 f4 f6
          obtain ⟨b1, o1, e1, t1⟩ := hv1r.2.2 hq0
          obtain ⟨b2, o2, e2, t2⟩ := hv2r.2.2 hq0
          subst e1
          subst e2
          have y1 := t1.2 0 (by rw [hv1r.1]; omega)
          have y2 := t2.2 (q - 1) (by rw [hv2r.1]; omega)
          rw [v1, Nat.add_zero] at y1
          rw [f5] at y2
          have hs0n : sp S 0 ≤ n := by omega
          clear v1 v2 v3 v4 v5 v6 v7 v8 f5 t1 t2 HB
          obtain ⟨x, hx⟩ : ∃ x, sp S 0 = x := ⟨_, rfl⟩
          obtain ⟨y, hy⟩ : ∃ y, ep E (q - 1) = y := ⟨_, rfl⟩
          rw [hx] at y1 f1 f2 hs0n
          rw [hy] at y2 f3 f4 f6
          clear hx hy
          have F2 : Hid (∀ p, p < x → nth L p = nth d p) := f2
          have F6 : Hid (∀ k, k < n - y → nth L (L.length - (n - y) + k) = nth d (y + k)) := f6
          clear f2 f6
          have hqI : (0 : Int) < (q : Int) := by omega
          have hq1 : ((q : Int) - 1).toNat = q - 1 := by omega
          have hxI : ¬ (L.length : Int) < (x : Int) := by omega
          go_wp2
          obtain ⟨wf, rfl⟩ : ∃ wf, wf = wr := ⟨wr, rfl⟩
          go_loopw [12] (fun v wr => ∃ p : Nat, p ≤ x ∧ v = .int .i64 p ∧ Below wf.heap.size wf wr) (fun v _ => x - (intOf v).toNat)
          case atStart => exact ⟨0, Nat.zero_le _, rfl, Below.refl _ _⟩
          case round =>
            obtain ⟨p, hp, rfl, hbr⟩ := hrel
            by_cases hpx : p < x
            · obtain ⟨b0, o0, e0, t0⟩ := (hv0r.below hbr).2.2 (by omega)
              subst e0
              have z1 := (hatr.below hbr).2 p (by omega)
              have z2 := t0.2 p (by rw [hv0r.1]; omega)
              rw [F2.out p hpx, Nat.zero_add] at z1
              generalize nth d p = v at z1 z2
              clear t0
              have hpI : (p : Int) < (L.length : Int) := by omega
              have hpJ : (p : Int) < (n : Int) := by omega
              go_wp2
              go_quiet (fail)
              go_wp2
              go_roundw
              case rel => exact ⟨p + 1, by omega, by go_num, below_drewN hbr _⟩
              case measure => simp [intOf]; omega
            · have hpx' : x = p := by omega
              subst hpx'
              have hbw2 := bt hbw hbr
              have hatg := hatr.below hbr
              have hv0g := hv0r.below hbr
              clear hatr hv0r hbw hbr F2
              obtain ⟨wg, rfl⟩ : ∃ wg, wg = wr := ⟨wr, rfl⟩
              obtain ⟨T, hT⟩ : ∃ T, n - y = T := ⟨_, rfl⟩
              rw [hT] at f4 F6
              have hTn : T + y = n := by omega
              have HTN : Hid (T + y = n) := hTn
              have hTI : (n : Int) - (y : Int) = (T : Int) := by omega
              clear hT hTn
              have hTL : ¬ (L.length : Int) < (T : Int) := by omega
              go_upto_region 34 with fail
              clear hTI
              go_loopw [14] (fun v wr => ∃ k : Nat, k ≤ T ∧ v = .int .i64 k ∧ Below wg.heap.size wg wr) (fun v _ => T - (intOf v).toNat)
              case atStart => exact ⟨0, Nat.zero_le _, rfl, Below.refl _ _⟩
              case round =>
                obtain ⟨k, hk, rfl, hbr⟩ := hrel
                have hTn := HTN.out
                by_cases hkT : k < T
                · obtain ⟨b0, o0, e0, t0⟩ := (hv0g.below hbr).2.2 (by omega)
                  subst e0
                  have z1 := (hatg.below hbr).2 (L.length - T + k) (by omega)
                  have z2 := t0.2 (y + k) (by rw [hv0g.1]; omega)
                  rw [F6.out k hkT, Nat.zero_add] at z1
                  generalize nth d (y + k) = v at z1 z2
                  have u1 : IntKind.i64.wrap ((L.length : Int) - (T : Int)) = (L.length : Int) - (T : Int) := by rw [IntKind.wrap_i64]; omega
                  have u2 : IntKind.i64.wrap ((L.length : Int) - (T : Int) + (k : Int)) = (L.length : Int) - (T : Int) + (k : Int) := by rw [IntKind.wrap_i64]; omega
                  have u3 : IntKind.i64.wrap ((y : Int) + (k : Int)) = (y : Int) + (k : Int) := by rw [IntKind.wrap_i64]; omega
                  have u4 : ((L.length : Int) - (T : Int) + (k : Int)).toNat = L.length - T + k := by omega
                  have u5 : ((y : Int) + (k : Int)).toNat = y + k := by omega
                  have u6 : 0 ≤ (L.length : Int) - (T : Int) + (k : Int) := by omega
                  have u7 : (L.length : Int) - (T : Int) + (k : Int) < (L.length : Int) := by omega
                  have u8 : (y : Int) + (k : Int) < (n : Int) := by omega
                  have u9 : 0 ≤ (y : Int) + (k : Int) := by omega
                  clear t0 hTn
                  go_wp2
                  go_quiet (fail)
                  go_wp2
                  go_roundw
                  case rel => exact ⟨k + 1, by omega, by go_num, below_drewN hbr _⟩
                  case measure => simp [intOf]; omega
                · clear hTn
                  have hkT' : T = k := by omega
                  subst hkT'
                  have hbw3 := bt hbw2 hbr
                  go_wp2
                  go_ret
                  exact ⟨rfl, hbw3⟩

theorem law7_all (a0 a1 a2 : Option Addr) (n c0 q1 c1 q2 c2 : Nat) (d S E : List Int) (w : World) (hby : Byt d)
    (hv : Vw w a0 n d) (h1 : VwI w a1 q1 S) (h2 : VwI w a2 q2 E) (k0 : a0 = none → c0 = 0) (k1 : a1 = none → c1 = 0) (k2 : a2 = none → c2 = 0) :
    Calls Trym.prog 7 #[.slice a0 n c0, .slice a1 q1 c1, .slice a2 q2 c2] w fun e w' => e = .returned (.bool true) ∧ Below w.heap.size w w' := by
  by_cases h : n + q1 + q2 ≤ 1048576
  · by_cases hb : n ≤ 524288 ∧ q1 ≤ 16384 ∧ q2 ≤ 16384
    · by_cases hq : q1 = q2
      · subst hq
        exact law7_main a0 a1 a2 n c0 q1 c1 c2 d S E w h ⟨hb.1, hb.2.1⟩ hby hv h1 h2 k0 k1 k2
      · exact law7_ne a0 a1 a2 n c0 q1 c1 q2 c2 w h hb hq
    · exact law7_big a0 a1 a2 n c0 q1 c1 q2 c2 w h hb
  · exact law7_long a0 a1 a2 n c0 q1 c1 q2 c2 w h
end Go.Proofs.Qxb6600804aMods
