/-
  The walk of 'FnWithoutSpansMatchesModel' (6).
-/
import Derived.Test.Qxb6600804aModsWSModel
import Derived.Test.Qxb6600804aModsViews
namespace Go.Proofs.Qxb6600804aMods
open Go.RowKit
set_option linter.unusedVariables false
set_option linter.unusedSimpArgs false

theorem zz16_true (a0 a1 a2 : Option Addr) (n c0 q1 c1 q2 c2 : Nat) (w : World) (h : n + q1 + q2 ≤ 1048576) :
    Calls Trym.prog 16 #[.slice a0 n c0, .slice a1 q1 c1, .slice a2 q2 c2] w fun e w' => e = .returned (.bool true) ∧ w' = w := by
  have h1 : (n : Int) ≤ 1048576 := by omega
  have h2 : (q1 : Int) ≤ 1048576 := by omega
  have h3 : (q2 : Int) ≤ 1048576 := by omega
  have h4 : (n : Int) + (q1 : Int) ≤ 1048576 := by omega
  have h5 : (n : Int) + (q1 : Int) + (q2 : Int) ≤ 1048576 := by omega
  go_enter Trym.func16, Trym.ntmps16
  go_wp2
  go_ret
  exact ⟨rfl, rfl⟩
theorem zz16_false (a0 a1 a2 : Option Addr) (n c0 q1 c1 q2 c2 : Nat) (w : World) (h : ¬ n + q1 + q2 ≤ 1048576) :
    Calls Trym.prog 16 #[.slice a0 n c0, .slice a1 q1 c1, .slice a2 q2 c2] w fun e w' => e = .returned (.bool false) ∧ w' = w := by
  by_cases h1 : (n : Int) ≤ 1048576
  · by_cases h2 : (q1 : Int) ≤ 1048576
    · by_cases h4 : (n : Int) + (q1 : Int) ≤ 1048576
      · by_cases h3 : (q2 : Int) ≤ 1048576
        · have h5 : ¬ (n : Int) + (q1 : Int) + (q2 : Int) ≤ 1048576 := by omega
          go_enter Trym.func16, Trym.ntmps16
          go_wp2
          go_ret
          exact ⟨rfl, rfl⟩
        · go_enter Trym.func16, Trym.ntmps16
          go_wp2
          go_ret
          exact ⟨rfl, rfl⟩
      · go_enter Trym.func16, Trym.ntmps16
        go_wp2
        go_ret
        exact ⟨rfl, rfl⟩
    · go_enter Trym.func16, Trym.ntmps16
      go_wp2
      go_ret
      exact ⟨rfl, rfl⟩
  · go_enter Trym.func16, Trym.ntmps16
    go_wp2
    go_ret
    exact ⟨rfl, rfl⟩

theorem law6_long (a0 a1 a2 : Option Addr) (n c0 q1 c1 q2 c2 : Nat) (w : World) (h : ¬ n + q1 + q2 ≤ 1048576) :
    Calls Trym.prog 6 #[.slice a0 n c0, .slice a1 q1 c1, .slice a2 q2 c2] w fun e w' => e = .returned (.bool true) ∧ Below w.heap.size w w' := by
  have hz := zz16_false a0 a1 a2 n c0 q1 c1 q2 c2 w h
  go_enter Trym.func6, Trym.ntmps6
  go_wp2_with (go_at_call 16; refine hz.mono ?_; rintro e w' ⟨rfl, rfl⟩)
  go_ret
  exact ⟨rfl, Below.refl _ _⟩

theorem law6_big (a0 a1 a2 : Option Addr) (n c0 q1 c1 q2 c2 : Nat) (w : World) (h : n + q1 + q2 ≤ 1048576) (hb : ¬ (n ≤ 524288 ∧ q1 ≤ 16384 ∧ q2 ≤ 16384)) :
    Calls Trym.prog 6 #[.slice a0 n c0, .slice a1 q1 c1, .slice a2 q2 c2] w fun e w' => e = .returned (.bool true) ∧ Below w.heap.size w w' := by
  have hz := zz16_true a0 a1 a2 n c0 q1 c1 q2 c2 w h
  by_cases h1 : (n : Int) ≤ 524288
  · by_cases h2 : (q1 : Int) ≤ 16384
    · have h3 : ¬ (q2 : Int) ≤ 16384 := by omega
      go_enter Trym.func6, Trym.ntmps6
      go_wp2_with (go_at_call 16; refine hz.mono ?_; rintro e w' ⟨rfl, rfl⟩)
      go_ret
      exact ⟨rfl, Below.refl _ _⟩
    · go_enter Trym.func6, Trym.ntmps6
      go_wp2_with (go_at_call 16; refine hz.mono ?_; rintro e w' ⟨rfl, rfl⟩)
      go_ret
      exact ⟨rfl, Below.refl _ _⟩
  · go_enter Trym.func6, Trym.ntmps6
    go_wp2_with (go_at_call 16; refine hz.mono ?_; rintro e w' ⟨rfl, rfl⟩)
    go_ret
    exact ⟨rfl, Below.refl _ _⟩

theorem law6_ne (a0 a1 a2 : Option Addr) (n c0 q1 c1 q2 c2 : Nat) (w : World) (h : n + q1 + q2 ≤ 1048576) (hb : n ≤ 524288 ∧ q1 ≤ 16384 ∧ q2 ≤ 16384) (hne : q1 ≠ q2) :
    Calls Trym.prog 6 #[.slice a0 n c0, .slice a1 q1 c1, .slice a2 q2 c2] w fun e w' => e = .returned (.bool true) ∧ Below w.heap.size w w' := by
  have hz := zz16_true a0 a1 a2 n c0 q1 c1 q2 c2 w h
  have hv := val_ne a0 a1 a2 n c0 q1 c1 q2 c2 w hne
  have h1 : (n : Int) ≤ 524288 := by omega
  have h2 : (q1 : Int) ≤ 16384 := by omega
  have h3 : (q2 : Int) ≤ 16384 := by omega
  clear hne
  go_enter Trym.func6, Trym.ntmps6
  go_wp2_with (first | (go_at_call 16; refine hz.mono ?_; rintro e w' ⟨rfl, rfl⟩) | (go_at_call 17; refine hv.mono ?_; rintro e w' ⟨rfl, rfl⟩))
  go_ret
  exact ⟨rfl, Below.refl _ _⟩

set_option maxHeartbeats 1600000 in
set_option maxRecDepth 100000 in
theorem law6_main (a0 a1 a2 : Option Addr) (n c0 q c1 c2 : Nat) (d S E : List Int) (w : World) (h : n + q + q ≤ 1048576) (hb : n ≤ 524288 ∧ q ≤ 16384) (hby : Byt d)
    (hv : Vw w a0 n d) (h1 : VwI w a1 q S) (h2 : VwI w a2 q E) (k0 : a0 = none → c0 = 0) (k1 : a1 = none → c1 = 0) (k2 : a2 = none → c2 = 0) :
    Calls Trym.prog 6 #[.slice a0 n c0, .slice a1 q c1, .slice a2 q c2] w fun e w' => e = .returned (.bool true) ∧ Below w.heap.size w w' := by
  have hz := zz16_true a0 a1 a2 n c0 q c1 q c2 w h
  have hval := val_eq a0 a1 a2 n c0 q c1 c2 S E w (by omega) (by omega) h1 h2
  have g1 : (n : Int) ≤ 524288 := by omega
  have g2 : (q : Int) ≤ 16384 := by omega
  have K0 : Hid (a0 = none → c0 = 0) := k0
  have K1 : Hid (a1 = none → c1 = 0) := k1
  have K2 : Hid (a2 = none → c2 = 0) := k2
  have HBY : Hid (Byt d) := hby
  clear k0 k1 k2 hby
  go_enter Trym.func6, Trym.ntmps6
  go_upto_if 30 with (first | (go_at_call 16; refine hz.mono ?_; rintro e wz ⟨rfl, hwz⟩; have hwz' := hwz.symm; subst hwz'; clear hwz) | (go_at_call 17; refine hval.mono ?_; rintro e w1 ⟨⟨t, rfl, ht⟩, hb1⟩))
  have HT : Hid (t = true → Val n S E q) := ht
  clear ht hz hval
  cases t with
  | false =>
    go_wp2
    go_ret
    exact ⟨rfl, hb1⟩
  | true =>
    have HVal : Hid (Val n S E q) := HT.out rfl
    clear HT
    go_upto_region 7 with fail
    go_cut [0] (fun v wx => ∃ a0', v = .slice a0' n n ∧ Vw wx a0' n d ∧ Below w.heap.size w wx)
    case first =>
      have hcl := clone_v a0 n c0 d w1 (by omega) (hv.below hb1) K0.out
      go_wp2_with (go_at_call 11; refine hcl.mono ?_; rintro e w2 ⟨⟨a0', rfl, hv0⟩, hb2⟩)
      go_meet
      case rel => exact ⟨_, rfl, by assumption, bt hb1 (by assumption)⟩
    obtain ⟨a0', rfl, hv0, hb2⟩ := hcut
    obtain ⟨wa, rfl⟩ : ∃ wa, wa = wc := ⟨wc, rfl⟩
    go_upto_region 8 with fail
    go_cut [1] (fun v wx => ∃ a1', v = .slice a1' q q ∧ VwI wx a1' q S ∧ Below wa.heap.size wa wx)
    case first =>
      have hcl := cloneI_v a1 q c1 S wa (by omega) (h1.below hb2) K1.out
      go_wp2_with (go_at_call 18; refine hcl.mono ?_; rintro e w2 ⟨⟨a1', rfl, hv1⟩, hb3⟩)
      go_meet
      case rel => exact ⟨_, rfl, by assumption, by assumption⟩
    obtain ⟨a1', rfl, hv1, hb3⟩ := hcut
    obtain ⟨wb, rfl⟩ : ∃ wb, wb = wc := ⟨wc, rfl⟩
    have hb4 := bt hb2 hb3
    have hv0b := hv0.below hb3
    clear hv0 hb2 hb3
    go_upto_region 9 with fail
    go_cut [2] (fun v wx => ∃ a2', v = .slice a2' q q ∧ VwI wx a2' q E ∧ Below wb.heap.size wb wx)
    case first =>
      have hcl := cloneI_v a2 q c2 E wb (by omega) (h2.below hb4) K2.out
      go_wp2_with (go_at_call 18; refine hcl.mono ?_; rintro e w2 ⟨⟨a2', rfl, hv2⟩, hb3⟩)
      go_meet
      case rel => exact ⟨_, rfl, by assumption, by assumption⟩
    obtain ⟨a2', rfl, hv2, hb5⟩ := hcut
    obtain ⟨wd, rfl⟩ : ∃ wd, wd = wc := ⟨wc, rfl⟩
    have hb6 := bt hb4 hb5
    have hv0d := hv0b.below hb5
    have hv1d := hv1.below hb5
    clear hv0b hv1 hb4 hb5
    have hws := zzws_all a0' a1' a2' n q d S E wd (by omega) (by omega) HBY.out hv0d hv1d hv2 HVal.out
    have hlen := wsl_len hv.1 HVal.out
    go_upto_region 10 with fail
    go_cut [7] (fun v wx => ∃ g, v = .slice (some ⟨g, 0, none⟩) (wsl d S E q).length n ∧ At wx g 0 (wsl d S E q) ∧ Below wd.heap.size wd wx)
    case first =>
      go_wp2_with (go_at_call 19; refine hws.mono ?_; rintro e w2 ⟨⟨g, rfl, hatL⟩, hb7⟩)
      go_meet
      case rel => exact ⟨_, rfl, by assumption, by assumption⟩
    obtain ⟨g, rfl, hatL, hb7⟩ := hcut
    obtain ⟨we, rfl⟩ : ∃ we, we = wc := ⟨wc, rfl⟩
    have hbe := bt hb6 hb7
    have hv0e := hv0d.below hb7
    have hv1e := hv1d.below hb7
    have hv2e := hv2.below hb7
    clear hws hv0d hv1d hv2 hb6 hb7 hv h1 h2 K0 K1 K2 hb1
    have hwm := wsm_core a0' a1' a2' n q d S E we (by omega) (by omega) HBY.out hv0e hv1e hv2e HVal.out
    generalize wsl d S E q = L at hwm hatL hlen ⊢
    have heq : ∀ (W : World), At W g 0 L → At W we.heap.size 0 L → Calls Trym.prog 20 #[.slice (some ⟨g, 0, none⟩) L.length n, .slice (some ⟨we.heap.size, 0, none⟩) L.length n] W fun e w' => e = .returned (.bool true) ∧ Below W.heap.size W w' := by
      intro W hA hB
      exact eq_v (some ⟨g, 0, none⟩) (some ⟨we.heap.size, 0, none⟩) L.length n n L W (by omega) ⟨rfl, fun h => (by cases h), fun _ => ⟨g, 0, rfl, hA⟩⟩ ⟨rfl, fun h => (by cases h), fun _ => ⟨_, 0, rfl, hB⟩⟩
    have HEQ : Hid (∀ (W : World), At W g 0 L → At W we.heap.size 0 L → Calls Trym.prog 20 #[.slice (some ⟨g, 0, none⟩) L.length n, .slice (some ⟨we.heap.size, 0, none⟩) L.length n] W fun e w' => e = .returned (.bool true) ∧ Below W.heap.size W w') := heq
    clear heq HVal HBY
    go_wp2_with (first | (go_at_call 21; refine hwm.mono ?_; rintro e w5 ⟨⟨rfl, hat5⟩, hb5⟩) | (go_at_call 20; refine (HEQ.out _ (hatL.below hb5) hat5).mono ?_; rintro e w9 ⟨rfl, hb9⟩; have hb10 := bt (bt hbe hb5) hb9))
    go_ret
    exact ⟨rfl, by assumption⟩

theorem law6_all (a0 a1 a2 : Option Addr) (n c0 q1 c1 q2 c2 : Nat) (d S E : List Int) (w : World) (hby : Byt d)
    (hv : Vw w a0 n d) (h1 : VwI w a1 q1 S) (h2 : VwI w a2 q2 E) (k0 : a0 = none → c0 = 0) (k1 : a1 = none → c1 = 0) (k2 : a2 = none → c2 = 0) :
    Calls Trym.prog 6 #[.slice a0 n c0, .slice a1 q1 c1, .slice a2 q2 c2] w fun e w' => e = .returned (.bool true) ∧ Below w.heap.size w w' := by
  by_cases h : n + q1 + q2 ≤ 1048576
  · by_cases hb : n ≤ 524288 ∧ q1 ≤ 16384 ∧ q2 ≤ 16384
    · by_cases hq : q1 = q2
      · subst hq
        exact law6_main a0 a1 a2 n c0 q1 c1 c2 d S E w h ⟨hb.1, hb.2.1⟩ hby hv h1 h2 k0 k1 k2
      · exact law6_ne a0 a1 a2 n c0 q1 c1 q2 c2 w h hb hq
    · exact law6_big a0 a1 a2 n c0 q1 c1 q2 c2 w h hb
  · exact law6_long a0 a1 a2 n c0 q1 c1 q2 c2 w h
end Go.Proofs.Qxb6600804aMods
