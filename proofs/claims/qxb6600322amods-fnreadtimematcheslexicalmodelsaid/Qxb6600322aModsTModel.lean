/-
  'readTimeModel' (13) by its contract.
-/
import Derived.Test.Qxb6600322aModsTAll
namespace Go.Proofs.Qxb6600322aMods
open Go.RowKit
set_option linter.unusedVariables false
set_option linter.unusedSimpArgs false

set_option maxRecDepth 100000 in
theorem rm_short (a : Option Addr) (n c : Nat) (w : World) (hn : n < 8) :
    Calls Trym.prog 13 #[.slice a n c] w fun e w' => e = .returned (.tuple #[.bool false, .bool false, .int .i64 0]) ∧ w' = w := by
  have hnI : (n : Int) < 8 := by omega
  go_enter Trym.func13, Trym.ntmps13
  go_wp2
  go_ret3
  exact ⟨rfl, rfl⟩

set_option maxRecDepth 100000 in
theorem rm_colon2 (b o n c : Nat) (x : Int) (w : World) (hn : 8 ≤ n) (h2 : w.cell? ⟨b, o + 2, none⟩ = some (.int .u8 x)) (hx : (x != 58) = true) :
    Calls Trym.prog 13 #[.slice (some ⟨b, o, none⟩) n c] w fun e w' => e = .returned (.tuple #[.bool false, .bool false, .int .i64 0]) ∧ w' = w := by
  have hnI : (8 : Int) ≤ (n : Int) := by omega
  go_enter Trym.func13, Trym.ntmps13
  go_wp2
  go_ret3
  exact ⟨rfl, rfl⟩

set_option maxRecDepth 100000 in
theorem rm_colon5 (b o n c : Nat) (x : Int) (w : World) (hn : 8 ≤ n) (h2 : w.cell? ⟨b, o + 2, none⟩ = some (.int .u8 58)) (h5 : w.cell? ⟨b, o + 5, none⟩ = some (.int .u8 x)) (hx : (x != 58) = true) :
    Calls Trym.prog 13 #[.slice (some ⟨b, o, none⟩) n c] w fun e w' => e = .returned (.tuple #[.bool false, .bool false, .int .i64 0]) ∧ w' = w := by
  have hnI : (8 : Int) ≤ (n : Int) := by omega
  go_enter Trym.func13, Trym.ntmps13
  go_wp2
  go_ret3
  exact ⟨rfl, rfl⟩

theorem two_true {x y m : Int} (h : 48 ≤ x ∧ x ≤ 57 ∧ 48 ≤ y ∧ y ≤ 57 ∧ (x - 48) * 10 + (y - 48) ≤ m) : two x y m = true := by
  simp [two, dig]; omega
theorem two_false {x y m : Int} (h : ¬ (48 ≤ x ∧ x ≤ 57 ∧ 48 ≤ y ∧ y ≤ 57 ∧ (x - 48) * 10 + (y - 48) ≤ m)) : two x y m = false := by
  cases e : two x y m with
  | false => rfl
  | true => simp [two, dig] at e; omega
theorem dig_true {y : Int} (h : dig y = true) : 48 ≤ y ∧ y ≤ 57 := by simpa [dig] using h
theorem dig_false {y : Int} (h : dig y = false) : ¬ (48 ≤ y ∧ y ≤ 57) := by simpa [dig] using h

/-- What the model hands back. -/
def RMOut (r : Option (Nat × Bool)) : Ending :=
  match r with
  | none => .returned (.tuple #[.bool false, .bool false, .int .i64 0])
  | some (u, m) => .returned (.tuple #[.bool true, .bool m, .int .i64 u])

set_option maxHeartbeats 1600000 in
set_option maxRecDepth 100000 in
theorem rm_main (b o n c : Nat) (x0 x1 x3 x4 x6 x7 : Int) (d : List Int) (R : Option (Nat × Bool)) (M : Bool) (w : World) (hn : 8 ≤ n) (hn2 : n ≤ 2097152) (hnc : n ≤ c) (hd : d.length = n) (hat : At w b o d)
    (h0 : w.cell? ⟨b, o, none⟩ = some (.int .u8 x0)) (h1 : w.cell? ⟨b, o + 1, none⟩ = some (.int .u8 x1)) (h2 : w.cell? ⟨b, o + 2, none⟩ = some (.int .u8 58)) (h3 : w.cell? ⟨b, o + 3, none⟩ = some (.int .u8 x3)) (h4 : w.cell? ⟨b, o + 4, none⟩ = some (.int .u8 x4)) (h5 : w.cell? ⟨b, o + 5, none⟩ = some (.int .u8 58)) (h6 : w.cell? ⟨b, o + 6, none⟩ = some (.int .u8 x6)) (h7 : w.cell? ⟨b, o + 7, none⟩ = some (.int .u8 x7))
    (hM : Hid (M = (decide (x0 = 48) && decide (x1 = 48) && decide (x3 = 48) && decide (x4 = 48) && decide (x6 = 48) && decide (x7 = 48))))
    (hRN : Hid ((two x0 x1 23 && two x3 x4 59 && two x6 x7 60) = false → R = none))
    (hR0 : Hid ((two x0 x1 23 && two x3 x4 59 && two x6 x7 60) = true → pt d = false → R = some (8, M))) (hR1 : Hid ((two x0 x1 23 && two x3 x4 59 && two x6 x7 60) = true → pt d = true → leadD (d.drop 9) = 0 → R = none))
    (hR2 : Hid ((two x0 x1 23 && two x3 x4 59 && two x6 x7 60) = true → pt d = true → leadD (d.drop 9) ≠ 0 → R = some (9 + leadD (d.drop 9), M && decide (zr (d.drop 9) = leadD (d.drop 9))))) :
    Calls Trym.prog 13 #[.slice (some ⟨b, o, none⟩) n c] w fun e w' => e = RMOut R ∧ w' = w := by
  have hnI : (8 : Int) ≤ (n : Int) := by omega
  go_enter Trym.func13, Trym.ntmps13
  go_upto_region 5 with fail
  go_cut [5] (fun t wx => t = .bool (two x0 x1 23) ∧ wx = w)
  case first =>
    as_aux_lemma =>
      cases hd1 : dig x1 with
      | true =>
        have hdg := fun W => digitB_is x1 true hd1 W
        have hb := dig_true hd1
        by_cases e0 : x0 = 48
        · subst e0
          have hT : Hid (two 48 x1 23 = true) := two_true (by omega)
          go_wp2_with (go_at_call 16; refine (hdg _).mono ?_; rintro e wz ⟨rfl, hwz⟩; have hwz' := hwz.symm; subst hwz'; clear hwz)
          go_meet
          case rel => exact ⟨by rw [hT.out], rfl⟩
        have f0 : (x0 == 48) = false := by simpa using e0
        by_cases e1 : x0 = 49
        · subst e1
          have hT : Hid (two 49 x1 23 = true) := two_true (by omega)
          go_wp2_with (go_at_call 16; refine (hdg _).mono ?_; rintro e wz ⟨rfl, hwz⟩; have hwz' := hwz.symm; subst hwz'; clear hwz)
          go_meet
          case rel => exact ⟨by rw [hT.out], rfl⟩
        have f1 : (x0 == 49) = false := by simpa using e1
        by_cases e2 : x0 = 50
        · subst e2
          by_cases e3 : x1 ≤ 51
          · have hT : Hid (two 50 x1 23 = true) := two_true (by omega)
            go_wp2_with (go_at_call 16; refine (hdg _).mono ?_; rintro e wz ⟨rfl, hwz⟩; have hwz' := hwz.symm; subst hwz'; clear hwz)
            go_meet
            case rel => exact ⟨by rw [hT.out], rfl⟩
          · have hT : Hid (two 50 x1 23 = false) := two_false (by omega)
            go_wp2_with (go_at_call 16; refine (hdg _).mono ?_; rintro e wz ⟨rfl, hwz⟩; have hwz' := hwz.symm; subst hwz'; clear hwz)
            go_meet
            case rel => exact ⟨by rw [hT.out], rfl⟩
        have f2 : (x0 == 50) = false := by simpa using e2
        have hT : Hid (two x0 x1 23 = false) := two_false (by omega)
        go_wp2_with (go_at_call 16; refine (hdg _).mono ?_; rintro e wz ⟨rfl, hwz⟩; have hwz' := hwz.symm; subst hwz'; clear hwz)
        go_meet
        case rel => exact ⟨by rw [hT.out], rfl⟩
      | false =>
        have hdg := fun W => digitB_is x1 false hd1 W
        have hb := dig_false hd1
        by_cases e0 : x0 = 48
        · subst e0
          have hT : Hid (two 48 x1 23 = false) := two_false (by omega)
          go_wp2_with (go_at_call 16; refine (hdg _).mono ?_; rintro e wz ⟨rfl, hwz⟩; have hwz' := hwz.symm; subst hwz'; clear hwz)
          go_meet
          case rel => exact ⟨by rw [hT.out], rfl⟩
        have f0 : (x0 == 48) = false := by simpa using e0
        by_cases e1 : x0 = 49
        · subst e1
          have hT : Hid (two 49 x1 23 = false) := two_false (by omega)
          go_wp2_with (go_at_call 16; refine (hdg _).mono ?_; rintro e wz ⟨rfl, hwz⟩; have hwz' := hwz.symm; subst hwz'; clear hwz)
          go_meet
          case rel => exact ⟨by rw [hT.out], rfl⟩
        have f1 : (x0 == 49) = false := by simpa using e1
        by_cases e2 : x0 = 50
        · subst e2
          by_cases e3 : 48 ≤ x1
          · have e4 : ¬ x1 ≤ 51 := by omega
            have hT : Hid (two 50 x1 23 = false) := two_false (by omega)
            clear hb
            go_wp2_with (go_at_call 16; refine (hdg _).mono ?_; rintro e wz ⟨rfl, hwz⟩; have hwz' := hwz.symm; subst hwz'; clear hwz)
            go_meet
            case rel => exact ⟨by rw [hT.out], rfl⟩
          · have hT : Hid (two 50 x1 23 = false) := two_false (by omega)
            clear hb
            go_wp2_with (go_at_call 16; refine (hdg _).mono ?_; rintro e wz ⟨rfl, hwz⟩; have hwz' := hwz.symm; subst hwz'; clear hwz)
            go_meet
            case rel => exact ⟨by rw [hT.out], rfl⟩
        have f2 : (x0 == 50) = false := by simpa using e2
        have hT : Hid (two x0 x1 23 = false) := two_false (by omega)
        go_wp2_with (go_at_call 16; refine (hdg _).mono ?_; rintro e wz ⟨rfl, hwz⟩; have hwz' := hwz.symm; subst hwz'; clear hwz)
        go_meet
        case rel => exact ⟨by rw [hT.out], rfl⟩
  obtain ⟨rfl, hwc⟩ := hcut
  have hwc' := hwc.symm
  subst hwc'
  clear hwc
  go_upto_region 6 with fail
  go_cut [6] (fun t wx => t = .bool (two x3 x4 59) ∧ wx = w)
  case first =>
    as_aux_lemma =>
      cases hd1 : dig x4 with
      | true =>
        have hdg := fun W => digitB_is x4 true hd1 W
        have hb := dig_true hd1
        by_cases e0 : 48 ≤ x3
        · by_cases e1 : x3 ≤ 53
          · have hT : Hid (two x3 x4 59 = true) := two_true (by omega)
            go_wp2_with (go_at_call 16; refine (hdg _).mono ?_; rintro e wz ⟨rfl, hwz⟩; have hwz' := hwz.symm; subst hwz'; clear hwz)
            go_meet
            case rel => exact ⟨by rw [hT.out], rfl⟩
          · have hT : Hid (two x3 x4 59 = false) := two_false (by omega)
            go_wp2_with (go_at_call 16; refine (hdg _).mono ?_; rintro e wz ⟨rfl, hwz⟩; have hwz' := hwz.symm; subst hwz'; clear hwz)
            go_meet
            case rel => exact ⟨by rw [hT.out], rfl⟩
        · have hT : Hid (two x3 x4 59 = false) := two_false (by omega)
          go_wp2_with (go_at_call 16; refine (hdg _).mono ?_; rintro e wz ⟨rfl, hwz⟩; have hwz' := hwz.symm; subst hwz'; clear hwz)
          go_meet
          case rel => exact ⟨by rw [hT.out], rfl⟩
      | false =>
        have hdg := fun W => digitB_is x4 false hd1 W
        have hb := dig_false hd1
        by_cases e0 : 48 ≤ x3
        · by_cases e1 : x3 ≤ 53
          · have hT : Hid (two x3 x4 59 = false) := two_false (by omega)
            go_wp2_with (go_at_call 16; refine (hdg _).mono ?_; rintro e wz ⟨rfl, hwz⟩; have hwz' := hwz.symm; subst hwz'; clear hwz)
            go_meet
            case rel => exact ⟨by rw [hT.out], rfl⟩
          · have hT : Hid (two x3 x4 59 = false) := two_false (by omega)
            go_wp2_with (go_at_call 16; refine (hdg _).mono ?_; rintro e wz ⟨rfl, hwz⟩; have hwz' := hwz.symm; subst hwz'; clear hwz)
            go_meet
            case rel => exact ⟨by rw [hT.out], rfl⟩
        · have hT : Hid (two x3 x4 59 = false) := two_false (by omega)
          go_wp2_with (go_at_call 16; refine (hdg _).mono ?_; rintro e wz ⟨rfl, hwz⟩; have hwz' := hwz.symm; subst hwz'; clear hwz)
          go_meet
          case rel => exact ⟨by rw [hT.out], rfl⟩
  obtain ⟨rfl, hwc⟩ := hcut
  have hwc' := hwc.symm
  subst hwc'
  clear hwc
  go_upto_region 7 with fail
  go_cut [7] (fun t wx => t = .bool (two x6 x7 60) ∧ wx = w)
  case first =>
    as_aux_lemma =>
      cases hd1 : dig x7 with
      | true =>
        have hdg := fun W => digitB_is x7 true hd1 W
        have hb := dig_true hd1
        by_cases e6 : x6 = 54
        · subst e6
          by_cases e7 : x7 = 48
          · subst e7
            have hT : Hid (two 54 48 60 = true) := two_true (by omega)
            go_wp2_with (go_at_call 16; refine (hdg _).mono ?_; rintro e wz ⟨rfl, hwz⟩; have hwz' := hwz.symm; subst hwz'; clear hwz)
            go_meet
            case rel => exact ⟨by rw [hT.out], rfl⟩
          · have f7 : (x7 == 48) = false := by simpa using e7
            have hT : Hid (two 54 x7 60 = false) := two_false (by omega)
            go_wp2_with (go_at_call 16; refine (hdg _).mono ?_; rintro e wz ⟨rfl, hwz⟩; have hwz' := hwz.symm; subst hwz'; clear hwz)
            go_meet
            case rel => exact ⟨by rw [hT.out], rfl⟩
        have f6 : (x6 == 54) = false := by simpa using e6
        by_cases e0 : 48 ≤ x6
        · by_cases e1 : x6 ≤ 53
          · have hT : Hid (two x6 x7 60 = true) := two_true (by omega)
            go_wp2_with (go_at_call 16; refine (hdg _).mono ?_; rintro e wz ⟨rfl, hwz⟩; have hwz' := hwz.symm; subst hwz'; clear hwz)
            go_meet
            case rel => exact ⟨by rw [hT.out], rfl⟩
          · have hT : Hid (two x6 x7 60 = false) := two_false (by omega)
            go_wp2_with (go_at_call 16; refine (hdg _).mono ?_; rintro e wz ⟨rfl, hwz⟩; have hwz' := hwz.symm; subst hwz'; clear hwz)
            go_meet
            case rel => exact ⟨by rw [hT.out], rfl⟩
        · have hT : Hid (two x6 x7 60 = false) := two_false (by omega)
          go_wp2_with (go_at_call 16; refine (hdg _).mono ?_; rintro e wz ⟨rfl, hwz⟩; have hwz' := hwz.symm; subst hwz'; clear hwz)
          go_meet
          case rel => exact ⟨by rw [hT.out], rfl⟩
      | false =>
        have hdg := fun W => digitB_is x7 false hd1 W
        have hb := dig_false hd1
        by_cases e6 : x6 = 54
        · subst e6
          by_cases e7 : x7 = 48
          · omega
          · have f7 : (x7 == 48) = false := by simpa using e7
            have hT : Hid (two 54 x7 60 = false) := two_false (by omega)
            go_wp2_with (go_at_call 16; refine (hdg _).mono ?_; rintro e wz ⟨rfl, hwz⟩; have hwz' := hwz.symm; subst hwz'; clear hwz)
            go_meet
            case rel => exact ⟨by rw [hT.out], rfl⟩
        have f6 : (x6 == 54) = false := by simpa using e6
        by_cases e0 : 48 ≤ x6
        · by_cases e1 : x6 ≤ 53
          · have hT : Hid (two x6 x7 60 = false) := two_false (by omega)
            go_wp2_with (go_at_call 16; refine (hdg _).mono ?_; rintro e wz ⟨rfl, hwz⟩; have hwz' := hwz.symm; subst hwz'; clear hwz)
            go_meet
            case rel => exact ⟨by rw [hT.out], rfl⟩
          · have hT : Hid (two x6 x7 60 = false) := two_false (by omega)
            go_wp2_with (go_at_call 16; refine (hdg _).mono ?_; rintro e wz ⟨rfl, hwz⟩; have hwz' := hwz.symm; subst hwz'; clear hwz)
            go_meet
            case rel => exact ⟨by rw [hT.out], rfl⟩
        · have hT : Hid (two x6 x7 60 = false) := two_false (by omega)
          go_wp2_with (go_at_call 16; refine (hdg _).mono ?_; rintro e wz ⟨rfl, hwz⟩; have hwz' := hwz.symm; subst hwz'; clear hwz)
          go_meet
          case rel => exact ⟨by rw [hT.out], rfl⟩
  obtain ⟨rfl, hwc⟩ := hcut
  have hwc' := hwc.symm
  subst hwc'
  clear hwc
  generalize two x0 x1 23 = t0 at hRN hR0 hR1 hR2 ⊢
  generalize two x3 x4 59 = t1 at hRN hR0 hR1 hR2 ⊢
  generalize two x6 x7 60 = t2 at hRN hR0 hR1 hR2 ⊢
  cases t0 with
  | false =>
    have HF : Hid (R = none) := hRN.out rfl
    clear hRN hR0 hR1 hR2 hM
    go_wp2
    go_ret3
    refine ⟨?_, rfl⟩
    rw [HF.out]; rfl
  | true =>
  cases t1 with
  | false =>
    have HF : Hid (R = none) := hRN.out rfl
    clear hRN hR0 hR1 hR2 hM
    go_wp2
    go_ret3
    refine ⟨?_, rfl⟩
    rw [HF.out]; rfl
  | true =>
  cases t2 with
  | false =>
    have HF : Hid (R = none) := hRN.out rfl
    clear hRN hR0 hR1 hR2 hM
    go_wp2
    go_ret3
    refine ⟨?_, rfl⟩
    rw [HF.out]; rfl
  | true =>
  have hQ0 : Hid (pt d = false → R = some (8, M)) := hR0.out rfl
  have hQ1 : Hid (pt d = true → leadD (d.drop 9) = 0 → R = none) := hR1.out rfl
  have hQ2 : Hid (pt d = true → leadD (d.drop 9) ≠ 0 → R = some (9 + leadD (d.drop 9), M && decide (zr (d.drop 9) = leadD (d.drop 9)))) := hR2.out rfl
  clear hRN hR0 hR1 hR2
  go_upto_region 10 with fail
  go_cut [8] (fun t wx => t = .bool M ∧ wx = w)
  case first =>
    as_aux_lemma =>
      clear hQ0 hQ1 hQ2
      by_cases mx0 : x0 = 48
      · subst mx0
        by_cases mx1 : x1 = 48
        · subst mx1
          by_cases mx3 : x3 = 48
          · subst mx3
            by_cases mx4 : x4 = 48
            · subst mx4
              by_cases mx6 : x6 = 48
              · subst mx6
                by_cases mx7 : x7 = 48
                · subst mx7
                  have hT : Hid (M = true) := by rw [hM.out]; rfl
                  go_wp2
                  go_meet
                  case rel => exact ⟨by rw [hT.out], rfl⟩
                · have gx7 : (x7 == 48) = false := by simpa using mx7
                  have hT : Hid (M = false) := by show M = false; rw [hM.out]; simp [mx7]
                  go_wp2
                  go_meet
                  case rel => exact ⟨by rw [hT.out], rfl⟩
              · have gx6 : (x6 == 48) = false := by simpa using mx6
                have hT : Hid (M = false) := by show M = false; rw [hM.out]; simp [mx6]
                go_wp2
                go_meet
                case rel => exact ⟨by rw [hT.out], rfl⟩
            · have gx4 : (x4 == 48) = false := by simpa using mx4
              have hT : Hid (M = false) := by show M = false; rw [hM.out]; simp [mx4]
              go_wp2
              go_meet
              case rel => exact ⟨by rw [hT.out], rfl⟩
          · have gx3 : (x3 == 48) = false := by simpa using mx3
            have hT : Hid (M = false) := by show M = false; rw [hM.out]; simp [mx3]
            go_wp2
            go_meet
            case rel => exact ⟨by rw [hT.out], rfl⟩
        · have gx1 : (x1 == 48) = false := by simpa using mx1
          have hT : Hid (M = false) := by show M = false; rw [hM.out]; simp [mx1]
          go_wp2
          go_meet
          case rel => exact ⟨by rw [hT.out], rfl⟩
      · have gx0 : (x0 == 48) = false := by simpa using mx0
        have hT : Hid (M = false) := by show M = false; rw [hM.out]; simp [mx0]
        go_wp2
        go_meet
        case rel => exact ⟨by rw [hT.out], rfl⟩
  obtain ⟨rfl, hwc⟩ := hcut
  have hwc' := hwc.symm
  subst hwc'
  clear hwc hM h0 h1 h2 h3 h4 h5 h6 h7
  by_cases h8 : n = 8
  · subst h8
    have HF' : Hid (R = some (8, M)) := hQ0.out (by simp [pt, hd])
    clear hQ0 hQ1 hQ2
    go_wp2
    go_ret3
    refine ⟨?_, rfl⟩
    rw [HF'.out]; rfl
  have h8' : 8 < n := by omega
  have hp0 : ((n : Int) == 8) = false := by simp; omega
  have g8 := hat.2 8 (by omega)
  by_cases h46 : nth d 8 = 46
  · have hpt : pt d = true := by simp [pt, hd, h8', h46]
    rw [h46] at g8
    generalize hG : leadD (d.drop 9) = G at hQ1 hQ2
    generalize hZ : zr (d.drop 9) = Z at hQ2
    have H0 : Hid (0 + leadD (d.drop (9 + 0)) = G ∧ 0 + zr (d.drop (9 + 0)) = Z) := by
      show _ ∧ _
      rw [Nat.add_zero, hG, hZ]; omega
    clear hG hZ h46
    go_wp2
    go_loop [9, 10] (fun v9 v10 => ∃ (k z : Nat), 9 + k ≤ n ∧ z ≤ k ∧ v9 = .int .i64 k ∧ v10 = .int .i64 z ∧ Hid (k + leadD (d.drop (9 + k)) = G ∧ z + zr (d.drop (9 + k)) = Z)) (fun v9 _ => n - (intOf v9).toNat)
    case atStart => exact ⟨0, 0, by omega, by omega, rfl, rfl, H0⟩
    case round =>
      obtain ⟨k, z, hk, hz, rfl, rfl, HK⟩ := hrel
      clear H0
      have hkn' : (9 + (k : Int)).toNat = 9 + k := by omega
      by_cases hkn : 9 + k < n
      · have gk := hat.2 (9 + k) (by omega)
        obtain ⟨v, hv⟩ : ∃ v, nth d (9 + k) = v := ⟨_, rfl⟩
        rw [hv] at gk
        have HV : Hid (nth d (9 + k) = v) := hv
        clear hv
        have hkI : 9 + (k : Int) < (n : Int) := by omega
        cases hdv : dig v with
        | true =>
          have hdg := fun W => digitB_is v true hdv W
          have e1 := HK.out
          rw [(leadD_hit d (9 + k) (by omega) (by rw [HV.out]; exact hdv)).1, (leadD_hit d (9 + k) (by omega) (by rw [HV.out]; exact hdv)).2, HV.out] at e1
          clear HK hdv
          by_cases hv48 : v = 48
          · subst hv48
            have HS : Hid ((k + 1) + leadD (d.drop (9 + (k + 1))) = G ∧ (z + 1) + zr (d.drop (9 + (k + 1))) = Z) := by
              rw [if_pos rfl] at e1
              show _ ∧ _
              rw [show 9 + (k + 1) = 9 + k + 1 from rfl]; omega
            clear e1
            go_wp2_with (go_at_call 16; refine (hdg _).mono ?_; rintro e wz ⟨rfl, hwz⟩; have hwz' := hwz.symm; subst hwz'; clear hwz)
            go_round
            case rel => exact ⟨k + 1, z + 1, by omega, by omega, by go_num, by go_num, HS⟩
            case measure => simp [intOf]; omega
          · have hb48 : (v == 48) = false := by simpa using hv48
            have HS : Hid ((k + 1) + leadD (d.drop (9 + (k + 1))) = G ∧ z + zr (d.drop (9 + (k + 1))) = Z) := by
              rw [if_neg hv48] at e1
              show _ ∧ _
              rw [show 9 + (k + 1) = 9 + k + 1 from rfl]; omega
            clear e1
            go_wp2_with (go_at_call 16; refine (hdg _).mono ?_; rintro e wz ⟨rfl, hwz⟩; have hwz' := hwz.symm; subst hwz'; clear hwz)
            go_round
            case rel => exact ⟨k + 1, z, by omega, by omega, by go_num, rfl, HS⟩
            case measure => simp [intOf]; omega
        | false =>
          have hdg := fun W => digitB_is v false hdv W
          have e1 := HK.out
          rw [(leadD_miss d (9 + k) (by omega) (by rw [HV.out]; exact hdv)).1, (leadD_miss d (9 + k) (by omega) (by rw [HV.out]; exact hdv)).2] at e1
          obtain ⟨e1, e2⟩ := e1
          have eG : G = k := by omega
          have eZ : Z = z := by omega
          subst eG
          subst eZ
          clear HK e1 e2
          by_cases hk0 : G = 0
          · subst hk0
            have HF : Hid (R = none) := hQ1.out hpt rfl
            clear hQ0 hQ1 hQ2
            go_wp2_with (go_at_call 16; refine (hdg _).mono ?_; rintro e wz ⟨rfl, hwz⟩; have hwz' := hwz.symm; subst hwz'; clear hwz)
            go_ret3
            refine ⟨?_, rfl⟩
            rw [HF.out]; rfl
          · have hkb : ((G : Int) == 0) = false := by simp; omega
            have HF : Hid (R = some (9 + G, M && decide (Z = G))) := hQ2.out hpt hk0
            clear hQ0 hQ1 hQ2
            cases M with
            | false =>
              go_wp2_with (go_at_call 16; refine (hdg _).mono ?_; rintro e wz ⟨rfl, hwz⟩; have hwz' := hwz.symm; subst hwz'; clear hwz)
              go_ret3
              refine ⟨?_, rfl⟩
              rw [HF.out]; rfl
            | true =>
              by_cases ez : Z = G
              · subst ez
                rw [decide_eq_true rfl] at HF
                go_wp2_with (go_at_call 16; refine (hdg _).mono ?_; rintro e wz ⟨rfl, hwz⟩; have hwz' := hwz.symm; subst hwz'; clear hwz)
                go_ret3
                refine ⟨?_, rfl⟩
                rw [HF.out]; rfl
              · have ezb : ((Z : Int) == (G : Int)) = false := by simp; omega
                rw [decide_eq_false ez] at HF
                go_wp2_with (go_at_call 16; refine (hdg _).mono ?_; rintro e wz ⟨rfl, hwz⟩; have hwz' := hwz.symm; subst hwz'; clear hwz)
                go_ret3
                refine ⟨?_, rfl⟩
                rw [HF.out]; rfl
      · skip
        have e1 := HK.out
        rw [(leadD_out d (9 + k) (by omega)).1, (leadD_out d (9 + k) (by omega)).2] at e1
        obtain ⟨e1, e2⟩ := e1
        have eG : G = k := by omega
        have eZ : Z = z := by omega
        subst eG
        subst eZ
        clear HK e1 e2
        by_cases hk0 : G = 0
        · subst hk0
          have HF : Hid (R = none) := hQ1.out hpt rfl
          clear hQ0 hQ1 hQ2
          go_wp2
          go_ret3
          refine ⟨?_, rfl⟩
          rw [HF.out]; rfl
        · have hkb : ((G : Int) == 0) = false := by simp; omega
          have HF : Hid (R = some (9 + G, M && decide (Z = G))) := hQ2.out hpt hk0
          clear hQ0 hQ1 hQ2
          cases M with
          | false =>
            go_wp2
            go_ret3
            refine ⟨?_, rfl⟩
            rw [HF.out]; rfl
          | true =>
            by_cases ez : Z = G
            · subst ez
              rw [decide_eq_true rfl] at HF
              go_wp2
              go_ret3
              refine ⟨?_, rfl⟩
              rw [HF.out]; rfl
            · have ezb : ((Z : Int) == (G : Int)) = false := by simp; omega
              rw [decide_eq_false ez] at HF
              go_wp2
              go_ret3
              refine ⟨?_, rfl⟩
              rw [HF.out]; rfl
  · have hpt : pt d = false := by simp [pt, h46]
    have HF' : Hid (R = some (8, M)) := hQ0.out hpt
    obtain ⟨v, hv⟩ : ∃ v, nth d 8 = v := ⟨_, rfl⟩
    rw [hv] at g8 h46
    have hb46 : (v != 46) = true := by simpa using h46
    clear hv hpt hQ0 hQ1 hQ2
    go_wp2
    go_ret3
    refine ⟨?_, rfl⟩
    rw [HF'.out]; rfl
end Go.Proofs.Qxb6600322aMods
