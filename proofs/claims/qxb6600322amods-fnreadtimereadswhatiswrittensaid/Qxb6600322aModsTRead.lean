/-
  'readTime' (22) by its contract.
-/
import Derived.Test.Qxb6600322aModsSame
import Derived.Deep.DeepCutAuto
namespace Go.Proofs.Qxb6600322aMods
open Go.RowKit
set_option linter.unusedVariables false
set_option linter.unusedSimpArgs false

theorem rt_short (a : Option Addr) (n c : Nat) (w : World) (hn : n < 8) :
    Calls Trym.prog 22 #[.slice a n c] w fun e w' => e = .returned (.tuple #[.slice none 0 0, .bool false, .bool false]) ∧ Below w.heap.size w w' := by
  have hnI : (n : Int) < 8 := by omega
  go_enter Trym.func22, Trym.ntmps22
  go_wp2
  go_ret3
  exact ⟨rfl, Below.refl _ _⟩

theorem cell_at {w : World} {b o : Nat} {d : List Int} (h : At w b o d) (k : Nat) (hk : k < d.length) {x : Int} (hx : nth d k = x) : w.cell? ⟨b, o + k, none⟩ = some (.int .u8 x) := by rw [← hx]; exact h.2 k hk

theorem rt_colon2 (b o n c : Nat) (x : Int) (w : World) (hn : 8 ≤ n) (h2 : w.cell? ⟨b, o + 2, none⟩ = some (.int .u8 x)) (hx : (x != 58) = true) :
    Calls Trym.prog 22 #[.slice (some ⟨b, o, none⟩) n c] w fun e w' => e = .returned (.tuple #[.slice none 0 0, .bool false, .bool false]) ∧ Below w.heap.size w w' := by
  have hnI : (8 : Int) ≤ (n : Int) := by omega
  go_enter Trym.func22, Trym.ntmps22
  go_wp2
  go_ret3
  exact ⟨rfl, Below.refl _ _⟩

theorem rt_colon5 (b o n c : Nat) (x : Int) (w : World) (hn : 8 ≤ n) (h2 : w.cell? ⟨b, o + 2, none⟩ = some (.int .u8 58)) (h5 : w.cell? ⟨b, o + 5, none⟩ = some (.int .u8 x)) (hx : (x != 58) = true) :
    Calls Trym.prog 22 #[.slice (some ⟨b, o, none⟩) n c] w fun e w' => e = .returned (.tuple #[.slice none 0 0, .bool false, .bool false]) ∧ Below w.heap.size w w' := by
  have hnI : (8 : Int) ≤ (n : Int) := by omega
  go_enter Trym.func22, Trym.ntmps22
  go_wp2
  go_ret3
  exact ⟨rfl, Below.refl _ _⟩

theorem bel_n (w : World) (n : Nat) : Below w.heap.size w (w.drewN n) := below_drewN (Below.refl _ _) n

set_option maxHeartbeats 800000 in
theorem rt_two (b o n c : Nat) (t0 t1 t2 : Bool) (w : World) (hn : 8 ≤ n) (hnc : n ≤ c) (h2 : w.cell? ⟨b, o + 2, none⟩ = some (.int .u8 58)) (h5 : w.cell? ⟨b, o + 5, none⟩ = some (.int .u8 58))
    (c0 : ∀ W, Below w.heap.size w W → Calls Trym.prog 24 #[.slice (some ⟨b, o, none⟩) 2 c, .int .i64 23] W fun e w' => e = .returned (.bool t0) ∧ ∃ n, w' = W.drewN n)
    (c1 : ∀ W, Below w.heap.size w W → Calls Trym.prog 24 #[.slice (some ⟨b, o + 3, none⟩) 2 (c - 3), .int .i64 59] W fun e w' => e = .returned (.bool t1) ∧ ∃ n, w' = W.drewN n)
    (c2 : ∀ W, Below w.heap.size w W → Calls Trym.prog 24 #[.slice (some ⟨b, o + 6, none⟩) 2 (c - 6), .int .i64 60] W fun e w' => e = .returned (.bool t2) ∧ ∃ n, w' = W.drewN n)
    (ht : (t0 && t1 && t2) = false) :
    Calls Trym.prog 22 #[.slice (some ⟨b, o, none⟩) n c] w fun e w' => e = .returned (.tuple #[.slice none 0 0, .bool false, .bool false]) ∧ Below w.heap.size w w' := by
  have hnI : (8 : Int) ≤ (n : Int) := by omega
  have hcI : (8 : Int) ≤ (c : Int) := by omega
  have n3 : ¬ c = 3 := by omega
  have n6 : ¬ c = 6 := by omega
  cases t0 with
  | false =>
    go_enter Trym.func22, Trym.ntmps22
    go_wp2_with (first | (go_at_call_of 24 (Value.int IntKind.i64 23); refine (c0 _ (Below.refl _ _)).mono ?_; rintro e w' ⟨rfl, m0, rfl⟩))
    go_ret3
    exact ⟨rfl, bel_n _ _⟩
  | true =>
    cases t1 with
    | false =>
      go_enter Trym.func22, Trym.ntmps22
      go_wp2_with (first | (go_at_call_of 24 (Value.int IntKind.i64 23); refine (c0 _ (Below.refl _ _)).mono ?_; rintro e w' ⟨rfl, m0, rfl⟩) | (go_at_call_of 24 (Value.int IntKind.i64 59); refine (c1 _ (bel_n _ _)).mono ?_; rintro e w' ⟨rfl, m1, rfl⟩))
      go_ret3
      exact ⟨rfl, by first | exact bel_n _ _ | exact below_drewN (bel_n _ _) _⟩
    | true =>
      cases t2 with
      | false =>
        go_enter Trym.func22, Trym.ntmps22
        go_wp2_with (first | (go_at_call_of 24 (Value.int IntKind.i64 23); refine (c0 _ (Below.refl _ _)).mono ?_; rintro e w' ⟨rfl, m0, rfl⟩) | (go_at_call_of 24 (Value.int IntKind.i64 59); refine (c1 _ (bel_n _ _)).mono ?_; rintro e w' ⟨rfl, m1, rfl⟩) | (go_at_call_of 24 (Value.int IntKind.i64 60); refine (c2 _ (by first | exact bel_n _ _ | exact below_drewN (bel_n _ _) _)).mono ?_; rintro e w' ⟨rfl, m2, rfl⟩))
        go_ret3
        exact ⟨rfl, by first | exact bel_n _ _ | exact below_drewN (bel_n _ _) _ | exact below_drewN (below_drewN (bel_n _ _) _) _⟩
      | true => simp at ht

theorem bn (w : World) (m n : Nat) : Below w.heap.size w ((w.drewN m).drewN n) := below_drewN (below_drewN (Below.refl _ _) m) n

/-- What 'readTime' hands back. -/
def RTPost (b n c : Nat) (d : List Int) (r : Option (Nat × Bool)) (e : Ending) (w' : World) : Prop :=
  match r with
  | none => e = .returned (.tuple #[.slice none 0 0, .bool false, .bool false])
  | some (u, m) => ∃ o', e = .returned (.tuple #[.slice (some ⟨b, o', none⟩) (n - u) (c - u), .bool m, .bool true]) ∧ At w' b o' (d.drop u)

theorem At.nothing {w : World} {b : Nat} (o : Nat) {d : List Int} (hb : b < w.heap.size) (h : d = []) : At w b o d := ⟨hb, fun i hi => by rw [h] at hi; simp at hi⟩

set_option maxHeartbeats 1600000 in
theorem rt_main (b o n c : Nat) (M : Bool) (d : List Int) (R : Option (Nat × Bool)) (w : World) (hn : 8 ≤ n) (hn2 : n ≤ 2097152) (hnc : n ≤ c) (hd : d.length = n) (hat : At w b o d) (h2 : w.cell? ⟨b, o + 2, none⟩ = some (.int .u8 58)) (h5 : w.cell? ⟨b, o + 5, none⟩ = some (.int .u8 58))
    (c0 : ∀ W, Below w.heap.size w W → Calls Trym.prog 24 #[.slice (some ⟨b, o, none⟩) 2 c, .int .i64 23] W fun e w' => e = .returned (.bool true) ∧ ∃ n, w' = W.drewN n)
    (c1 : ∀ W, Below w.heap.size w W → Calls Trym.prog 24 #[.slice (some ⟨b, o + 3, none⟩) 2 (c - 3), .int .i64 59] W fun e w' => e = .returned (.bool true) ∧ ∃ n, w' = W.drewN n)
    (c2 : ∀ W, Below w.heap.size w W → Calls Trym.prog 24 #[.slice (some ⟨b, o + 6, none⟩) 2 (c - 6), .int .i64 60] W fun e w' => e = .returned (.bool true) ∧ ∃ n, w' = W.drewN n)
    (hM : ((strOfNums (d.take 8)).toList == [48, 48, 58, 48, 48, 58, 48, 48]) = M)
    (hR0 : Hid (pt d = false → R = some (8, M))) (hR1 : Hid (pt d = true → leadD (d.drop 9) = 0 → R = none)) (hR2 : Hid (pt d = true → leadD (d.drop 9) ≠ 0 → R = some (9 + leadD (d.drop 9), M && decide (zr (d.drop 9) = leadD (d.drop 9))))) :
    Calls Trym.prog 22 #[.slice (some ⟨b, o, none⟩) n c] w fun e w' => RTPost b n c d R e w' ∧ Below w.heap.size w w' := by
  have hnI : (8 : Int) ≤ (n : Int) := by omega
  have hcI : (8 : Int) ≤ (c : Int) := by omega
  have n3 : ¬ c = 3 := by omega
  have n6 : ¬ c = 6 := by omega
  have g8 : ∀ q, (convert 25 9 (.slice (some ⟨b, o, none⟩) 8 c)).run Trym.prog (w.drewN q) = .ok (.string (strOfNums (d.take 8))) (w.drewN q) := fun q =>
    run_convert_bytes_arg (P := Trym.prog) (w.drewN q) 25 5 Trym.underlying25 Trym.underlying5 b o 8 c (d.take 8) (by simp; omega) (fun i hi => by
      have := ((hat.below (bel_n w q)).take 8).2 i (by simp; omega); exact this) 9 Trym.underlying9
  generalize strOfNums (d.take 8) = S at g8 hM
  go_enter Trym.func22, Trym.ntmps22
  go_upto_region 5 with (first | (go_at_call_of 24 (Value.int IntKind.i64 23); refine (c0 _ (Below.refl _ _)).mono ?_; rintro e w' ⟨rfl, m0, rfl⟩) | (go_at_call_of 24 (Value.int IntKind.i64 59); refine (c1 _ (bel_n _ _)).mono ?_; rintro e w' ⟨rfl, m1, rfl⟩) | (go_at_call_of 24 (Value.int IntKind.i64 60); refine (c2 _ (by first | exact bel_n _ _ | exact below_drewN (bel_n _ _) _)).mono ?_; rintro e w' ⟨rfl, m2, rfl⟩))
  clear c0 c1 c2
  go_cut [2, 3] (fun r m wx => ∃ o', r = .slice (some ⟨b, o', none⟩) (n - 8) (c - 8) ∧ m = .bool M ∧ Below w.heap.size w wx ∧ At wx b o' (d.drop 8))
  case first =>
    by_cases hc8 : c = 8
    · have hn8 : n = 8 := by omega
      subst hc8
      subst hn8
      go_quiet (fail)
      go_wp2
      go_meet
      case rel => exact ⟨o, rfl, rfl, bn _ _ _, At.nothing o (hat.below (bn _ _ _)).1 (List.drop_eq_nil_of_le (by omega))⟩
    · go_quiet (fail)
      go_wp2
      go_meet
      case rel => exact ⟨o + 8, rfl, rfl, bn _ _ _, (hat.below (bn _ _ _)).drop 8⟩
  obtain ⟨o', rfl, rfl, hbel, hat8⟩ := hcut
  clear g8 hM h2 h5 hcI n3 n6
  have HL8 : Hid ((d.drop 8).length = n - 8) := by rw [List.length_drop]; show _ = _; omega
  clear hat
  by_cases h8 : n = 8
  · subst h8
    have HF := hR0.out (by simp [pt, hd])
    have HF' : Hid (R = some (8, M)) := HF
    clear HF
    go_wp2
    go_ret3
    refine ⟨?_, hbel⟩
    rw [HF'.out]
    exact ⟨o', rfl, hat8⟩
  · have h8' : 8 < n := by omega
    have hp0 : ¬ (n : Int) - 8 ≤ 0 := by omega
    have g0 := hat8.2 0 (by rw [HL8.out]; omega)
    rw [Nat.add_zero, nth_drop, Nat.add_zero] at g0
    by_cases h46 : nth d 8 = 46
    · have hpt : pt d = true := by simp [pt, hd, h8', h46]
      rw [h46] at g0
      have hfr := fr_eq (d.drop 9) M
      generalize hG : leadD (d.drop 9) = G at hfr hR1 hR2
      generalize hZ : (M && decide (zr (d.drop 9) = G)) = Z at hfr hR2
      have H0 : Hid ((fr M (d.drop (8 + 1))).1 + 1 = G + 1 ∧ (fr M (d.drop (8 + 1))).2 = Z) := by
        show _ ∧ _
        rw [hfr]; exact ⟨rfl, rfl⟩
      clear hG hZ hfr h46
      go_wp2
      go_loop [3, 5] (fun m e => ∃ (k : Nat) (B : Bool), 1 ≤ k ∧ 8 + k ≤ n ∧ e = .int .i64 k ∧ m = .bool B ∧ Hid ((fr B (d.drop (8 + k))).1 + k = G + 1 ∧ (fr B (d.drop (8 + k))).2 = Z)) (fun _ e => n - (intOf e).toNat)
      case atStart => exact ⟨1, M, by omega, by omega, rfl, rfl, H0⟩
      case round =>
        obtain ⟨k, B, hk1, hk, rfl, rfl, HK⟩ := hrel
        clear H0
        by_cases hkn : 8 + k < n
        · have gk := hat8.2 k (by rw [HL8.out]; omega)
          rw [nth_drop] at gk
          obtain ⟨v, hv⟩ : ∃ v, nth d (8 + k) = v := ⟨_, rfl⟩
          rw [hv] at gk
          have HV : Hid (nth d (8 + k) = v) := hv
          clear hv
          have hkI : (k : Int) < ((n - 8 : Nat) : Int) := by omega
          cases hdv : dig v with
          | true =>
            have hdg := fun W => digit_is v true hdv W
            have HS : Hid ((fr (B && decide (v = 48)) (d.drop (8 + (k + 1)))).1 + (k + 1) = G + 1 ∧ (fr (B && decide (v = 48)) (d.drop (8 + (k + 1)))).2 = Z) := by
              have e1 := HK.out
              rw [fr_hit d (8 + k) B (by omega) (by rw [HV.out]; exact hdv), HV.out] at e1
              obtain ⟨e1, e2⟩ := e1
              refine ⟨?_, e2⟩
              show (fr (B && decide (v = 48)) (d.drop (8 + k + 1))).1 + (k + 1) = _
              simp only at e1
              omega
            clear HK hdv
            by_cases hv48 : v = 48
            · subst hv48
              cases B with
              | true =>
                go_wp2_with (go_at_call 25; refine (hdg _).mono ?_; rintro e wz ⟨rfl, hwz⟩; have hwz' := hwz.symm; subst hwz'; clear hwz)
                go_round
                case rel => exact ⟨k + 1, true, by omega, by omega, by go_num, rfl, HS⟩
                case measure => simp [intOf]; omega
              | false =>
                go_wp2_with (go_at_call 25; refine (hdg _).mono ?_; rintro e wz ⟨rfl, hwz⟩; have hwz' := hwz.symm; subst hwz'; clear hwz)
                go_round
                case rel => exact ⟨k + 1, false, by omega, by omega, by go_num, rfl, HS⟩
                case measure => simp [intOf]; omega
            · have hb48 : (v == 48) = false := by simpa using hv48
              rw [decide_eq_false hv48, Bool.and_false] at HS
              cases B with
              | true =>
                go_wp2_with (go_at_call 25; refine (hdg _).mono ?_; rintro e wz ⟨rfl, hwz⟩; have hwz' := hwz.symm; subst hwz'; clear hwz)
                go_round
                case rel => exact ⟨k + 1, false, by omega, by omega, by go_num, rfl, HS⟩
                case measure => simp [intOf]; omega
              | false =>
                go_wp2_with (go_at_call 25; refine (hdg _).mono ?_; rintro e wz ⟨rfl, hwz⟩; have hwz' := hwz.symm; subst hwz'; clear hwz)
                go_round
                case rel => exact ⟨k + 1, false, by omega, by omega, by go_num, rfl, HS⟩
                case measure => simp [intOf]; omega
          | false =>
            have hdg := fun W => digit_is v false hdv W
            have e1 := HK.out
            rw [fr_miss d (8 + k) B (by omega) (by rw [HV.out]; exact hdv)] at e1
            obtain ⟨e1, e2⟩ := e1
            have e3 : 0 + k = G + 1 := e1
            have e4 : B = Z := e2
            by_cases hk1' : k = 1
            · subst hk1'
              have HF : Hid (R = none) := hR1.out hpt (by show G = 0; omega)
              clear e1 e2 e3 e4 HK
              go_wp2_with (go_at_call 25; refine (hdg _).mono ?_; rintro e wz ⟨rfl, hwz⟩; have hwz' := hwz.symm; subst hwz'; clear hwz)
              go_ret3
              refine ⟨?_, hbel⟩
              rw [HF.out]; rfl
            · have HF : Hid (R = some (8 + k, B)) := by
                have h := hR2.out hpt (by show G ≠ 0; omega)
                have hg : 9 + G = 8 + k := by omega
                show R = _
                rw [h, hg, e4]
              have hkne : ((k : Int) == 1) = false := by simp; omega
              clear e1 e2 e3 e4 HK
              by_cases hck : c - 8 = k
              · go_wp2_with (go_at_call 25; refine (hdg _).mono ?_; rintro e wz ⟨rfl, hwz⟩; have hwz' := hwz.symm; subst hwz'; clear hwz)
                go_ret3
                refine ⟨?_, hbel⟩
                rw [HF.out]
                exact ⟨o', by rw [show c - (8 + k) = 0 by omega]; simp only [Nat.sub_sub]; rfl, At.nothing o' hat8.1 (List.drop_eq_nil_of_le (by omega))⟩
              · go_wp2_with (go_at_call 25; refine (hdg _).mono ?_; rintro e wz ⟨rfl, hwz⟩; have hwz' := hwz.symm; subst hwz'; clear hwz)
                go_ret3
                refine ⟨?_, hbel⟩
                rw [HF.out]
                exact ⟨o' + k, by simp only [Nat.sub_sub]; rfl, by have := hat8.drop k; rwa [List.drop_drop] at this⟩
        · have e1 := HK.out
          rw [fr_out d (8 + k) B (by omega)] at e1
          obtain ⟨e1, e2⟩ := e1
          have e3 : 0 + k = G + 1 := e1
          have e4 : B = Z := e2
          by_cases hk1' : k = 1
          · subst hk1'
            have HF : Hid (R = none) := hR1.out hpt (by show G = 0; omega)
            clear e1 e2 e3 e4 HK
            go_wp2_with (fail)
            go_ret3
            refine ⟨?_, hbel⟩
            rw [HF.out]; rfl
          · have HF : Hid (R = some (8 + k, B)) := by
              have h := hR2.out hpt (by show G ≠ 0; omega)
              have hg : 9 + G = 8 + k := by omega
              show R = _
              rw [h, hg, e4]
            have hkne : ((k : Int) == 1) = false := by simp; omega
            clear e1 e2 e3 e4 HK
            by_cases hck : c - 8 = k
            · go_wp2_with (fail)
              go_ret3
              refine ⟨?_, hbel⟩
              rw [HF.out]
              exact ⟨o', by rw [show c - (8 + k) = 0 by omega]; simp only [Nat.sub_sub]; rfl, At.nothing o' hat8.1 (List.drop_eq_nil_of_le (by omega))⟩
            · go_wp2_with (fail)
              go_ret3
              refine ⟨?_, hbel⟩
              rw [HF.out]
              exact ⟨o' + k, by simp only [Nat.sub_sub]; rfl, by have := hat8.drop k; rwa [List.drop_drop] at this⟩
    · have hpt : pt d = false := by simp [pt, h46]
      have HF' : Hid (R = some (8, M)) := hR0.out hpt
      obtain ⟨v, hv⟩ : ∃ v, nth d 8 = v := ⟨_, rfl⟩
      rw [hv] at g0 h46
      have hb46 : (v == 46) = false := by simpa using h46
      clear hv hpt
      go_wp2
      go_ret3
      refine ⟨?_, hbel⟩
      rw [HF'.out]
      exact ⟨o', rfl, hat8⟩
end Go.Proofs.Qxb6600322aMods
