/-
  'quotedEndRunModel' (19) by its contract: it answers as 'quotedEnd' does.
-/
import Derived.Test.Qxb6600322aModsQStays
import Derived.Deep.DeepCutAuto
namespace Go.Proofs.Qxb6600322aMods
open Go.RowKit
set_option linter.unusedVariables false
set_option linter.unusedSimpArgs false

/-- A run of fewer than three quotes is passed over. -/
theorem qend_skip (d : List Int) (q : Int) (k : Nat) (hk : k < d.length) (hq : q ≠ 92) (hv : nth d k = q) (h3 : ¬ 3 ≤ lead q (d.drop k)) : qend d q 3 k = qend d q 3 (k + lead q (d.drop k)) := by
  have h1 := lead_hit d q k hk hv
  have s1 := qend_next d q 3 k hk (by rw [hv]; omega) (by omega)
  by_cases h2 : lead q (d.drop (k + 1)) = 0
  · rw [h1, h2]; exact s1
  · have hl := lead_le q (d.drop (k + 1))
    rw [List.length_drop] at hl
    have hv1 := lead_nth q (d.drop (k + 1)) 0 (by omega)
    rw [nth_drop, Nat.add_zero] at hv1
    have s2 := qend_next d q 3 (k + 1) (by omega) (by rw [hv1]; omega) (by omega)
    have e : lead q (d.drop (k + 1)) + 1 = 2 := by omega
    rw [h1, e, s1, s2]

set_option maxHeartbeats 800000 in
set_option maxRecDepth 100000 in
theorem run_any (b o n c i : Nat) (d : List Int) (w : World) (hd : d.length = n) (hnc : n ≤ c) (hn : n ≤ 1048576) (hi : i < n) (hat : At w b o d) (hq : nth d i = 34 ∨ nth d i = 39) :
    Calls Trym.prog 19 #[.slice (some ⟨b, o, none⟩) n c, .int .i64 i] w fun e w' => e = .returned (.int .i64 (qEnd d i)) ∧ w' = w := by
  have hc0 := hat.2 i (by omega)
  have hopen := open_three d i (by omega)
  have hqO : qOpen d i = if 3 ≤ lead (nth d i) (d.drop i) then 3 else 1 := rfl
  have hqE : qEnd d i = qend d (nth d i) (qOpen d i) (i + qOpen d i) := rfl
  obtain ⟨q, hqe⟩ : ∃ q, nth d i = q := ⟨_, rfl⟩
  rw [hqe] at hc0 hq hqO hqE hopen
  obtain ⟨E, hE⟩ : ∃ E, E = qEnd d i := ⟨_, rfl⟩
  rw [← hE] at hqE ⊢
  have HqO : Hid (qOpen d i = if 3 ≤ lead q (d.drop i) then 3 else 1) := hqO
  have HqE : Hid (E = qend d q (qOpen d i) (i + qOpen d i)) := hqE
  have HOP : Hid (3 ≤ lead q (d.drop i) ↔ (i + 2 < d.length ∧ nth d (i + 1) = q ∧ nth d (i + 2) = q)) := hopen
  clear hqe hE hqO hqE hopen
  go_enter Trym.func19, Trym.ntmps19
  go_upto_region 4 with fail
  go_cut [38] (fun t wc => t = .bool (decide (3 ≤ lead q (d.drop i))) ∧ wc = w)
  case first =>
    by_cases h1 : i + 2 < n
    · have c1 := hat.2 (i + 1) (by omega)
      have c2 := hat.2 (i + 2) (by omega)
      obtain ⟨u1, hu1⟩ : ∃ u, nth d (i + 1) = u := ⟨_, rfl⟩
      obtain ⟨u2, hu2⟩ : ∃ u, nth d (i + 2) = u := ⟨_, rfl⟩
      rw [hu1] at c1; rw [hu2] at c2
      have hop := HOP.out
      rw [hu1, hu2] at hop
      have HP : Hid (3 ≤ lead q (d.drop i) ↔ (i + 2 < d.length ∧ u1 = q ∧ u2 = q)) := hop
      clear hu1 hu2 hop HOP
      by_cases e1 : u1 = q
      · subst e1
        by_cases e2 : u2 = u1
        · subst e2
          have hp : Hid (decide (3 ≤ lead u2 (d.drop i)) = true) := decide_eq_true (HP.out.2 ⟨by omega, rfl, rfl⟩)
          go_wp2
          go_meet
          case rel => exact ⟨by rw [hp.out], rfl⟩
        · have hp : Hid (decide (3 ≤ lead u1 (d.drop i)) = false) := decide_eq_false (mt HP.out.1 (fun h => e2 h.2.2))
          have hb2 : (u2 == u1) = false := by simpa using e2
          go_wp2
          go_meet
          case rel => exact ⟨by rw [hp.out], rfl⟩
      · have hp : Hid (decide (3 ≤ lead q (d.drop i)) = false) := decide_eq_false (mt HP.out.1 (fun h => e1 h.2.1))
        have hb1 : (u1 == q) = false := by simpa using e1
        go_wp2
        go_meet
        case rel => exact ⟨by rw [hp.out], rfl⟩
    · have hp : Hid (decide (3 ≤ lead q (d.drop i)) = false) := decide_eq_false (mt HOP.out.1 (fun h => h1 (by omega)))
      go_wp2
      go_meet
      case rel => exact ⟨by rw [hp.out], rfl⟩
  case rest =>
    obtain ⟨rfl, rfl⟩ := hcut
    go_upto_if 38 with fail
    go_cut [7] (fun op wx => ∃ m : Nat, op = .int .i64 m ∧ m = qOpen d i ∧ (m = 1 ∨ m = 3) ∧ wx = wc)
    case first =>
      by_cases h3 : 3 ≤ lead q (d.drop i)
      · rw [decide_eq_true h3]
        go_wp2
        go_meet
        case rel => exact ⟨3, rfl, by rw [HqO.out, if_pos h3], .inr rfl, rfl⟩
      · rw [decide_eq_false h3]
        go_wp2
        go_meet
        case rel => exact ⟨1, rfl, by rw [HqO.out, if_neg h3], .inl rfl, rfl⟩
    case rest =>
      obtain ⟨m, rfl, hm, h13, rfl⟩ := hcut
      have HE : Hid (qend d q m (i + m) = E) := by rw [hm]; exact HqE.out.symm
      clear hm HqE HqO HOP
      have hm3 : 1 ≤ m ∧ m ≤ 3 := by omega
      go_wp2
      go_loop [8] (fun j => ∃ k : Nat, k ≤ n + 3 ∧ j = .int .i64 k ∧ Hid (qend d q m k = E)) (fun j => n + 3 - (intOf j).toNat)
      case atStart => exact ⟨i + m, by omega, by go_num, HE⟩
      case round =>
        obtain ⟨k, hk, rfl, HK⟩ := hrel
        clear HE
        by_cases hkn : k < n
        · have hck := hat.2 k (by omega)
          obtain ⟨v, hv⟩ : ∃ v, nth d k = v := ⟨_, rfl⟩
          rw [hv] at hck
          have HV : Hid (nth d k = v) := hv
          clear hv
          have hkI : (k : Int) < (n : Int) := by omega
          by_cases h92 : v = 92
          · subst h92
            rcases hq with rfl | rfl
            · go_wp2
              go_round
              case rel => exact ⟨k + 2, by omega, by go_num, by rw [← qend_esc d m k (by omega) HV.out]; exact HK⟩
              case measure => simp [intOf]; omega
            · go_wp2
              go_round
              case rel => exact ⟨k + 1, by omega, by go_num, by rw [← qend_next d 39 m k (by omega) (by omega) (by rw [HV.out]; omega)]; exact HK⟩
              case measure => simp [intOf]; omega
          · have hb92 : (v == 92) = false := by simpa using h92
            by_cases hvq : v = q
            · subst hvq
              have hl1 := lead_hit d v k (by omega) HV.out
              have hll := lead_le v (d.drop k)
              rw [List.length_drop] at hll
              rcases h13 with rfl | rfl
              · have HH : Hid (E = k + 1) := by
                  rw [← HK.out]; exact qend_hit d v 1 k (by omega) (by rw [HV.out]; omega) ⟨HV.out, by omega⟩
                clear HK hl1 hll
                go_wp2
                go_ret
                refine ⟨?_, rfl⟩
                rw [HH.out]; rfl
              · obtain ⟨L, hL⟩ : ∃ L, lead v (d.drop k) = L := ⟨_, rfl⟩
                have HL : Hid (lead v (d.drop k) = L) := hL
                rw [hL] at hl1 hll
                have hL1 : 1 ≤ L := by omega
                have H0 : Hid (0 + lead v (d.drop (k + 0)) = L) := by rw [Nat.zero_add, Nat.add_zero]; exact hL
                clear hL hl1
                go_upto_region 16 with fail
                go_loop [10] (fun r => ∃ t : Nat, k + t ≤ n ∧ r = .int .i64 t ∧ Hid (t + lead v (d.drop (k + t)) = L)) (fun r => n - (intOf r).toNat)
                case atStart => exact ⟨0, by omega, rfl, H0⟩
                case round =>
                  obtain ⟨t, ht, rfl, HT⟩ := hrel
                  clear H0
                  by_cases htn : k + t < n
                  · have hct := hat.2 (k + t) (by omega)
                    obtain ⟨u, hu⟩ : ∃ u, nth d (k + t) = u := ⟨_, rfl⟩
                    rw [hu] at hct
                    have HU : Hid (nth d (k + t) = u) := hu
                    clear hu
                    have htI : (k : Int) + (t : Int) < (n : Int) := by omega
                    have etI : ((k : Int) + (t : Int)).toNat = k + t := by omega
                    by_cases huv : u = v
                    · subst huv
                      go_wp2
                      go_round
                      case rel => exact ⟨t + 1, by omega, by go_num, by
                        have h1 := HT.out
                        have h2 := lead_hit d u (k + t) (by omega) HU.out
                        show _ = _
                        rw [show k + (t + 1) = k + t + 1 from rfl]
                        omega⟩
                      case measure => simp [intOf]; omega
                    · have hbuv : (u == v) = false := by simpa using huv
                      have h1 := HT.out
                      have h2 := lead_miss d v (k + t) (by omega) (by rw [HU.out]; exact huv)
                      have hLt : L = t := by omega
                      subst hLt
                      clear HT h1 h2
                      by_cases h3 : 3 ≤ L
                      · have HH : Hid (E = k + L) := by
                          rw [← HK.out, ← HL.out]; exact qend_hit d v 3 k (by omega) (by rw [HV.out]; omega) ⟨HV.out, by rw [HL.out]; exact h3⟩
                        clear HK
                        go_wp2
                        go_ret
                        refine ⟨?_, rfl⟩
                        rw [HH.out]; rfl
                      · have HS : Hid (qend d v 3 (k + L) = E) := by
                          rw [← HK.out]; have := qend_skip d v k (by omega) (by omega) HV.out (by rw [HL.out]; exact h3); rw [HL.out] at this; exact this.symm
                        clear HK
                        go_wp2
                        go_round
                        case rel => exact ⟨k + L, by omega, by go_num, HS⟩
                        case measure => simp [intOf]; omega
                  · have h1 := HT.out
                    have h2 := lead_out d v (k + t) (by omega)
                    have hLt : L = t := by omega
                    subst hLt
                    clear HT h1 h2
                    by_cases h3 : 3 ≤ L
                    · have HH : Hid (E = k + L) := by
                        rw [← HK.out, ← HL.out]; exact qend_hit d v 3 k (by omega) (by rw [HV.out]; omega) ⟨HV.out, by rw [HL.out]; exact h3⟩
                      clear HK
                      go_wp2
                      go_ret
                      refine ⟨?_, rfl⟩
                      rw [HH.out]; rfl
                    · have HS : Hid (qend d v 3 (k + L) = E) := by
                        rw [← HK.out]; have := qend_skip d v k (by omega) (by omega) HV.out (by rw [HL.out]; exact h3); rw [HL.out] at this; exact this.symm
                      clear HK
                      go_wp2
                      go_round
                      case rel => exact ⟨k + L, by omega, by go_num, HS⟩
                      case measure => simp [intOf]; omega
            · have hbvq : (v != q) = true := by simpa using hvq
              go_wp2
              go_round
              case rel => exact ⟨k + 1, by omega, by go_num, by rw [← qend_next d q m k (by omega) (by rw [HV.out]; omega) (by rw [HV.out]; omega)]; exact HK⟩
              case measure => simp [intOf]; omega
        · go_wp2
          go_ret
          refine ⟨?_, rfl⟩
          have := HK.out
          rw [qend_out d q m k (by omega)] at this
          rw [← this, hd]; rfl
end Go.Proofs.Qxb6600322aMods
