/-
  'zzmB1SpansValid' (17) by its contract.
-/
import Derived.Test.Qxb6600804aModsInts
namespace Go.Proofs.Qxb6600804aMods
open Go.RowKit
set_option linter.unusedVariables false
set_option linter.unusedSimpArgs false

/-- Where the text goes on behind the first k spans. -/
def frI (E : List Int) : Nat → Int
  | 0 => 0
  | k + 1 => nth E k
/-- The first k spans are in order, without overlap, inside the text. -/
def Val (n : Nat) (S E : List Int) (k : Nat) : Prop := ∀ j, j < k → frI E j ≤ nth S j ∧ nth S j ≤ nth E j ∧ nth E j ≤ (n : Int)

theorem val_ne (a0 a1 a2 : Option Addr) (n c0 q1 c1 q2 c2 : Nat) (w : World) (h : q1 ≠ q2) :
    Calls Trym.prog 17 #[.slice a0 n c0, .slice a1 q1 c1, .slice a2 q2 c2] w fun e w' => e = .returned (.bool false) ∧ w' = w := by
  have h' : ((q1 : Int) != (q2 : Int)) = true := by simp; omega
  go_enter Trym.func17, Trym.ntmps17
  go_wp2
  go_ret
  exact ⟨rfl, rfl⟩

set_option maxHeartbeats 800000 in
theorem val_eq (a0 a1 a2 : Option Addr) (n c0 q c1 c2 : Nat) (S E : List Int) (w : World) (hn : n ≤ 1048576) (hq : q ≤ 1048576) (h1 : VwI w a1 q S) (h2 : VwI w a2 q E) :
    Calls Trym.prog 17 #[.slice a0 n c0, .slice a1 q c1, .slice a2 q c2] w fun e w' => (∃ t, e = .returned (.bool t) ∧ (t = true → Val n S E q)) ∧ Below w.heap.size w w' := by
  go_enter Trym.func17, Trym.ntmps17
  go_wp2
  go_loopw [7, 8] (fun v7 v8 wr => ∃ k : Nat, k ≤ q ∧ v8 = .int .i64 k ∧ v7 = .int .i64 (frI E k) ∧ Hid (Val n S E k) ∧ Below w.heap.size w wr) (fun _ v8 _ => q - (intOf v8).toNat)
  case atStart => exact ⟨0, Nat.zero_le _, rfl, rfl, fun j hj => absurd hj (Nat.not_lt_zero _), Below.refl _ _⟩
  case round =>
    obtain ⟨k, hk, rfl, rfl, HV, hb⟩ := hrel
    by_cases hkq : k < q
    · obtain ⟨b1, o1, e1, k1⟩ := (h1.below hb).2.2 (by omega)
      obtain ⟨b2, o2, e2, k2⟩ := (h2.below hb).2.2 (by omega)
      subst e1
      subst e2
      have g1 := k1.2 k (by rw [h1.1]; omega)
      have g2 := k2.2 k (by rw [h2.1]; omega)
      have HS : Hid (frI E k ≤ nth S k → nth S k ≤ nth E k → nth E k ≤ (n : Int) → Val n S E (k + 1)) := fun c1 c2 c3 j hj => by
        by_cases e : j = k
        · rw [e]; exact ⟨c1, c2, c3⟩
        · exact HV.out j (by omega)
      have HN : Hid (frI E (k + 1) = nth E k) := rfl
      clear HV k1 k2
      obtain ⟨s, hs⟩ : ∃ s, nth S k = s := ⟨_, rfl⟩
      obtain ⟨e, he⟩ : ∃ e, nth E k = e := ⟨_, rfl⟩
      obtain ⟨p, hp⟩ : ∃ p, frI E k = p := ⟨_, rfl⟩
      rw [hs] at g1 HS
      rw [he] at g2 HS HN
      rw [hp] at HS ⊢
      clear hs he hp
      have hkI : (k : Int) < (q : Int) := by omega
      by_cases c1 : s < p
      · have d1 : decide (s < p) = true := decide_eq_true c1
        go_wp2
        go_quiet (fail)
        go_wp2
        go_ret
        exact ⟨⟨false, rfl, fun h => by cases h⟩, below_drewN hb _⟩
      · have d1 : decide (s < p) = false := decide_eq_false c1
        by_cases c2 : e < s
        · have d2 : decide (e < s) = true := decide_eq_true c2
          go_wp2
          go_quiet (fail)
          go_wp2
          go_ret
          exact ⟨⟨false, rfl, fun h => by cases h⟩, below_drewN hb _⟩
        · have d2 : decide (e < s) = false := decide_eq_false c2
          by_cases c3 : (n : Int) < e
          · have d3 : decide ((n : Int) < e) = true := decide_eq_true c3
            go_wp2
            go_quiet (fail)
            go_wp2
            go_ret
            exact ⟨⟨false, rfl, fun h => by cases h⟩, below_drewN hb _⟩
          · have d3 : decide ((n : Int) < e) = false := decide_eq_false c3
            have HV' : Hid (Val n S E (k + 1)) := HS.out (by omega) (by omega) (by omega)
            clear HS
            go_wp2
            go_quiet (fail)
            go_wp2
            go_roundw
            case rel => exact ⟨k + 1, by omega, by go_num, by rw [HN.out], HV', below_drewN hb _⟩
            case measure => simp [intOf]; omega
    · have hkq' : q = k := by omega
      subst hkq'
      go_wp2
      go_ret
      exact ⟨⟨true, rfl, fun _ => HV.out⟩, hb⟩
end Go.Proofs.Qxb6600804aMods
