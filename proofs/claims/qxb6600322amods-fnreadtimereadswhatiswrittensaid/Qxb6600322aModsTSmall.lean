/-
  'isDigit' (25), 'isDigitByte' (16), 'twoDigitsUpTo' (24), 'sameBytes' (14) by their contracts.
-/
import Derived.Test.Qxb6600322aModsTPlain
import Derived.Deep.QuietTactic
import Derived.BigQuiet
import Derived.WalkSmall
import Derived.Deep.RegionWith
namespace Go.Proofs.Qxb6600322aMods
open Go.RowKit
set_option linter.unusedVariables false
set_option linter.unusedSimpArgs false

theorem digit_is (x : Int) (t : Bool) (h : dig x = t) (w : World) : Calls Trym.prog 25 #[.int .u8 x] w fun e w' => e = .returned (.bool t) ∧ w' = w := by
  cases t with
  | true =>
    have h' : 48 ≤ x ∧ x ≤ 57 := by simpa [dig] using h
    obtain ⟨h1, h2⟩ := h'
    clear h
    go_enter Trym.func25, Trym.ntmps25
    go_wp2
    go_ret
    exact ⟨rfl, rfl⟩
  | false =>
    have h' : ¬ (48 ≤ x ∧ x ≤ 57) := by simpa [dig] using h
    clear h
    by_cases h1 : 48 ≤ x
    · have h2 : ¬ x ≤ 57 := by omega
      clear h'
      go_enter Trym.func25, Trym.ntmps25
      go_wp2
      go_ret
      exact ⟨rfl, rfl⟩
    · clear h'
      go_enter Trym.func25, Trym.ntmps25
      go_wp2
      go_ret
      exact ⟨rfl, rfl⟩

theorem digitB_is (x : Int) (t : Bool) (h : dig x = t) (w : World) : Calls Trym.prog 16 #[.int .u8 x] w fun e w' => e = .returned (.bool t) ∧ w' = w := by
  cases t with
  | true =>
    have h' : 48 ≤ x ∧ x ≤ 57 := by simpa [dig] using h
    obtain ⟨h1, h2⟩ := h'
    clear h
    go_enter Trym.func16, Trym.ntmps16
    go_wp2
    go_ret
    exact ⟨rfl, rfl⟩
  | false =>
    have h' : ¬ (48 ≤ x ∧ x ≤ 57) := by simpa [dig] using h
    clear h
    by_cases h1 : 48 ≤ x
    · have h2 : ¬ x ≤ 57 := by omega
      clear h'
      go_enter Trym.func16, Trym.ntmps16
      go_wp2
      go_ret
      exact ⟨rfl, rfl⟩
    · clear h'
      go_enter Trym.func16, Trym.ntmps16
      go_wp2
      go_ret
      exact ⟨rfl, rfl⟩

set_option maxHeartbeats 800000 in
theorem two_no (b o c : Nat) (x y m : Int) (w : World) (hx : w.cell? ⟨b, o, none⟩ = some (.int .u8 x)) (hy : w.cell? ⟨b, o + 1, none⟩ = some (.int .u8 y)) (h1 : dig x = false) :
    Calls Trym.prog 24 #[.slice (some ⟨b, o, none⟩) 2 c, .int .i64 m] w fun e w' => e = .returned (.bool false) ∧ ∃ n, w' = w.drewN n := by
  have hd := fun W => digit_is x false h1 W
  clear h1
  go_enter Trym.func24, Trym.ntmps24
  go_wp2
  go_quiet ((go_at_call 25; exact Calls.quiet_of_same (hd _)))
  go_wp2
  go_ret
  exact ⟨rfl, _, rfl⟩

set_option maxHeartbeats 800000 in
theorem two_no2 (b o c : Nat) (x y m : Int) (w : World) (hx : w.cell? ⟨b, o, none⟩ = some (.int .u8 x)) (hy : w.cell? ⟨b, o + 1, none⟩ = some (.int .u8 y)) (h1 : dig x = true) (h2 : dig y = false) :
    Calls Trym.prog 24 #[.slice (some ⟨b, o, none⟩) 2 c, .int .i64 m] w fun e w' => e = .returned (.bool false) ∧ ∃ n, w' = w.drewN n := by
  have hd := fun W => digit_is x true h1 W
  have he := fun W => digit_is y false h2 W
  have hne : x ≠ y := fun h => by rw [h, h2] at h1; cases h1
  clear h1 h2
  go_enter Trym.func24, Trym.ntmps24
  go_wp2
  go_quiet ((first | (go_at_call_of 25 (Value.int IntKind.u8 x); exact Calls.quiet_of_same (hd _)) | (go_at_call_of 25 (Value.int IntKind.u8 y); exact Calls.quiet_of_same (he _))))
  go_wp2
  go_ret
  exact ⟨rfl, _, rfl⟩

set_option maxHeartbeats 800000 in
theorem two_yes (b o c : Nat) (x y m : Int) (t : Bool) (w : World) (hx : w.cell? ⟨b, o, none⟩ = some (.int .u8 x)) (hy : w.cell? ⟨b, o + 1, none⟩ = some (.int .u8 y)) (h1 : dig x = true) (h2 : dig y = true)
    (ht : decide ((x - 48) * 10 + (y - 48) ≤ m) = t) :
    Calls Trym.prog 24 #[.slice (some ⟨b, o, none⟩) 2 c, .int .i64 m] w fun e w' => e = .returned (.bool t) ∧ ∃ n, w' = w.drewN n := by
  have hd := fun W => digit_is x true h1 W
  have he := fun W => digit_is y true h2 W
  have b1 : 48 ≤ x ∧ x ≤ 57 := by simpa [dig] using h1
  have b2 : 48 ≤ y ∧ y ≤ 57 := by simpa [dig] using h2
  have w1 : IntKind.u8.wrap (x - 48) = x - 48 := by rw [IntKind.wrap_u8]; omega
  have w2 : IntKind.u8.wrap (y - 48) = y - 48 := by rw [IntKind.wrap_u8]; omega
  have w3 : IntKind.i64.wrap (x - 48) = x - 48 := by rw [IntKind.wrap_i64]; omega
  have w4 : IntKind.i64.wrap (y - 48) = y - 48 := by rw [IntKind.wrap_i64]; omega
  have w5 : IntKind.i64.wrap ((x - 48) * 10) = (x - 48) * 10 := by rw [IntKind.wrap_i64]; omega
  have w6 : IntKind.i64.wrap ((x - 48) * 10 + (y - 48)) = (x - 48) * 10 + (y - 48) := by rw [IntKind.wrap_i64]; omega
  clear h1 h2
  go_enter Trym.func24, Trym.ntmps24
  go_wp2
  go_quiet ((first | (go_at_call_of 25 (Value.int IntKind.u8 x); exact Calls.quiet_of_same (hd _)) | (go_at_call_of 25 (Value.int IntKind.u8 y); exact Calls.quiet_of_same (he _))))
  go_wp2
  go_ret
  refine ⟨?_, _, rfl⟩
  rfl

/-- The whole. -/
theorem two_is (b o c : Nat) (x y m : Int) (t : Bool) (w : World) (hx : w.cell? ⟨b, o, none⟩ = some (.int .u8 x)) (hy : w.cell? ⟨b, o + 1, none⟩ = some (.int .u8 y)) (ht : two x y m = t) :
    Calls Trym.prog 24 #[.slice (some ⟨b, o, none⟩) 2 c, .int .i64 m] w fun e w' => e = .returned (.bool t) ∧ ∃ n, w' = w.drewN n := by
  unfold two at ht
  cases h1 : dig x with
  | false => rw [h1] at ht; simp at ht; subst ht; exact two_no b o c x y m w hx hy h1
  | true =>
    cases h2 : dig y with
    | false => rw [h1, h2] at ht; simp at ht; subst ht; exact two_no2 b o c x y m w hx hy h1 h2
    | true => rw [h1, h2] at ht; simp only [Bool.true_and] at ht; exact two_yes b o c x y m t w hx hy h1 h2 ht
end Go.Proofs.Qxb6600322aMods
