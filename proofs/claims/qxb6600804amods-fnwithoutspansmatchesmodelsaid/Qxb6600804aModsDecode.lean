/-
  'zzmB1Cont' (34), 'zzmB1IsBreakRune' (30), 'zzmB1Decode' (29) by their contracts.
-/
import Derived.Test.Qxb6600804aModsLBreak2
import Derived.Deep.QuietTactic
import Derived.BigQuiet
import Derived.WalkSmall
import Derived.Laws.Bits
import Derived.Deep.DeepCutAuto
namespace Go.Proofs.Qxb6600804aMods
open Go.RowKit
set_option linter.unusedVariables false
set_option linter.unusedSimpArgs false

def cont (x : Int) : Bool := decide (128 ≤ x ∧ x ≤ 191)
theorem cont_is (x : Int) (t : Bool) (h : cont x = t) (w : World) : Calls Trym.prog 34 #[.int .u8 x] w fun e w' => e = .returned (.bool t) ∧ w' = w := by
  cases t with
  | true =>
    have h' : 128 ≤ x ∧ x ≤ 191 := by simpa [cont] using h
    obtain ⟨h1, h2⟩ := h'
    clear h
    go_enter Trym.func34, Trym.ntmps34
    go_wp2
    go_ret
    exact ⟨rfl, rfl⟩
  | false =>
    have h' : ¬ (128 ≤ x ∧ x ≤ 191) := by simpa [cont] using h
    clear h
    by_cases h1 : 128 ≤ x
    · have h2 : ¬ x ≤ 191 := by omega
      clear h'
      go_enter Trym.func34, Trym.ntmps34
      go_wp2
      go_ret
      exact ⟨rfl, rfl⟩
    · clear h'
      go_enter Trym.func34, Trym.ntmps34
      go_wp2
      go_ret
      exact ⟨rfl, rfl⟩

/-- The runes that break a line. -/
def isBrk (r : Int) : Bool := decide (r = 13 ∨ r = 10 ∨ r = 133 ∨ r = 8232 ∨ r = 8233)
theorem brk_is (r : Int) (t : Bool) (h : isBrk r = t) (w : World) : Calls Trym.prog 30 #[.int .i32 r] w fun e w' => e = .returned (.bool t) ∧ w' = w := by
  cases t with
  | true =>
    have h' : r = 13 ∨ r = 10 ∨ r = 133 ∨ r = 8232 ∨ r = 8233 := by simpa [isBrk] using h
    clear h
    rcases h' with rfl | rfl | rfl | rfl | rfl
    all_goals
      go_enter Trym.func30, Trym.ntmps30
      go_wp2
      go_ret
      exact ⟨rfl, rfl⟩
  | false =>
    have h' : ¬ (r = 13 ∨ r = 10 ∨ r = 133 ∨ r = 8232 ∨ r = 8233) := by simpa [isBrk] using h
    have f1 : (r == 13) = false := by simp; omega
    have f2 : (r == 10) = false := by simp; omega
    have f3 : (r == 133) = false := by simp; omega
    have f4 : (r == 8232) = false := by simp; omega
    have f5 : (r == 8233) = false := by simp; omega
    clear h h'
    go_enter Trym.func30, Trym.ntmps30
    go_wp2
    go_ret
    exact ⟨rfl, rfl⟩

theorem dec_out (a : Option Addr) (n c : Nat) (p : Int) (w : World) (h : p < 0 ∨ (n : Int) ≤ p) :
    Calls Trym.prog 29 #[.slice a n c, .int .i64 p] w fun e w' => e = .returned (.tuple #[.int .i32 (-1), .int .i64 0]) ∧ w' = w := by
  by_cases h0 : p < 0
  · go_enter Trym.func29, Trym.ntmps29
    go_wp2
    go_ret2
    exact ⟨rfl, rfl⟩
  · have h1 : (n : Int) ≤ p := by omega
    clear h
    go_enter Trym.func29, Trym.ntmps29
    go_wp2
    go_ret2
    exact ⟨rfl, rfl⟩

/-- One byte of ASCII. -/
theorem dec_one (b o n c p : Nat) (x : Int) (w : World) (hp : p < n) (hn : n ≤ 1048576) (hx : w.cell? ⟨b, o + p, none⟩ = some (.int .u8 x)) (h0 : 0 ≤ x) (h1 : x < 128) :
    Calls Trym.prog 29 #[.slice (some ⟨b, o, none⟩) n c, .int .i64 p] w fun e w' => e = .returned (.tuple #[.int .i32 x, .int .i64 1]) ∧ Below w.heap.size w w' := by
  go_enter Trym.func29, Trym.ntmps29
  go_wp2
  go_ret2
  exact ⟨rfl, Below.refl _ _⟩

/-- A byte that leads nothing. -/
theorem dec_bad (b o n c p : Nat) (x : Int) (w : World) (hp : p < n) (hn : n ≤ 1048576) (hx : w.cell? ⟨b, o + p, none⟩ = some (.int .u8 x)) (h0 : 128 ≤ x) (h1 : x < 194) :
    Calls Trym.prog 29 #[.slice (some ⟨b, o, none⟩) n c, .int .i64 p] w fun e w' => e = .returned (.tuple #[.int .i32 65533, .int .i64 1]) ∧ Below w.heap.size w w' := by
  go_enter Trym.func29, Trym.ntmps29
  go_wp2
  go_ret2
  exact ⟨rfl, Below.refl _ _⟩
theorem dec_four (b o n c p : Nat) (x : Int) (w : World) (hp : p < n) (hn : n ≤ 1048576) (hx : w.cell? ⟨b, o + p, none⟩ = some (.int .u8 x)) (h0 : 240 ≤ x) :
    Calls Trym.prog 29 #[.slice (some ⟨b, o, none⟩) n c, .int .i64 p] w fun e w' => e = .returned (.tuple #[.int .i32 65533, .int .i64 1]) ∧ Below w.heap.size w w' := by
  go_enter Trym.func29, Trym.ntmps29
  go_wp2
  go_ret2
  exact ⟨rfl, Below.refl _ _⟩

set_option maxHeartbeats 800000 in
theorem dec_two (b o n c p : Nat) (x y : Int) (w : World) (hp : p + 1 < n) (hn : n ≤ 1048576) (hx : w.cell? ⟨b, o + p, none⟩ = some (.int .u8 x)) (hy : w.cell? ⟨b, o + (p + 1), none⟩ = some (.int .u8 y))
    (h1 : 194 ≤ x) (h2 : x < 224) (hc : cont y = true) :
    Calls Trym.prog 29 #[.slice (some ⟨b, o, none⟩) n c, .int .i64 p] w fun e w' => e = .returned (.tuple #[.int .i32 (x % 32 * 64 + y % 64), .int .i64 2]) ∧ Below w.heap.size w w' := by
  have hcy := fun W => cont_is y true hc W
  have hy2 : 128 ≤ y ∧ y ≤ 191 := by simpa [cont] using hc
  have hpI : (p : Int) + 1 < (n : Int) := by omega
  clear hc
  go_enter Trym.func29, Trym.ntmps29
  go_wp2_with (go_at_call 34; refine (hcy _).mono ?_; rintro e wz ⟨rfl, hwz⟩; have hwz' := hwz.symm; subst hwz'; clear hwz)
  go_ret2
  exact ⟨rfl, Below.refl _ _⟩

set_option maxHeartbeats 800000 in
theorem dec_two_no (b o n c p : Nat) (x y : Int) (w : World) (hp : p + 1 < n) (hn : n ≤ 1048576) (hx : w.cell? ⟨b, o + p, none⟩ = some (.int .u8 x)) (hy : w.cell? ⟨b, o + (p + 1), none⟩ = some (.int .u8 y))
    (h1 : 194 ≤ x) (h2 : x < 224) (hc : cont y = false) :
    Calls Trym.prog 29 #[.slice (some ⟨b, o, none⟩) n c, .int .i64 p] w fun e w' => e = .returned (.tuple #[.int .i32 65533, .int .i64 1]) ∧ Below w.heap.size w w' := by
  have hcy := fun W => cont_is y false hc W
  have hpI : (p : Int) + 1 < (n : Int) := by omega
  clear hc
  go_enter Trym.func29, Trym.ntmps29
  go_wp2_with (go_at_call 34; refine (hcy _).mono ?_; rintro e wz ⟨rfl, hwz⟩; have hwz' := hwz.symm; subst hwz'; clear hwz)
  go_ret2
  exact ⟨rfl, Below.refl _ _⟩
theorem dec_two_end (b o n c p : Nat) (x : Int) (w : World) (hp : p < n) (hp1 : ¬ p + 1 < n) (hn : n ≤ 1048576) (hx : w.cell? ⟨b, o + p, none⟩ = some (.int .u8 x)) 
    (h1 : 194 ≤ x) (h2 : x < 224) :
    Calls Trym.prog 29 #[.slice (some ⟨b, o, none⟩) n c, .int .i64 p] w fun e w' => e = .returned (.tuple #[.int .i32 65533, .int .i64 1]) ∧ Below w.heap.size w w' := by
  have hpI : ¬ (p : Int) + 1 < (n : Int) := by omega
  go_enter Trym.func29, Trym.ntmps29
  go_wp2
  go_ret2
  exact ⟨rfl, Below.refl _ _⟩

/-- What a second byte must be behind a lead of three. -/
def sec (x y : Int) : Bool := decide ((if x = 224 then 160 else 128) ≤ y ∧ y ≤ (if x = 237 then 159 else 191))

set_option maxHeartbeats 800000 in
theorem dec_three (b o n c p : Nat) (x y z : Int) (w : World) (hp : p + 2 < n) (hn : n ≤ 1048576) (hx : w.cell? ⟨b, o + p, none⟩ = some (.int .u8 x)) (hy : w.cell? ⟨b, o + (p + 1), none⟩ = some (.int .u8 y)) (hz : w.cell? ⟨b, o + (p + 2), none⟩ = some (.int .u8 z))
    (h1 : 224 ≤ x) (h2 : x < 240) (hs : sec x y = true) (hc : cont z = true) :
    Calls Trym.prog 29 #[.slice (some ⟨b, o, none⟩) n c, .int .i64 p] w fun e w' => e = .returned (.tuple #[.int .i32 (x % 16 * 4096 + y % 64 * 64 + z % 64), .int .i64 3]) ∧ Below w.heap.size w w' := by
  have hcy := fun W => cont_is z true hc W
  have hz2 : 128 ≤ z ∧ z ≤ 191 := by simpa [cont] using hc
  have hs2 : (if x = 224 then 160 else 128) ≤ y ∧ y ≤ (if x = 237 then 159 else 191) := by simpa [sec] using hs
  clear hc
  have hpI : (p : Int) + 2 < (n : Int) := by omega
  by_cases e1 : x = 224
  · subst e1
    have hlo : 160 ≤ y := by have := hs2.1; simp at this; omega
    have hhi : y ≤ 191 := by have := hs2.2; simp at this; omega
    clear hs2 hs
    go_enter Trym.func29, Trym.ntmps29
    go_wp2_with (go_at_call 34; refine (hcy _).mono ?_; rintro e wz ⟨rfl, hwz⟩; have hwz' := hwz.symm; subst hwz'; clear hwz)
    go_quiet (fail)
    go_wp2
    go_ret2
    refine ⟨?_, below_drewN (Below.refl _ _) _⟩
    rw [show (224 % 16 * 4096 + y % 64 * 64 + z % 64 : Int) = y % 64 * 64 + z % 64 by omega]
    rfl
  · have f1 : (x == 224) = false := by simpa using e1
    by_cases e2 : x = 237
    · subst e2
      have hlo : 128 ≤ y := by have := hs2.1; simp at this; omega
      have hhi : y ≤ 159 := by have := hs2.2; simp at this; omega
      clear hs2 hs
      go_enter Trym.func29, Trym.ntmps29
      go_wp2_with (go_at_call 34; refine (hcy _).mono ?_; rintro e wz ⟨rfl, hwz⟩; have hwz' := hwz.symm; subst hwz'; clear hwz)
      go_quiet (fail)
      go_wp2
      go_ret2
      refine ⟨?_, below_drewN (Below.refl _ _) _⟩
      first | rfl | (rw [show (237 % 16 * 4096 + y % 64 * 64 + z % 64 : Int) = 53248 + y % 64 * 64 + z % 64 by omega]; rfl) | (rw [show (237 % 16 * 4096 + y % 64 * 64 + z % 64 : Int) = 53248 + (y % 64 * 64 + z % 64) by omega]; rfl)
    · have f2 : (x == 237) = false := by simpa using e2
      have hlo : 128 ≤ y := by have := hs2.1; rw [if_neg e1] at this; exact this
      have hhi : y ≤ 191 := by have := hs2.2; rw [if_neg e2] at this; exact this
      clear hs2 hs
      go_enter Trym.func29, Trym.ntmps29
      go_wp2_with (go_at_call 34; refine (hcy _).mono ?_; rintro e wz ⟨rfl, hwz⟩; have hwz' := hwz.symm; subst hwz'; clear hwz)
      go_quiet (fail)
      go_wp2
      go_ret2
      refine ⟨?_, below_drewN (Below.refl _ _) _⟩
      rfl

set_option maxHeartbeats 800000 in
theorem dec_three_c (b o n c p : Nat) (x y z : Int) (w : World) (hp : p + 2 < n) (hn : n ≤ 1048576) (hx : w.cell? ⟨b, o + p, none⟩ = some (.int .u8 x)) (hy : w.cell? ⟨b, o + (p + 1), none⟩ = some (.int .u8 y)) (hz : w.cell? ⟨b, o + (p + 2), none⟩ = some (.int .u8 z))
    (h1 : 224 ≤ x) (h2 : x < 240) (hs : sec x y = true) (hc : cont z = false) :
    Calls Trym.prog 29 #[.slice (some ⟨b, o, none⟩) n c, .int .i64 p] w fun e w' => e = .returned (.tuple #[.int .i32 65533, .int .i64 1]) ∧ Below w.heap.size w w' := by
  have hcy := fun W => cont_is z false hc W
  have hs2 : (if x = 224 then 160 else 128) ≤ y ∧ y ≤ (if x = 237 then 159 else 191) := by simpa [sec] using hs
  clear hc
  have hpI : (p : Int) + 2 < (n : Int) := by omega
  by_cases e1 : x = 224
  · subst e1
    have hlo : 160 ≤ y := by have := hs2.1; simp at this; omega
    have hhi : y ≤ 191 := by have := hs2.2; simp at this; omega
    clear hs2 hs
    go_enter Trym.func29, Trym.ntmps29
    go_wp2_with (go_at_call 34; refine (hcy _).mono ?_; rintro e wz ⟨rfl, hwz⟩; have hwz' := hwz.symm; subst hwz'; clear hwz)
    go_ret2
    exact ⟨rfl, Below.refl _ _⟩
  · have f1 : (x == 224) = false := by simpa using e1
    by_cases e2 : x = 237
    · subst e2
      have hlo : 128 ≤ y := by have := hs2.1; simp at this; omega
      have hhi : y ≤ 159 := by have := hs2.2; simp at this; omega
      clear hs2 hs
      go_enter Trym.func29, Trym.ntmps29
      go_wp2_with (go_at_call 34; refine (hcy _).mono ?_; rintro e wz ⟨rfl, hwz⟩; have hwz' := hwz.symm; subst hwz'; clear hwz)
      go_ret2
      exact ⟨rfl, Below.refl _ _⟩
    · have f2 : (x == 237) = false := by simpa using e2
      have hlo : 128 ≤ y := by have := hs2.1; rw [if_neg e1] at this; exact this
      have hhi : y ≤ 191 := by have := hs2.2; rw [if_neg e2] at this; exact this
      clear hs2 hs
      go_enter Trym.func29, Trym.ntmps29
      go_wp2_with (go_at_call 34; refine (hcy _).mono ?_; rintro e wz ⟨rfl, hwz⟩; have hwz' := hwz.symm; subst hwz'; clear hwz)
      go_ret2
      exact ⟨rfl, Below.refl _ _⟩

set_option maxHeartbeats 800000 in
theorem dec_three_s (b o n c p : Nat) (x y z : Int) (w : World) (hp : p + 2 < n) (hn : n ≤ 1048576) (hx : w.cell? ⟨b, o + p, none⟩ = some (.int .u8 x)) (hy : w.cell? ⟨b, o + (p + 1), none⟩ = some (.int .u8 y)) (hz : w.cell? ⟨b, o + (p + 2), none⟩ = some (.int .u8 z))
    (h1 : 224 ≤ x) (h2 : x < 240) (hs : sec x y = false) :
    Calls Trym.prog 29 #[.slice (some ⟨b, o, none⟩) n c, .int .i64 p] w fun e w' => e = .returned (.tuple #[.int .i32 65533, .int .i64 1]) ∧ Below w.heap.size w w' := by
  have hpI : (p : Int) + 2 < (n : Int) := by omega
  by_cases e1 : x = 224
  · subst e1
    by_cases hlo : 160 ≤ y
    · have hhi : ¬ y ≤ 191 := by
        intro h
        have : sec 224 y = true := by simp [sec, hlo, h]
        rw [hs] at this; cases this
      clear hs
      go_enter Trym.func29, Trym.ntmps29
      go_wp2
      go_ret2
      exact ⟨rfl, Below.refl _ _⟩
    · clear hs
      go_enter Trym.func29, Trym.ntmps29
      go_wp2
      go_ret2
      exact ⟨rfl, Below.refl _ _⟩
  · have f1 : (x == 224) = false := by simpa using e1
    by_cases e2 : x = 237
    · subst e2
      by_cases hlo : 128 ≤ y
      · have hhi : ¬ y ≤ 159 := by
          intro h
          have : sec 237 y = true := by simp [sec, hlo, h]
          rw [hs] at this; cases this
        clear hs
        go_enter Trym.func29, Trym.ntmps29
        go_wp2
        go_ret2
        exact ⟨rfl, Below.refl _ _⟩
      · clear hs
        go_enter Trym.func29, Trym.ntmps29
        go_wp2
        go_ret2
        exact ⟨rfl, Below.refl _ _⟩
    · have f2 : (x == 237) = false := by simpa using e2
      by_cases hlo : 128 ≤ y
      · have hhi : ¬ y ≤ 191 := by
          intro h
          have : sec x y = true := by simp [sec, e1, e2, hlo, h]
          rw [hs] at this; cases this
        clear hs
        go_enter Trym.func29, Trym.ntmps29
        go_wp2
        go_ret2
        exact ⟨rfl, Below.refl _ _⟩
      · clear hs
        go_enter Trym.func29, Trym.ntmps29
        go_wp2
        go_ret2
        exact ⟨rfl, Below.refl _ _⟩

set_option maxHeartbeats 800000 in
theorem dec_three_e (b o n c p : Nat) (x : Int) (w : World) (hp : p < n) (hp2 : ¬ p + 2 < n) (hn : n ≤ 1048576) (hx : w.cell? ⟨b, o + p, none⟩ = some (.int .u8 x)) (h1 : 224 ≤ x) (h2 : x < 240) :
    Calls Trym.prog 29 #[.slice (some ⟨b, o, none⟩) n c, .int .i64 p] w fun e w' => e = .returned (.tuple #[.int .i32 65533, .int .i64 1]) ∧ Below w.heap.size w w' := by
  have hpI : ¬ (p : Int) + 2 < (n : Int) := by omega
  by_cases e1 : x = 224
  · subst e1
    go_enter Trym.func29, Trym.ntmps29
    go_wp2
    go_ret2
    exact ⟨rfl, Below.refl _ _⟩
  · have f1 : (x == 224) = false := by simpa using e1
    by_cases e2 : x = 237
    · subst e2
      go_enter Trym.func29, Trym.ntmps29
      go_wp2
      go_ret2
      exact ⟨rfl, Below.refl _ _⟩
    · have f2 : (x == 237) = false := by simpa using e2
      go_enter Trym.func29, Trym.ntmps29
      go_wp2
      go_ret2
      exact ⟨rfl, Below.refl _ _⟩

end Go.Proofs.Qxb6600804aMods
