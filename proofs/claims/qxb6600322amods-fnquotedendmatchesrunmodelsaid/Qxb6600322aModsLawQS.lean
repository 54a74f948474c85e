/-
  The walk of 'FnQuotedEndStaysInsideAndClosesOnItsQuote' (7).
-/
import Derived.Test.Qxb6600322aModsQStays
namespace Go.Proofs.Qxb6600322aMods
open Go.RowKit
set_option linter.unusedVariables false
set_option linter.unusedSimpArgs false

/-- 'ZZquotedEnd' hands on. -/
theorem zzquoted_any (b o n c i : Nat) (d : List Int) (w : World) (hd : d.length = n) (hnc : n ≤ c) (hn : n ≤ 1048576) (hi : i < n) (hby : Byt d) (hat : At w b o d) (hq : nth d i = 34 ∨ nth d i = 39) :
    Calls Trym.prog 18 #[.slice (some ⟨b, o, none⟩) n c, .int .i64 i] w fun e w' => e = .returned (.int .i64 (qEnd d i)) ∧ Below w.heap.size w w' := by
  have hcon := quoted_any b o n c i d w hd hnc hn hi hby hat hq
  generalize qEnd d i = E at hcon ⊢
  clear hat hby hq
  go_enter Trym.func18, Trym.ntmps18
  go_wp2_with (go_at_call 23; refine hcon.mono ?_; rintro e w' ⟨rfl, hb⟩)
  go_ret
  exact ⟨rfl, hb⟩

theorem law7_long (a0 : Option Addr) (len cap : Nat) (i : Int) (w : World) (h : ¬ len ≤ 1048576) :
    Calls Trym.prog 7 #[.slice a0 len cap, .int .i64 i] w fun e w' => e = .returned (.bool true) ∧ Below w.heap.size w w' := by
  have hlI : ¬ (len : Int) ≤ 1048576 := by omega
  go_enter Trym.func7, Trym.ntmps7
  go_wp2
  go_ret
  exact ⟨rfl, Below.refl _ _⟩

theorem law7_nil (i : Int) (w : World) :
    Calls Trym.prog 7 #[.slice none 0 0, .int .i64 i] w fun e w' => e = .returned (.bool true) ∧ Below w.heap.size w w' := by
  go_enter Trym.func7, Trym.ntmps7
  go_wp2_with (first | (go_at_call 11; refine (clone_nil _).mono ?_; rintro e w' ⟨rfl, rfl⟩) | (go_at_call 20; go_in))
  all_goals (go_ret; exact ⟨rfl, Below.refl _ _⟩)

/-- An offset outside. -/
theorem law7_out (x : Addr) (len cap : Nat) (zs : List Int) (i : Int) (w : World) (hlen : len ≤ 1048576) (hz : zs.length = len)
    (hc : ∀ i, i < len → w.cell? (x.add i) = some (.int .u8 (nth zs i))) (hi : i < 0 ∨ (len : Int) ≤ i) :
    Calls Trym.prog 7 #[.slice (some x) len cap, .int .i64 i] w fun e w' => e = .returned (.bool true) ∧ Below w.heap.size w w' := by
  have hcl := clone_some x len cap zs w hlen hz hc
  clear hc
  go_enter Trym.func7, Trym.ntmps7
  go_wp2_with (first | (go_at_call 11; refine hcl.mono ?_; rintro e w' ⟨rfl, hb, hat⟩) | (go_at_call 20; go_in))
  all_goals (go_ret; exact ⟨rfl, by assumption⟩)

/-- No quote there. -/
theorem law7_none (x : Addr) (len cap : Nat) (zs : List Int) (i : Nat) (w : World) (hlen : len ≤ 1048576) (hz : zs.length = len)
    (hc : ∀ i, i < len → w.cell? (x.add i) = some (.int .u8 (nth zs i))) (hi : i < len) (hq : ¬ (nth zs i = 34 ∨ nth zs i = 39)) :
    Calls Trym.prog 7 #[.slice (some x) len cap, .int .i64 i] w fun e w' => e = .returned (.bool true) ∧ Below w.heap.size w w' := by
  have hcl := clone_some x len cap zs w hlen hz hc
  clear hc
  obtain ⟨q, hqe⟩ : ∃ q, nth zs i = q := ⟨_, rfl⟩
  rw [hqe] at hq
  have HQ : Hid (nth zs i = q) := hqe
  clear hqe
  have h34 : (q != 34) = true := by simp; omega
  have h39 : (q != 39) = true := by simp; omega
  clear hq
  go_enter Trym.func7, Trym.ntmps7
  go_wp2_with (first | (go_at_call 11; refine hcl.mono ?_; rintro e w' ⟨rfl, hb, hat⟩; have hci := hat.2 i (by omega); rw [HQ.out, Nat.zero_add] at hci; clear hat) | (go_at_call 20; go_in))
  all_goals (go_ret; exact ⟨rfl, by assumption⟩)

theorem bt {w w1 w2 : World} (h1 : Below w.heap.size w w1) (h2 : Below w1.heap.size w1 w2) : Below w.heap.size w w2 := h1.trans (h2.mono h1.size)

/-- A quote, the string not closed. -/
theorem law7_open (x : Addr) (len cap : Nat) (zs : List Int) (i : Nat) (q : Int) (w : World) (hlen : len ≤ 1048576) (hi : i < len) (hz : zs.length = len) (hq : q = 34 ∨ q = 39) (HQ : Hid (nth zs i = q))
    (hcl : Calls Trym.prog 11 #[.slice (some x) len cap] w fun e w' => e = .returned (.slice (some ⟨w.heap.size, 0, none⟩) len len) ∧ Below w.heap.size w w' ∧ At w' w.heap.size 0 zs)
    (hcall : ∀ W : World, At W w.heap.size 0 zs → Calls Trym.prog 18 #[.slice (some ⟨w.heap.size, 0, none⟩) len len, .int .i64 i] W fun e w' => e = .returned (.int .i64 len) ∧ Below W.heap.size W w') :
    Calls Trym.prog 7 #[.slice (some x) len cap, .int .i64 i] w fun e w' => e = .returned (.bool true) ∧ Below w.heap.size w w' := by
  rcases hq with rfl | rfl
  all_goals
    go_enter Trym.func7, Trym.ntmps7
    go_wp2_with (first | (go_at_call 11; refine hcl.mono ?_; rintro e w1 ⟨rfl, hb, hat⟩; have hci := hat.2 i (by omega); rw [HQ.out, Nat.zero_add] at hci) | (go_at_call 18; refine (hcall _ (by assumption)).mono ?_; rintro e w2 ⟨rfl, hb2⟩; have hbb := bt (by assumption) hb2) | (go_at_call 20; go_in))
    go_ret
    exact ⟨rfl, by assumption⟩

set_option maxHeartbeats 800000 in
/-- A quote, one opens the string, it is closed. -/
theorem law7_single (x : Addr) (len cap : Nat) (zs : List Int) (i E : Nat) (q : Int) (w : World) (hlen : len ≤ 1048576) (hi : i < len) (hz : zs.length = len) (hq : q = 34 ∨ q = 39) (HQ : Hid (nth zs i = q))
    (hcl : Calls Trym.prog 11 #[.slice (some x) len cap] w fun e w' => e = .returned (.slice (some ⟨w.heap.size, 0, none⟩) len len) ∧ Below w.heap.size w w' ∧ At w' w.heap.size 0 zs)
    (hcall : ∀ W : World, At W w.heap.size 0 zs → Calls Trym.prog 18 #[.slice (some ⟨w.heap.size, 0, none⟩) len len, .int .i64 i] W fun e w' => e = .returned (.int .i64 E) ∧ Below W.heap.size W w')
    (hE : E < len) (hE2 : i + 2 ≤ E) (HE : Hid (nth zs (E - 1) = q)) (hno : ¬ (i + 2 < len ∧ nth zs (i + 1) = q ∧ nth zs (i + 2) = q)) :
    Calls Trym.prog 7 #[.slice (some x) len cap, .int .i64 i] w fun e w' => e = .returned (.bool true) ∧ Below w.heap.size w w' := by
  have h1 : i + 2 < len := by omega
  have eE : ((E : Int) - 1).toNat = E - 1 := by omega
  obtain ⟨u1, hu1⟩ : ∃ u, nth zs (i + 1) = u := ⟨_, rfl⟩
  obtain ⟨u2, hu2⟩ : ∃ u, nth zs (i + 2) = u := ⟨_, rfl⟩
  rw [hu1, hu2] at hno
  have HU1 : Hid (nth zs (i + 1) = u1) := hu1
  have HU2 : Hid (nth zs (i + 2) = u2) := hu2
  clear hu1 hu2
  by_cases hb1 : u1 = q
  · subst hb1
    have hb2 : (u2 == u1) = false := by simp; intro h; exact hno ⟨h1, rfl, h⟩
    rcases hq with rfl | rfl
    all_goals
      go_enter Trym.func7, Trym.ntmps7
      go_wp2_with (first | (go_at_call 11; refine hcl.mono ?_; rintro e w1 ⟨rfl, hb, hat⟩; have hci := hat.2 i (by omega); rw [HQ.out, Nat.zero_add] at hci) | (go_at_call 18; refine (hcall _ (by assumption)).mono ?_; rintro e w2 ⟨rfl, hb2⟩; have hbb := bt (by assumption) hb2; have hat2 := At.below (by assumption) hb2; have c1 := hat2.2 (i + 1) (by omega); have c2 := hat2.2 (i + 2) (by omega); have c3 := hat2.2 (E - 1) (by omega); rw [HU1.out, Nat.zero_add] at c1; rw [HU2.out, Nat.zero_add] at c2; rw [HE.out, Nat.zero_add] at c3) | (go_at_call 20; go_in))
      go_ret
      exact ⟨rfl, by assumption⟩
  · have hb1' : (u1 == q) = false := by simpa using hb1
    rcases hq with rfl | rfl
    all_goals
      go_enter Trym.func7, Trym.ntmps7
      go_wp2_with (first | (go_at_call 11; refine hcl.mono ?_; rintro e w1 ⟨rfl, hb, hat⟩; have hci := hat.2 i (by omega); rw [HQ.out, Nat.zero_add] at hci) | (go_at_call 18; refine (hcall _ (by assumption)).mono ?_; rintro e w2 ⟨rfl, hb2⟩; have hbb := bt (by assumption) hb2; have hat2 := At.below (by assumption) hb2; have c1 := hat2.2 (i + 1) (by omega); have c3 := hat2.2 (E - 1) (by omega); rw [HU1.out, Nat.zero_add] at c1; rw [HE.out, Nat.zero_add] at c3) | (go_at_call 20; go_in))
      go_ret
      exact ⟨rfl, by assumption⟩
end Go.Proofs.Qxb6600322aMods
