/-
  The walk of 'FnQuotedEndMatchesRunModel' (6).
-/
import Derived.Test.Qxb6600322aModsLawQT
import Derived.Test.Qxb6600322aModsQRun
namespace Go.Proofs.Qxb6600322aMods
open Go.RowKit
set_option linter.unusedVariables false
set_option linter.unusedSimpArgs false

theorem law6_long (a0 : Option Addr) (len cap : Nat) (i : Int) (w : World) (h : ¬ len ≤ 1048576) :
    Calls Trym.prog 6 #[.slice a0 len cap, .int .i64 i] w fun e w' => e = .returned (.bool true) ∧ Below w.heap.size w w' := by
  have hlI : ¬ (len : Int) ≤ 1048576 := by omega
  go_enter Trym.func6, Trym.ntmps6
  go_wp2
  go_ret
  exact ⟨rfl, Below.refl _ _⟩

theorem law6_nil (i : Int) (w : World) :
    Calls Trym.prog 6 #[.slice none 0 0, .int .i64 i] w fun e w' => e = .returned (.bool true) ∧ Below w.heap.size w w' := by
  go_enter Trym.func6, Trym.ntmps6
  go_wp2_with (first | (go_at_call 11; refine (clone_nil _).mono ?_; rintro e w' ⟨rfl, rfl⟩) | (go_at_call 17; go_in))
  all_goals (go_ret; exact ⟨rfl, Below.refl _ _⟩)

/-- An offset outside. -/
theorem law6_out (x : Addr) (len cap : Nat) (zs : List Int) (i : Int) (w : World) (hlen : len ≤ 1048576) (hz : zs.length = len)
    (hc : ∀ i, i < len → w.cell? (x.add i) = some (.int .u8 (nth zs i))) (hi : i < 0 ∨ (len : Int) ≤ i) :
    Calls Trym.prog 6 #[.slice (some x) len cap, .int .i64 i] w fun e w' => e = .returned (.bool true) ∧ Below w.heap.size w w' := by
  have hcl := clone_some x len cap zs w hlen hz hc
  clear hc
  go_enter Trym.func6, Trym.ntmps6
  go_wp2_with (first | (go_at_call 11; refine hcl.mono ?_; rintro e w' ⟨rfl, hb, hat⟩) | (go_at_call 17; go_in))
  all_goals (go_ret; exact ⟨rfl, by assumption⟩)

/-- No quote there. -/
theorem law6_none (x : Addr) (len cap : Nat) (zs : List Int) (i : Nat) (w : World) (hlen : len ≤ 1048576) (hz : zs.length = len)
    (hc : ∀ i, i < len → w.cell? (x.add i) = some (.int .u8 (nth zs i))) (hi : i < len) (hq : ¬ (nth zs i = 34 ∨ nth zs i = 39)) :
    Calls Trym.prog 6 #[.slice (some x) len cap, .int .i64 i] w fun e w' => e = .returned (.bool true) ∧ Below w.heap.size w w' := by
  have hcl := clone_some x len cap zs w hlen hz hc
  clear hc
  obtain ⟨q, hqe⟩ : ∃ q, nth zs i = q := ⟨_, rfl⟩
  rw [hqe] at hq
  have HQ : Hid (nth zs i = q) := hqe
  clear hqe
  have h34 : (q != 34) = true := by simp; omega
  have h39 : (q != 39) = true := by simp; omega
  clear hq
  go_enter Trym.func6, Trym.ntmps6
  go_wp2_with (first | (go_at_call 11; refine hcl.mono ?_; rintro e w' ⟨rfl, hb, hat⟩; have hci := hat.2 i (by omega); rw [HQ.out, Nat.zero_add] at hci; clear hat) | (go_at_call 17; go_in))
  all_goals (go_ret; exact ⟨rfl, by assumption⟩)

set_option maxHeartbeats 800000 in
theorem law6_core (x : Addr) (len cap : Nat) (zs : List Int) (i E : Nat) (q : Int) (w : World) (hlen : len ≤ 1048576) (hi : i < len) (hz : zs.length = len) (hq : q = 34 ∨ q = 39) (HQ : Hid (nth zs i = q))
    (hcl : Calls Trym.prog 11 #[.slice (some x) len cap] w fun e w' => e = .returned (.slice (some ⟨w.heap.size, 0, none⟩) len len) ∧ Below w.heap.size w w' ∧ At w' w.heap.size 0 zs)
    (hcall : ∀ W : World, At W w.heap.size 0 zs → Calls Trym.prog 18 #[.slice (some ⟨w.heap.size, 0, none⟩) len len, .int .i64 i] W fun e w' => e = .returned (.int .i64 E) ∧ Below W.heap.size W w')
    (hrun : ∀ W : World, At W w.heap.size 0 zs → Calls Trym.prog 19 #[.slice (some ⟨w.heap.size, 0, none⟩) len len, .int .i64 i] W fun e w' => e = .returned (.int .i64 E) ∧ w' = W) :
    Calls Trym.prog 6 #[.slice (some x) len cap, .int .i64 i] w fun e w' => e = .returned (.bool true) ∧ Below w.heap.size w w' := by
  rcases hq with rfl | rfl
  all_goals
    go_enter Trym.func6, Trym.ntmps6
    go_wp2_with (first | (go_at_call 11; refine hcl.mono ?_; rintro e w1 ⟨rfl, hb, hat⟩; have hci := hat.2 i (by omega); rw [HQ.out, Nat.zero_add] at hci) | (go_at_call 18; refine (hcall _ (by assumption)).mono ?_; rintro e w2 ⟨rfl, hb2⟩; have hbb := bt (by assumption) hb2; have hat2 := At.below (by assumption) hb2) | (go_at_call 19; refine (hrun _ (by assumption)).mono ?_; rintro e w3 ⟨rfl, rfl⟩) | (go_at_call 17; go_in))
    go_ret
    exact ⟨rfl, by assumption⟩

/-- Every input. -/
theorem law6_all (x : Addr) (len cap : Nat) (zs : List Int) (i : Int) (w : World) (hl : len ≤ cap) (hz : zs.length = cap)
    (hcell : ∀ i, i < zs.length → w.cell? (x.add i) = some (.int .u8 (zs.getD i 0))) (hwf : ∀ n ∈ zs, (Lit.int .u8 n).wf = true) :
    Calls Trym.prog 6 #[.slice (some x) len cap, .int .i64 i] w fun e w' => e = .returned (.bool true) ∧ Below w.heap.size w w' := by
  by_cases hlen : len ≤ 1048576
  · have hzl : (zs.take len).length = len := by simp; omega
    have hc : ∀ i, i < len → w.cell? (x.add i) = some (.int .u8 (nth (zs.take len) i)) := fun i hi => by
      rw [nth_take _ _ _ hi]; exact hcell i (by omega)
    by_cases ho : i < 0 ∨ (len : Int) ≤ i
    · exact law6_out x len cap (zs.take len) i w hlen hzl hc ho
    · obtain ⟨k, rfl⟩ : ∃ k : Nat, i = k := ⟨i.toNat, by omega⟩
      by_cases hq : nth (zs.take len) k = 34 ∨ nth (zs.take len) k = 39
      · exact law6_core x len cap (zs.take len) k (qEnd (zs.take len) k) _ w hlen (by omega) hzl hq rfl (clone_some x len cap _ w hlen hzl hc)
          (fun W hat => zzquoted_any w.heap.size 0 len len k _ W hzl (Nat.le_refl _) hlen (by omega) (byt_of_wf hwf len) hat hq)
          (fun W hat => run_any w.heap.size 0 len len k _ W hzl (Nat.le_refl _) hlen (by omega) hat hq)
      · exact law6_none x len cap (zs.take len) k w hlen hzl hc (by omega) hq
  · exact law6_long (some x) len cap i w hlen
end Go.Proofs.Qxb6600322aMods
