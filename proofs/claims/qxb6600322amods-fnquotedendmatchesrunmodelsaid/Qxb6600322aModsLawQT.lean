/-
  The walk of 'FnQuotedEndStaysInsideAndClosesOnItsQuote' (7): three quotes; and the whole.
-/
import Derived.Test.Qxb6600322aModsLawQS
namespace Go.Proofs.Qxb6600322aMods
open Go.RowKit
set_option linter.unusedVariables false
set_option linter.unusedSimpArgs false

set_option maxHeartbeats 800000 in
/-- Three quotes open the string, it is closed. -/
theorem law7_triple (x : Addr) (len cap : Nat) (zs : List Int) (i E : Nat) (q u : Int) (w : World) (hlen : len ≤ 1048576) (hi : i < len) (hz : zs.length = len) (hq : q = 34 ∨ q = 39) (HQ : Hid (nth zs i = q))
    (hcl : Calls Trym.prog 11 #[.slice (some x) len cap] w fun e w' => e = .returned (.slice (some ⟨w.heap.size, 0, none⟩) len len) ∧ Below w.heap.size w w' ∧ At w' w.heap.size 0 zs)
    (hcall : ∀ W : World, At W w.heap.size 0 zs → Calls Trym.prog 18 #[.slice (some ⟨w.heap.size, 0, none⟩) len len, .int .i64 i] W fun e w' => e = .returned (.int .i64 E) ∧ Below W.heap.size W w')
    (hE : E < len) (hE2 : i + 6 ≤ E) (H1 : Hid (nth zs (i + 1) = q)) (H2 : Hid (nth zs (i + 2) = q)) (HE1 : Hid (nth zs (E - 1) = q)) (HE2 : Hid (nth zs (E - 2) = q)) (HE3 : Hid (nth zs (E - 3) = q)) (HE : Hid (nth zs E = u)) (hu : (u != q) = true) :
    Calls Trym.prog 7 #[.slice (some x) len cap, .int .i64 i] w fun e w' => e = .returned (.bool true) ∧ Below w.heap.size w w' := by
  have eE1 : ((E : Int) - 1).toNat = E - 1 := by omega
  have eE2 : ((E : Int) - 2).toNat = E - 2 := by omega
  have eE3 : ((E : Int) - 3).toNat = E - 3 := by omega
  rcases hq with rfl | rfl
  all_goals
    go_enter Trym.func7, Trym.ntmps7
    go_wp2_with (first | (go_at_call 11; refine hcl.mono ?_; rintro e w1 ⟨rfl, hb, hat⟩; have hci := hat.2 i (by omega); rw [HQ.out, Nat.zero_add] at hci) | (go_at_call 18; refine (hcall _ (by assumption)).mono ?_; rintro e w2 ⟨rfl, hb2⟩; have hbb := bt (by assumption) hb2; have hat2 := At.below (by assumption) hb2; have c1 := hat2.2 (i + 1) (by omega); have c2 := hat2.2 (i + 2) (by omega); have c3 := hat2.2 (E - 1) (by omega); have c4 := hat2.2 (E - 2) (by omega); have c5 := hat2.2 (E - 3) (by omega); have c6 := hat2.2 E (by omega); rw [H1.out, Nat.zero_add] at c1; rw [H2.out, Nat.zero_add] at c2; rw [HE1.out, Nat.zero_add] at c3; rw [HE2.out, Nat.zero_add] at c4; rw [HE3.out, Nat.zero_add] at c5; rw [HE.out, Nat.zero_add] at c6) | (go_at_call 20; go_in))
    go_ret
    exact ⟨rfl, by assumption⟩

/-- A quote: the law's own matter. -/
theorem law7_in (x : Addr) (len cap : Nat) (zs : List Int) (i : Nat) (w : World) (hlen : len ≤ 1048576) (hz : zs.length = len) (hby : Byt zs)
    (hc : ∀ i, i < len → w.cell? (x.add i) = some (.int .u8 (nth zs i))) (hi : i < len) (hq : nth zs i = 34 ∨ nth zs i = 39) :
    Calls Trym.prog 7 #[.slice (some x) len cap, .int .i64 i] w fun e w' => e = .returned (.bool true) ∧ Below w.heap.size w w' := by
  have hcl := clone_some x len cap zs w hlen hz hc
  have hbd := qEnd_bounds zs i (by omega)
  have hone := qEnd_single zs i (by omega)
  have hthree := qEnd_triple zs i (by omega)
  have hopen := open_three zs i (by omega)
  have hcall := fun (W : World) (hat : At W w.heap.size 0 zs) => zzquoted_any w.heap.size 0 len len i zs W hz (Nat.le_refl _) hlen hi hby hat hq
  rw [hz] at hbd hone hthree hopen
  by_cases hE : qEnd zs i = len
  · rw [hE] at hcall
    exact law7_open x len cap zs i (nth zs i) w hlen hi hz hq rfl hcl hcall
  · by_cases h3 : 3 ≤ lead (nth zs i) (zs.drop i)
    · obtain ⟨k1, k2, k3, k4, k5⟩ := hthree h3 hE
      obtain ⟨j1, j2, j3⟩ := hopen.1 h3
      exact law7_triple x len cap zs i (qEnd zs i) (nth zs i) (nth zs (qEnd zs i)) w hlen hi hz hq rfl hcl hcall (by omega) k1 j2 j3 k2 k3 k4 rfl (by simpa using k5)
    · obtain ⟨k1, k2⟩ := hone h3 hE
      exact law7_single x len cap zs i (qEnd zs i) (nth zs i) w hlen hi hz hq rfl hcl hcall (by omega) k1 k2 (fun h => h3 (hopen.2 h))

theorem byt_of_wf {zs : List Int} (h : ∀ n ∈ zs, (Lit.int .u8 n).wf = true) (k : Nat) : Byt (zs.take k) := fun x hx => by
  have := bounds_u8 (h x (List.mem_of_mem_take hx)); omega

/-- Every input. -/
theorem law7_all (x : Addr) (len cap : Nat) (zs : List Int) (i : Int) (w : World) (hl : len ≤ cap) (hz : zs.length = cap)
    (hcell : ∀ i, i < zs.length → w.cell? (x.add i) = some (.int .u8 (zs.getD i 0))) (hwf : ∀ n ∈ zs, (Lit.int .u8 n).wf = true) :
    Calls Trym.prog 7 #[.slice (some x) len cap, .int .i64 i] w fun e w' => e = .returned (.bool true) ∧ Below w.heap.size w w' := by
  by_cases hlen : len ≤ 1048576
  · have hzl : (zs.take len).length = len := by simp; omega
    have hc : ∀ i, i < len → w.cell? (x.add i) = some (.int .u8 (nth (zs.take len) i)) := fun i hi => by
      rw [nth_take _ _ _ hi]; exact hcell i (by omega)
    by_cases ho : i < 0 ∨ (len : Int) ≤ i
    · exact law7_out x len cap (zs.take len) i w hlen hzl hc ho
    · obtain ⟨k, rfl⟩ : ∃ k : Nat, i = k := ⟨i.toNat, by omega⟩
      by_cases hq : nth (zs.take len) k = 34 ∨ nth (zs.take len) k = 39
      · exact law7_in x len cap (zs.take len) k w hlen hzl (byt_of_wf hwf len) hc (by omega) hq
      · exact law7_none x len cap (zs.take len) k w hlen hzl hc (by omega) hq
  · exact law7_long (some x) len cap i w hlen
end Go.Proofs.Qxb6600322aMods
