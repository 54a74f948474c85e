/-
  The walk of 'FnLineBreakMatchesDecodedRune' (3).
-/
import Derived.Test.Qxb6600804aModsDecAll
namespace Go.Proofs.Qxb6600804aMods
open Go.RowKit
set_option linter.unusedVariables false
set_option linter.unusedSimpArgs false

theorem bt {w w1 w2 : World} (h1 : Below w.heap.size w w1) (h2 : Below w1.heap.size w1 w2) : Below w.heap.size w w2 := h1.trans (h2.mono h1.size)

theorem law3_long (a0 : Option Addr) (len cap : Nat) (i : Int) (w : World) (h : ¬ len ≤ 1048576) :
    Calls Trym.prog 3 #[.slice a0 len cap, .int .i64 i] w fun e w' => e = .returned (.bool true) ∧ Below w.heap.size w w' := by
  have hlI : ¬ (len : Int) ≤ 1048576 := by omega
  go_enter Trym.func3, Trym.ntmps3
  go_wp2
  go_ret
  exact ⟨rfl, Below.refl _ _⟩

theorem law3_neg (a0 : Option Addr) (len cap : Nat) (i : Int) (w : World) (h : len ≤ 1048576) (hi : i < 0) :
    Calls Trym.prog 3 #[.slice a0 len cap, .int .i64 i] w fun e w' => e = .returned (.bool true) ∧ Below w.heap.size w w' := by
  go_enter Trym.func3, Trym.ntmps3
  go_wp2
  go_ret
  exact ⟨rfl, Below.refl _ _⟩

theorem law3_nil (i : Int) (w : World) (hi : 0 ≤ i) :
    Calls Trym.prog 3 #[.slice none 0 0, .int .i64 i] w fun e w' => e = .returned (.bool true) ∧ Below w.heap.size w w' := by
  have hz : ∀ W : World, Calls Trym.prog 12 #[.slice none 0 0, .int .i64 i] W fun e w' => e = .returned (.int .i64 0) ∧ Below W.heap.size W w' := fun W =>
    zzlb none 0 0 i W 0 (lb_none none 0 0 i W (by omega) (by omega) (by omega) (fun _ => rfl))
  have hm : ∀ W : World, Calls Trym.prog 13 #[.slice none 0 0, .int .i64 i] W fun e w' => e = .returned (.int .i64 0) ∧ w' = W := fun W => lbm_out none 0 0 i W (by omega)
  go_enter Trym.func3, Trym.ntmps3
  go_wp2_with (first | (go_at_call 11; refine (clone_nil _).mono ?_; rintro e w' ⟨rfl, rfl⟩) | (go_at_call 12; refine (hz _).mono ?_; rintro e w2 ⟨rfl, hb2⟩) | (go_at_call 13; refine (hm _).mono ?_; rintro e w3 ⟨rfl, rfl⟩) | (go_at_call 10; go_in))
  go_ret
  exact ⟨rfl, by assumption⟩

theorem law3_core (x : Addr) (len cap : Nat) (zs : List Int) (i : Int) (E : Int) (w : World) (hlen : len ≤ 1048576) (hi : 0 ≤ i)
    (hcl : Calls Trym.prog 11 #[.slice (some x) len cap] w fun e w' => e = .returned (.slice (some ⟨w.heap.size, 0, none⟩) len len) ∧ Below w.heap.size w w' ∧ At w' w.heap.size 0 zs)
    (hz : ∀ W : World, At W w.heap.size 0 zs → Calls Trym.prog 12 #[.slice (some ⟨w.heap.size, 0, none⟩) len len, .int .i64 i] W fun e w' => e = .returned (.int .i64 E) ∧ Below W.heap.size W w')
    (hm : ∀ W : World, At W w.heap.size 0 zs → Calls Trym.prog 13 #[.slice (some ⟨w.heap.size, 0, none⟩) len len, .int .i64 i] W fun e w' => e = .returned (.int .i64 E) ∧ Below W.heap.size W w') :
    Calls Trym.prog 3 #[.slice (some x) len cap, .int .i64 i] w fun e w' => e = .returned (.bool true) ∧ Below w.heap.size w w' := by
  go_enter Trym.func3, Trym.ntmps3
  go_wp2_with (first | (go_at_call 11; refine hcl.mono ?_; rintro e w1 ⟨rfl, hb, hat⟩) | (go_at_call 12; refine (hz _ (by assumption)).mono ?_; rintro e w2 ⟨rfl, hb2⟩; have hbb := bt (by assumption) hb2; have hat2 := At.below (by assumption) hb2) | (go_at_call 13; refine (hm _ (by assumption)).mono ?_; rintro e w3 ⟨rfl, hb3⟩; have hb4 := bt (by assumption) hb3) | (go_at_call 10; go_in))
  go_ret
  exact ⟨rfl, by assumption⟩

theorem byt_of_wf {zs : List Int} (h : ∀ n ∈ zs, (Lit.int .u8 n).wf = true) (k : Nat) : Byt (zs.take k) := fun x hx => by
  have := bounds_u8 (h x (List.mem_of_mem_take hx)); omega

/-- Every input. -/
theorem law3_all (x : Addr) (len cap : Nat) (zs : List Int) (i : Int) (w : World) (hl : len ≤ cap) (hz : zs.length = cap)
    (hcell : ∀ i, i < zs.length → w.cell? (x.add i) = some (.int .u8 (zs.getD i 0))) (hwf : ∀ n ∈ zs, (Lit.int .u8 n).wf = true) :
    Calls Trym.prog 3 #[.slice (some x) len cap, .int .i64 i] w fun e w' => e = .returned (.bool true) ∧ Below w.heap.size w w' := by
  by_cases hlen : len ≤ 1048576
  · have hzl : (zs.take len).length = len := by simp; omega
    have hc : ∀ i, i < len → w.cell? (x.add i) = some (.int .u8 (nth (zs.take len) i)) := fun i hi => by
      rw [nth_take _ _ _ hi]; exact hcell i (by omega)
    have hcl := clone_some x len cap (zs.take len) w hlen hzl hc
    by_cases h0 : i < 0
    · exact law3_neg (some x) len cap i w hlen h0
    · by_cases h1 : (len : Int) ≤ i
      · exact law3_core x len cap (zs.take len) i 0 w hlen (by omega) hcl
          (fun W hat => zzlb _ _ _ _ W 0 (lb_none _ len len i W h1 (Nat.le_refl _) (by omega) (fun h => by cases h)))
          (fun W hat => (lbm_out _ len len i W h1).mono fun e w' h => ⟨h.1, by rw [h.2]; exact Below.refl _ _⟩)
      · obtain ⟨k, rfl⟩ : ∃ k : Nat, i = k := ⟨i.toNat, by omega⟩
        exact law3_core x len cap (zs.take len) k (lb (zs.take len) k) w hlen (by omega) hcl
          (fun W hat => zzlb _ _ _ _ W _ (lb_some w.heap.size 0 len len k _ W hzl (by omega) (Nat.le_refl _) (by omega) hlen (byt_of_wf hwf len) hat))
          (fun W hat => lbm_in w.heap.size 0 len len k _ W hzl (by omega) hlen (byt_of_wf hwf len) hat)
  · exact law3_long (some x) len cap i w hlen
theorem law3_none (i : Int) (w : World) : Calls Trym.prog 3 #[.slice none 0 0, .int .i64 i] w fun e w' => e = .returned (.bool true) ∧ Below w.heap.size w w' := by
  by_cases h0 : i < 0
  · exact law3_neg none 0 0 i w (by omega) h0
  · exact law3_nil i w (by omega)
end Go.Proofs.Qxb6600804aMods
