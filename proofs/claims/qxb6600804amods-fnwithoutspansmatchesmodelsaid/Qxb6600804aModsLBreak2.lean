/-
  'lineBreak' (28) inside the text; 'ZZLineBreak' (12).
-/
import Derived.Test.Qxb6600804aModsLBreak
namespace Go.Proofs.Qxb6600804aMods
open Go.RowKit
set_option linter.unusedVariables false
set_option linter.unusedSimpArgs false

set_option maxHeartbeats 800000 in
theorem lb_core (b o n c i : Nat) (x : Int) (p1 p2 p3 p4 : Bool) (r : Int) (w : World) (hi : i < n) (hnc : n ≤ c) (hc : c ≤ 9223372036854775807) (hn : n ≤ 1048576) (hx : w.cell? ⟨b, o + i, none⟩ = some (.int .u8 x)) (hb : b < w.heap.size)
    (h1 : Calls Trym.prog 33 #[.slice (some ⟨b, o + i, none⟩) (n - i) (c - i), .slice (some ⟨w.heap.size, 0, none⟩) 2 2] (L1 w) fun e w' => e = .returned (.bool p1) ∧ w' = L1 w)
    (h2 : Calls Trym.prog 33 #[.slice (some ⟨b, o + i, none⟩) (n - i) (c - i), .slice (some ⟨w.heap.size + 1, 0, none⟩) 2 2] (L2 w) fun e w' => e = .returned (.bool p2) ∧ w' = L2 w)
    (h3 : Calls Trym.prog 33 #[.slice (some ⟨b, o + i, none⟩) (n - i) (c - i), .slice (some ⟨w.heap.size + 1 + 1, 0, none⟩) 3 3] (L3 w) fun e w' => e = .returned (.bool p3) ∧ w' = L3 w)
    (h4 : Calls Trym.prog 33 #[.slice (some ⟨b, o + i, none⟩) (n - i) (c - i), .slice (some ⟨w.heap.size + 1 + 1 + 1, 0, none⟩) 3 3] (L4 w) fun e w' => e = .returned (.bool p4) ∧ w' = L4 w)
    (hr : Hid (r = if p1 then 2 else if x = 13 ∨ x = 10 then 1 else if p2 then 2 else if p3 then 3 else if p4 then 3 else 0)) :
    Calls Trym.prog 28 #[.slice (some ⟨b, o, none⟩) n c, .int .i64 i] w fun e w' => e = .returned (.int .i64 r) ∧ Below w.heap.size w w' := by
  have k1 := kc1 w
  have k2 := kc2 w
  have k3 := kc3 w
  have k4 := kc4 w
  have B1 := b1 w
  have B2 := b2 w
  have B3 := b3 w
  have B4 := b4 w
  simp only [L1, L2, L3, L4] at k1 k2 k3 k4 h1 h2 h3 h4 B1 B2 B3 B4
  have hiI : (i : Int) ≤ (n : Int) := by omega
  have hcn : ¬ c = i := by omega
  have hpos : 0 < n - i := by omega
  cases p1 with
  | true =>
    have HF : Hid (r = 2) := by rw [hr.out]; rfl
    go_enter Trym.func28, Trym.ntmps28
    go_wp2_with fail
    refine h1.mono ?_
    rintro e w' ⟨rfl, rfl⟩
    go_wp2_with fail
    go_ret
    exact ⟨by rw [HF.out]; rfl, B1⟩
  | false =>
    by_cases hx13 : x = 13
    · subst hx13
      have HF : Hid (r = 1) := by rw [hr.out]; rfl
      go_enter Trym.func28, Trym.ntmps28
      go_wp2_with fail
      refine h1.mono ?_
      rintro e w' ⟨rfl, rfl⟩
      go_wp2_with fail
      go_ret
      exact ⟨by rw [HF.out]; rfl, B1⟩
    have f13 : (x == 13) = false := by simpa using hx13
    by_cases hx10 : x = 10
    · subst hx10
      have HF : Hid (r = 1) := by rw [hr.out]; rfl
      go_enter Trym.func28, Trym.ntmps28
      go_wp2_with fail
      refine h1.mono ?_
      rintro e w' ⟨rfl, rfl⟩
      go_wp2_with fail
      go_ret
      exact ⟨by rw [HF.out]; rfl, B1⟩
    have f10 : (x == 10) = false := by simpa using hx10
    have HR : Hid (r = if p2 then 2 else if p3 then 3 else if p4 then 3 else 0) := by
      have := hr.out
      rw [if_neg (by simp), if_neg (by omega)] at this
      exact this
    clear hr
    cases p2 with
    | true =>
      have HF : Hid (r = 2) := by rw [HR.out]; rfl
      go_enter Trym.func28, Trym.ntmps28
      go_wp2_with fail
      refine h1.mono ?_
      rintro e w' ⟨rfl, rfl⟩
      go_wp2_with fail
      refine h2.mono ?_
      rintro e w' ⟨rfl, rfl⟩
      go_wp2_with fail
      go_ret
      exact ⟨by rw [HF.out]; rfl, B2⟩
    | false =>
      cases p3 with
      | true =>
        have HF : Hid (r = 3) := by rw [HR.out]; rfl
        go_enter Trym.func28, Trym.ntmps28
        go_wp2_with fail
        refine h1.mono ?_
        rintro e w' ⟨rfl, rfl⟩
        go_wp2_with fail
        refine h2.mono ?_
        rintro e w' ⟨rfl, rfl⟩
        go_wp2_with fail
        refine h3.mono ?_
        rintro e w' ⟨rfl, rfl⟩
        go_wp2_with fail
        go_ret
        exact ⟨by rw [HF.out]; rfl, B3⟩
      | false =>
        have HF : Hid (r = if p4 then 3 else 0) := by rw [HR.out]; rfl
        cases p4
        all_goals
          go_enter Trym.func28, Trym.ntmps28
          go_wp2_with fail
          refine h1.mono ?_
          rintro e w' ⟨rfl, rfl⟩
          go_wp2_with fail
          refine h2.mono ?_
          rintro e w' ⟨rfl, rfl⟩
          go_wp2_with fail
          refine h3.mono ?_
          rintro e w' ⟨rfl, rfl⟩
          go_wp2_with fail
          refine h4.mono ?_
          rintro e w' ⟨rfl, rfl⟩
          go_wp2_with fail
          go_ret
          exact ⟨by rw [HF.out]; rfl, B4⟩

theorem byt_drop {d : List Int} (h : Byt d) (k : Nat) : Byt (d.drop k) := fun x hx => h x (List.mem_of_mem_drop hx)

theorem lb_some (b o n c i : Nat) (d : List Int) (w : World) (hd : d.length = n) (hi : i < n) (hnc : n ≤ c) (hc : c ≤ 9223372036854775807) (hn : n ≤ 1048576) (hby : Byt d) (hat : At w b o d) :
    Calls Trym.prog 28 #[.slice (some ⟨b, o, none⟩) n c, .int .i64 i] w fun e w' => e = .returned (.int .i64 (lb d i)) ∧ Below w.heap.size w w' := by
  have hl : (d.drop i).length = n - i := by rw [List.length_drop]; omega
  have hB2 : ∀ x y : Int, 0 ≤ x ∧ x < 256 → 0 ≤ y ∧ y < 256 → Byt [x, y] := fun x y hx hy z hz => by simp at hz; rcases hz with rfl | rfl <;> assumption
  have hB3 : ∀ x y z : Int, 0 ≤ x ∧ x < 256 → 0 ≤ y ∧ y < 256 → 0 ≤ z ∧ z < 256 → Byt [x, y, z] := fun x y z hx hy hz v hv => by simp at hv; rcases hv with rfl | rfl | rfl <;> assumption
  have c1 := prefix_any b (o + i) (n - i) (c - i) w.heap.size 0 2 2 (d.drop i) [13, 10] (L1 w) hl rfl (by omega) (byt_drop hby i) (hB2 _ _ (by omega) (by omega)) ((hat.drop i).alloc _) (at_lit _ _ _ _ _ _ rfl (lit2 _ _))
  have c2 := prefix_any b (o + i) (n - i) (c - i) (w.heap.size + 1) 0 2 2 (d.drop i) [194, 133] (L2 w) hl rfl (by omega) (byt_drop hby i) (hB2 _ _ (by omega) (by omega)) (((hat.drop i).alloc _).alloc _) (at_lit _ _ _ _ _ _ (by simp) (lit2 _ _))
  have c3 := prefix_any b (o + i) (n - i) (c - i) (w.heap.size + 1 + 1) 0 3 3 (d.drop i) [226, 128, 168] (L3 w) hl rfl (by omega) (byt_drop hby i) (hB3 _ _ _ (by omega) (by omega) (by omega)) ((((hat.drop i).alloc _).alloc _).alloc _) (at_lit _ _ _ _ _ _ (by simp) (lit3 _ _ _))
  have c4 := prefix_any b (o + i) (n - i) (c - i) (w.heap.size + 1 + 1 + 1) 0 3 3 (d.drop i) [226, 128, 169] (L4 w) hl rfl (by omega) (byt_drop hby i) (hB3 _ _ _ (by omega) (by omega) (by omega)) (((((hat.drop i).alloc _).alloc _).alloc _).alloc _) (at_lit _ _ _ _ _ _ (by simp) (lit3 _ _ _))
  rw [hasP_two d i 13 10 (by omega) (by omega)] at c1
  rw [hasP_two d i 194 133 (by omega) (by omega)] at c2
  rw [hasP_three d i 226 128 168 (by omega) (by omega) (by omega)] at c3
  rw [hasP_three d i 226 128 169 (by omega) (by omega) (by omega)] at c4
  refine lb_core b o n c i (nth d i) _ _ _ _ _ w hi hnc hc hn (hat.2 i (by omega)) hat.1 c1 c2 c3 c4 ?_
  show ((lb d i : Nat) : Int) = _
  unfold lb
  simp only [decide_eq_true_eq]
  by_cases e1 : nth d i = 13 ∧ nth d (i + 1) = 10
  · rw [if_pos e1, if_pos e1]; rfl
  rw [if_neg e1, if_neg e1]
  by_cases e2 : nth d i = 13 ∨ nth d i = 10
  · rw [if_pos e2, if_pos e2]; rfl
  rw [if_neg e2, if_neg e2]
  by_cases e3 : nth d i = 194 ∧ nth d (i + 1) = 133
  · rw [if_pos e3, if_pos e3]; rfl
  rw [if_neg e3, if_neg e3]
  by_cases e4 : nth d i = 226 ∧ nth d (i + 1) = 128 ∧ nth d (i + 2) = 168
  · rw [if_pos e4, if_pos (show nth d i = 226 ∧ nth d (i + 1) = 128 ∧ (nth d (i + 2) = 168 ∨ nth d (i + 2) = 169) from ⟨e4.1, e4.2.1, .inl e4.2.2⟩)]; rfl
  rw [if_neg e4]
  by_cases e5 : nth d i = 226 ∧ nth d (i + 1) = 128 ∧ nth d (i + 2) = 169
  · rw [if_pos e5, if_pos (show nth d i = 226 ∧ nth d (i + 1) = 128 ∧ (nth d (i + 2) = 168 ∨ nth d (i + 2) = 169) from ⟨e5.1, e5.2.1, .inr e5.2.2⟩)]; rfl
  rw [if_neg e5, if_neg (show ¬ (nth d i = 226 ∧ nth d (i + 1) = 128 ∧ (nth d (i + 2) = 168 ∨ nth d (i + 2) = 169)) by omega)]; rfl

/-- 'ZZLineBreak' hands on. -/
theorem zzlb (a : Option Addr) (n c : Nat) (i : Int) (w : World) (r : Int) (h : Calls Trym.prog 28 #[.slice a n c, .int .i64 i] w fun e w' => e = .returned (.int .i64 r) ∧ Below w.heap.size w w') :
    Calls Trym.prog 12 #[.slice a n c, .int .i64 i] w fun e w' => e = .returned (.int .i64 r) ∧ Below w.heap.size w w' := by
  go_enter Trym.func12, Trym.ntmps12
  go_wp2_with (go_at_call 28; refine h.mono ?_; rintro e w' ⟨rfl, hb⟩)
  go_ret
  exact ⟨rfl, hb⟩
end Go.Proofs.Qxb6600804aMods
