/-
  'lineBreak' (28), 'ZZLineBreak' (12) by their contracts.
-/
import Derived.Test.Qxb6600804aModsPrefix
import Derived.WalkLawsBesides
import Derived.Lib.SlBytesConst
import Derived.Lib.SmallJoins
import Derived.Deep.RegionWith
namespace Go.Proofs.Qxb6600804aMods
open Go.RowKit
set_option linter.unusedVariables false
set_option linter.unusedSimpArgs false

/-- The length of the line break at place i. -/
def lb (d : List Int) (i : Nat) : Nat :=
  if nth d i = 13 ∧ nth d (i + 1) = 10 then 2
  else if nth d i = 13 ∨ nth d i = 10 then 1
  else if nth d i = 194 ∧ nth d (i + 1) = 133 then 2
  else if nth d i = 226 ∧ nth d (i + 1) = 128 ∧ (nth d (i + 2) = 168 ∨ nth d (i + 2) = 169) then 3
  else 0

theorem nth_out (d : List Int) (i : Nat) (h : d.length ≤ i) : nth d i = 0 := by simp [nth, List.getD, List.getElem?_eq_none h]
theorem lb_out (d : List Int) (i : Nat) (h : d.length ≤ i) : lb d i = 0 := by
  have := nth_out d i h
  simp [lb, this]

theorem drop_cons (d : List Int) (j : Nat) (h : j < d.length) : d.drop j = nth d j :: d.drop (j + 1) := by
  rw [List.drop_eq_getElem_cons h]
  simp [nth, List.getD, List.getElem?_eq_getElem h]
theorem hasP_one (d : List Int) (i : Nat) (a : Int) (p : List Int) (ha : a ≠ 0) : hasP (d.drop i) (a :: p) = (decide (nth d i = a) && hasP (d.drop (i + 1)) p) := by
  by_cases h : i < d.length
  · rw [drop_cons d i h]
    simp only [hasP, List.length_cons, List.take_succ_cons, List.cons.injEq]
    by_cases e : nth d i = a <;> simp [e]
  · have h1 := nth_out d i (by omega)
    rw [List.drop_eq_nil_of_le (show d.length ≤ i by omega)]
    have : ¬ (0 : Int) = a := fun h => ha h.symm
    simp [hasP, h1, this]
theorem hasP_nil (l : List Int) : hasP l [] = true := by simp [hasP]
theorem hasP_two (d : List Int) (i : Nat) (a b : Int) (ha : a ≠ 0) (hb : b ≠ 0) : hasP (d.drop i) [a, b] = decide (nth d i = a ∧ nth d (i + 1) = b) := by
  rw [hasP_one d i a _ ha, hasP_one d (i + 1) b _ hb, hasP_nil, Bool.and_true, Bool.eq_iff_iff]; simp
theorem hasP_three (d : List Int) (i : Nat) (a b c : Int) (ha : a ≠ 0) (hb : b ≠ 0) (hc : c ≠ 0) : hasP (d.drop i) [a, b, c] = decide (nth d i = a ∧ nth d (i + 1) = b ∧ nth d (i + 2) = c) := by
  rw [hasP_one d i a _ ha, hasP_two d (i + 1) b c hb hc, Bool.eq_iff_iff]; simp

theorem prefix_short (a1 a2 : Option Addr) (n c m d : Nat) (h : n < m) (w : World) :
    Calls Trym.prog 33 #[.slice a1 n c, .slice a2 m d] w fun e w' => e = .returned (.bool false) ∧ w' = w := by
  have h' : ¬ (m : Int) ≤ (n : Int) := by omega
  go_enter Trym.func33, Trym.ntmps33
  go_wp2
  go_ret
  exact ⟨rfl, rfl⟩

/-- A literal, marked as a string's bytes are. -/
theorem at_lit (w : World) (C : Array Value) (xs : List Int) (t : TypeId) (fr : Nat × Nat) (B : Nat) (hB : B = w.heap.size) (h : ∀ i, i < xs.length → C[i]? = some (.int .u8 (nth xs i))) : At (w.alloc (.cells C t fr)) B 0 xs :=
  ⟨by simp [hB], fun i hi => by
    have e0 : 0 + i = i := by omega
    rw [e0, Joins.cell_alloc_mark_at w C t fr B i hB]
    exact h i hi⟩
theorem At.alloc {w : World} {b off : Nat} {xs : List Int} (h : At w b off xs) (ob : Obj) : At (w.alloc ob) b off xs := h.below ((Below.refl _ _).alloc (Nat.le_refl _) ob)
theorem lit2 (x y : Int) : ∀ i, i < ([x, y] : List Int).length → (#[Value.int .u8 x, .int .u8 y])[i]? = some (.int .u8 (nth [x, y] i))
  | 0, _ => rfl
  | 1, _ => rfl
  | n + 2, h => by simp at h; omega
theorem lit3 (x y z : Int) : ∀ i, i < ([x, y, z] : List Int).length → (#[Value.int .u8 x, .int .u8 y, .int .u8 z])[i]? = some (.int .u8 (nth [x, y, z] i))
  | 0, _ => rfl
  | 1, _ => rfl
  | 2, _ => rfl
  | n + 3, h => by simp at h; omega

/-- The world behind the first, the second, the third, the fourth literal. -/
abbrev L1 (w : World) : World := w.alloc (.cells #[.int .u8 13, .int .u8 10] 5 (2, 3))
abbrev L2 (w : World) : World := (L1 w).alloc (.cells #[.int .u8 194, .int .u8 133] 5 (2, 3))
abbrev L3 (w : World) : World := (L2 w).alloc (.cells #[.int .u8 226, .int .u8 128, .int .u8 168] 5 (3, 4))
abbrev L4 (w : World) : World := (L3 w).alloc (.cells #[.int .u8 226, .int .u8 128, .int .u8 169] 5 (3, 4))

theorem kc1 (w : World) : (convert 22 22 (.slice (some ⟨w.heap.size, 0, none⟩) 2 2)).run Trym.prog (w.alloc (.cells #[.int .u8 13, .int .u8 10] 5)) = .ok (.slice (some ⟨w.heap.size, 0, none⟩) 2 2) (L1 w) :=
  Joins.run_convert_bytes_const_at w 22 5 _ 2 2 _ rfl Trym.underlying22 Trym.underlying5
theorem kc2 (w : World) : (convert 22 22 (.slice (some ⟨w.heap.size + 1, 0, none⟩) 2 2)).run Trym.prog ((L1 w).alloc (.cells #[.int .u8 194, .int .u8 133] 5)) = .ok (.slice (some ⟨w.heap.size + 1, 0, none⟩) 2 2) (L2 w) :=
  Joins.run_convert_bytes_const_at (L1 w) 22 5 _ 2 2 _ (by simp) Trym.underlying22 Trym.underlying5
theorem kc3 (w : World) : (convert 22 22 (.slice (some ⟨w.heap.size + 1 + 1, 0, none⟩) 3 3)).run Trym.prog ((L2 w).alloc (.cells #[.int .u8 226, .int .u8 128, .int .u8 168] 5)) = .ok (.slice (some ⟨w.heap.size + 1 + 1, 0, none⟩) 3 3) (L3 w) :=
  Joins.run_convert_bytes_const_at (L2 w) 22 5 _ 3 3 _ (by simp) Trym.underlying22 Trym.underlying5
theorem kc4 (w : World) : (convert 22 22 (.slice (some ⟨w.heap.size + 1 + 1 + 1, 0, none⟩) 3 3)).run Trym.prog ((L3 w).alloc (.cells #[.int .u8 226, .int .u8 128, .int .u8 169] 5)) = .ok (.slice (some ⟨w.heap.size + 1 + 1 + 1, 0, none⟩) 3 3) (L4 w) :=
  Joins.run_convert_bytes_const_at (L3 w) 22 5 _ 3 3 _ (by simp) Trym.underlying22 Trym.underlying5

theorem b1 (w : World) : Below w.heap.size w (L1 w) := (Below.refl _ _).alloc (Nat.le_refl _) _
theorem b2 (w : World) : Below w.heap.size w (L2 w) := (b1 w).alloc (b1 w).size _
theorem b3 (w : World) : Below w.heap.size w (L3 w) := (b2 w).alloc (b2 w).size _
theorem b4 (w : World) : Below w.heap.size w (L4 w) := (b3 w).alloc (b3 w).size _

set_option maxHeartbeats 800000 in
theorem lb_none (a : Option Addr) (n c : Nat) (i : Int) (w : World) (hi : (n : Int) ≤ i) (hnc : n ≤ c) (hc : c ≤ 9223372036854775807) (ha : a = none → c = 0) :
    Calls Trym.prog 28 #[.slice a n c, .int .i64 i] w fun e w' => e = .returned (.int .i64 0) ∧ Below w.heap.size w w' := by
  have k1 := kc1 w
  have k2 := kc2 w
  have k3 := kc3 w
  have k4 := kc4 w
  have hb := b4 w
  simp only [L1, L2, L3, L4] at k1 k2 k3 k4 hb
  cases a with
  | none =>
    have hc0 := ha rfl
    subst hc0
    have hn0 : n = 0 := by omega
    subst hn0
    clear ha hc hnc
    by_cases h0 : i = 0
    · subst h0
      go_enter Trym.func28, Trym.ntmps28
      go_wp2_with (go_at_call 33; refine (prefix_short _ _ _ _ _ _ (by omega) _).mono ?_; rintro e w' ⟨rfl, rfl⟩)
      go_ret
      exact ⟨rfl, hb⟩
    · have h1 : ¬ i ≤ 0 := by omega
      go_enter Trym.func28, Trym.ntmps28
      go_wp2_with (go_at_call 33; refine (prefix_short _ _ _ _ _ _ (by omega) _).mono ?_; rintro e w' ⟨rfl, rfl⟩)
      go_ret
      exact ⟨rfl, hb⟩
  | some x =>
    clear ha
    by_cases h0 : i = n
    · subst h0
      by_cases hcn : c = n
      · subst hcn
        go_enter Trym.func28, Trym.ntmps28
        go_wp2_with (go_at_call 33; refine (prefix_short _ _ _ _ _ _ (by omega) _).mono ?_; rintro e w' ⟨rfl, rfl⟩)
        go_ret
        exact ⟨rfl, hb⟩
      · go_enter Trym.func28, Trym.ntmps28
        go_wp2_with (go_at_call 33; refine (prefix_short _ _ _ _ _ _ (by omega) _).mono ?_; rintro e w' ⟨rfl, rfl⟩)
        go_ret
        exact ⟨rfl, hb⟩
    · have h1 : ¬ i ≤ (n : Int) := by omega
      by_cases hcn : c = n
      · subst hcn
        go_enter Trym.func28, Trym.ntmps28
        go_wp2_with (go_at_call 33; refine (prefix_short _ _ _ _ _ _ (by omega) _).mono ?_; rintro e w' ⟨rfl, rfl⟩)
        go_ret
        exact ⟨rfl, hb⟩
      · go_enter Trym.func28, Trym.ntmps28
        go_wp2_with (go_at_call 33; refine (prefix_short _ _ _ _ _ _ (by omega) _).mono ?_; rintro e w' ⟨rfl, rfl⟩)
        go_ret
        exact ⟨rfl, hb⟩
end Go.Proofs.Qxb6600804aMods
