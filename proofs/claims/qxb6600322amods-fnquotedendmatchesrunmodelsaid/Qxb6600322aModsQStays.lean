/-
  What the plain function's answer says of the text.
-/
import Derived.Test.Qxb6600322aModsQuoted
namespace Go.Proofs.Qxb6600322aMods
set_option linter.unusedVariables false
set_option linter.unusedSimpArgs false

theorem nth_cons_succ (c : Int) (r : List Int) (k : Nat) : nth (c :: r) (k + 1) = nth r k := by simp [nth, List.getD]
theorem nth_cons_zero (c : Int) (r : List Int) : nth (c :: r) 0 = c := rfl

theorem lead_nth (q : Int) : ∀ (l : List Int) (k : Nat), k < lead q l → nth l k = q
  | [], k, h => by simp [lead] at h
  | c :: r, k, h => by
    simp only [lead] at h
    by_cases e : c = q
    · rw [if_pos e] at h
      cases k with
      | zero => exact e
      | succ k => rw [nth_cons_succ]; exact lead_nth q r k (by omega)
    · rw [if_neg e] at h; omega

theorem lead_stop (q : Int) : ∀ (l : List Int), lead q l < l.length → nth l (lead q l) ≠ q
  | [], h => by simp at h
  | c :: r, h => by
    simp only [lead] at h ⊢
    by_cases e : c = q
    · rw [if_pos e] at h ⊢
      rw [nth_cons_succ]
      exact lead_stop q r (by simpa using h)
    · rw [if_neg e]; exact e

theorem qe_one (q : Int) : ∀ (f : Nat) (l : List Int), l.length ≤ f → qe q 1 l < l.length → 1 ≤ qe q 1 l ∧ nth l (qe q 1 l - 1) = q
  | _, [], _, h => by simp [qe] at h
  | 0, c :: r, hf, _ => by simp at hf
  | f + 1, c :: r, hf, h => by
    by_cases he : c = 92 ∧ q = 34
    · cases r with
      | nil => simp [qe, he] at h
      | cons x r =>
        have e2 : qe q 1 (c :: x :: r) = qe q 1 r + 2 := by simp only [qe, if_pos he]
        rw [e2] at h ⊢
        have ih := qe_one q f r (by simp at hf; omega) (by simp at h; omega)
        refine ⟨by omega, ?_⟩
        have e3 : qe q 1 r + 2 - 1 = (qe q 1 r - 1 + 1) + 1 := by omega
        rw [e3, nth_cons_succ, nth_cons_succ]; exact ih.2
    · rw [qe_cons q 1 c r he] at h ⊢
      by_cases hq : c = q ∧ 1 ≤ lead q (c :: r)
      · rw [if_pos hq, if_pos rfl]; exact ⟨Nat.le_refl _, hq.1⟩
      · rw [if_neg hq] at h ⊢
        have ih := qe_one q f r (by simp at hf; omega) (by simp at h; omega)
        refine ⟨by omega, ?_⟩
        have e3 : qe q 1 r + 1 - 1 = qe q 1 r - 1 + 1 := by omega
        rw [e3, nth_cons_succ]; exact ih.2

theorem qe_three (q : Int) : ∀ (f : Nat) (l : List Int), l.length ≤ f → qe q 3 l < l.length → 3 ≤ qe q 3 l ∧ nth l (qe q 3 l - 1) = q ∧ nth l (qe q 3 l - 2) = q ∧ nth l (qe q 3 l - 3) = q ∧ nth l (qe q 3 l) ≠ q
  | _, [], _, h => by simp [qe] at h
  | 0, c :: r, hf, _ => by simp at hf
  | f + 1, c :: r, hf, h => by
    by_cases he : c = 92 ∧ q = 34
    · cases r with
      | nil => simp [qe, he] at h
      | cons x r =>
        have e2 : qe q 3 (c :: x :: r) = qe q 3 r + 2 := by simp only [qe, if_pos he]
        rw [e2] at h ⊢
        have ih := qe_three q f r (by simp at hf; omega) (by simp at h; omega)
        have e3 : qe q 3 r + 2 - 1 = (qe q 3 r - 1 + 1) + 1 := by omega
        have e4 : qe q 3 r + 2 - 2 = (qe q 3 r - 2 + 1) + 1 := by omega
        have e5 : qe q 3 r + 2 - 3 = (qe q 3 r - 3 + 1) + 1 := by omega
        rw [e3, e4, e5, nth_cons_succ, nth_cons_succ, nth_cons_succ, nth_cons_succ, nth_cons_succ, nth_cons_succ, nth_cons_succ, nth_cons_succ]
        exact ⟨by omega, ih.2⟩
    · rw [qe_cons q 3 c r he] at h ⊢
      by_cases hq : c = q ∧ 3 ≤ lead q (c :: r)
      · rw [if_pos hq, if_neg (by omega)] at h ⊢
        exact ⟨hq.2, lead_nth _ _ _ (by omega), lead_nth _ _ _ (by omega), lead_nth _ _ _ (by omega), lead_stop _ _ h⟩
      · rw [if_neg hq] at h ⊢
        have ih := qe_three q f r (by simp at hf; omega) (by simp at h; omega)
        have e3 : qe q 3 r + 1 - 1 = qe q 3 r - 1 + 1 := by omega
        have e4 : qe q 3 r + 1 - 2 = qe q 3 r - 2 + 1 := by omega
        have e5 : qe q 3 r + 1 - 3 = qe q 3 r - 3 + 1 := by omega
        rw [e3, e4, e5, nth_cons_succ, nth_cons_succ, nth_cons_succ, nth_cons_succ]
        exact ⟨by omega, ih.2⟩

/-- Three quotes open the string: as the law asks. -/
theorem open_three (d : List Int) (i : Nat) (hi : i < d.length) : 3 ≤ lead (nth d i) (d.drop i) ↔ (i + 2 < d.length ∧ nth d (i + 1) = nth d i ∧ nth d (i + 2) = nth d i) := by
  have hl := lead_le (nth d i) (d.drop i)
  rw [List.length_drop] at hl
  constructor
  · intro h
    have h1 := lead_nth (nth d i) (d.drop i) 1 (by omega)
    have h2 := lead_nth (nth d i) (d.drop i) 2 (by omega)
    rw [nth_drop] at h1 h2
    exact ⟨by omega, h1, h2⟩
  · rintro ⟨h0, h1, h2⟩
    rw [lead_hit d _ i hi rfl, lead_hit d _ (i + 1) (by omega) h1, lead_hit d _ (i + 1 + 1) (by omega) h2]
    omega

theorem qEnd_bounds (d : List Int) (i : Nat) (hi : i < d.length) : i + 1 ≤ qEnd d i ∧ qEnd d i ≤ d.length := by
  unfold qEnd qend qOpen; split <;> omega

theorem qEnd_single (d : List Int) (i : Nat) (hi : i < d.length) (h3 : ¬ 3 ≤ lead (nth d i) (d.drop i)) (h : qEnd d i ≠ d.length) : i + 2 ≤ qEnd d i ∧ nth d (qEnd d i - 1) = nth d i := by
  unfold qEnd qend qOpen at h ⊢
  rw [if_neg h3] at h ⊢
  have k := qe_one (nth d i) _ (d.drop (i + 1)) (Nat.le_refl _) (by rw [List.length_drop]; omega)
  rw [nth_drop] at k
  obtain ⟨k1, k2⟩ := k
  have e : min d.length (i + 1 + qe (nth d i) 1 (d.drop (i + 1))) = i + 1 + qe (nth d i) 1 (d.drop (i + 1)) := by omega
  rw [e]
  have e2 : i + 1 + qe (nth d i) 1 (d.drop (i + 1)) - 1 = i + 1 + (qe (nth d i) 1 (d.drop (i + 1)) - 1) := by omega
  rw [e2]
  exact ⟨by omega, k2⟩

theorem qEnd_triple (d : List Int) (i : Nat) (hi : i < d.length) (h3 : 3 ≤ lead (nth d i) (d.drop i)) (h : qEnd d i ≠ d.length) :
    i + 6 ≤ qEnd d i ∧ nth d (qEnd d i - 1) = nth d i ∧ nth d (qEnd d i - 2) = nth d i ∧ nth d (qEnd d i - 3) = nth d i ∧ nth d (qEnd d i) ≠ nth d i := by
  unfold qEnd qend qOpen at h ⊢
  rw [if_pos h3] at h ⊢
  have k := qe_three (nth d i) _ (d.drop (i + 3)) (Nat.le_refl _) (by rw [List.length_drop]; omega)
  rw [nth_drop, nth_drop, nth_drop, nth_drop] at k
  obtain ⟨k1, k2, k3, k4, k5⟩ := k
  have e : min d.length (i + 3 + qe (nth d i) 3 (d.drop (i + 3))) = i + 3 + qe (nth d i) 3 (d.drop (i + 3)) := by omega
  rw [e]
  have e1 : i + 3 + qe (nth d i) 3 (d.drop (i + 3)) - 1 = i + 3 + (qe (nth d i) 3 (d.drop (i + 3)) - 1) := by omega
  have e2 : i + 3 + qe (nth d i) 3 (d.drop (i + 3)) - 2 = i + 3 + (qe (nth d i) 3 (d.drop (i + 3)) - 2) := by omega
  have e3 : i + 3 + qe (nth d i) 3 (d.drop (i + 3)) - 3 = i + 3 + (qe (nth d i) 3 (d.drop (i + 3)) - 3) := by omega
  rw [e1, e2, e3]
  exact ⟨by omega, k2, k3, k4, k5⟩
end Go.Proofs.Qxb6600322aMods
