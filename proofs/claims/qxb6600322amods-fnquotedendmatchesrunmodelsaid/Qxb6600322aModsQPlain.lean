/-
  The plain function that 'quotedEnd' computes, and its laws. No Go in sight.
-/
import Derived.Test.Qxb6600322aModsPrefix
namespace Go.Proofs.Qxb6600322aMods
set_option linter.unusedVariables false
set_option linter.unusedSimpArgs false

/-- How many q's the list begins with. -/
def lead (q : Int) : List Int → Nat
  | [] => 0
  | c :: r => if c = q then lead q r + 1 else 0

/-- How many bytes of the text behind the opening quotes belong to the string. -/
def qe (q : Int) (m : Nat) : List Int → Nat
  | [] => 0
  | [c] => if c = 92 ∧ q = 34 then 1 else if c = q ∧ m ≤ lead q [c] then (if m = 1 then 1 else lead q [c]) else 1
  | c :: x :: r => if c = 92 ∧ q = 34 then qe q m r + 2 else if c = q ∧ m ≤ lead q (c :: x :: r) then (if m = 1 then 1 else lead q (c :: x :: r)) else qe q m (x :: r) + 1

theorem qe_cons (q : Int) (m : Nat) (c : Int) (r : List Int) (h : ¬ (c = 92 ∧ q = 34)) :
    qe q m (c :: r) = if c = q ∧ m ≤ lead q (c :: r) then (if m = 1 then 1 else lead q (c :: r)) else qe q m r + 1 := by
  cases r with
  | nil => simp only [qe, if_neg h]
  | cons x r => simp only [qe, if_neg h]

theorem lead_le (q : Int) : ∀ l : List Int, lead q l ≤ l.length
  | [] => Nat.le_refl _
  | c :: r => by have := lead_le q r; simp only [lead, List.length_cons]; split <;> omega

theorem drop_cons (d : List Int) (j : Nat) (h : j < d.length) : d.drop j = nth d j :: d.drop (j + 1) := by
  rw [List.drop_eq_getElem_cons h]
  simp [nth, List.getD, List.getElem?_eq_getElem h]

/-- Where the string ends, seen from place j behind its opening quotes. -/
def qend (d : List Int) (q : Int) (m : Nat) (j : Nat) : Nat := min d.length (j + qe q m (d.drop j))

theorem qend_out (d : List Int) (q : Int) (m j : Nat) (h : d.length ≤ j) : qend d q m j = d.length := by unfold qend; omega

theorem qend_esc (d : List Int) (m j : Nat) (h : j < d.length) (hc : nth d j = 92) : qend d 34 m j = qend d 34 m (j + 2) := by
  unfold qend
  rw [drop_cons d j h, hc]
  by_cases h1 : j + 1 < d.length
  · rw [drop_cons d (j + 1) h1, show j + 1 + 1 = j + 2 from rfl]; simp [qe]; omega
  · rw [List.drop_eq_nil_of_le (show d.length ≤ j + 1 by omega), List.drop_eq_nil_of_le (show d.length ≤ j + 2 by omega)]
    simp [qe]; omega

theorem qend_next (d : List Int) (q : Int) (m j : Nat) (h : j < d.length) (hc : ¬ (nth d j = 92 ∧ q = 34)) (hq : ¬ (nth d j = q ∧ m ≤ lead q (d.drop j))) : qend d q m j = qend d q m (j + 1) := by
  unfold qend
  rw [drop_cons d j h] at hq ⊢
  rw [qe_cons q m _ _ hc, if_neg hq]
  omega

theorem qend_hit (d : List Int) (q : Int) (m j : Nat) (h : j < d.length) (hc : ¬ (nth d j = 92 ∧ q = 34)) (hq : nth d j = q ∧ m ≤ lead q (d.drop j)) : qend d q m j = j + (if m = 1 then 1 else lead q (d.drop j)) := by
  unfold qend
  have hl := lead_le q (d.drop j)
  rw [List.length_drop] at hl
  rw [drop_cons d j h] at hq hl ⊢
  rw [qe_cons q m _ _ hc, if_pos hq]
  split <;> omega

/-- 'the text begins with m q's', in HasPrefix's words. -/
theorem take_rep (q : Int) : ∀ (m : Nat) (l : List Int), l.take m = List.replicate m q ↔ m ≤ lead q l
  | 0, l => by simp
  | m + 1, [] => by simp [lead, List.replicate_succ]
  | m + 1, c :: r => by
    have := take_rep q m r
    rw [List.replicate_succ, List.take_succ_cons, List.cons.injEq, this]
    by_cases e : c = q
    · simp [lead, e]
    · simp [lead, e]
theorem hasP_rep (q : Int) (m : Nat) (l : List Int) : hasP l (List.replicate m q) = decide (m ≤ lead q l) := by
  unfold hasP
  rw [List.length_replicate, decide_eq_decide]
  exact take_rep q m l

/-- The run of q's, counted one by one. -/
theorem lead_drop (q : Int) : ∀ (k : Nat) (l : List Int), k ≤ lead q l → lead q l = k + lead q (l.drop k)
  | 0, l, _ => by simp
  | k + 1, [], h => by simp [lead] at h
  | k + 1, c :: r, h => by
    simp only [lead] at h ⊢
    by_cases e : c = q
    · rw [if_pos e] at h ⊢
      have := lead_drop q k r (by omega)
      rw [List.drop_succ_cons]; omega
    · rw [if_neg e] at h; omega

theorem lead_hit (d : List Int) (q : Int) (j : Nat) (h : j < d.length) (e : nth d j = q) : lead q (d.drop j) = lead q (d.drop (j + 1)) + 1 := by
  rw [drop_cons d j h]; simp [lead, e]
theorem lead_miss (d : List Int) (q : Int) (j : Nat) (h : j < d.length) (e : ¬ nth d j = q) : lead q (d.drop j) = 0 := by
  rw [drop_cons d j h]; simp [lead, e]
theorem lead_out (d : List Int) (q : Int) (j : Nat) (h : d.length ≤ j) : lead q (d.drop j) = 0 := by
  rw [List.drop_eq_nil_of_le h]; rfl
end Go.Proofs.Qxb6600322aMods
