/-
  The plain functions that 'readTime' and its model compute, and their laws.
-/
import Derived.Test.Qxb6600322aModsPrefix
namespace Go.Proofs.Qxb6600322aMods
set_option linter.unusedVariables false
set_option linter.unusedSimpArgs false

/-- A digit. -/
def dig (x : Int) : Bool := decide (48 ≤ x ∧ x ≤ 57)
/-- Two digits that write a number up to m. -/
def two (x y m : Int) : Bool := dig x && dig y && decide ((x - 48) * 10 + (y - 48) ≤ m)
/-- How many digits the list begins with. -/
def leadD : List Int → Nat
  | [] => 0
  | c :: r => if dig c then leadD r + 1 else 0
/-- How many zeros stand among them. -/
def zr : List Int → Nat
  | [] => 0
  | c :: r => if dig c then zr r + (if c = 48 then 1 else 0) else 0
/-- The digits counted, and whether all of them (and 'b' before them) are zeros. -/
def fr (b : Bool) : List Int → Nat × Bool
  | [] => (0, b)
  | c :: r => if dig c then ((fr (b && decide (c = 48)) r).1 + 1, (fr (b && decide (c = 48)) r).2) else (0, b)

theorem zr_le : ∀ l : List Int, zr l ≤ leadD l
  | [] => Nat.le_refl _
  | c :: r => by have := zr_le r; simp only [zr, leadD]; split <;> (try split) <;> omega
theorem leadD_le : ∀ l : List Int, leadD l ≤ l.length
  | [] => Nat.le_refl _
  | c :: r => by have := leadD_le r; simp only [leadD, List.length_cons]; split <;> omega
theorem fr_eq : ∀ (l : List Int) (b : Bool), fr b l = (leadD l, b && decide (zr l = leadD l))
  | [], b => by simp [fr, leadD, zr]
  | c :: r, b => by
    have hz := zr_le r
    by_cases h : dig c = true
    · have h1 : leadD (c :: r) = leadD r + 1 := by simp [leadD, h]
      have h2 : zr (c :: r) = zr r + (if c = 48 then 1 else 0) := by simp [zr, h]
      have h3 : fr b (c :: r) = ((fr (b && decide (c = 48)) r).1 + 1, (fr (b && decide (c = 48)) r).2) := by simp [fr, h]
      rw [h3, fr_eq r, h1, h2]
      by_cases e : c = 48
      · simp [e]
      · have : ¬ zr r = leadD r + 1 := by omega
        simp [e, this]
    · simp [fr, leadD, zr, h]

theorem drop_cons' (d : List Int) (j : Nat) (h : j < d.length) : d.drop j = nth d j :: d.drop (j + 1) := by
  rw [List.drop_eq_getElem_cons h]
  simp [nth, List.getD, List.getElem?_eq_getElem h]
theorem fr_hit (d : List Int) (j : Nat) (b : Bool) (h : j < d.length) (hd : dig (nth d j) = true) : fr b (d.drop j) = ((fr (b && decide (nth d j = 48)) (d.drop (j + 1))).1 + 1, (fr (b && decide (nth d j = 48)) (d.drop (j + 1))).2) := by
  rw [drop_cons' d j h]; simp only [fr, if_pos hd]
theorem fr_miss (d : List Int) (j : Nat) (b : Bool) (h : j < d.length) (hd : dig (nth d j) = false) : fr b (d.drop j) = (0, b) := by
  rw [drop_cons' d j h]; simp [fr, hd]
theorem fr_out (d : List Int) (j : Nat) (b : Bool) (h : d.length ≤ j) : fr b (d.drop j) = (0, b) := by
  rw [List.drop_eq_nil_of_le h]; rfl
theorem leadD_hit (d : List Int) (j : Nat) (h : j < d.length) (hd : dig (nth d j) = true) : leadD (d.drop j) = leadD (d.drop (j + 1)) + 1 ∧ zr (d.drop j) = zr (d.drop (j + 1)) + (if nth d j = 48 then 1 else 0) := by
  rw [drop_cons' d j h]; simp [leadD, zr, hd]
theorem leadD_miss (d : List Int) (j : Nat) (h : j < d.length) (hd : dig (nth d j) = false) : leadD (d.drop j) = 0 ∧ zr (d.drop j) = 0 := by
  rw [drop_cons' d j h]; simp [leadD, zr, hd]
theorem leadD_out (d : List Int) (j : Nat) (h : d.length ≤ j) : leadD (d.drop j) = 0 ∧ zr (d.drop j) = 0 := by
  rw [List.drop_eq_nil_of_le h]; exact ⟨rfl, rfl⟩

/-- The time's first eight bytes are well written. -/
def head8 (d : List Int) : Bool := decide (8 ≤ d.length) && decide (nth d 2 = 58) && decide (nth d 5 = 58) && two (nth d 0) (nth d 1) 23 && two (nth d 3) (nth d 4) 59 && two (nth d 6) (nth d 7) 60
/-- All six digits are zeros. -/
def mid8 (d : List Int) : Bool := decide (nth d 0 = 48) && decide (nth d 1 = 48) && decide (nth d 3 = 48) && decide (nth d 4 = 48) && decide (nth d 6 = 48) && decide (nth d 7 = 48)
/-- A point follows. -/
def pt (d : List Int) : Bool := decide (8 < d.length) && decide (nth d 8 = 46)
/-- What 'readTime' answers: how many bytes, and whether it is midnight. -/
def RT (d : List Int) : Option (Nat × Bool) :=
  if head8 d then
    if pt d then
      if leadD (d.drop 9) = 0 then none else some (9 + leadD (d.drop 9), mid8 d && decide (zr (d.drop 9) = leadD (d.drop 9)))
    else some (8, mid8 d)
  else none

/-- The eight bytes as the text compares them. -/
theorem mid8_take (d : List Int) (h : 8 ≤ d.length) (h2 : nth d 2 = 58) (h5 : nth d 5 = 58) : (d.take 8 = [48, 48, 58, 48, 48, 58, 48, 48]) ↔ mid8 d = true := by
  match d, h with
  | a :: b :: c :: e :: f :: g :: i :: j :: r, _ =>
    have h2' : c = 58 := h2
    have h5' : g = 58 := h5
    simp [mid8, nth, List.getD, h2', h5', and_assoc]
end Go.Proofs.Qxb6600322aMods
