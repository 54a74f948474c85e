/-
  The plain function that 'withoutSpans' and its model compute, and its laws.
-/
import Derived.Test.Qxb6600804aModsValid
namespace Go.Proofs.Qxb6600804aMods
set_option linter.unusedVariables false
set_option linter.unusedSimpArgs false

/-- A line break starts at place p of a span that starts at a (an LF behind its CR in the span does not count). -/
def isB (d : List Int) (a p : Nat) : Bool := decide (lb d p ≠ 0) && !decide (nth d p = 10 ∧ a < p ∧ nth d (p - 1) = 13)
/-- How many line breaks start in the first m places of a span that starts at a. -/
def cn (d : List Int) (a : Nat) : Nat → Nat
  | 0 => 0
  | m + 1 => cn d a m + (if isB d a (a + m) then 1 else 0)
/-- The bytes from a to b. -/
def seg (d : List Int) (a b : Nat) : List Int := (d.drop a).take (b - a)
def sp (S : List Int) (k : Nat) : Nat := (nth S k).toNat
def ep (E : List Int) (k : Nat) : Nat := (nth E k).toNat
def fr (E : List Int) (k : Nat) : Nat := (frI E k).toNat
/-- What stands behind the first k spans. -/
def acc (d S E : List Int) : Nat → List Int
  | 0 => []
  | k + 1 => acc d S E k ++ seg d (fr E k) (sp S k) ++ List.replicate (cn d (sp S k) (ep E k - sp S k)) 10
/-- The whole answer. -/
def wsl (d S E : List Int) (q : Nat) : List Int := acc d S E q ++ d.drop (fr E q)

theorem cn_le (d : List Int) (a : Nat) : ∀ m, cn d a m ≤ m
  | 0 => Nat.le_refl _
  | m + 1 => by have := cn_le d a m; simp only [cn]; split <;> omega
theorem seg_len (d : List Int) (a b : Nat) (h : b ≤ d.length) : (seg d a b).length = b - a := by simp [seg]; omega

theorem val_fr {n : Nat} {S E : List Int} : ∀ {k q : Nat}, Val n S E q → k ≤ q → 0 ≤ frI E k ∧ frI E k ≤ (n : Int)
  | 0, q, _, _ => by simp [frI]
  | k + 1, q, h, hk => by
    have ih := val_fr (k := k) h (by omega)
    have := h k (by omega)
    simp only [frI]; omega
/-- The k-th span, as numbers. -/
theorem val_at {n q k : Nat} {S E : List Int} (h : Val n S E q) (hk : k < q) :
    nth S k = (sp S k : Nat) ∧ nth E k = (ep E k : Nat) ∧ frI E k = (fr E k : Nat) ∧ frI E (k + 1) = (fr E (k + 1) : Nat) ∧ fr E (k + 1) = ep E k ∧ fr E k ≤ sp S k ∧ sp S k ≤ ep E k ∧ ep E k ≤ n := by
  have h1 := val_fr (k := k) h (by omega)
  have h2 := val_fr (k := k + 1) h (by omega)
  have h3 := h k hk
  have h4 : frI E (k + 1) = nth E k := rfl
  unfold sp ep fr
  omega
theorem val_frq {n q : Nat} {S E : List Int} (h : Val n S E q) : frI E q = (fr E q : Nat) ∧ fr E q ≤ n := by
  have := val_fr (k := q) h (Nat.le_refl _)
  unfold fr; omega

theorem acc_len {n q : Nat} {d S E : List Int} (hd : d.length = n) (h : Val n S E q) : ∀ {k : Nat}, k ≤ q → (acc d S E k).length ≤ fr E k
  | 0, _ => by simp [acc]
  | k + 1, hk => by
    have ih := acc_len hd h (k := k) (by omega)
    obtain ⟨_, _, _, _, e5, e6, e7, e8⟩ := val_at h (show k < q by omega)
    have hc := cn_le d (sp S k) (ep E k - sp S k)
    have hs := seg_len d (fr E k) (sp S k) (by omega)
    simp only [acc, List.length_append, List.length_replicate, hs]
    omega
theorem wsl_len {n q : Nat} {d S E : List Int} (hd : d.length = n) (h : Val n S E q) : (wsl d S E q).length ≤ n := by
  have h1 := acc_len hd h (Nat.le_refl q)
  have h2 := (val_frq h).2
  simp only [wsl, List.length_append, List.length_drop]
  omega

/-! Stepping. -/
/-- Place i is no LF behind its CR. -/
def Ali (d : List Int) (a i : Nat) : Prop := a < i → ¬ (nth d (i - 1) = 13 ∧ nth d i = 10)

theorem lb_cases (d : List Int) (i : Nat) : (lb d i = 2 ∧ nth d i = 13 ∧ nth d (i + 1) = 10) ∨ (lb d i = 1 ∧ nth d i = 13 ∧ nth d (i + 1) ≠ 10) ∨ (lb d i = 1 ∧ nth d i = 10) ∨
    (lb d i = 2 ∧ nth d i = 194 ∧ nth d (i + 1) = 133) ∨ (lb d i = 3 ∧ nth d i = 226 ∧ nth d (i + 1) = 128 ∧ (nth d (i + 2) = 168 ∨ nth d (i + 2) = 169)) ∨ (lb d i = 0 ∧ nth d i ≠ 13 ∧ nth d i ≠ 10) := by
  unfold lb
  by_cases e1 : nth d i = 13 ∧ nth d (i + 1) = 10
  · rw [if_pos e1]; exact .inl ⟨rfl, e1⟩
  rw [if_neg e1]
  by_cases e2 : nth d i = 13 ∨ nth d i = 10
  · rw [if_pos e2]
    rcases e2 with e2 | e2
    · exact .inr (.inl ⟨rfl, e2, fun h => e1 ⟨e2, h⟩⟩)
    · exact .inr (.inr (.inl ⟨rfl, e2⟩))
  rw [if_neg e2]
  by_cases e3 : nth d i = 194 ∧ nth d (i + 1) = 133
  · rw [if_pos e3]; exact .inr (.inr (.inr (.inl ⟨rfl, e3⟩)))
  rw [if_neg e3]
  by_cases e4 : nth d i = 226 ∧ nth d (i + 1) = 128 ∧ (nth d (i + 2) = 168 ∨ nth d (i + 2) = 169)
  · rw [if_pos e4]; exact .inr (.inr (.inr (.inr (.inl ⟨rfl, e4⟩))))
  rw [if_neg e4]
  exact .inr (.inr (.inr (.inr (.inr ⟨rfl, by omega, by omega⟩))))

theorem lb_none_of {d : List Int} {p : Nat} (h : nth d p = 133 ∨ nth d p = 128 ∨ nth d p = 168 ∨ nth d p = 169) : lb d p = 0 := by
  rcases lb_cases d p with h' | h' | h' | h' | h' | h' <;> omega

/-- A break that is met counts one. -/
theorem isB_hit {d : List Int} {a i : Nat} (hal : Ali d a i) (h : lb d i ≠ 0) : isB d a i = true := by
  unfold isB
  have : ¬ (nth d i = 10 ∧ a < i ∧ nth d (i - 1) = 13) := fun hh => hal hh.2.1 ⟨hh.2.2, hh.1⟩
  simp [h, this]
theorem isB_miss {d : List Int} {a i : Nat} (h : lb d i = 0) : isB d a i = false := by simp [isB, h]
/-- What lies inside a break does not count. -/
theorem isB_inside {d : List Int} {a i t : Nat} (hai : a ≤ i) (h0 : 0 < t) (h1 : t < lb d i) : isB d a (i + t) = false := by
  rcases lb_cases d i with h' | h' | h' | h' | h' | h'
  · have et : t = 1 := by omega
    subst et
    unfold isB
    have e : i + 1 - 1 = i := by omega
    have : nth d (i + 1) = 10 ∧ a < i + 1 ∧ nth d (i + 1 - 1) = 13 := ⟨h'.2.2, by omega, by rw [e]; exact h'.2.1⟩
    rw [decide_eq_true this]; simp
  · omega
  · omega
  · have et : t = 1 := by omega
    subst et
    exact isB_miss (lb_none_of (.inl h'.2.2))
  · have et : t = 1 ∨ t = 2 := by omega
    rcases et with rfl | rfl
    · exact isB_miss (lb_none_of (.inr (.inl h'.2.2.1)))
    · exact isB_miss (lb_none_of (by rcases h'.2.2.2 with h | h <;> simp [h]))
  · omega
theorem ali_hit {d : List Int} {a i : Nat} (h : lb d i ≠ 0) : Ali d a (i + lb d i) := by
  intro _ hh
  rcases lb_cases d i with h' | h' | h' | h' | h' | h'
  · rw [h'.1] at hh; have e : i + 2 - 1 = i + 1 := by omega
    rw [e] at hh; omega
  · rw [h'.1] at hh; have e : i + 1 - 1 = i := by omega
    rw [e] at hh; omega
  · rw [h'.1] at hh; have e : i + 1 - 1 = i := by omega
    rw [e] at hh; omega
  · rw [h'.1] at hh; have e : i + 2 - 1 = i + 1 := by omega
    rw [e] at hh; omega
  · rw [h'.1] at hh; have e : i + 3 - 1 = i + 2 := by omega
    rw [e] at hh; omega
  · omega
theorem ali_miss {d : List Int} {a i : Nat} (h : lb d i = 0) : Ali d a (i + 1) := by
  intro _ hh
  have e : i + 1 - 1 = i := by omega
  rw [e] at hh
  rcases lb_cases d i with h' | h' | h' | h' | h' | h' <;> omega

theorem cn_next (d : List Int) (a i : Nat) (h : a ≤ i) : cn d a (i + 1 - a) = cn d a (i - a) + (if isB d a i then 1 else 0) := by
  have e : i + 1 - a = (i - a) + 1 := by omega
  have e2 : a + (i - a) = i := by omega
  rw [e]; simp only [cn, e2]
theorem cn_hit (d : List Int) (a i e : Nat) (hai : a ≤ i) (hie : i < e) (hal : Ali d a i) (h : lb d i ≠ 0) : cn d a (min (i + lb d i) e - a) = cn d a (i - a) + 1 := by
  have s1 := cn_next d a i hai
  rw [if_pos (isB_hit hal h)] at s1
  have hb : lb d i = 1 ∨ lb d i = 2 ∨ lb d i = 3 := by rcases lb_cases d i with h' | h' | h' | h' | h' | h' <;> omega
  have s2 : 1 < lb d i → cn d a (i + 1 + 1 - a) = cn d a (i + 1 - a) := fun hh => by
    have := cn_next d a (i + 1) (by omega)
    rw [isB_inside (t := 1) hai (by omega) hh] at this
    simpa using this
  have s3 : 2 < lb d i → cn d a (i + 1 + 1 + 1 - a) = cn d a (i + 1 + 1 - a) := fun hh => by
    have := cn_next d a (i + 1 + 1) (by omega)
    rw [show isB d a (i + 1 + 1) = false from isB_inside (t := 2) hai (by omega) hh] at this
    simpa using this
  have hm : min (i + lb d i) e = i + 1 ∨ (min (i + lb d i) e = i + 1 + 1 ∧ 1 < lb d i) ∨ (min (i + lb d i) e = i + 1 + 1 + 1 ∧ 2 < lb d i) := by omega
  rcases hm with hm | ⟨hm, hh⟩ | ⟨hm, hh⟩
  · rw [hm]; exact s1
  · rw [hm, s2 hh]; exact s1
  · rw [hm, s3 hh, s2 (by omega)]; exact s1
theorem cn_miss (d : List Int) (a i e : Nat) (hai : a ≤ i) (hie : i < e) (h : lb d i = 0) : cn d a (min (i + 1) e - a) = cn d a (i - a) := by
  have s1 := cn_next d a i hai
  rw [isB_miss h] at s1
  have hm : min (i + 1) e = i + 1 := by omega
  rw [hm]; simpa using s1
theorem lb_le3 (d : List Int) (i : Nat) : lb d i ≤ 3 := by rcases lb_cases d i with h' | h' | h' | h' | h' | h' <;> omega
end Go.Proofs.Qxb6600804aMods
