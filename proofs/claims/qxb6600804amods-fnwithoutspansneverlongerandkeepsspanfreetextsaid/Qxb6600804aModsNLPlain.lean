/-
  What the answer keeps of the text.
-/
import Derived.Test.Qxb6600804aModsWSZero
namespace Go.Proofs.Qxb6600804aMods
set_option linter.unusedVariables false
set_option linter.unusedSimpArgs false

theorem take_seg (d : List Int) (a b : Nat) (h : a ≤ b) : d.take a ++ seg d a b = d.take b := by
  have e : b = a + (b - a) := by omega
  unfold seg
  rw [e, List.take_add]
  congr 2
  omega

theorem acc_empty {n q : Nat} {d S E : List Int} (h : Val n S E q) (he : ∀ j, j < q → nth S j = nth E j) : ∀ {k : Nat}, k ≤ q → acc d S E k = d.take (fr E k)
  | 0, _ => by simp [acc, fr, frI]
  | k + 1, hk => by
    have ih := acc_empty h he (d := d) (k := k) (by omega)
    obtain ⟨v1, v2, v3, v4, v5, v6, v7, v8⟩ := val_at h (show k < q by omega)
    have hj := he k (by omega)
    have e1 : sp S k = ep E k := by unfold sp ep; rw [hj]
    have e2 : ep E k - sp S k = 0 := by omega
    simp only [acc]
    rw [ih, e2, take_seg d _ _ v6, v5, ← e1]
    simp [cn]
theorem wsl_empty {n q : Nat} {d S E : List Int} (h : Val n S E q) (he : ∀ j, j < q → nth S j = nth E j) : wsl d S E q = d := by
  unfold wsl
  rw [acc_empty h he (Nat.le_refl _), List.take_append_drop]

theorem acc_first {n q : Nat} {d S E : List Int} (h : Val n S E q) : ∀ {k : Nat}, k + 1 ≤ q → ∃ M, acc d S E (k + 1) = d.take (sp S 0) ++ M
  | 0, _ => by
    refine ⟨List.replicate (cn d (sp S 0) (ep E 0 - sp S 0)) 10, ?_⟩
    simp only [acc, List.nil_append]
    have : seg d (fr E 0) (sp S 0) = d.take (sp S 0) := by simp [seg, fr, frI]
    rw [this]
  | k + 1, hk => by
    obtain ⟨M, hM⟩ := acc_first h (d := d) (k := k) (by omega)
    refine ⟨M ++ (seg d (fr E (k + 1)) (sp S (k + 1)) ++ List.replicate (cn d (sp S (k + 1)) (ep E (k + 1) - sp S (k + 1))) 10), ?_⟩
    show acc d S E (k + 1) ++ _ ++ _ = _
    rw [hM, List.append_assoc, List.append_assoc]

theorem nth_app_left (a b : List Int) (i : Nat) (h : i < a.length) : nth (a ++ b) i = nth a i := by
  simp [nth, List.getD, List.getElem?_append_left h]
theorem nth_app_right (a b : List Int) (i : Nat) : nth (a ++ b) (a.length + i) = nth b i := by
  simp [nth, List.getD, List.getElem?_append_right]

/-- The text before the first span. -/
theorem wsl_first {n q : Nat} {d S E : List Int} (hd : d.length = n) (h : Val n S E q) (hq : 0 < q) : sp S 0 ≤ (wsl d S E q).length ∧ ∀ p, p < sp S 0 → nth (wsl d S E q) p = nth d p := by
  obtain ⟨k, rfl⟩ : ∃ k, q = k + 1 := ⟨q - 1, by omega⟩
  obtain ⟨M, hM⟩ := acc_first h (d := d) (k := k) (Nat.le_refl _)
  obtain ⟨v1, v2, v3, v4, v5, v6, v7, v8⟩ := val_at h hq
  have hl : (d.take (sp S 0)).length = sp S 0 := by simp; omega
  have e : wsl d S E (k + 1) = d.take (sp S 0) ++ (M ++ d.drop (fr E (k + 1))) := by unfold wsl; rw [hM, List.append_assoc]
  rw [e]
  refine ⟨by rw [List.length_append, hl]; omega, fun p hp => ?_⟩
  rw [nth_app_left _ _ _ (by omega), nth_take _ _ _ hp]
/-- The text behind the last one. -/
theorem wsl_last {n q : Nat} {d S E : List Int} (hd : d.length = n) (h : Val n S E q) (hq : 0 < q) : ep E (q - 1) ≤ n ∧ n - ep E (q - 1) ≤ (wsl d S E q).length ∧ nth E (q - 1) = (ep E (q - 1) : Nat) ∧
    ∀ k, k < n - ep E (q - 1) → nth (wsl d S E q) ((wsl d S E q).length - (n - ep E (q - 1)) + k) = nth d (ep E (q - 1) + k) := by
  obtain ⟨v1, v2, v3, v4, v5, v6, v7, v8⟩ := val_at h (show q - 1 < q by omega)
  have e1 : q - 1 + 1 = q := by omega
  rw [e1] at v5 v4
  have hl : (wsl d S E q).length = (acc d S E q).length + (n - ep E (q - 1)) := by
    unfold wsl; rw [List.length_append, List.length_drop, hd, v5]
  refine ⟨v8, by omega, v2, fun k hk => ?_⟩
  have e2 : (wsl d S E q).length - (n - ep E (q - 1)) + k = (acc d S E q).length + k := by omega
  rw [e2]
  unfold wsl
  rw [nth_app_right, nth_drop, v5]
end Go.Proofs.Qxb6600804aMods
