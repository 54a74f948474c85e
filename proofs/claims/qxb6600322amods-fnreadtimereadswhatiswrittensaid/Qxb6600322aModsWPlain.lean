/-
  What 'readTime' answers at a time that was written; a slice's view, nil or not; 'cloneBytes' at it.
-/
import Derived.Test.Qxb6600322aModsTAll
namespace Go.Proofs.Qxb6600322aMods
open Go.RowKit
set_option linter.unusedVariables false
set_option linter.unusedSimpArgs false

/-- The eight bytes of a time. -/
def t8 (h m s : Int) : List Int := [48 + h / 10, 48 + h % 10, 58, 48 + m / 10, 48 + m % 10, 58, 48 + s / 10, 48 + s % 10]
theorem nth_t8 (h m s : Int) (r : List Int) : nth (t8 h m s ++ r) 0 = 48 + h / 10 ∧ nth (t8 h m s ++ r) 1 = 48 + h % 10 ∧ nth (t8 h m s ++ r) 2 = 58 ∧ nth (t8 h m s ++ r) 3 = 48 + m / 10 ∧ nth (t8 h m s ++ r) 4 = 48 + m % 10 ∧ nth (t8 h m s ++ r) 5 = 58 ∧
    nth (t8 h m s ++ r) 6 = 48 + s / 10 ∧ nth (t8 h m s ++ r) 7 = 48 + s % 10 ∧ (t8 h m s ++ r).drop 8 = r ∧ (t8 h m s ++ r).length = 8 + r.length := by
  refine ⟨rfl, rfl, rfl, rfl, rfl, rfl, rfl, rfl, rfl, ?_⟩
  simp [t8]; omega

theorem two_of {x m : Int} (h0 : 0 ≤ x) (h1 : x ≤ m) (h2 : m ≤ 60) : two (48 + x / 10) (48 + x % 10) m = true := by
  simp [two, dig]; omega

theorem head_of {h m s : Int} (r : List Int) (h0 : 0 ≤ h ∧ h ≤ 23) (m0 : 0 ≤ m ∧ m ≤ 59) (s0 : 0 ≤ s ∧ s ≤ 60) : head8 (t8 h m s ++ r) = true := by
  obtain ⟨e0, e1, e2, e3, e4, e5, e6, e7, _, el⟩ := nth_t8 h m s r
  unfold head8
  rw [e0, e1, e2, e3, e4, e5, e6, e7, el, two_of h0.1 h0.2 (by omega), two_of m0.1 m0.2 (by omega), two_of s0.1 s0.2 (by omega)]
  simp

theorem mid_of {h m s : Int} (r : List Int) (h0 : 0 ≤ h ∧ h ≤ 23) (m0 : 0 ≤ m ∧ m ≤ 59) (s0 : 0 ≤ s ∧ s ≤ 60) : mid8 (t8 h m s ++ r) = decide (h = 0 ∧ m = 0 ∧ s = 0) := by
  obtain ⟨e0, e1, e2, e3, e4, e5, e6, e7, _, el⟩ := nth_t8 h m s r
  unfold mid8
  rw [e0, e1, e3, e4, e6, e7, Bool.eq_iff_iff]
  simp only [Bool.and_eq_true, decide_eq_true_eq]
  omega

/-- All numbers of the list are digits. -/
def allD (F : List Int) : Prop := ∀ x ∈ F, dig x = true
theorem leadD_app : ∀ (F T : List Int), allD F → (T = [] ∨ dig (nth T 0) = false) → leadD (F ++ T) = F.length ∧ zr (F ++ T) = zr F ∧ leadD F = F.length
  | [], T, _, hT => by
    rcases hT with rfl | hT
    · exact ⟨rfl, rfl, rfl⟩
    · cases T with
      | nil => exact ⟨rfl, rfl, rfl⟩
      | cons c r =>
        have hc : dig c = false := hT
        simp [leadD, zr, hc]
  | c :: F, T, hF, hT => by
    have hc : dig c = true := hF c (by simp)
    obtain ⟨a, b, e⟩ := leadD_app F T (fun x hx => hF x (by simp [hx])) hT
    simp [leadD, zr, hc, a, b, e]
/-- All zeros. -/
def allZ (F : List Int) : Bool := F.all fun x => decide (x = 48)
theorem zr_all : ∀ F : List Int, allD F → (zr F = F.length ↔ allZ F = true)
  | [], _ => by simp [zr, allZ]
  | c :: F, hF => by
    have hc : dig c = true := hF c (by simp)
    have ih := zr_all F (fun x hx => hF x (by simp [hx]))
    have hle := zr_le F
    have hll := leadD_le F
    simp only [zr, hc, if_true, List.length_cons, allZ, List.all_cons] at ih ⊢
    by_cases e : c = 48
    · simp only [e, if_true]; simp [← ih]
    · simp only [e, if_false]; simp; omega

theorem RT_bare {h m s : Int} {T : List Int} (h0 : 0 ≤ h ∧ h ≤ 23) (m0 : 0 ≤ m ∧ m ≤ 59) (s0 : 0 ≤ s ∧ s ≤ 60) (hT : T = [] ∨ nth T 0 ≠ 46) : RT (t8 h m s ++ T) = some (8, decide (h = 0 ∧ m = 0 ∧ s = 0)) := by
  unfold RT
  have hp : pt (t8 h m s ++ T) = false := by
    unfold pt
    rcases hT with rfl | hT
    · rfl
    · have : nth (t8 h m s ++ T) 8 = nth T 0 := rfl
      rw [this]; simp [hT]
  rw [if_pos (head_of T h0 m0 s0), hp, mid_of T h0 m0 s0]
  rfl
theorem RT_frac {h m s : Int} {F T : List Int} (h0 : 0 ≤ h ∧ h ≤ 23) (m0 : 0 ≤ m ∧ m ≤ 59) (s0 : 0 ≤ s ∧ s ≤ 60) (hF : allD F) (hne : F ≠ []) (hT : T = [] ∨ dig (nth T 0) = false) :
    RT (t8 h m s ++ (46 :: F ++ T)) = some (9 + F.length, decide (h = 0 ∧ m = 0 ∧ s = 0) && allZ F) := by
  unfold RT
  have hp : pt (t8 h m s ++ (46 :: F ++ T)) = true := by
    unfold pt
    have e1 : nth (t8 h m s ++ (46 :: F ++ T)) 8 = 46 := rfl
    rw [e1]; simp [t8]
  have hd : (t8 h m s ++ (46 :: F ++ T)).drop 9 = F ++ T := rfl
  obtain ⟨a, b, e⟩ := leadD_app F T hF hT
  have hl : F.length ≠ 0 := fun h' => hne (List.eq_nil_of_length_eq_zero h')
  rw [if_pos (head_of _ h0 m0 s0), if_pos hp, hd, a, b, if_neg hl, mid_of _ h0 m0 s0]
  have : decide (zr F = F.length) = allZ F := by rw [Bool.eq_iff_iff, decide_eq_true_eq]; exact zr_all F hF
  rw [this]
theorem byt_t8 {h m s : Int} (h0 : 0 ≤ h ∧ h ≤ 23) (m0 : 0 ≤ m ∧ m ≤ 59) (s0 : 0 ≤ s ∧ s ≤ 60) : Byt (t8 h m s) := by
  intro x hx
  simp [t8] at hx
  omega
theorem byt_app {a b : List Int} (h1 : Byt a) (h2 : Byt b) : Byt (a ++ b) := fun x hx => by
  rcases List.mem_append.1 hx with h | h
  · exact h1 x h
  · exact h2 x h

/-- A slice, nil or not, of which only the elements matter. -/
def Vw (w : World) (a : Option Addr) (len : Nat) (xs : List Int) : Prop :=
  xs.length = len ∧ (a = none → len = 0) ∧ (0 < len → ∃ b o, a = some ⟨b, o, none⟩ ∧ At w b o xs)
theorem Vw.below {w w' : World} {a : Option Addr} {len : Nat} {xs : List Int} (h : Vw w a len xs) (hb : Below w.heap.size w w') : Vw w' a len xs :=
  ⟨h.1, h.2.1, fun hp => let ⟨b, o, e, hat⟩ := h.2.2 hp; ⟨b, o, e, hat.below hb⟩⟩

theorem clone_v (a : Option Addr) (len cap : Nat) (xs : List Int) (w : World) (hlen : len ≤ 1048576) (hv : Vw w a len xs) (hc : a = none → cap = 0) :
    Calls Trym.prog 11 #[.slice a len cap] w fun e w' => (∃ a', e = .returned (.slice a' len len) ∧ Vw w' a' len xs) ∧ Below w.heap.size w w' := by
  cases a with
  | none =>
    have h0 := hv.2.1 rfl
    have c0 := hc rfl
    subst h0
    subst c0
    refine (clone_nil w).mono fun e w' h => ⟨⟨none, h.1, ?_⟩, by rw [h.2]; exact Below.refl _ _⟩
    rw [h.2]; exact hv
  | some x =>
    by_cases hp : 0 < len
    · obtain ⟨b, o, e, hat⟩ := hv.2.2 hp
      cases e
      refine (clone_some ⟨b, o, none⟩ len cap xs w hlen hv.1 (fun i hi => by rw [Addr.add_lit]; exact hat.2 i (by rw [hv.1]; exact hi))).mono fun e w' h => ⟨⟨_, h.1, hv.1, fun h' => (by cases h'), fun _ => ⟨_, 0, rfl, h.2.2⟩⟩, h.2.1⟩
    · have hl0 : len = 0 := by omega
      subst hl0
      refine (clone_some x 0 cap xs w hlen hv.1 (fun i hi => absurd hi (Nat.not_lt_zero _))).mono fun e w' h => ⟨⟨_, h.1, hv.1, fun h' => (by cases h'), fun h' => absurd h' (Nat.lt_irrefl _)⟩, h.2.1⟩

/-- 'sameBytes' at two views of one list. -/
theorem same_v (a1 a2 : Option Addr) (n c1 c2 : Nat) (xs : List Int) (w : World) (hn : n ≤ 1048576) (h1 : Vw w a1 n xs) (h2 : Vw w a2 n xs) :
    Calls Trym.prog 14 #[.slice a1 n c1, .slice a2 n c2] w fun e w' => e = .returned (.bool true) ∧ Below w.heap.size w w' := by
  by_cases hp : 0 < n
  · obtain ⟨b1, o1, rfl, k1⟩ := h1.2.2 hp
    obtain ⟨b2, o2, rfl, k2⟩ := h2.2.2 hp
    exact same_true b1 o1 b2 o2 n c1 c2 xs w h1.1 hn k1 k2
  · have h0 : n = 0 := by omega
    subst h0
    exact (same_empty a1 a2 c1 c2 w).mono fun e w' h => ⟨h.1, by rw [h.2]; exact Below.refl _ _⟩
end Go.Proofs.Qxb6600322aMods
