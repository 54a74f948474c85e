/-
  'isJSONSpaceMcpb1' (12), 'skipSpace' (27), 'ZZskipSpace' (11) by their contracts.
-/
import Derived.Test.Qxb6601660aModsRows
import Derived.WalkKit
import Derived.WalkSpells
import Derived.ProofKit
import Derived.OpenShut
import Derived.Below
import Derived.Laws.CopyOwn
namespace Go.Proofs.Qxb6601660aMods
open Go.RowKit
set_option linter.unusedVariables false
set_option linter.unusedSimpArgs false

/-- The number at place i: a name of its own, which the walk does not open. -/
def nth (xs : List Int) (i : Nat) : Int := xs.getD i 0
theorem nth_take (xs : List Int) (k i : Nat) (h : i < k) : nth (xs.take k) i = nth xs i := by simp [nth, List.getD, h]

/-- A row of bytes that lies in memory: 'xs' from offset 'off' of block 'b' on. -/
def At (w : World) (b off : Nat) (xs : List Int) : Prop :=
  b < w.heap.size ∧ ∀ i, i < xs.length → w.cell? ⟨b, off + i, none⟩ = some (.int .u8 (nth xs i))

/-- JSON's white space. -/
def isSp (x : Int) : Bool := decide (x = 32 ∨ x = 9 ∨ x = 13 ∨ x = 10)
/-- How many blanks the list begins with. -/
def leadS : List Int → Nat
  | [] => 0
  | c :: r => if isSp c then leadS r + 1 else 0
/-- Where 'skipSpace' stops. -/
def skp (d : List Int) (i : Nat) : Nat := i + leadS (d.drop i)

theorem drop_cons (d : List Int) (j : Nat) (h : j < d.length) : d.drop j = nth d j :: d.drop (j + 1) := by
  rw [List.drop_eq_getElem_cons h]
  simp [nth, List.getD, List.getElem?_eq_getElem h]
theorem leadS_le : ∀ l : List Int, leadS l ≤ l.length
  | [] => Nat.le_refl _
  | c :: r => by have := leadS_le r; simp only [leadS, List.length_cons]; split <;> omega
theorem skp_hit (d : List Int) (j : Nat) (h : j < d.length) (e : isSp (nth d j) = true) : skp d j = skp d (j + 1) := by
  unfold skp; rw [drop_cons d j h]; simp [leadS, e]; omega
theorem skp_miss (d : List Int) (j : Nat) (h : j < d.length) (e : isSp (nth d j) = false) : skp d j = j := by
  unfold skp; rw [drop_cons d j h]; simp [leadS, e]
theorem skp_out (d : List Int) (j : Nat) (h : d.length ≤ j) : skp d j = j := by
  unfold skp; rw [List.drop_eq_nil_of_le h]; rfl
theorem skp_bounds (d : List Int) (j : Nat) (h : j ≤ d.length) : j ≤ skp d j ∧ skp d j ≤ d.length := by
  unfold skp; have := leadS_le (d.drop j); rw [List.length_drop] at this; omega
/-- All that was passed over is white space; what it stopped at is not. -/
theorem leadS_nth : ∀ (l : List Int) (k : Nat), k < leadS l → isSp (nth l k) = true
  | [], k, h => by simp [leadS] at h
  | c :: r, k, h => by
    simp only [leadS] at h
    by_cases e : isSp c = true
    · rw [if_pos e] at h
      cases k with
      | zero => exact e
      | succ k => have := leadS_nth r k (by omega); simpa [nth, List.getD] using this
    · rw [if_neg e] at h; omega
theorem leadS_stop : ∀ (l : List Int), leadS l < l.length → isSp (nth l (leadS l)) = false
  | [], h => by simp at h
  | c :: r, h => by
    simp only [leadS] at h ⊢
    by_cases e : isSp c = true
    · rw [if_pos e] at h ⊢
      have := leadS_stop r (by simpa using h)
      simpa [nth, List.getD] using this
    · rw [if_neg e]; simpa [nth, List.getD] using e
theorem nth_drop (xs : List Int) (k i : Nat) : nth (xs.drop k) i = nth xs (k + i) := by simp [nth, List.getD, List.getElem?_drop]
theorem skp_in (d : List Int) (i k : Nat) (h1 : i ≤ k) (h2 : k < skp d i) : isSp (nth d k) = true := by
  have := leadS_nth (d.drop i) (k - i) (by unfold skp at h2; omega)
  rw [nth_drop] at this
  have e : i + (k - i) = k := by omega
  rwa [e] at this
theorem skp_end (d : List Int) (i : Nat) (h : i ≤ d.length) (h2 : skp d i < d.length) : isSp (nth d (skp d i)) = false := by
  have := leadS_stop (d.drop i) (by rw [List.length_drop]; unfold skp at h2; omega)
  rwa [nth_drop] at this

theorem isp_any (x : Int) (w : World) : Calls Trym.prog 12 #[.int .u8 x] w fun e w' => e = .returned (.bool (isSp x)) ∧ w' = w := by
  have e : isSp x = (x == 32 || x == 9 || x == 13 || x == 10) := by rw [Bool.eq_iff_iff]; simp [isSp, or_assoc]
  by_cases h1 : x = 32
  · subst h1
    go_enter Trym.func12, Trym.ntmps12
    go_wp2
    go_ret
    exact ⟨rfl, rfl⟩
  by_cases h2 : x = 9
  · subst h2
    go_enter Trym.func12, Trym.ntmps12
    go_wp2
    go_ret
    exact ⟨rfl, rfl⟩
  by_cases h3 : x = 13
  · subst h3
    go_enter Trym.func12, Trym.ntmps12
    go_wp2
    go_ret
    exact ⟨rfl, rfl⟩
  by_cases h4 : x = 10
  · subst h4
    go_enter Trym.func12, Trym.ntmps12
    go_wp2
    go_ret
    exact ⟨rfl, rfl⟩
  have f : isSp x = false := by simp [isSp, h1, h2, h3, h4]
  rw [f]
  clear e f
  have b1 : (x == 32) = false := by simpa using h1
  have b2 : (x == 9) = false := by simpa using h2
  have b3 : (x == 13) = false := by simpa using h3
  have b4 : (x == 10) = false := by simpa using h4
  go_enter Trym.func12, Trym.ntmps12
  go_wp2
  go_ret
  exact ⟨rfl, rfl⟩

theorem skip_out (a : Option Addr) (n c : Nat) (i : Int) (w : World) (hi : (n : Int) ≤ i) :
    Calls Trym.prog 27 #[.slice a n c, .int .i64 i] w fun e w' => e = .returned (.int .i64 i) ∧ w' = w := by
  go_enter Trym.func27, Trym.ntmps27
  go_wp2
  go_loop [1] (fun v => v = .int .i64 i) (fun _ => 0)
  case atStart => rfl
  case round =>
    subst hrel
    go_wp2
    go_ret
    exact ⟨rfl, rfl⟩

set_option maxHeartbeats 800000 in
theorem skip_any (b o n c i : Nat) (d : List Int) (w : World) (hd : d.length = n) (hn : n ≤ 1048576) (hi : i ≤ n) (hat : At w b o d) :
    Calls Trym.prog 27 #[.slice (some ⟨b, o, none⟩) n c, .int .i64 i] w fun e w' => e = .returned (.int .i64 (skp d i)) ∧ w' = w := by
  obtain ⟨E, hE⟩ : ∃ E, E = skp d i := ⟨_, rfl⟩
  have HE : Hid (skp d i = E) := hE.symm
  rw [← hE]
  clear hE
  go_enter Trym.func27, Trym.ntmps27
  go_wp2
  go_loop [1] (fun v => ∃ k : Nat, k ≤ n ∧ v = .int .i64 k ∧ Hid (skp d k = E)) (fun v => n - (intOf v).toNat)
  case atStart => exact ⟨i, hi, rfl, HE⟩
  case round =>
    obtain ⟨k, hk, rfl, HK⟩ := hrel
    clear HE
    by_cases hkn : k < n
    · have hck := hat.2 k (by omega)
      obtain ⟨v, hv⟩ : ∃ v, nth d k = v := ⟨_, rfl⟩
      rw [hv] at hck
      have HV : Hid (nth d k = v) := hv
      clear hv
      by_cases hs : v = 32 ∨ v = 9 ∨ v = 13 ∨ v = 10
      · have HS : Hid (skp d (k + 1) = E) := by
          rw [← skp_hit d k (by omega) (by rw [HV.out]; simpa [isSp] using hs)]; exact HK
        clear HK
        rcases hs with rfl | rfl | rfl | rfl
        all_goals
          go_wp2
          go_round
          case rel => exact ⟨k + 1, by omega, by go_num, HS⟩
          case measure => simp [intOf]; omega
      · have b1 : (v == 32) = false := by simp; omega
        have b2 : (v == 9) = false := by simp; omega
        have b3 : (v == 13) = false := by simp; omega
        have b4 : (v == 10) = false := by simp; omega
        go_wp2
        go_ret
        have := HK.out
        rw [skp_miss d k (by omega) (by rw [HV.out]; simpa [isSp] using hs)] at this
        rw [← this]
        exact ⟨rfl, rfl⟩
    · go_wp2
      go_ret
      have := HK.out
      rw [skp_out d k (by omega)] at this
      rw [← this]
      exact ⟨rfl, rfl⟩

theorem zzskip_out (a : Option Addr) (n c : Nat) (i : Int) (w : World) (hi : (n : Int) ≤ i) :
    Calls Trym.prog 11 #[.slice a n c, .int .i64 i] w fun e w' => e = .returned (.int .i64 i) ∧ w' = w := by
  have hcon := skip_out a n c i w hi
  go_enter Trym.func11, Trym.ntmps11
  go_wp2_with (go_at_call 27; refine hcon.mono ?_; rintro e w' ⟨rfl, rfl⟩)
  go_ret
  exact ⟨rfl, rfl⟩
theorem zzskip_any (b o n c i : Nat) (d : List Int) (w : World) (hd : d.length = n) (hn : n ≤ 1048576) (hi : i ≤ n) (hat : At w b o d) :
    Calls Trym.prog 11 #[.slice (some ⟨b, o, none⟩) n c, .int .i64 i] w fun e w' => e = .returned (.int .i64 (skp d i)) ∧ w' = w := by
  have hcon := skip_any b o n c i d w hd hn hi hat
  generalize skp d i = E at hcon ⊢
  clear hat
  go_enter Trym.func11, Trym.ntmps11
  go_wp2_with (go_at_call 27; refine hcon.mono ?_; rintro e w' ⟨rfl, rfl⟩)
  go_ret
  exact ⟨rfl, rfl⟩
end Go.Proofs.Qxb6601660aMods
