/-
  'readTime' (22), 'ZZreadTime' (12): the whole contract.
-/
import Derived.Test.Qxb6600322aModsTRead
namespace Go.Proofs.Qxb6600322aMods
open Go.RowKit
set_option linter.unusedVariables false
set_option linter.unusedSimpArgs false

theorem byt_take {d : List Int} (h : Byt d) (k : Nat) : Byt (d.take k) := fun x hx => h x (List.mem_of_mem_take hx)

theorem mid_bytes (d : List Int) (hby : Byt d) (h : 8 ≤ d.length) (h2 : nth d 2 = 58) (h5 : nth d 5 = 58) : ((strOfNums (d.take 8)).toList == [48, 48, 58, 48, 48, 58, 48, 48]) = mid8 d := by
  have e : (strOfNums (d.take 8)).toList = (d.take 8).map fun n => UInt8.ofNat n.toNat := Lib.strOfNums_toList _
  have k : ([48, 48, 58, 48, 48, 58, 48, 48] : List UInt8) = ([48, 48, 58, 48, 48, 58, 48, 48] : List Int).map fun n => UInt8.ofNat n.toNat := by decide
  rw [e, k, Bool.eq_iff_iff, ← mid8_take d h h2 h5, beq_iff_eq]
  constructor
  · intro h'
    exact nums_inj (byt_take hby 8) (by intro x hx; simp at hx; omega) h'
  · intro h'; rw [h']

theorem head8_false {d : List Int} {n : Nat} (hd : d.length = n) (hn : 8 ≤ n) (h2 : nth d 2 = 58) (h5 : nth d 5 = 58) : head8 d = (two (nth d 0) (nth d 1) 23 && two (nth d 3) (nth d 4) 59 && two (nth d 6) (nth d 7) 60) := by
  simp [head8, h2, h5, hd, hn]

/-- 'readTime' at a row that lies in memory. -/
theorem rt_all (b o n c : Nat) (d : List Int) (w : World) (hn2 : n ≤ 2097152) (hnc : n ≤ c) (hd : d.length = n) (hby : Byt d) (hat : At w b o d) :
    Calls Trym.prog 22 #[.slice (some ⟨b, o, none⟩) n c] w fun e w' => RTPost b n c d (RT d) e w' ∧ Below w.heap.size w w' := by
  by_cases h8 : 8 ≤ n
  · by_cases h2 : nth d 2 = 58
    · by_cases h5 : nth d 5 = 58
      · have hh := head8_false hd h8 h2 h5
        have q2 := cell_at hat 2 (by omega) h2
        have q5 := cell_at hat 5 (by omega) h5
        have k0 := fun (W : World) (hW : Below w.heap.size w W) => two_is b o c (nth d 0) (nth d 1) 23 _ W ((hat.below hW).2 0 (by omega)) ((hat.below hW).2 1 (by omega)) rfl
        have k1 := fun (W : World) (hW : Below w.heap.size w W) => two_is b (o + 3) (c - 3) (nth d 3) (nth d 4) 59 _ W ((hat.below hW).2 3 (by omega)) ((hat.below hW).2 4 (by omega)) rfl
        have k2 := fun (W : World) (hW : Below w.heap.size w W) => two_is b (o + 6) (c - 6) (nth d 6) (nth d 7) 60 _ W ((hat.below hW).2 6 (by omega)) ((hat.below hW).2 7 (by omega)) rfl
        cases hH : head8 d with
        | false =>
          have hR : RT d = none := by simp [RT, hH]
          rw [hR]
          rw [hH] at hh
          exact rt_two b o n c _ _ _ w h8 hnc q2 q5 k0 k1 k2 hh.symm
        | true =>
          rw [hH] at hh
          have hh' := hh.symm
          simp only [Bool.and_eq_true] at hh'
          obtain ⟨⟨t0, t1⟩, t2⟩ := hh'
          rw [t0] at k0
          rw [t1] at k1
          rw [t2] at k2
          exact rt_main b o n c (mid8 d) d (RT d) w h8 hn2 hnc hd hat q2 q5 k0 k1 k2 (mid_bytes d hby (by omega) h2 h5)
            (fun h => by simp [RT, hH, h]) (fun h h' => by simp [RT, hH, h, h']) (fun h h' => by simp [RT, hH, h, h'])
      · have hR : RT d = none := by simp [RT, head8, h5]
        rw [hR]
        exact rt_colon5 b o n c (nth d 5) w h8 (cell_at hat 2 (by omega) h2) (hat.2 5 (by omega)) (by simpa using h5)
    · have hR : RT d = none := by simp [RT, head8, h2]
      rw [hR]
      exact rt_colon2 b o n c (nth d 2) w h8 (hat.2 2 (by omega)) (by simpa using h2)
  · have hR : RT d = none := by simp [RT, head8, hd, h8]
    rw [hR]
    exact rt_short _ n c w (by omega)

theorem zzrt (a : Option Addr) (n c : Nat) (w : World) (Q : Ending → World → Prop) (h : Calls Trym.prog 22 #[.slice a n c] w fun e w' => (∃ v0 v1 v2, e = .returned (.tuple #[v0, v1, v2])) ∧ Q e w') :
    Calls Trym.prog 12 #[.slice a n c] w Q := by
  go_enter Trym.func12, Trym.ntmps12
  go_wp2_with (go_at_call 22; refine h.mono ?_; rintro e w' ⟨⟨v0, v1, v2, rfl⟩, hq⟩)
  go_ret3
  exact hq
end Go.Proofs.Qxb6600322aMods
