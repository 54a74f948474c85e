/-
  The walk of 'FnReadTimeMatchesLexicalModel' (4).
-/
import Derived.Test.Qxb6600322aModsTModel
namespace Go.Proofs.Qxb6600322aMods
open Go.RowKit
set_option linter.unusedVariables false
set_option linter.unusedSimpArgs false

theorem btT {w w1 w2 : World} (h1 : Below w.heap.size w w1) (h2 : Below w1.heap.size w1 w2) : Below w.heap.size w w2 := h1.trans (h2.mono h1.size)

/-- 'readTimeModel' at a row that lies in memory. -/
theorem rm_all (b o n c : Nat) (d : List Int) (w : World) (hn2 : n ≤ 2097152) (hnc : n ≤ c) (hd : d.length = n) (hat : At w b o d) :
    Calls Trym.prog 13 #[.slice (some ⟨b, o, none⟩) n c] w fun e w' => e = RMOut (RT d) ∧ w' = w := by
  by_cases h8 : 8 ≤ n
  · by_cases h2 : nth d 2 = 58
    · by_cases h5 : nth d 5 = 58
      · have hh := head8_false hd h8 h2 h5
        exact rm_main b o n c (nth d 0) (nth d 1) (nth d 3) (nth d 4) (nth d 6) (nth d 7) d (RT d) (mid8 d) w h8 hn2 hnc hd hat
          (hat.2 0 (by omega)) (hat.2 1 (by omega)) (cell_at hat 2 (by omega) h2) (hat.2 3 (by omega)) (hat.2 4 (by omega)) (cell_at hat 5 (by omega) h5) (hat.2 6 (by omega)) (hat.2 7 (by omega))
          rfl (fun h => by rw [← hh] at h; simp [RT, h]) (fun h h' => by rw [← hh] at h; simp [RT, h, h']) (fun h h' h'' => by rw [← hh] at h; simp [RT, h, h', h'']) (fun h h' h'' => by rw [← hh] at h; simp [RT, h, h', h''])
      · have hR : RT d = none := by simp [RT, head8, h5]
        rw [hR]
        exact rm_colon5 b o n c (nth d 5) w h8 (cell_at hat 2 (by omega) h2) (hat.2 5 (by omega)) (by simpa using h5)
    · have hR : RT d = none := by simp [RT, head8, h2]
      rw [hR]
      exact rm_colon2 b o n c (nth d 2) w h8 (hat.2 2 (by omega)) (by simpa using h2)
  · have hR : RT d = none := by simp [RT, head8, hd, h8]
    rw [hR]
    exact rm_short _ n c w (by omega)

theorem law4_long (a0 : Option Addr) (len cap : Nat) (w : World) (h : ¬ len ≤ 1048576) :
    Calls Trym.prog 4 #[.slice a0 len cap] w fun e w' => e = .returned (.bool true) ∧ Below w.heap.size w w' := by
  have hlI : ¬ (len : Int) ≤ 1048576 := by omega
  go_enter Trym.func4, Trym.ntmps4
  go_wp2
  go_ret
  exact ⟨rfl, Below.refl _ _⟩

theorem law4_nil (w : World) :
    Calls Trym.prog 4 #[.slice none 0 0] w fun e w' => e = .returned (.bool true) ∧ Below w.heap.size w w' := by
  have q25 : ∀ (w : World) (a : Option Addr) (n c n' c' : Nat), (binOp .eql 25 (.slice a n c) (.slice none n' c')).run Trym.prog w = .ok (.bool a.isNone) w := fun w a n c n' c' => Lib.run_eql_slice_nil w _ _ a n c n' c' Trym.underlying25
  have hz : ∀ W : World, Calls Trym.prog 12 #[.slice none 0 0] W fun e w' => e = .returned (.tuple #[.slice none 0 0, .bool false, .bool false]) ∧ Below W.heap.size W w' := fun W =>
    zzrt none 0 0 W _ ((rt_short none 0 0 W (by omega)).mono fun e w' h => ⟨⟨_, _, _, h.1⟩, h⟩)
  go_enter Trym.func4, Trym.ntmps4
  go_wp2_with (first | (go_at_call 11; refine (clone_nil _).mono ?_; rintro e w' ⟨rfl, rfl⟩) | (go_at_call 12; refine (hz _).mono ?_; rintro e w' ⟨rfl, hb⟩) | (go_at_call 13; refine (rm_short none 0 0 _ (by omega)).mono ?_; rintro e w' ⟨rfl, rfl⟩) | (go_at_call 10; go_in))
  go_ret
  exact ⟨rfl, by assumption⟩

/-- The text is refused. -/
theorem law4_no (x : Addr) (len cap : Nat) (zs : List Int) (w : World) (hlen : len ≤ 1048576) (hz : zs.length = len)
    (hcl : Calls Trym.prog 11 #[.slice (some x) len cap] w fun e w' => e = .returned (.slice (some ⟨w.heap.size, 0, none⟩) len len) ∧ Below w.heap.size w w' ∧ At w' w.heap.size 0 zs)
    (hrt : ∀ W : World, At W w.heap.size 0 zs → Calls Trym.prog 12 #[.slice (some ⟨w.heap.size, 0, none⟩) len len] W fun e w' => e = .returned (.tuple #[.slice none 0 0, .bool false, .bool false]) ∧ Below W.heap.size W w')
    (hrm : ∀ W : World, At W w.heap.size 0 zs → Calls Trym.prog 13 #[.slice (some ⟨w.heap.size, 0, none⟩) len len] W fun e w' => e = .returned (.tuple #[.bool false, .bool false, .int .i64 0]) ∧ w' = W) :
    Calls Trym.prog 4 #[.slice (some x) len cap] w fun e w' => e = .returned (.bool true) ∧ Below w.heap.size w w' := by
  have q25 : ∀ (w : World) (a : Option Addr) (n c n' c' : Nat), (binOp .eql 25 (.slice a n c) (.slice none n' c')).run Trym.prog w = .ok (.bool a.isNone) w := fun w a n c n' c' => Lib.run_eql_slice_nil w _ _ a n c n' c' Trym.underlying25
  go_enter Trym.func4, Trym.ntmps4
  go_wp2_with (first | (go_at_call 11; refine hcl.mono ?_; rintro e w1 ⟨rfl, hb, hat⟩) | (go_at_call 12; refine (hrt _ (by assumption)).mono ?_; rintro e w2 ⟨rfl, hb2⟩; have hbb := btT (by assumption) hb2; have hat2 := At.below (by assumption) hb2) | (go_at_call 13; refine (hrm _ (by assumption)).mono ?_; rintro e w' ⟨rfl, rfl⟩) | (go_at_call 10; go_in))
  go_ret
  exact ⟨rfl, by assumption⟩

theorem RT_le {d : List Int} {u : Nat} {m : Bool} (h : RT d = some (u, m)) : u ≤ d.length := by
  unfold RT at h
  by_cases hh : head8 d = true
  · rw [if_pos hh] at h
    have h8 : 8 ≤ d.length := by simp [head8] at hh; omega
    by_cases hp : pt d = true
    · rw [if_pos hp] at h
      have h9 : 8 < d.length := by simp [pt] at hp; omega
      by_cases hl : leadD (d.drop 9) = 0
      · rw [if_pos hl] at h; cases h
      · rw [if_neg hl] at h
        have := leadD_le (d.drop 9)
        rw [List.length_drop] at this
        simp at h; omega
    · rw [if_neg hp] at h; simp at h; omega
  · rw [if_neg hh] at h; cases h

set_option maxHeartbeats 800000 in
/-- The text is accepted. -/
theorem law4_yes (x : Addr) (len cap u : Nat) (m : Bool) (zs : List Int) (w : World) (hlen : len ≤ 1048576) (hz : zs.length = len) (hu : u ≤ len)
    (hcl : Calls Trym.prog 11 #[.slice (some x) len cap] w fun e w' => e = .returned (.slice (some ⟨w.heap.size, 0, none⟩) len len) ∧ Below w.heap.size w w' ∧ At w' w.heap.size 0 zs)
    (hrt : ∀ W : World, At W w.heap.size 0 zs → Calls Trym.prog 12 #[.slice (some ⟨w.heap.size, 0, none⟩) len len] W fun e w' => (∃ o', e = .returned (.tuple #[.slice (some ⟨w.heap.size, o', none⟩) (len - u) (len - u), .bool m, .bool true]) ∧ At w' w.heap.size o' (zs.drop u)) ∧ Below W.heap.size W w')
    (hrm : ∀ W : World, At W w.heap.size 0 zs → Calls Trym.prog 13 #[.slice (some ⟨w.heap.size, 0, none⟩) len len] W fun e w' => e = .returned (.tuple #[.bool true, .bool m, .int .i64 u]) ∧ w' = W) :
    Calls Trym.prog 4 #[.slice (some x) len cap] w fun e w' => e = .returned (.bool true) ∧ Below w.heap.size w w' := by
  have huI : (u : Int) ≤ (len : Int) := by omega
  have hsub : ((len - u : Nat) : Int) = (len : Int) - (u : Int) := by omega
  by_cases hul : len = u
  · subst hul
    have es : len - len = 0 := by omega
    rw [es] at hrt
    clear hsub
    cases m
    all_goals
      go_enter Trym.func4, Trym.ntmps4
      go_wp2_with (first | (go_at_call 11; refine hcl.mono ?_; rintro e w1 ⟨rfl, hb, hat⟩) | (go_at_call 12; refine (hrt _ (by assumption)).mono ?_; rintro e w2 ⟨⟨o', rfl, hat'⟩, hb2⟩; have hbb := btT (by assumption) hb2; have hat2 := At.below (by assumption) hb2) | (go_at_call 13; refine (hrm _ (by assumption)).mono ?_; rintro e w' ⟨rfl, rfl⟩) | (go_at_call 14; refine (same_empty _ _ _ _ _).mono ?_; rintro e w' ⟨rfl, rfl⟩) | (go_at_call 10; go_in))
      go_ret
      exact ⟨rfl, by assumption⟩
  · have hdl : (zs.drop u).length = len - u := by rw [List.length_drop]; omega
    have HDL : Hid ((zs.drop u).length = len - u) := hdl
    clear hdl
    cases m
    all_goals
      go_enter Trym.func4, Trym.ntmps4
      go_wp2_with (first | (go_at_call 11; refine hcl.mono ?_; rintro e w1 ⟨rfl, hb, hat⟩) | (go_at_call 12; refine (hrt _ (by assumption)).mono ?_; rintro e w2 ⟨⟨o', rfl, hat'⟩, hb2⟩; have hbb := btT (by assumption) hb2; have hat2 := At.below (by assumption) hb2) | (go_at_call 13; refine (hrm _ (by assumption)).mono ?_; rintro e w' ⟨rfl, rfl⟩) | (go_at_call 10; go_in))
      have hd2 := At.drop (by assumption : At _ w.heap.size 0 zs) u
      rw [Nat.zero_add] at hd2
      refine (same_true w.heap.size _ w.heap.size u (len - u) _ _ (zs.drop u) _ HDL.out (by omega) (by assumption) hd2).mono ?_
      rintro e w3 ⟨rfl, hb3⟩
      have hb4 := btT (by assumption) hb3
      go_wp2
      go_ret
      exact ⟨rfl, hb4⟩

/-- Every input. -/
theorem law4_all (x : Addr) (len cap : Nat) (zs : List Int) (w : World) (hl : len ≤ cap) (hz : zs.length = cap)
    (hcell : ∀ i, i < zs.length → w.cell? (x.add i) = some (.int .u8 (zs.getD i 0))) (hwf : ∀ n ∈ zs, (Lit.int .u8 n).wf = true) :
    Calls Trym.prog 4 #[.slice (some x) len cap] w fun e w' => e = .returned (.bool true) ∧ Below w.heap.size w w' := by
  by_cases hlen : len ≤ 1048576
  · have hzl : (zs.take len).length = len := by simp; omega
    have hc : ∀ i, i < len → w.cell? (x.add i) = some (.int .u8 (nth (zs.take len) i)) := fun i hi => by
      rw [nth_take _ _ _ hi]; exact hcell i (by omega)
    have hby : Byt (zs.take len) := fun y hy => by have := bounds_u8 (hwf y (List.mem_of_mem_take hy)); omega
    have hcl := clone_some x len cap (zs.take len) w hlen hzl hc
    have hrt := fun (W : World) (hat : At W w.heap.size 0 (zs.take len)) => rt_all w.heap.size 0 len len (zs.take len) W (by omega) (Nat.le_refl _) hzl hby hat
    have hrm := fun (W : World) (hat : At W w.heap.size 0 (zs.take len)) => rm_all w.heap.size 0 len len (zs.take len) W (by omega) (Nat.le_refl _) hzl hat
    cases hR : RT (zs.take len) with
    | none =>
      rw [hR] at hrt hrm
      exact law4_no x len cap (zs.take len) w hlen hzl hcl (fun W hat => zzrt _ _ _ W _ ((hrt W hat).mono fun e w' h => ⟨⟨_, _, _, h.1⟩, h⟩)) hrm
    | some um =>
      obtain ⟨u, m⟩ := um
      rw [hR] at hrt hrm
      have hu := RT_le hR
      exact law4_yes x len cap u m (zs.take len) w hlen hzl (by omega) hcl (fun W hat => zzrt _ _ _ W _ ((hrt W hat).mono fun e w' h => ⟨let ⟨o', he, _⟩ := h.1; ⟨_, _, _, he⟩, h⟩)) hrm
  · exact law4_long (some x) len cap w hlen
end Go.Proofs.Qxb6600322aMods
