/-
  The walk of 'FnSkipSpaceSpec' (3).
-/
import Derived.Test.Qxb6601660aModsSkip
import Derived.Deep.DeepCutAuto
namespace Go.Proofs.Qxb6601660aMods
open Go.RowKit
set_option linter.unusedVariables false
set_option linter.unusedSimpArgs false

theorem Trym.info5 : (Trym.prog.info? 5).map (fun i => (i.zero, i.size, i.bytes)) = some (some (.int .u8 0), 1, 1) := by kernel_rfl
theorem Trym.size5 : (Trym.prog.info? 5).map (·.size) = some 1 := by kernel_rfl

theorem owns_heap {w : World} {B n : Nat} {xs : List Value} (h : w.ownsRow B 5 1 (.slice (some ⟨B, 0, none⟩) n n) n xs) :
    ∃ cur : List Value, w.heap[B]? = some (.cells cur.toArray 5 (0, 0)) ∧ cur.length = n := by
  rcases h.2 with ⟨h', _⟩ | ⟨g', cap', cur, h', _, hg, _, _, hcs, _⟩
  · simp at h'
  · simp only [Value.slice.injEq, Option.some.injEq, Addr.mk.injEq, and_true, true_and] at h'
    obtain ⟨rfl, rfl⟩ := h'
    exact ⟨cur.toList, by simpa using hg, by simpa using hcs⟩

theorem at_of_heap {w : World} {g : Nat} {d : List Int} {cur : List Value} (hg : w.heap[g]? = some (.cells cur.toArray 5 (0, 0))) (h : ∀ i, i < d.length → cur[i]? = some (.int .u8 (nth d i))) : At w g 0 d :=
  ⟨(Array.getElem?_eq_some_iff.1 hg).1, fun i hi => by
    have e0 : 0 + i = i := by omega
    rw [e0, cell_of_row w g i cur.toArray 5 (0, 0) hg]
    simpa using h i hi⟩

theorem law3_long (a0 : Option Addr) (len cap : Nat) (i : Int) (w : World) (h : ¬ len ≤ 1048576) :
    Calls Trym.prog 3 #[.slice a0 len cap, .int .i64 i] w fun e w' => e = .returned (.bool true) ∧ Below w.heap.size w w' := by
  have hlI : ¬ (len : Int) ≤ 1048576 := by omega
  go_enter Trym.func3, Trym.ntmps3
  go_wp2
  go_ret
  exact ⟨rfl, Below.refl _ _⟩

theorem law3_neg (a0 : Option Addr) (len cap : Nat) (i : Int) (w : World) (h : len ≤ 1048576) (hi : i < 0) :
    Calls Trym.prog 3 #[.slice a0 len cap, .int .i64 i] w fun e w' => e = .returned (.bool true) ∧ Below w.heap.size w w' := by
  go_enter Trym.func3, Trym.ntmps3
  go_wp2
  go_ret
  exact ⟨rfl, Below.refl _ _⟩

theorem law3_nil (i : Int) (w : World) (hi : 0 ≤ i) :
    Calls Trym.prog 3 #[.slice none 0 0, .int .i64 i] w fun e w' => e = .returned (.bool true) ∧ Below w.heap.size w w' := by
  have q22 : ∀ (w : World) (a : Option Addr) (n c n' c' : Nat), (binOp .neq 22 (.slice a n c) (.slice none n' c')).run Trym.prog w = .ok (.bool (!a.isNone)) w := fun w a n c n' c' => run_neq_slice_nil_any w _ _ a n c n' c' Trym.underlying22
  have hz := zzskip_out none 0 0 i w (by omega)
  go_enter Trym.func3, Trym.ntmps3
  go_wp2_with (first | (go_at_call 11; refine hz.mono ?_; rintro e w' ⟨rfl, rfl⟩) | (go_at_call 10; go_in))
  go_ret
  exact ⟨rfl, Below.refl _ _⟩

theorem isp_is (x : Int) (t : Bool) (h : isSp x = t) (w : World) : Calls Trym.prog 12 #[.int .u8 x] w fun e w' => e = .returned (.bool t) ∧ w' = w := by
  rw [← h]; exact isp_any x w

/-- The copy's row. -/
theorem copied {zs : List Int} {X cur : List Value} {len : Nat} (hz : zs.length = len) (hX : X = zs.map (Value.int .u8)) (hcl : cur.length = len) :
    ∀ i, i < zs.length → (splice cur 0 X)[i]? = some (.int .u8 (nth zs i)) := by
  intro i hi
  subst hX
  simp only [splice, List.take_zero, List.nil_append, Nat.zero_add]
  rw [List.getElem?_append_left (by simpa using hi)]
  simp [List.getElem?_eq_getElem hi, nth, List.getD]

theorem copy_src {zs : List Int} {X : List Value} {w w1 : World} {x : Addr} {len : Nat} (hz : zs.length = len) (hX : X = zs.map (Value.int .u8)) (hb : Below w.heap.size w w1)
    (hc : ∀ i, i < len → w.cell? (x.add i) = some (.int .u8 (nth zs i))) : ∀ (j : Nat) (v : Value), X[j]? = some v → w1.cell? (x.add j) = some v := by
  intro j v hj
  subst hX
  rw [List.getElem?_map] at hj
  by_cases hl : j < zs.length
  · rw [List.getElem?_eq_getElem hl] at hj
    simp at hj
    have h0 := hc j (by omega)
    have e : nth zs j = zs[j] := by simp [nth, List.getD, List.getElem?_eq_getElem hl]
    rw [hb.cell (World.block_lt_of_cell? _ _ h0), h0, e, hj]
  · rw [List.getElem?_eq_none (by omega)] at hj; simp at hj

theorem one_cells {zs : List Int} {X : List Value} (hX : X = zs.map (Value.int .u8)) : ∀ v ∈ X, v.oneCell' = true := by
  intro v hv
  subst hX
  obtain ⟨z, _, rfl⟩ := List.mem_map.1 hv
  rfl

set_option maxHeartbeats 800000 in
theorem law3_past (x : Addr) (len cap : Nat) (zs : List Int) (i : Int) (w : World) (hlen : len ≤ 1048576) (hz : zs.length = len)
    (hc : ∀ i, i < len → w.cell? (x.add i) = some (.int .u8 (nth zs i))) (hi : (len : Int) ≤ i) :
    Calls Trym.prog 3 #[.slice (some x) len cap, .int .i64 i] w fun e w' => e = .returned (.bool true) ∧ Below w.heap.size w w' := by
  have q22 : ∀ (w : World) (a : Option Addr) (n c n' c' : Nat), (binOp .neq 22 (.slice a n c) (.slice none n' c')).run Trym.prog w = .ok (.bool (!a.isNone)) w := fun w a n c n' c' => run_neq_slice_nil_any w _ _ a n c n' c' Trym.underlying22
  obtain ⟨i0, hi0, hz0, hz1, hz2⟩ := info_parts Trym.info5
  have s5 := Trym.size5
  obtain ⟨X, hX⟩ : ∃ X, X = zs.map (Value.int .u8) := ⟨_, rfl⟩
  have HX : Hid (X = zs.map (Value.int .u8)) := hX
  have HC : Hid (∀ i, i < len → w.cell? (x.add i) = some (.int .u8 (nth zs i))) := hc
  have HL : Hid (X.length = len) := by rw [hX, List.length_map]; exact hz
  clear hX hc
  go_enter Trym.func3, Trym.ntmps3
  go_wp2_with (first
    | (at_make; refine wpList_make_full _ rfl _ _ 22 rfl w.heap.size 5 i0 (.int .u8 0) 1 Trym.underlying22 hi0 hz0 hz1 .i64 .i64 _ _ len rfl rfl rfl rfl (by rw [hz2]; omega) (by unfold maxLen; omega) (Nat.le_refl _) ?_; intro w1 hown hgrow; obtain ⟨cur, hg, hcl⟩ := owns_heap hown; have hb1 := (Below.refl w.heap.size w).grown hgrow (Nat.le_refl _) (fun k h => by cases h))
    | (refine wpList_copy_splice rfl (.tmp 22) (.tmp 23) 22 22 rfl 5 Trym.underlying22 s5 _ _ _ _ _ _ rfl rfl w.heap.size 0 _ 5 (by assumption) X ?c1 ?c2 ?c3 ?c4 w.heap.size w (by assumption) (Nat.le_refl _) ?_)
    | (go_at_call 10; go_in))
  case c1 => rw [HL.out]; exact (Nat.min_self _).symm
  case c2 => intro _; exact copy_src hz HX.out hb1 HC.out
  case c3 => rw [HL.out]; omega
  case c4 => exact one_cells HX.out
  intro w2 HG2 hB2
  have hzz := zzskip_out (some ⟨w.heap.size, 0, none⟩) len len i w2 hi
  go_wp2_with (go_at_call 11; refine hzz.mono ?_; rintro e w' ⟨rfl, rfl⟩)
  go_ret
  exact ⟨rfl, hB2⟩

set_option maxHeartbeats 800000 in
theorem law3_in (x : Addr) (len cap : Nat) (zs : List Int) (i : Nat) (w : World) (hlen : len ≤ 1048576) (hz : zs.length = len)
    (hc : ∀ i, i < len → w.cell? (x.add i) = some (.int .u8 (nth zs i))) (hi : i < len) :
    Calls Trym.prog 3 #[.slice (some x) len cap, .int .i64 i] w fun e w' => e = .returned (.bool true) ∧ Below w.heap.size w w' := by
  have q22 : ∀ (w : World) (a : Option Addr) (n c n' c' : Nat), (binOp .neq 22 (.slice a n c) (.slice none n' c')).run Trym.prog w = .ok (.bool (!a.isNone)) w := fun w a n c n' c' => run_neq_slice_nil_any w _ _ a n c n' c' Trym.underlying22
  obtain ⟨i0, hi0, hz0, hz1, hz2⟩ := info_parts Trym.info5
  have s5 := Trym.size5
  obtain ⟨X, hX⟩ : ∃ X, X = zs.map (Value.int .u8) := ⟨_, rfl⟩
  have HX : Hid (X = zs.map (Value.int .u8)) := hX
  have HC : Hid (∀ i, i < len → w.cell? (x.add i) = some (.int .u8 (nth zs i))) := hc
  have HL : Hid (X.length = len) := by rw [hX, List.length_map]; exact hz
  clear hX hc
  have hbd := skp_bounds zs i (by omega)
  have hin := skp_in zs i
  have hend := skp_end zs i (by omega)
  have hcall := fun W (h : At W w.heap.size 0 zs) => zzskip_any w.heap.size 0 len len i zs W hz hlen (by omega) h
  rw [hz] at hbd hend
  generalize skp zs i = J at hbd hin hend hcall
  have HIN : Hid (∀ k, i ≤ k → k < J → isSp (nth zs k) = true) := hin
  have HEND : Hid (J < len → isSp (nth zs J) = false) := hend
  clear hin hend
  have hd1 : decide (J < i) = false := decide_eq_false (by omega)
  have hd2 : decide (len < J) = false := decide_eq_false (by omega)
  go_enter Trym.func3, Trym.ntmps3
  go_wp2_with (first
    | (at_make; refine wpList_make_full _ rfl _ _ 22 rfl w.heap.size 5 i0 (.int .u8 0) 1 Trym.underlying22 hi0 hz0 hz1 .i64 .i64 _ _ len rfl rfl rfl rfl (by rw [hz2]; omega) (by unfold maxLen; omega) (Nat.le_refl _) ?_; intro w1 hown hgrow; obtain ⟨cur, hg, hcl⟩ := owns_heap hown; have hb1 := (Below.refl w.heap.size w).grown hgrow (Nat.le_refl _) (fun k h => by cases h))
    | (refine wpList_copy_splice rfl (.tmp 22) (.tmp 23) 22 22 rfl 5 Trym.underlying22 s5 _ _ _ _ _ _ rfl rfl w.heap.size 0 _ 5 (by assumption) X ?c1 ?c2 ?c3 ?c4 w.heap.size w (by assumption) (Nat.le_refl _) ?_)
    | (go_at_call 10; go_in))
  case c1 => rw [HL.out]; exact (Nat.min_self _).symm
  case c2 => intro _; exact copy_src hz HX.out hb1 HC.out
  case c3 => rw [HL.out]; omega
  case c4 => exact one_cells HX.out
  intro w2 HG2 hB2
  have hat := at_of_heap HG2.out (copied hz HX.out hcl)
  have hzz := hcall w2 hat
  clear hcall HG2 hg hown hgrow hcl HL HX HC hi0 hz0 hz1 hz2 s5 q22 hb1
  go_upto_region 16 with (go_at_call 11; refine hzz.mono ?_; rintro e w' ⟨rfl, rfl⟩)
  clear hzz hd1 hd2
  go_cut [7] (fun v wx => v = .int .i64 i ∧ wx = w')
  case first =>
    go_wp2
    go_meet
    case rel => exact ⟨rfl, rfl⟩
  obtain ⟨rfl, hwc⟩ := hcut
  have hwc' := hwc.symm
  subst hwc'
  clear hwc
  go_wp2
  go_loop [7] (fun v => ∃ k : Nat, i ≤ k ∧ k ≤ J ∧ v = .int .i64 k) (fun v => J - (intOf v).toNat)
  case atStart => exact ⟨i, Nat.le_refl _, hbd.1, rfl⟩
  case round =>
    obtain ⟨k, hk1, hk2, rfl⟩ := hrel
    by_cases hkJ : k < J
    · have hck := hat.2 k (by omega)
      rw [Nat.zero_add] at hck
      have hsp := fun W => isp_is (nth zs k) true (HIN.out k hk1 hkJ) W
      generalize nth zs k = v at hck hsp
      go_wp2_with (go_at_call 12; refine (hsp _).mono ?_; rintro e wz ⟨rfl, hwz⟩; have hwz' := hwz.symm; subst hwz'; clear hwz)
      go_round
      case rel => exact ⟨k + 1, by omega, by omega, by go_num⟩
      case measure => simp [intOf]; omega
    · have hkJ' : k = J := by omega
      subst hkJ'
      by_cases hJ : k < len
      · have hck := hat.2 k (by omega)
        rw [Nat.zero_add] at hck
        have hsp := fun W => isp_is (nth zs k) false (HEND.out hJ) W
        have hne : ((k : Int) == (len : Int)) = false := by simp; omega
        generalize nth zs k = v at hck hsp
        go_wp2_with (go_at_call 12; refine (hsp _).mono ?_; rintro e wz ⟨rfl, hwz⟩; have hwz' := hwz.symm; subst hwz'; clear hwz)
        go_ret
        exact ⟨rfl, hB2⟩
      · have hkl : k = len := by omega
        subst hkl
        go_wp2
        go_ret
        exact ⟨rfl, hB2⟩

/-- Every input. -/
theorem law3_all (x : Addr) (len cap : Nat) (zs : List Int) (i : Int) (w : World) (hl : len ≤ cap) (hz : zs.length = cap)
    (hcell : ∀ i, i < zs.length → w.cell? (x.add i) = some (.int .u8 (zs.getD i 0))) :
    Calls Trym.prog 3 #[.slice (some x) len cap, .int .i64 i] w fun e w' => e = .returned (.bool true) ∧ Below w.heap.size w w' := by
  by_cases hlen : len ≤ 1048576
  · have hzl : (zs.take len).length = len := by simp; omega
    have hc : ∀ i, i < len → w.cell? (x.add i) = some (.int .u8 (nth (zs.take len) i)) := fun i hi => by
      rw [nth_take _ _ _ hi]; exact hcell i (by omega)
    by_cases h0 : i < 0
    · exact law3_neg (some x) len cap i w hlen h0
    · by_cases h1 : (len : Int) ≤ i
      · exact law3_past x len cap (zs.take len) i w hlen hzl hc h1
      · obtain ⟨k, rfl⟩ : ∃ k : Nat, i = k := ⟨i.toNat, by omega⟩
        exact law3_in x len cap (zs.take len) k w hlen hzl hc (by omega)
  · exact law3_long (some x) len cap i w hlen
theorem law3_none (i : Int) (w : World) : Calls Trym.prog 3 #[.slice none 0 0, .int .i64 i] w fun e w' => e = .returned (.bool true) ∧ Below w.heap.size w w' := by
  by_cases h0 : i < 0
  · exact law3_neg none 0 0 i w (by omega) h0
  · exact law3_nil i w (by omega)
end Go.Proofs.Qxb6601660aMods
