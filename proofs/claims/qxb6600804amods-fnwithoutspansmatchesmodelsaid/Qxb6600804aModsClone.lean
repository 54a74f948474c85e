/-
  'zzmB1CopyBytes' (11) by its contract.
-/
import Derived.Test.Qxb6600804aModsRows
import Derived.WalkKit
import Derived.WalkSpells
import Derived.ProofKit
import Derived.OpenShut
import Derived.Below
namespace Go.Proofs.Qxb6600804aMods
open Go.RowKit
set_option linter.unusedVariables false
set_option linter.unusedSimpArgs false

/-- The number at place i: a name of its own, which the walk does not open. -/
def nth (xs : List Int) (i : Nat) : Int := xs.getD i 0
theorem nth_drop (xs : List Int) (k i : Nat) : nth (xs.drop k) i = nth xs (k + i) := by simp [nth, List.getD, List.getElem?_drop]
theorem nth_take (xs : List Int) (k i : Nat) (h : i < k) : nth (xs.take k) i = nth xs i := by simp [nth, List.getD, List.getElem?_take, h]

/-- A row of bytes that lies in memory: 'xs' from offset 'off' of block 'b' on. -/
def At (w : World) (b off : Nat) (xs : List Int) : Prop :=
  b < w.heap.size ∧ ∀ i, i < xs.length → w.cell? ⟨b, off + i, none⟩ = some (.int .u8 (nth xs i))

theorem At.below {w w' : World} {b off : Nat} {xs : List Int} (h : At w b off xs) (hb : Below w.heap.size w w') : At w' b off xs :=
  ⟨Nat.lt_of_lt_of_le h.1 hb.size, fun i hi => (hb.cell (p := ⟨b, off + i, none⟩) h.1).trans (h.2 i hi)⟩

theorem At.drop {w : World} {b off : Nat} {xs : List Int} (h : At w b off xs) (k : Nat) : At w b (off + k) (xs.drop k) :=
  ⟨h.1, fun i hi => by
    have := h.2 (k + i) (by simp at hi; omega)
    rw [Nat.add_assoc, nth_drop]
    exact this⟩

theorem At.take {w : World} {b off : Nat} {xs : List Int} (h : At w b off xs) (k : Nat) : At w b off (xs.take k) :=
  ⟨h.1, fun i hi => by
    have hi' : i < xs.length ∧ i < k := by simp at hi; omega
    have := h.2 i hi'.1
    rw [nth_take _ _ _ hi'.2]
    exact this⟩

theorem Trym.info5 : (Trym.prog.info? 5).map (fun i => (i.zero, i.size, i.bytes)) = some (some (.int .u8 0), 1, 1) := by kernel_rfl

/-- A slice that is nil is cloned to nil. -/
theorem clone_nil (w : World) : Calls Trym.prog 11 #[.slice none 0 0] w fun e w' => e = .returned (.slice none 0 0) ∧ w' = w := by
  have q22 : ∀ (w : World) (a : Option Addr) (n c n' c' : Nat), (binOp .eql 22 (.slice a n c) (.slice none n' c')).run Trym.prog w = .ok (.bool a.isNone) w := fun w a n c n' c' => Lib.run_eql_slice_nil w _ _ a n c n' c' Trym.underlying22
  go_enter Trym.func11, Trym.ntmps11
  go_wp2
  go_ret
  exact ⟨rfl, rfl⟩

/-- The loop's relation, a step on. -/
theorem clone_step {B len k : Nat} {zs : List Int} {w wr : World} {xs : List Value} (hk : k < len)
    (hown : wr.ownsRow B 5 1 (.slice (some ⟨B, 0, none⟩) len len) len xs) (hx : ∀ j, j < k → xs[j]? = some (.int .u8 (nth zs j))) (hbel : Below B w wr) (hB : B ≤ wr.heap.size) :
    ∃ xs', (wr.setCell ⟨B, k, none⟩ (.int .u8 (nth zs k))).ownsRow B 5 1 (.slice (some ⟨B, 0, none⟩) len len) len xs' ∧ (∀ j, j < k + 1 → xs'[j]? = some (.int .u8 (nth zs j))) ∧
      Below B w (wr.setCell ⟨B, k, none⟩ (.int .u8 (nth zs k))) := by
  have hs := hown.stored k (.int .u8 (nth zs k))
  have hl : xs.length = len := by have := hown.1; omega
  refine ⟨_, hs.1, fun j hj => ?_, hbel.setCell (Nat.le_refl _) _⟩
  rw [List.getElem?_set]
  by_cases e : k = j
  · subst e; rw [if_pos rfl, if_pos (by omega)]
  · rw [if_neg e]; exact hx j (by omega)

theorem clone_lt {w : World} {B e n c : Nat} {s : Nat} {xs : List Value} (h : w.ownsRow B e s (.slice (some ⟨B, 0, none⟩) n c) n xs) : B < w.heap.size := by
  rcases h.2 with ⟨h', _⟩ | ⟨g', cap', cur, h', _, hg, _⟩
  · simp at h'
  · simp only [Value.slice.injEq, Option.some.injEq, Addr.mk.injEq, and_true, true_and] at h'
    obtain ⟨rfl, rfl⟩ := h'
    exact (Array.getElem?_eq_some_iff.1 hg).1

set_option maxHeartbeats 400000 in
theorem clone_some (a : Addr) (len cap : Nat) (zs : List Int) (w : World) (hlen : len ≤ 1048576) (hz : zs.length = len)
    (hc : ∀ i, i < len → w.cell? (a.add i) = some (.int .u8 (nth zs i))) :
    Calls Trym.prog 11 #[.slice (some a) len cap] w fun e w' => e = .returned (.slice (some ⟨w.heap.size, 0, none⟩) len len) ∧ Below w.heap.size w w' ∧ At w' w.heap.size 0 zs := by
  have q22 : ∀ (w : World) (a : Option Addr) (n c n' c' : Nat), (binOp .eql 22 (.slice a n c) (.slice none n' c')).run Trym.prog w = .ok (.bool a.isNone) w := fun w a n c n' c' => Lib.run_eql_slice_nil w _ _ a n c n' c' Trym.underlying22
  obtain ⟨i0, hi, hz0, hz1, hz2⟩ := info_parts Trym.info5
  go_enter Trym.func11, Trym.ntmps11
  go_wp2_with (at_make; refine wpList_make_full _ rfl _ _ 22 rfl w.heap.size 5 i0 (.int .u8 0) 1 Trym.underlying22 hi hz0 hz1 .i64 .i64 _ _ len rfl rfl rfl rfl (by rw [hz2]; omega) (by unfold maxLen; omega) (Nat.le_refl _) ?_)
  intro w1 hown hgrow
  go_wp2
  go_loopw [4] (fun i wr => ∃ k : Nat, ∃ xs, k ≤ len ∧ i = .int .i64 k ∧ wr.ownsRow w.heap.size 5 1 (.slice (some ⟨w.heap.size, 0, none⟩) len len) len xs ∧ (∀ j, j < k → xs[j]? = some (.int .u8 (nth zs j))) ∧ Below w.heap.size w wr ∧ w.heap.size < wr.heap.size)
    (fun i _ => len - (intOf i).toNat)
  case atStart => exact ⟨0, _, Nat.zero_le _, rfl, hown, fun j hj => absurd hj (Nat.not_lt_zero _), (Below.refl _ _).grown hgrow (Nat.le_refl _) (fun k h => by cases h), clone_lt hown⟩
  case round =>
    obtain ⟨k, xs, hk, rfl, hown, hx, hbel, hsz⟩ := hrel
    by_cases hlt : k < len
    · have hcell : wr.cell? (a.add k) = some (.int .u8 (nth zs k)) := by
        have h0 := hc k hlt
        rw [hbel.cell (World.block_lt_of_cell? _ _ h0)]; exact h0
      obtain ⟨old, hold⟩ : ∃ old, wr.cell? ⟨w.heap.size, k, none⟩ = some old := by
        rw [hown.cellAt k (by omega)]
        have hl : xs.length = len := by have := hown.1; omega
        exact ⟨xs[k]'(by omega), List.getElem?_eq_getElem _⟩
      have hfz := hown.frozenAt k
      have R := clone_step (zs := zs) hlt hown hx hbel (by omega)
      clear hown hx hc hgrow
      go_wp2
      go_roundw
      case rel =>
        obtain ⟨xs', r1, r2, r3⟩ := R
        exact ⟨k + 1, xs', by omega, by go_num, r1, r2, r3, by simpa [World.setCell] using hsz⟩
      case measure => simp [intOf]; omega
    · go_wp2
      go_ret
      have ek : k = len := by omega
      subst ek
      refine ⟨rfl, hbel, hsz, fun i hi => ?_⟩
      have e0 : 0 + i = i := by omega
      rw [e0, hown.cellAt i (by omega)]
      exact hx i (by omega)
end Go.Proofs.Qxb6600804aMods
