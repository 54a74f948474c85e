/-
  'zzmB1CopyInts' (18), 'zzmB1BytesEqual' (20), 'zzmB1SpansValid' (17) by their contracts.
-/
import Derived.Test.Qxb6600804aModsLawLB
import Derived.Deep.QuietTactic
import Derived.BigQuiet
import Derived.WalkSmall
namespace Go.Proofs.Qxb6600804aMods
open Go.RowKit
set_option linter.unusedVariables false
set_option linter.unusedSimpArgs false

/-- A row of ints that lies in memory: 'xs' from offset 'off' of block 'b' on. -/
def AtI (w : World) (b off : Nat) (xs : List Int) : Prop :=
  b < w.heap.size ∧ ∀ i, i < xs.length → w.cell? ⟨b, off + i, none⟩ = some (.int .i64 (nth xs i))
theorem AtI.below {w w' : World} {b off : Nat} {xs : List Int} (h : AtI w b off xs) (hb : Below w.heap.size w w') : AtI w' b off xs :=
  ⟨Nat.lt_of_lt_of_le h.1 hb.size, fun i hi => (hb.cell (p := ⟨b, off + i, none⟩) h.1).trans (h.2 i hi)⟩

theorem Trym.info3 : (Trym.prog.info? 3).map (fun i => (i.zero, i.size, i.bytes)) = some (some (.int .i64 0), 1, 8) := by kernel_rfl

/-- A slice that is nil is cloned to nil. -/
theorem cloneI_nil (w : World) : Calls Trym.prog 18 #[.slice none 0 0] w fun e w' => e = .returned (.slice none 0 0) ∧ w' = w := by
  have q26 : ∀ (w : World) (a : Option Addr) (n c n' c' : Nat), (binOp .eql 26 (.slice a n c) (.slice none n' c')).run Trym.prog w = .ok (.bool a.isNone) w := fun w a n c n' c' => Lib.run_eql_slice_nil w _ _ a n c n' c' Trym.underlying26
  go_enter Trym.func18, Trym.ntmps18
  go_wp2
  go_ret
  exact ⟨rfl, rfl⟩

/-- The loop's relation, a step on. -/
theorem cloneI_step {B len k : Nat} {zs : List Int} {w wr : World} {xs : List Value} (hk : k < len)
    (hown : wr.ownsRow B 3 1 (.slice (some ⟨B, 0, none⟩) len len) len xs) (hx : ∀ j, j < k → xs[j]? = some (.int .i64 (nth zs j))) (hbel : Below B w wr) (hB : B ≤ wr.heap.size) :
    ∃ xs', (wr.setCell ⟨B, k, none⟩ (.int .i64 (nth zs k))).ownsRow B 3 1 (.slice (some ⟨B, 0, none⟩) len len) len xs' ∧ (∀ j, j < k + 1 → xs'[j]? = some (.int .i64 (nth zs j))) ∧
      Below B w (wr.setCell ⟨B, k, none⟩ (.int .i64 (nth zs k))) := by
  have hs := hown.stored k (.int .i64 (nth zs k))
  have hl : xs.length = len := by have := hown.1; omega
  refine ⟨_, hs.1, fun j hj => ?_, hbel.setCell (Nat.le_refl _) _⟩
  rw [List.getElem?_set]
  by_cases e : k = j
  · subst e; rw [if_pos rfl, if_pos (by omega)]
  · rw [if_neg e]; exact hx j (by omega)

theorem cloneI_lt {w : World} {B e n c : Nat} {s : Nat} {xs : List Value} (h : w.ownsRow B e s (.slice (some ⟨B, 0, none⟩) n c) n xs) : B < w.heap.size := by
  rcases h.2 with ⟨h', _⟩ | ⟨g', cap', cur, h', _, hg, _⟩
  · simp at h'
  · simp only [Value.slice.injEq, Option.some.injEq, Addr.mk.injEq, and_true, true_and] at h'
    obtain ⟨rfl, rfl⟩ := h'
    exact (Array.getElem?_eq_some_iff.1 hg).1

set_option maxHeartbeats 400000 in
theorem cloneI_some (a : Addr) (len cap : Nat) (zs : List Int) (w : World) (hlen : len ≤ 1048576) (hz : zs.length = len)
    (hc : ∀ i, i < len → w.cell? (a.add i) = some (.int .i64 (nth zs i))) :
    Calls Trym.prog 18 #[.slice (some a) len cap] w fun e w' => e = .returned (.slice (some ⟨w.heap.size, 0, none⟩) len len) ∧ Below w.heap.size w w' ∧ AtI w' w.heap.size 0 zs := by
  have q26 : ∀ (w : World) (a : Option Addr) (n c n' c' : Nat), (binOp .eql 26 (.slice a n c) (.slice none n' c')).run Trym.prog w = .ok (.bool a.isNone) w := fun w a n c n' c' => Lib.run_eql_slice_nil w _ _ a n c n' c' Trym.underlying26
  obtain ⟨i0, hi, hz0, hz1, hz2⟩ := info_parts Trym.info3
  go_enter Trym.func18, Trym.ntmps18
  go_wp2_with (at_make; refine wpList_make_full _ rfl _ _ 26 rfl w.heap.size 3 i0 (.int .i64 0) 1 Trym.underlying26 hi hz0 hz1 .i64 .i64 _ _ len rfl rfl rfl rfl (by rw [hz2]; omega) (by unfold maxLen; omega) (Nat.le_refl _) ?_)
  intro w1 hown hgrow
  go_wp2
  go_loopw [4] (fun i wr => ∃ k : Nat, ∃ xs, k ≤ len ∧ i = .int .i64 k ∧ wr.ownsRow w.heap.size 3 1 (.slice (some ⟨w.heap.size, 0, none⟩) len len) len xs ∧ (∀ j, j < k → xs[j]? = some (.int .i64 (nth zs j))) ∧ Below w.heap.size w wr ∧ w.heap.size < wr.heap.size)
    (fun i _ => len - (intOf i).toNat)
  case atStart => exact ⟨0, _, Nat.zero_le _, rfl, hown, fun j hj => absurd hj (Nat.not_lt_zero _), (Below.refl _ _).grown hgrow (Nat.le_refl _) (fun k h => by cases h), cloneI_lt hown⟩
  case round =>
    obtain ⟨k, xs, hk, rfl, hown, hx, hbel, hsz⟩ := hrel
    by_cases hlt : k < len
    · have hcell : wr.cell? (a.add k) = some (.int .i64 (nth zs k)) := by
        have h0 := hc k hlt
        rw [hbel.cell (World.block_lt_of_cell? _ _ h0)]; exact h0
      obtain ⟨old, hold⟩ : ∃ old, wr.cell? ⟨w.heap.size, k, none⟩ = some old := by
        rw [hown.cellAt k (by omega)]
        have hl : xs.length = len := by have := hown.1; omega
        exact ⟨xs[k]'(by omega), List.getElem?_eq_getElem _⟩
      have hfz := hown.frozenAt k
      have R := cloneI_step (zs := zs) hlt hown hx hbel (by omega)
      clear hown hx hc hgrow
      go_wp2
      go_roundw
      case rel =>
        obtain ⟨xs', r1, r2, r3⟩ := R
        exact ⟨k + 1, xs', by omega, by go_num, r1, r2, r3, by simpa [World.setCell] using hsz⟩
      case measure => simp [intOf]; omega
    · go_wp2
      go_ret
      have ek : k = len := by omega
      subst ek
      refine ⟨rfl, hbel, hsz, fun i hi => ?_⟩
      have e0 : 0 + i = i := by omega
      rw [e0, hown.cellAt i (by omega)]
      exact hx i (by omega)

/-- A slice of bytes, nil or not, of which only the elements matter. -/
def Vw (w : World) (a : Option Addr) (len : Nat) (xs : List Int) : Prop :=
  xs.length = len ∧ (a = none → len = 0) ∧ (0 < len → ∃ b o, a = some ⟨b, o, none⟩ ∧ At w b o xs)
theorem Vw.below {w w' : World} {a : Option Addr} {len : Nat} {xs : List Int} (h : Vw w a len xs) (hb : Below w.heap.size w w') : Vw w' a len xs :=
  ⟨h.1, h.2.1, fun hp => let ⟨b, o, e, hat⟩ := h.2.2 hp; ⟨b, o, e, hat.below hb⟩⟩
/-- A slice of ints, likewise. -/
def VwI (w : World) (a : Option Addr) (len : Nat) (xs : List Int) : Prop :=
  xs.length = len ∧ (a = none → len = 0) ∧ (0 < len → ∃ b o, a = some ⟨b, o, none⟩ ∧ AtI w b o xs)
theorem VwI.below {w w' : World} {a : Option Addr} {len : Nat} {xs : List Int} (h : VwI w a len xs) (hb : Below w.heap.size w w') : VwI w' a len xs :=
  ⟨h.1, h.2.1, fun hp => let ⟨b, o, e, hat⟩ := h.2.2 hp; ⟨b, o, e, hat.below hb⟩⟩

theorem clone_v (a : Option Addr) (len cap : Nat) (xs : List Int) (w : World) (hlen : len ≤ 1048576) (hv : Vw w a len xs) (hc : a = none → cap = 0) :
    Calls Trym.prog 11 #[.slice a len cap] w fun e w' => (∃ a', e = .returned (.slice a' len len) ∧ Vw w' a' len xs) ∧ Below w.heap.size w w' := by
  cases a with
  | none =>
    have h0 := hv.2.1 rfl
    have c0 := hc rfl
    subst h0
    subst c0
    refine (clone_nil w).mono fun e w' h => ⟨⟨none, h.1, ?_⟩, by rw [h.2]; exact Below.refl _ _⟩
    rw [h.2]; exact hv
  | some x =>
    by_cases hp : 0 < len
    · obtain ⟨b, o, e, hat⟩ := hv.2.2 hp
      cases e
      refine (clone_some ⟨b, o, none⟩ len cap xs w hlen hv.1 (fun i hi => by rw [Addr.add_lit]; exact hat.2 i (by rw [hv.1]; exact hi))).mono fun e w' h => ⟨⟨_, h.1, hv.1, fun h' => (by cases h'), fun _ => ⟨_, 0, rfl, h.2.2⟩⟩, h.2.1⟩
    · have hl0 : len = 0 := by omega
      subst hl0
      refine (clone_some x 0 cap xs w hlen hv.1 (fun i hi => absurd hi (Nat.not_lt_zero _))).mono fun e w' h => ⟨⟨_, h.1, hv.1, fun h' => (by cases h'), fun h' => absurd h' (Nat.lt_irrefl _)⟩, h.2.1⟩

theorem cloneI_v (a : Option Addr) (len cap : Nat) (xs : List Int) (w : World) (hlen : len ≤ 1048576) (hv : VwI w a len xs) (hc : a = none → cap = 0) :
    Calls Trym.prog 18 #[.slice a len cap] w fun e w' => (∃ a', e = .returned (.slice a' len len) ∧ VwI w' a' len xs) ∧ Below w.heap.size w w' := by
  cases a with
  | none =>
    have h0 := hv.2.1 rfl
    have c0 := hc rfl
    subst h0
    subst c0
    refine (cloneI_nil w).mono fun e w' h => ⟨⟨none, h.1, ?_⟩, by rw [h.2]; exact Below.refl _ _⟩
    rw [h.2]; exact hv
  | some x =>
    by_cases hp : 0 < len
    · obtain ⟨b, o, e, hat⟩ := hv.2.2 hp
      cases e
      refine (cloneI_some ⟨b, o, none⟩ len cap xs w hlen hv.1 (fun i hi => by rw [Addr.add_lit]; exact hat.2 i (by rw [hv.1]; exact hi))).mono fun e w' h => ⟨⟨_, h.1, hv.1, fun h' => (by cases h'), fun _ => ⟨_, 0, rfl, h.2.2⟩⟩, h.2.1⟩
    · have hl0 : len = 0 := by omega
      subst hl0
      refine (cloneI_some x 0 cap xs w hlen hv.1 (fun i hi => absurd hi (Nat.not_lt_zero _))).mono fun e w' h => ⟨⟨_, h.1, hv.1, fun h' => (by cases h'), fun h' => absurd h' (Nat.lt_irrefl _)⟩, h.2.1⟩

theorem eq_empty (a1 a2 : Option Addr) (c1 c2 : Nat) (w : World) :
    Calls Trym.prog 20 #[.slice a1 0 c1, .slice a2 0 c2] w fun e w' => e = .returned (.bool true) ∧ w' = w := by
  go_enter Trym.func20, Trym.ntmps20
  go_wp2
  go_loop [5] (fun v => v = .int .i64 0) (fun _ => 0)
  case atStart => rfl
  case round =>
    subst hrel
    go_wp2
    go_ret
    exact ⟨rfl, rfl⟩

set_option maxHeartbeats 800000 in
theorem eq_true (b1 o1 b2 o2 n c1 c2 : Nat) (xs : List Int) (w : World) (hx : xs.length = n) (hn : n ≤ 1048576) (h1 : At w b1 o1 xs) (h2 : At w b2 o2 xs) :
    Calls Trym.prog 20 #[.slice (some ⟨b1, o1, none⟩) n c1, .slice (some ⟨b2, o2, none⟩) n c2] w fun e w' => e = .returned (.bool true) ∧ Below w.heap.size w w' := by
  go_enter Trym.func20, Trym.ntmps20
  go_wp2
  go_loopw [5] (fun i wr => ∃ k : Nat, k ≤ n ∧ i = .int .i64 k ∧ Below w.heap.size w wr) (fun i _ => n - (intOf i).toNat)
  case atStart => exact ⟨0, Nat.zero_le _, rfl, Below.refl _ _⟩
  case round =>
    obtain ⟨k, hk, rfl, hb⟩ := hrel
    by_cases hkn : k < n
    · have g1 := (h1.below hb).2 k (by omega)
      have g2 := (h2.below hb).2 k (by omega)
      generalize nth xs k = v at g1 g2
      have hkI : (k : Int) < (n : Int) := by omega
      go_wp2
      go_quiet (fail)
      go_wp2
      go_roundw
      case rel => exact ⟨k + 1, by omega, by go_num, below_drewN hb _⟩
      case measure => simp [intOf]; omega
    · go_wp2
      go_ret
      exact ⟨rfl, hb⟩
theorem eq_v (a1 a2 : Option Addr) (n c1 c2 : Nat) (xs : List Int) (w : World) (hn : n ≤ 1048576) (h1 : Vw w a1 n xs) (h2 : Vw w a2 n xs) :
    Calls Trym.prog 20 #[.slice a1 n c1, .slice a2 n c2] w fun e w' => e = .returned (.bool true) ∧ Below w.heap.size w w' := by
  by_cases hp : 0 < n
  · obtain ⟨b1, o1, rfl, k1⟩ := h1.2.2 hp
    obtain ⟨b2, o2, rfl, k2⟩ := h2.2.2 hp
    exact eq_true b1 o1 b2 o2 n c1 c2 xs w h1.1 hn k1 k2
  · have h0 : n = 0 := by omega
    subst h0
    exact (eq_empty a1 a2 c1 c2 w).mono fun e w' h => ⟨h.1, by rw [h.2]; exact Below.refl _ _⟩
end Go.Proofs.Qxb6600804aMods
