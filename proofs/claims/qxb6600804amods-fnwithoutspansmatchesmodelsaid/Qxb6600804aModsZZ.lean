/-
  'ZZWithoutSpans' (19): it lays the spans, and hands on.
-/
import Derived.Test.Qxb6600804aModsValid
import Derived.RegionTactic
namespace Go.Proofs.Qxb6600804aMods
open Go.RowKit
set_option linter.unusedVariables false
set_option linter.unusedSimpArgs false

theorem Trym.info43 : (Trym.prog.info? 43).map (fun i => (i.zero, i.size, i.bytes)) = some (some (.agg #[.int .i64 0, .int .i64 0, .bool false, .int .i64 0, .int .i64 0]), 5, 40) := by kernel_rfl

/-- The cells of span j. -/
def SpanIn (xs : List Value) (S E : List Int) (j : Nat) : Prop :=
  xs[j * 5]? = some (.int .i64 (nth S j)) ∧ xs[j * 5 + 1]? = some (.int .i64 (nth E j)) ∧ xs[j * 5 + 2]? = some (.bool false) ∧ xs[j * 5 + 3]? = some (.int .i64 0) ∧ xs[j * 5 + 4]? = some (.int .i64 0)
/-- The spans lie in block bs. -/
def SpansAt (w : World) (bs q : Nat) (S E : List Int) : Prop :=
  bs < w.heap.size ∧ ∀ j, j < q → w.cell? ⟨bs, j * 5, none⟩ = some (.int .i64 (nth S j)) ∧ w.cell? ⟨bs, j * 5 + 1, none⟩ = some (.int .i64 (nth E j)) ∧ w.cell? ⟨bs, j * 5 + 2, none⟩ = some (.bool false) ∧
    w.cell? ⟨bs, j * 5 + 3, none⟩ = some (.int .i64 0) ∧ w.cell? ⟨bs, j * 5 + 4, none⟩ = some (.int .i64 0)
theorem SpansAt.below {w w' : World} {bs q : Nat} {S E : List Int} (h : SpansAt w bs q S E) (hb : Below w.heap.size w w') : SpansAt w' bs q S E :=
  ⟨Nat.lt_of_lt_of_le h.1 hb.size, fun j hj => by
    obtain ⟨a, b, c, d, e⟩ := h.2 j hj
    exact ⟨(hb.cell (p := ⟨bs, _, none⟩) h.1).trans a, (hb.cell (p := ⟨bs, _, none⟩) h.1).trans b, (hb.cell (p := ⟨bs, _, none⟩) h.1).trans c, (hb.cell (p := ⟨bs, _, none⟩) h.1).trans d, (hb.cell (p := ⟨bs, _, none⟩) h.1).trans e⟩⟩

theorem span_step {B q k : Nat} {S E : List Int} {s e : Int} {w wr : World} {xs : List Value} (hk : k < q) (hs : nth S k = s) (he : nth E k = e)
    (hown : wr.ownsRow B 43 5 (.slice (some ⟨B, 0, none⟩) q q) q xs) (hx : ∀ j, j < k → SpanIn xs S E j) (hb : Below B w wr) :
    ∃ xs', (((((wr.setCell ⟨B, k * 5, none⟩ (.int .i64 s)).setCell ⟨B, k * 5 + 1, none⟩ (.int .i64 e)).setCell ⟨B, k * 5 + 2, none⟩ (.bool false)).setCell ⟨B, k * 5 + 3, none⟩ (.int .i64 0)).setCell ⟨B, k * 5 + 4, none⟩ (.int .i64 0)).ownsRow B 43 5 (.slice (some ⟨B, 0, none⟩) q q) q xs' ∧
      (∀ j, j < k + 1 → SpanIn xs' S E j) ∧
      Below B w (((((wr.setCell ⟨B, k * 5, none⟩ (.int .i64 s)).setCell ⟨B, k * 5 + 1, none⟩ (.int .i64 e)).setCell ⟨B, k * 5 + 2, none⟩ (.bool false)).setCell ⟨B, k * 5 + 3, none⟩ (.int .i64 0)).setCell ⟨B, k * 5 + 4, none⟩ (.int .i64 0)) := by
  have hl : xs.length = q * 5 := hown.1
  have r1 := hown.stored (k * 5) (.int .i64 s)
  have r2 := r1.1.stored (k * 5 + 1) (.int .i64 e)
  have r3 := r2.1.stored (k * 5 + 2) (.bool false)
  have r4 := r3.1.stored (k * 5 + 3) (.int .i64 0)
  have r5 := r4.1.stored (k * 5 + 4) (.int .i64 0)
  refine ⟨_, r5.1, fun j hj => ?_, ((((hb.setCell (Nat.le_refl _) _).setCell (Nat.le_refl _) _).setCell (Nat.le_refl _) _).setCell (Nat.le_refl _) _).setCell (Nat.le_refl _) _⟩
  by_cases ej : j = k
  · subst ej
    subst hs he
    unfold SpanIn
    have l0 : j * 5 < xs.length := by omega
    have l1 : j * 5 + 1 < xs.length := by omega
    have l2 : j * 5 + 2 < xs.length := by omega
    have l3 : j * 5 + 3 < xs.length := by omega
    have l4 : j * 5 + 4 < xs.length := by omega
    simp [List.getElem?_set, l0, l1, l2, l3, l4]
  · have h := hx j (by omega)
    unfold SpanIn at h ⊢
    simp only [List.getElem?_set, List.length_set]
    obtain ⟨a, b, c, d, f⟩ := h
    refine ⟨?_, ?_, ?_, ?_, ?_⟩ <;> (repeat' (rw [if_neg (by omega)])) <;> assumption

set_option maxHeartbeats 800000 in
theorem zzws (a0 a1 a2 : Option Addr) (n c0 q : Nat) (S E : List Int) (w : World) (Q : Ending → World → Prop) (hq : q ≤ 1048576) (h1 : VwI w a1 q S) (h2 : VwI w a2 q E)
    (hws : ∀ W, Below w.heap.size w W → SpansAt W w.heap.size q S E → Calls Trym.prog 31 #[.slice a0 n c0, .slice (some ⟨w.heap.size, 0, none⟩) q q] W fun e w' => (∃ r m c, e = .returned (.slice r m c)) ∧ Q e w') :
    Calls Trym.prog 19 #[.slice a0 n c0, .slice a1 q q, .slice a2 q q] w Q := by
  obtain ⟨i0, hi, hz0, hz1, hz2⟩ := info_parts Trym.info43
  go_enter Trym.func19, Trym.ntmps19
  go_wp2_with (at_make; refine wpList_make_full _ rfl _ _ 41 rfl w.heap.size 43 i0 (.agg #[.int .i64 0, .int .i64 0, .bool false, .int .i64 0, .int .i64 0]) 5 Trym.underlying41 hi hz0 hz1 .i64 .i64 _ _ q rfl rfl rfl rfl (by rw [hz2]; omega) (by unfold maxLen; omega) (Nat.le_refl _) ?_)
  intro w1 hown hgrow
  go_wp2
  go_loopw [14] (fun v wr => ∃ (k : Nat) (xs : List Value), k ≤ q ∧ v = .int .i64 k ∧ wr.ownsRow w.heap.size 43 5 (.slice (some ⟨w.heap.size, 0, none⟩) q q) q xs ∧ (∀ j, j < k → SpanIn xs S E j) ∧ Below w.heap.size w wr)
    (fun v _ => q - (intOf v).toNat)
  case atStart => exact ⟨0, _, Nat.zero_le _, rfl, hown, fun j hj => absurd hj (Nat.not_lt_zero _), (Below.refl _ _).grown hgrow (Nat.le_refl _) (fun k h => by cases h)⟩
  case round =>
    obtain ⟨k, xs, hk, rfl, hown, hx, hb⟩ := hrel
    by_cases hkq : k < q
    · obtain ⟨b1, o1, e1, k1⟩ := (h1.below hb).2.2 (by omega)
      obtain ⟨b2, o2, e2, k2⟩ := (h2.below hb).2.2 (by omega)
      subst e1
      subst e2
      have g1 := k1.2 k (by rw [h1.1]; omega)
      have g2 := k2.2 k (by rw [h2.1]; omega)
      obtain ⟨s, hs⟩ : ∃ s, nth S k = s := ⟨_, rfl⟩
      obtain ⟨e, he⟩ : ∃ e, nth E k = e := ⟨_, rfl⟩
      rw [hs] at g1
      rw [he] at g2
      have hl : xs.length = q * 5 := hown.1
      have z0 := hown.cellAt (k * 5) (by omega)
      have z1 := hown.cellAt (k * 5 + 1) (by omega)
      have z2 := hown.cellAt (k * 5 + 2) (by omega)
      have z3 := hown.cellAt (k * 5 + 3) (by omega)
      have z4 := hown.cellAt (k * 5 + 4) (by omega)
      rw [List.getElem?_eq_getElem (by omega)] at z0 z1 z2 z3 z4
      have f0 := hown.frozenAt (k * 5)
      have f1 := hown.frozenAt (k * 5 + 1)
      have f2 := hown.frozenAt (k * 5 + 2)
      have f3 := hown.frozenAt (k * 5 + 3)
      have f4 := hown.frozenAt (k * 5 + 4)
      generalize xs[k * 5]'(by omega) = y0 at z0
      generalize xs[k * 5 + 1]'(by omega) = y1 at z1
      generalize xs[k * 5 + 2]'(by omega) = y2 at z2
      generalize xs[k * 5 + 3]'(by omega) = y3 at z3
      generalize xs[k * 5 + 4]'(by omega) = y4 at z4
      clear k1 k2 hl
      have R := span_step hkq hs he hown hx hb
      have HS : Hid (nth S k = s) := hs
      have HE : Hid (nth E k = e) := he
      clear hs he
      have hkI : (k : Int) < (q : Int) := by omega
      go_wp2
      go_region
      go_wp2
      go_roundw
      case rel =>
        obtain ⟨xs', r1, r2, r3⟩ := R
        exact ⟨k + 1, xs', by omega, by go_num, r1, r2, r3.drew⟩
      case measure => simp [intOf]; omega
    · have hkq' : q = k := by omega
      subst hkq'
      have hsp : SpansAt wr w.heap.size q S E := by
        refine ⟨?_, fun j hj => ?_⟩
        · rcases hown.2 with ⟨h', _⟩ | ⟨g', cap', cur, h', _, hg, _⟩
          · simp at h'
          · simp only [Value.slice.injEq, Option.some.injEq, Addr.mk.injEq, and_true, true_and] at h'
            obtain ⟨rfl, rfl⟩ := h'
            exact (Array.getElem?_eq_some_iff.1 hg).1
        · obtain ⟨a, b, c, d, f⟩ := hx j hj
          rw [hown.cellAt _ (by omega), hown.cellAt _ (by omega), hown.cellAt _ (by omega), hown.cellAt _ (by omega), hown.cellAt _ (by omega)]
          exact ⟨a, b, c, d, f⟩
      have hcall := hws wr hb hsp
      clear hown hx hsp hws hgrow h1 h2
      go_wp2_with fail
      refine hcall.mono ?_
      rintro e w' ⟨⟨rv, rm, rc, rfl⟩, hq'⟩
      clear hcall
      go_wp2_with fail
      exact hq'
end Go.Proofs.Qxb6600804aMods
