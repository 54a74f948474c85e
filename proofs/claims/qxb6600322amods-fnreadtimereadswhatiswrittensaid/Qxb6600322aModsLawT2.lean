/-
  The walk of 'FnReadTimeReadsWhatIsWritten' (5).
-/
import Derived.Test.Qxb6600322aModsWPlain
import Derived.Deep.DeepCutAuto
namespace Go.Proofs.Qxb6600322aMods
open Go.RowKit
set_option linter.unusedVariables false
set_option linter.unusedSimpArgs false

theorem btW {w w1 w2 : World} (h1 : Below w.heap.size w w1) (h2 : Below w1.heap.size w1 w2) : Below w.heap.size w w2 := h1.trans (h2.mono h1.size)

set_option maxRecDepth 100000 in
theorem law5_long (a3 a4 : Option Addr) (h m s : Int) (l3 c3 l4 c4 : Nat) (w : World) (hl : ¬ l3 + l4 ≤ 1048576) :
    Calls Trym.prog 5 #[.int .u8 h, .int .u8 m, .int .u8 s, .slice a3 l3 c3, .slice a4 l4 c4] w fun e w' => e = .returned (.bool true) ∧ Below w.heap.size w w' := by
  by_cases h3 : l3 ≤ 1048576
  · by_cases h4 : l4 ≤ 1048576
    · have h5 : ¬ (l3 : Int) + (l4 : Int) ≤ 1048576 := by omega
      go_enter Trym.func5, Trym.ntmps5
      go_wp2
      go_ret
      exact ⟨rfl, Below.refl _ _⟩
    · have h4' : ¬ (l4 : Int) ≤ 1048576 := by omega
      go_enter Trym.func5, Trym.ntmps5
      go_wp2
      go_ret
      exact ⟨rfl, Below.refl _ _⟩
  · have h3' : ¬ (l3 : Int) ≤ 1048576 := by omega
    go_enter Trym.func5, Trym.ntmps5
    go_wp2
    go_ret
    exact ⟨rfl, Below.refl _ _⟩

set_option maxRecDepth 100000 in
theorem law5_range (a3 a4 : Option Addr) (h m s : Int) (l3 c3 l4 c4 : Nat) (w : World) (hl : l3 + l4 ≤ 1048576) (hr : ¬ (h ≤ 23 ∧ m ≤ 59 ∧ s ≤ 60)) :
    Calls Trym.prog 5 #[.int .u8 h, .int .u8 m, .int .u8 s, .slice a3 l3 c3, .slice a4 l4 c4] w fun e w' => e = .returned (.bool true) ∧ Below w.heap.size w w' := by
  have i3 : (l3 : Int) ≤ 1048576 := by omega
  have i4 : (l4 : Int) ≤ 1048576 := by omega
  have i5 : (l3 : Int) + (l4 : Int) ≤ 1048576 := by omega
  by_cases h1 : h ≤ 23
  · by_cases h2 : m ≤ 59
    · have h3 : ¬ s ≤ 60 := fun h' => hr ⟨h1, h2, h'⟩
      clear hr
      go_enter Trym.func5, Trym.ntmps5
      go_wp2
      go_ret
      exact ⟨rfl, Below.refl _ _⟩
    · clear hr
      go_enter Trym.func5, Trym.ntmps5
      go_wp2
      go_ret
      exact ⟨rfl, Below.refl _ _⟩
  · clear hr
    go_enter Trym.func5, Trym.ntmps5
    go_wp2
    go_ret
    exact ⟨rfl, Below.refl _ _⟩

/-- The cells of a literal. -/
theorem lit_cells (w : World) (C : Array Value) (t : TypeId) (B : Nat) (hB : B = w.heap.size) (xs : List Int) (h : C.toList = xs.map (Value.int .u8)) :
    ∀ (j : Nat) (u : Value), (xs.map (Value.int .u8))[j]? = some u → (w.alloc (.cells C t)).cell? ((⟨B, 0, none⟩ : Addr).add j) = some u := by
  intro j u hj
  rw [Addr.add_lit, Nat.zero_add, World.cell?_alloc_at _ _ _ _ hB, ← Array.getElem?_toList, h]
  exact hj
/-- The cells of a view. -/
theorem view_cells {w : World} {a : Option Addr} {len : Nat} {xs : List Int} (h : Vw w a len xs) : ∀ ad, a = some ad → ∀ (j : Nat) (u : Value), (xs.map (Value.int .u8))[j]? = some u → w.cell? (ad.add j) = some u := by
  intro ad had j u hj
  have hjl : j < xs.length := by
    rcases Nat.lt_or_ge j xs.length with h' | h'
    · exact h'
    · rw [List.getElem?_eq_none (by simpa using h')] at hj; cases hj
  obtain ⟨b, o, e, hat⟩ := h.2.2 (by rw [← h.1]; omega)
  rw [e] at had
  cases had
  rw [Addr.add_lit, hat.2 j hjl]
  simp [List.getElem?_eq_getElem hjl] at hj
  simp [nth, List.getD, List.getElem?_eq_getElem hjl, hj]
theorem own_at {w : World} {B n N : Nat} {xs : List Int} (h : w.ownsRow B 5 1 (.slice (some ⟨B, 0, none⟩) n N) n (xs.map (Value.int .u8))) (hn : xs.length = n) : At w B 0 xs := by
  have hB : B < w.heap.size := by
    rcases h.2 with ⟨h', _⟩ | ⟨g', cap', cur, h', _, hg, _⟩
    · simp at h'
    · simp only [Value.slice.injEq, Option.some.injEq, Addr.mk.injEq, and_true, true_and] at h'
      obtain ⟨rfl, rfl⟩ := h'
      exact (Array.getElem?_eq_some_iff.1 hg).1
  refine ⟨hB, fun i hi => ?_⟩
  rw [Nat.zero_add, h.cellAt i (by omega)]
  simp [List.getElem?_eq_getElem hi, nth, List.getD]

/-- The written time, its fraction and its tail, read back. -/
theorem RT_text {h m s : Int} {F T X : List Int} {l3 n : Nat} (h0 : 0 ≤ h ∧ h ≤ 23) (m0 : 0 ≤ m ∧ m ≤ 59) (s0 : 0 ≤ s ∧ s ≤ 60) (hF : F.length = l3) (hX : X = t8 h m s ++ (if l3 = 0 then [] else 46 :: F)) (hn : n = 8 + (if l3 = 0 then 0 else 1 + l3)) (hD : allD F)
    (hC : (l3 = 0 → T = [] ∨ nth T 0 ≠ 46) ∧ (0 < l3 → T = [] ∨ dig (nth T 0) = false)) :
    RT (X ++ T) = some (n, decide (h = 0 ∧ m = 0 ∧ s = 0) && allZ F) ∧ (X ++ T).drop n = T ∧ X.length = n := by
  by_cases h3 : l3 = 0
  · have hF0 : F = [] := List.eq_nil_of_length_eq_zero (by omega)
    rw [if_pos h3] at hX hn
    subst hX hn
    have e : allZ F = true := by rw [hF0]; rfl
    rw [List.append_nil, e, Bool.and_true]
    exact ⟨RT_bare h0 m0 s0 (hC.1 h3), rfl, rfl⟩
  · have hne : F ≠ [] := fun e => h3 (by rw [← hF, e]; rfl)
    rw [if_neg h3] at hX hn
    have e1 : X ++ T = t8 h m s ++ (46 :: F ++ T) := by rw [hX, List.append_assoc]
    have e2 : n = 9 + F.length := by omega
    rw [e1, e2]
    refine ⟨RT_frac h0 m0 s0 hD hne (hC.2 (by omega)), ?_, ?_⟩
    · have : (t8 h m s ++ (46 :: F ++ T)).drop (9 + F.length) = (F ++ T).drop F.length := by rw [← List.drop_drop]; rfl
      rw [this, List.drop_left]
    · rw [hX]; simp [t8]; omega

theorem allZ_drop (F : List Int) (k : Nat) (h : k < F.length) : allZ (F.drop k) = (decide (nth F k = 48) && allZ (F.drop (k + 1))) := by
  rw [drop_cons' F k h]; simp [allZ]

set_option maxHeartbeats 1600000 in
set_option maxRecDepth 100000 in
theorem law5_main (a3 a4 : Option Addr) (h m s : Int) (l3 c3 l4 c4 : Nat) (F T : List Int) (w : World) (hl : l3 + l4 ≤ 1048576) (h0 : 0 ≤ h ∧ h ≤ 23) (m0 : 0 ≤ m ∧ m ≤ 59) (s0 : 0 ≤ s ∧ s ≤ 60)
    (hF : Vw w a3 l3 F) (hT : Vw w a4 l4 T) (hc3 : a3 = none → c3 = 0) (hc4 : a4 = none → c4 = 0) (hbF : Byt F) (hbT : Byt T) :
    Calls Trym.prog 5 #[.int .u8 h, .int .u8 m, .int .u8 s, .slice a3 l3 c3, .slice a4 l4 c4] w fun e w' => e = .returned (.bool true) ∧ Below w.heap.size w w' := by
  have i3 : (l3 : Int) ≤ 1048576 := by omega
  have i4 : (l4 : Int) ≤ 1048576 := by omega
  have i5 : (l3 : Int) + (l4 : Int) ≤ 1048576 := by omega
  have HF3 : Hid (a3 = none → c3 = 0) := hc3
  have HF4 : Hid (a4 = none → c4 = 0) := hc4
  clear hc3 hc4
  go_enter Trym.func5, Trym.ntmps5
  go_wp2_with (go_at_call 15; go_in)
  go_loop [11] (fun v => ∃ k : Nat, k ≤ l3 ∧ v = .int .i64 k ∧ Hid (∀ j, j < k → dig (nth F j) = true)) (fun v => l3 - (intOf v).toNat)
  case atStart => exact ⟨0, Nat.zero_le _, rfl, fun j hj => absurd hj (Nat.not_lt_zero _)⟩
  case round =>
    obtain ⟨k, hk, rfl, HK⟩ := hrel
    by_cases hkl : k < l3
    · obtain ⟨b, o, e3, hat⟩ := hF.2.2 (by omega)
      subst e3
      have hck := hat.2 k (by rw [hF.1]; omega)
      cases hdv : dig (nth F k) with
      | true =>
        have hdg := fun W => digitB_is (nth F k) true hdv W
        have HS : Hid (∀ j, j < k + 1 → dig (nth F j) = true) := fun j hj => by
          by_cases e : j = k
          · rw [e]; exact hdv
          · exact HK.out j (by omega)
        clear HK hdv
        generalize nth F k = v at hck hdg
        go_wp2_with (go_at_call 16; refine (hdg _).mono ?_; rintro e wz ⟨rfl, hwz⟩; have hwz' := hwz.symm; subst hwz'; clear hwz)
        go_round
        case rel => exact ⟨k + 1, by omega, by go_num, HS⟩
        case measure => simp [intOf]; omega
      | false =>
        have hdg := fun W => digitB_is (nth F k) false hdv W
        clear HK hdv
        generalize nth F k = v at hck hdg
        go_wp2_with (go_at_call 16; refine (hdg _).mono ?_; rintro e wz ⟨rfl, hwz⟩; have hwz' := hwz.symm; subst hwz'; clear hwz)
        go_ret
        exact ⟨rfl, Below.refl _ _⟩
    · have hkl' : l3 = k := by omega
      subst hkl'
      have HAD : Hid (allD F) := by
        intro x hx
        obtain ⟨j, hj, rfl⟩ := List.getElem_of_mem hx
        have := HK.out j (by rw [← hF.1]; exact hj)
        simpa [nth, List.getD, List.getElem?_eq_getElem hj] using this
      clear HK hk hkl
      go_upto_if 65 with fail
      go_cut [] (fun wx => Hid ((l3 = 0 → T = [] ∨ nth T 0 ≠ 46) ∧ (0 < l3 → T = [] ∨ dig (nth T 0) = false)) ∧ wx = w)
      case first =>
        as_aux_lemma =>
          by_cases h4 : l4 = 0
          · have hT0 : T = [] := List.eq_nil_of_length_eq_zero (by rw [hT.1]; exact h4)
            subst h4
            go_wp2
            go_meet
            case rel => exact ⟨⟨fun _ => .inl hT0, fun _ => .inl hT0⟩, rfl⟩
          · obtain ⟨b, o, e4, hat⟩ := hT.2.2 (by omega)
            subst e4
            have g0 := hat.2 0 (by rw [hT.1]; omega)
            rw [Nat.add_zero] at g0
            obtain ⟨v, hv⟩ : ∃ v, nth T 0 = v := ⟨_, rfl⟩
            rw [hv] at g0
            have HV : Hid (nth T 0 = v) := hv
            clear hv
            by_cases h3 : l3 = 0
            · subst h3
              by_cases e46 : v = 46
              · subst e46
                go_wp2
                go_ret
                exact ⟨rfl, Below.refl _ _⟩
              · have f46 : (v == 46) = false := by simpa using e46
                go_wp2
                go_meet
                case rel => exact ⟨⟨fun _ => .inr (by rw [HV.out]; exact e46), fun h => absurd h (Nat.lt_irrefl _)⟩, rfl⟩
            · have f3 : ((l3 : Int) == 0) = false := by simp; omega
              cases hdv : dig v with
              | true =>
                have hdg := fun W => digitB_is v true hdv W
                clear hdv
                go_wp2_with (go_at_call 16; refine (hdg _).mono ?_; rintro e wz ⟨rfl, hwz⟩; have hwz' := hwz.symm; subst hwz'; clear hwz)
                go_ret
                exact ⟨rfl, Below.refl _ _⟩
              | false =>
                have hdg := fun W => digitB_is v false hdv W
                go_wp2_with (go_at_call 16; refine (hdg _).mono ?_; rintro e wz ⟨rfl, hwz⟩; have hwz' := hwz.symm; subst hwz'; clear hwz)
                go_meet
                case rel => exact ⟨⟨fun h => absurd h h3, fun _ => .inr (by rw [HV.out]; exact hdv)⟩, rfl⟩
      obtain ⟨HC, hwc⟩ := hcut
      have hwc' := hwc.symm
      subst hwc'
      clear hwc
      have HBF : Hid (Byt F) := hbF
      have HBT : Hid (Byt T) := hbT
      clear hbF hbT
      go_upto_region 17 with fail
      go_cut [3] (fun v3 wx => ∃ a3', v3 = .slice a3' l3 l3 ∧ Vw wx a3' l3 F ∧ Below w.heap.size w wx)
      case first =>
        as_aux_lemma =>
          have hcl := clone_v a3 l3 c3 F w (by omega) hF HF3.out
          go_wp2_with (go_at_call 11; refine hcl.mono ?_; rintro e w1 ⟨⟨a3', rfl, hF1⟩, hb1⟩)
          go_meet
          case rel => exact ⟨_, rfl, by assumption, by assumption⟩
      obtain ⟨a3', rfl, hF1, hb1⟩ := hcut
      go_upto_region 18 with fail
      go_cut [4] (fun v4 wx => ∃ a4', v4 = .slice a4' l4 l4 ∧ Vw wx a4' l4 T ∧ Below wc.heap.size wc wx)
      case first =>
        as_aux_lemma =>
          have hcl := clone_v a4 l4 c4 T wc (by omega) (hT.below hb1) HF4.out
          go_wp2_with (go_at_call 11; refine hcl.mono ?_; rintro e w1 ⟨⟨a4', rfl, hT1⟩, hb2⟩)
          go_meet
          case rel => exact ⟨_, rfl, by assumption, by assumption⟩
      obtain ⟨a4', rfl, hT1, hb2⟩ := hcut
      have hF2 := hF1.below hb2
      have hbc := btW hb1 hb2
      clear hF1 hF hT hb1 hb2 HF3 HF4
      obtain ⟨we, rfl⟩ : ∃ we, we = wc := ⟨wc, rfl⟩
      obtain ⟨i0, hi, hz0, hz1, hz2⟩ := info_parts Trym.info5
      go_upto_if 118 with (first
        | (at_make; refine wpList_make_own _ rfl _ _ 25 rfl we.heap.size 5 i0 (.int .u8 0) 1 Trym.underlying25 hi hz0 hz1 _ _ _ (9 + l3 + l4) rfl rfl (by omega) (by rw [hz2]; omega) (by unfold maxLen; omega) (Nat.le_refl _) ?_; intro w2 hown hgrow; have hb2 := (Below.refl we.heap.size we).grown hgrow (Nat.le_refl _) (fun k h => by cases h))
        | (at_builtin; refine wpList_append_fits _ rfl (.tmp 95) (.tmp 114) 25 rfl we.heap.size 5 i0 1 Trym.underlying25 hi hz1 we.heap.size 0 (9 + l3 + l4) _ rfl (hown.alloc _) ⟨w2.heap.size, 0, none⟩ 8 8 ((t8 h m s).map (Value.int .u8)) rfl rfl (lit_cells w2 _ 5 _ rfl (t8 h m s) rfl) (ints_oneCell _ _) (by omega) ?_; intro w3 hown1 hgrow1; simp only [Nat.zero_add, List.nil_append] at hown1; have hb3 := (hb2.alloc hb2.size _).grown hgrow1 (by have := hb2.size; simp; omega) (fun k h => by cases h; exact Nat.le_refl _); clear hown hgrow hgrow1))
      go_cut [12] (fun v wx => ∃ n, v = .slice (some ⟨we.heap.size, 0, none⟩) n (9 + l3 + l4) ∧ n + l4 ≤ 9 + l3 + l4 ∧ Hid (n = 8 + (if l3 = 0 then 0 else 1 + l3)) ∧
        wx.ownsRow we.heap.size 5 1 (.slice (some ⟨we.heap.size, 0, none⟩) n (9 + l3 + l4)) n ((t8 h m s ++ (if l3 = 0 then [] else 46 :: F)).map (Value.int .u8)) ∧ Below we.heap.size we wx)
      case first =>
        as_aux_lemma =>
          by_cases h3 : l3 = 0
          · subst h3
            go_wp2
            go_meet
            case rel => exact ⟨8, rfl, by omega, rfl, by simpa using hown1, hb3⟩
          · have q3 : (if l3 = 0 then [] else 46 :: F) = 46 :: F := if_neg h3
            have q4 : 8 + (if l3 = 0 then 0 else 1 + l3) = 9 + l3 := by rw [if_neg h3]; omega
            have Q3 : Hid ((if l3 = 0 then [] else 46 :: F) = 46 :: F) := q3
            have Q4 : Hid (8 + (if l3 = 0 then 0 else 1 + l3) = 9 + l3) := q4
            have hl3 : (0 : Int) < (l3 : Int) := by omega
            clear q3 q4
            go_wp2_with (first
              | (at_builtin; refine wpList_append_fits _ rfl (.tmp 119) (.tmp 120) 25 rfl we.heap.size 5 i0 1 Trym.underlying25 hi hz1 we.heap.size 8 (9 + l3 + l4) _ rfl (hown1.alloc _) ⟨w3.heap.size, 0, none⟩ 1 1 (([46] : List Int).map (Value.int .u8)) rfl rfl (lit_cells w3 _ 5 _ rfl [46] rfl) (ints_oneCell _ _) (by omega) ?_; intro w4 hown2 hgrow2; rw [← List.map_append] at hown2; have hb4 := (hb3.alloc hb3.size _).grown hgrow2 (by have := hb3.size; simp; omega) (fun k h => by cases h; exact Nat.le_refl _); clear hgrow2)
              | (at_builtin; refine wpList_append_fits_any _ rfl (.tmp 122) (.tmp 123) 25 rfl we.heap.size 5 i0 1 Trym.underlying25 hi hz1 we.heap.size 9 (9 + l3 + l4) _ rfl hown2 a3' l3 l3 (F.map (Value.int .u8)) rfl (by rw [List.length_map, hF2.1]; omega) (fun h => ⟨hF2.2.1 h, hF2.2.1 h⟩) (view_cells (hF2.below hb4)) (ints_oneCell _ _) (by omega) ?_; intro w5 hown3 hgrow3; rw [← List.map_append] at hown3; have hb5 := hb4.grown hgrow3 hb4.size (fun k h => by cases h; exact Nat.le_refl _); clear hgrow3))
            go_meet
            case rel => exact ⟨9 + l3, rfl, by omega, Q4.out.symm, by rw [Q3.out]; simpa using hown3, hb5⟩
      obtain ⟨n, rfl, hn4, HN, hown1, hb3⟩ := hcut
      obtain ⟨X, hX⟩ : ∃ X, X = t8 h m s ++ (if l3 = 0 then [] else 46 :: F) := ⟨_, rfl⟩
      have HX : Hid (X = t8 h m s ++ (if l3 = 0 then [] else 46 :: F)) := hX
      rw [← hX] at hown1
      clear hX
      go_upto_region 25 with (at_builtin; refine wpList_append_fits_any _ rfl (.tmp 125) (.tmp 126) 25 rfl _ 5 i0 1 Trym.underlying25 hi hz1 _ n (9 + l3 + l4) _ rfl hown1 a4' l4 l4 (T.map (Value.int .u8)) rfl (by rw [List.length_map, hT1.1]; omega) (fun h => ⟨hT1.2.1 h, hT1.2.1 h⟩) (view_cells (hT1.below hb3)) (ints_oneCell _ _) (by omega) ?_; intro w6 hown4 hgrow4; rw [← List.map_append] at hown4; have hb6 := hb3.grown hgrow4 hb3.size (fun k h => by cases h; exact Nat.le_refl _); clear hgrow4 hown1)
      have HBY : Hid (Byt (X ++ T)) := by
        refine byt_app ?_ HBT.out
        rw [HX.out]
        refine byt_app (byt_t8 h0 m0 s0) ?_
        split
        · intro x hx; cases hx
        · intro x hx
          rcases List.mem_cons.1 hx with rfl | hx'
          · omega
          · exact HBF.out x hx'
      obtain ⟨hRT, hdrop, hXl⟩ := RT_text h0 m0 s0 hF2.1 HX.out HN.out HAD.out HC.out
      have hat := own_at hown4 (by rw [List.length_append, hXl, hT1.1])
      have hVT := hT1.below hb6
      have hVF := hF2.below hb6
      have hbw := btW hbc hb6
      have hnb : n ≤ 9 + l3 := by omega
      have hrt := rt_all we.heap.size 0 (n + l4) (9 + l3 + l4) (X ++ T) w6 (by omega) (by omega) (by rw [List.length_append, hXl, hT1.1]) HBY.out hat
      rw [hRT] at hrt
      have hzz : Calls Trym.prog 12 #[.slice (some ⟨we.heap.size, 0, none⟩) (n + l4) (9 + l3 + l4)] w6 fun e w' => (∃ o', e = .returned (.tuple #[.slice (some ⟨we.heap.size, o', none⟩) l4 (9 + l3 + l4 - n), .bool (decide (h = 0 ∧ m = 0 ∧ s = 0) && allZ F), .bool true]) ∧ At w' we.heap.size o' T) ∧ Below w6.heap.size w6 w' := by
        refine zzrt _ _ _ w6 _ (hrt.mono fun e w' hp => ?_)
        obtain ⟨⟨o', he, hat'⟩, hbl⟩ := hp
        rw [hdrop] at hat'
        have e1 : n + l4 - n = l4 := by omega
        rw [e1] at he
        exact ⟨⟨_, _, _, he⟩, ⟨o', he, hat'⟩, hbl⟩
      obtain ⟨M, hM⟩ : ∃ M, (decide (h = 0 ∧ m = 0 ∧ s = 0) && allZ F) = M := ⟨_, rfl⟩
      rw [hM] at hzz
      have HM : Hid ((decide (h = 0 ∧ m = 0 ∧ s = 0) && allZ F) = M) := hM
      clear hM hrt hRT hdrop hXl hat hown4 HX HN HC HAD HBY hT1 hF2 hb6 hb3 hbc
      go_upto_region 26 with (go_at_call 12; refine hzz.mono ?_; rintro e w7 ⟨⟨o', rfl, hat'⟩, hb7⟩; have hVT7 := hVT.below hb7; have hVF7 := hVF.below hb7; have hbw7 := btW hbw hb7; clear hVT hVF hbw hb7)
      go_cut [16] (fun t wx => t = .bool (decide (h = 0 ∧ m = 0 ∧ s = 0)) ∧ wx = w7)
      case first =>
        as_aux_lemma =>
          by_cases e0 : h = 0
          · subst e0
            by_cases e1 : m = 0
            · subst e1
              by_cases e2 : s = 0
              · subst e2
                go_wp2
                go_meet
                case rel => exact ⟨rfl, rfl⟩
              · have hT : Hid (decide ((0 : Int) = 0 ∧ (0 : Int) = 0 ∧ s = 0) = false) := decide_eq_false (by omega)
                have f2 : (s == 0) = false := by simpa using e2
                go_wp2
                go_meet
                case rel => exact ⟨by rw [hT.out], rfl⟩
            · have hT : Hid (decide ((0 : Int) = 0 ∧ m = 0 ∧ s = 0) = false) := decide_eq_false (by omega)
              have f2 : (m == 0) = false := by simpa using e1
              go_wp2
              go_meet
              case rel => exact ⟨by rw [hT.out], rfl⟩
          · have hT : Hid (decide (h = 0 ∧ m = 0 ∧ s = 0) = false) := decide_eq_false (by omega)
            have f2 : (h == 0) = false := by simpa using e0
            go_wp2
            go_meet
            case rel => exact ⟨by rw [hT.out], rfl⟩
      obtain ⟨rfl, hwc⟩ := hcut
      have hwc' := hwc.symm
      subst hwc'
      clear hwc
      generalize decide (h = 0 ∧ m = 0 ∧ s = 0) = Z0 at HM ⊢
      go_wp2
      go_loop [16, 17] (fun v16 v17 => ∃ (k : Nat) (B : Bool), k ≤ l3 ∧ v17 = .int .i64 k ∧ v16 = .bool B ∧ Hid ((B && allZ (F.drop k)) = M)) (fun _ v17 => l3 - (intOf v17).toNat)
      case atStart => exact ⟨0, Z0, Nat.zero_le _, rfl, rfl, HM⟩
      case round =>
        obtain ⟨k, B, hk, rfl, rfl, HK⟩ := hrel
        by_cases hkl : k < l3
        · obtain ⟨b, o, e3, hatF⟩ := hVF7.2.2 (by omega)
          subst e3
          have hck := hatF.2 k (by rw [hVF7.1]; omega)
          have hst := allZ_drop F k (by rw [hVF7.1]; omega)
          obtain ⟨v, hv⟩ : ∃ v, nth F k = v := ⟨_, rfl⟩
          rw [hv] at hck hst
          have HST : Hid (allZ (F.drop k) = (decide (v = 48) && allZ (F.drop (k + 1)))) := hst
          clear hst hv
          by_cases e48 : v = 48
          · subst e48
            have HS : Hid ((B && allZ (F.drop (k + 1))) = M) := by
              show _ = _; have := HK.out; rw [HST.out] at this; simpa using this
            go_wp2
            go_round
            case rel => exact ⟨k + 1, B, by omega, by go_num, rfl, HS⟩
            case measure => simp [intOf]; omega
          · have HS : Hid ((false && allZ (F.drop (k + 1))) = M) := by
              show _ = _; have := HK.out; rw [HST.out, decide_eq_false e48] at this; simpa using this
            have f48 : (v != 48) = true := by simpa using e48
            go_wp2
            go_round
            case rel => exact ⟨k + 1, false, by omega, by go_num, rfl, HS⟩
            case measure => simp [intOf]; omega
        · have hkl' : l3 = k := by omega
          subst hkl'
          have hBM : B = M := by
            have := HK.out
            rw [List.drop_eq_nil_of_le (by rw [hVF7.1]; exact Nat.le_refl _)] at this
            simpa [allZ] using this
          subst hBM
          have hVr : Vw w7 (some ⟨we.heap.size, o', none⟩) l4 T := ⟨hVT7.1, fun h => (by cases h), fun _ => ⟨_, _, rfl, hat'⟩⟩
          have hsame := same_v (some ⟨we.heap.size, o', none⟩) a4' l4 (9 + l3 + l4 - n) l4 T w7 (by omega) hVr hVT7
          clear HK
          cases B
          all_goals
            go_wp2_with (go_at_call 14; refine hsame.mono ?_; rintro e w8 ⟨rfl, hb8⟩; have hb9 := btW hbw7 hb8)
            go_ret
            exact ⟨rfl, by assumption⟩

theorem vw_of {w : World} {a : Option Addr} {len cap : Nat} {zs : List Int}
    (h : (a = none ∧ len = 0 ∧ cap = 0 ∧ zs = []) ∨ ∃ x, a = some x ∧ len ≤ cap ∧ cap ≤ maxLen ∧ zs.length = cap ∧ (∀ i, i < zs.length → w.cell? (x.add i) = some (.int .u8 (zs.getD i 0))) ∧ ∀ n ∈ zs, (Lit.int .u8 n).wf = true) :
    Vw w a len (zs.take len) ∧ (a = none → cap = 0) ∧ Byt (zs.take len) := by
  rcases h with ⟨rfl, rfl, rfl, rfl⟩ | ⟨x, rfl, hlc, hcm, hzl, hcell, hwf⟩
  · exact ⟨⟨rfl, fun _ => rfl, fun h => absurd h (Nat.lt_irrefl _)⟩, fun _ => rfl, fun x hx => by simp at hx⟩
  · refine ⟨⟨by simp; omega, fun h => (by cases h), fun hp => ?_⟩, fun h => (by cases h), fun y hy => ?_⟩
    · obtain ⟨b, off, rfl, hc⟩ := ints_at hcell (by omega)
      refine ⟨b, off, rfl, World.block_lt_of_cell? _ _ (hc 0 (by omega)), fun i hi => ?_⟩
      have hi' : i < len := by simp at hi; omega
      rw [nth_take _ _ _ hi']
      exact hc i (by omega)
    · have := bounds_u8 (hwf y (List.mem_of_mem_take hy)); omega

/-- Every input. -/
theorem law5_all (a3 a4 : Option Addr) (h m s : Int) (l3 c3 l4 c4 : Nat) (F T : List Int) (w : World) (bh : 0 ≤ h) (bm : 0 ≤ m) (bs : 0 ≤ s)
    (hF : Vw w a3 l3 F) (hT : Vw w a4 l4 T) (hc3 : a3 = none → c3 = 0) (hc4 : a4 = none → c4 = 0) (hbF : Byt F) (hbT : Byt T) :
    Calls Trym.prog 5 #[.int .u8 h, .int .u8 m, .int .u8 s, .slice a3 l3 c3, .slice a4 l4 c4] w fun e w' => e = .returned (.bool true) ∧ Below w.heap.size w w' := by
  by_cases hl : l3 + l4 ≤ 1048576
  · by_cases hr : h ≤ 23 ∧ m ≤ 59 ∧ s ≤ 60
    · exact law5_main a3 a4 h m s l3 c3 l4 c4 F T w hl ⟨bh, hr.1⟩ ⟨bm, hr.2.1⟩ ⟨bs, hr.2.2⟩ hF hT hc3 hc4 hbF hbT
    · exact law5_range a3 a4 h m s l3 c3 l4 c4 w hl hr
  · exact law5_long a3 a4 h m s l3 c3 l4 c4 w hl
end Go.Proofs.Qxb6600322aMods
