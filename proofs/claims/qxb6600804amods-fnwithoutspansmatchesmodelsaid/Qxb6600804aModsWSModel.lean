/-
  'zzmB1WithoutSpansModel' (21) by its contract: it answers as 'withoutSpans' does.
-/
import Derived.Test.Qxb6600804aModsWSZero
namespace Go.Proofs.Qxb6600804aMods
open Go.RowKit
set_option linter.unusedVariables false
set_option linter.unusedSimpArgs false

theorem seg_self (d : List Int) (f : Nat) : seg d f f = [] := by simp [seg]
theorem seg_succ (d : List Int) (f p : Nat) (h1 : f ≤ p) (h2 : p < d.length) : seg d f (p + 1) = seg d f p ++ [nth d p] := by
  unfold seg
  have e : p + 1 - f = (p - f) + 1 := by omega
  have hl : p - f < (d.drop f).length := by rw [List.length_drop]; omega
  rw [e, List.take_succ_eq_append_getElem hl]
  congr 2
  have e2 : f + (p - f) = p := by omega
  simp [List.getElem_drop, e2, nth, List.getD, List.getElem?_eq_getElem h2]
theorem seg_full (d : List Int) (f : Nat) : seg d f d.length = d.drop f := by
  unfold seg
  exact List.take_of_length_le (by rw [List.length_drop]; exact Nat.le_refl _)

/-- One byte more. -/
theorem isB_no {d : List Int} {s p : Nat} (h : lb d p = 0 ∨ (nth d p = 10 ∧ s < p ∧ nth d (p - 1) = 13)) : isB d s p = false := by
  unfold isB
  rcases h with h | h
  · simp [h]
  · rw [decide_eq_true h]; simp
theorem isB_yes {d : List Int} {s p : Nat} (h1 : lb d p ≠ 0) (h2 : ¬ (nth d p = 10 ∧ s < p ∧ nth d (p - 1) = 13)) : isB d s p = true := by
  unfold isB
  rw [decide_eq_false h2]; simp [h1]
theorem cn_yes {d : List Int} {s p : Nat} {Y X : List Int} (hsp : s ≤ p) (h : isB d s p = true) (hY : Y = X ++ List.replicate (cn d s (p - s)) 10) : Y ++ [10] = X ++ List.replicate (cn d s (p + 1 - s)) 10 := by
  rw [cn_next d s p hsp, if_pos h, hY, List.replicate_succ', List.append_assoc]
theorem cn_no {d : List Int} {s p : Nat} {Y X : List Int} (hsp : s ≤ p) (h : isB d s p = false) (hY : Y = X ++ List.replicate (cn d s (p - s)) 10) : Y = X ++ List.replicate (cn d s (p + 1 - s)) 10 := by
  rw [cn_next d s p hsp, h, hY]; simp

set_option maxHeartbeats 3200000 in
set_option maxRecDepth 100000 in
theorem wsm_core (a0 a1 a2 : Option Addr) (n q : Nat) (d S E : List Int) (w : World) (hn : n ≤ 524288) (hq : q ≤ 16384) (hby : Byt d) (hv : Vw w a0 n d) (h1 : VwI w a1 q S) (h2 : VwI w a2 q E) (hval : Val n S E q) :
    Calls Trym.prog 21 #[.slice a0 n n, .slice a1 q q, .slice a2 q q] w fun e w' =>
      (e = .returned (.slice (some ⟨w.heap.size, 0, none⟩) (wsl d S E q).length n) ∧ At w' w.heap.size 0 (wsl d S E q)) ∧ Below w.heap.size w w' := by
  have HV : Hid (Val n S E q) := hval
  have HBY : Hid (Byt d) := hby
  have HD : Hid (d.length = n) := hv.1
  clear hval hby
  obtain ⟨i0, hi, hz0, hz1, hz2⟩ := info_parts Trym.info5
  go_enter Trym.func21, Trym.ntmps21
  go_wp2_with (at_make; refine wpList_make_own _ rfl _ _ 22 rfl w.heap.size 5 i0 (.int .u8 0) 1 Trym.underlying22 hi hz0 hz1 _ _ _ n rfl rfl rfl (by rw [hz2]; omega) (by unfold maxLen; omega) (Nat.le_refl _) ?_; intro w1 hown hgrow)
  go_loopw [7, 8, 9] (fun v7 v8 v9 wr => ∃ (k : Nat) (X : List Int), k ≤ q ∧ v9 = .int .i64 k ∧ v8 = .int .i64 (fr E k : Nat) ∧ v7 = .slice (some ⟨w.heap.size, 0, none⟩) X.length n ∧
      wr.ownsRow w.heap.size 5 1 (.slice (some ⟨w.heap.size, 0, none⟩) X.length n) X.length (X.map (Value.int .u8)) ∧ Hid (X = acc d S E k) ∧ Below w.heap.size w wr)
    (fun _ _ v9 _ => q - (intOf v9).toNat)
  case atStart => exact ⟨0, [], Nat.zero_le _, rfl, rfl, rfl, hown, rfl, (Below.refl _ _).grown hgrow (Nat.le_refl _) (fun k h => by cases h)⟩
  case round =>
    obtain ⟨k, X, hk, rfl, rfl, rfl, hown, HX, hb⟩ := hrel
    clear hgrow
    by_cases hkq : k < q
    · obtain ⟨v1, v2, v3, v4, v5, v6, v7, v8⟩ := val_at HV.out hkq
      obtain ⟨b1, o1, e1, t1⟩ := h1.2.2 (by omega)
      obtain ⟨b2, o2, e2, t2⟩ := h2.2.2 (by omega)
      subst e1
      subst e2
      have y1 := t1.2 k (by rw [h1.1]; omega)
      have y2 := t2.2 k (by rw [h2.1]; omega)
      have hal := acc_len HD.out HV.out (k := k) (by omega)
      rw [← HX.out] at hal
      rw [v1] at y1
      rw [v2] at y2
      have H5 : Hid (fr E (k + 1) = ep E k) := v5
      have hl1 := t1.1
      have hl2 := t2.1
      clear v1 v2 v3 v4 v5 t1 t2
      obtain ⟨s, hs⟩ : ∃ s, sp S k = s := ⟨_, rfl⟩
      obtain ⟨e, he⟩ : ∃ e, ep E k = e := ⟨_, rfl⟩
      obtain ⟨f, hf⟩ : ∃ f, fr E k = f := ⟨_, rfl⟩
      rw [hs] at y1 v6 v7
      rw [he] at y2 v7 v8 H5
      rw [hf] at v6 hal ⊢
      have HS : Hid (sp S k = s) := hs
      have HE : Hid (ep E k = e) := he
      have HF : Hid (fr E k = f) := hf
      clear hs he hf
      have hkI : (k : Int) < (q : Int) := by omega
      have Y1 : Hid (w.cell? ⟨b1, o1 + k, none⟩ = some (.int .i64 (s : Nat))) := y1
      have Y2 : Hid (w.cell? ⟨b2, o2 + k, none⟩ = some (.int .i64 (e : Nat))) := y2
      clear y1 y2
      obtain ⟨wo, rfl⟩ : ∃ wo, wo = wr := ⟨wr, rfl⟩
      go_wp2
      go_loopw [7, 10] (fun v7 v10 wr => ∃ (p : Nat) (Y : List Int), f ≤ p ∧ p ≤ s ∧ v10 = .int .i64 p ∧ v7 = .slice (some ⟨w.heap.size, 0, none⟩) Y.length n ∧
          wr.ownsRow w.heap.size 5 1 (.slice (some ⟨w.heap.size, 0, none⟩) Y.length n) Y.length (Y.map (Value.int .u8)) ∧ Y.length ≤ p ∧ Hid (Y = X ++ seg d f p) ∧ Below w.heap.size w wr)
        (fun _ v10 _ => s - (intOf v10).toNat)
      case atStart => exact ⟨f, X, Nat.le_refl _, v6, rfl, rfl, hown, hal, by rw [seg_self, List.append_nil]; exact rfl, hb⟩
      case round =>
        clear hown hal hb
        obtain ⟨p, Y, hfp, hps, rfl, rfl, hownY, hYl, HY, hbY⟩ := hrel
        have c1 := (hbY.cell (p := ⟨b1, o1 + k, none⟩) hl1).trans Y1.out
        have c2 := (hbY.cell (p := ⟨b2, o2 + k, none⟩) hl2).trans Y2.out
        by_cases hpl : p < s
        · obtain ⟨b0, o0, e0, t0⟩ := (hv.below hbY).2.2 (by omega)
          subst e0
          have z0 := t0.2 p (by rw [HD.out]; omega)
          have HN : Hid (Y ++ [nth d p] = X ++ seg d f (p + 1)) := by
            show _ = _
            rw [seg_succ d f p hfp (by rw [HD.out]; omega), HY.out, List.append_assoc]
          obtain ⟨v, hve⟩ : ∃ v, nth d p = v := ⟨_, rfl⟩
          rw [hve] at z0 HN
          clear hve t0 HY
          have hpI : (p : Int) < (n : Int) := by omega
          go_wp2_with (at_builtin; refine wpList_append_fits _ rfl (.tmp 33) (.tmp 38) 22 rfl w.heap.size 5 i0 1 Trym.underlying22 hi hz1 w.heap.size Y.length n _ rfl (hownY.alloc _) ⟨_, 0, none⟩ 1 1 (([v] : List Int).map (Value.int .u8)) rfl rfl (lit_cells _ _ 5 _ rfl [v] rfl) (ints_oneCell' _) (by omega) ?_; intro w2 hown2 hgrow2)
          go_roundw
          case rel => exact ⟨p + 1, Y ++ [v], by omega, by omega, by go_num, by rw [List.length_append]; rfl, own_app hown2 rfl, by rw [List.length_append]; simp; omega, HN, (hbY.alloc hbY.size _).grown hgrow2 (by have := hbY.size; simp; omega) (fun k h => by cases h; exact Nat.le_refl _)⟩
          case measure => simp [intOf]; omega
        · have hps' : s = p := by omega
          subst hps'
          obtain ⟨wp, rfl⟩ : ∃ wp, wp = wr := ⟨wr, rfl⟩
          obtain ⟨X1, hX1⟩ : ∃ X1, Y = X1 := ⟨_, rfl⟩
          have HX1 : Hid (X1 = X ++ seg d f s) := by rw [← hX1]; exact HY
          have HC0 : Hid (X1 = X1 ++ List.replicate (cn d s (s - s)) 10) := by
            show _ = _
            rw [Nat.sub_self]; simp [cn]
          rw [hX1] at hownY hYl ⊢
          clear hX1 HY
          go_wp2
          go_loopw [7, 11] (fun v7 v11 wr => ∃ (p : Nat) (Y : List Int), s ≤ p ∧ p ≤ e ∧ v11 = .int .i64 p ∧ v7 = .slice (some ⟨w.heap.size, 0, none⟩) Y.length n ∧
              wr.ownsRow w.heap.size 5 1 (.slice (some ⟨w.heap.size, 0, none⟩) Y.length n) Y.length (Y.map (Value.int .u8)) ∧ Y.length ≤ p ∧ Hid (Y = X1 ++ List.replicate (cn d s (p - s)) 10) ∧ Below w.heap.size w wr)
            (fun _ v11 _ => e - (intOf v11).toNat)
          case atStart => exact ⟨s, X1, Nat.le_refl _, v7, rfl, rfl, hownY, hYl, HC0, hbY⟩
          case round =>
            clear hownY hYl hbY c1 c2 HC0
            obtain ⟨p, Y, hsp, hpe, rfl, rfl, hownY, hYl, HY, hbY⟩ := hrel
            have c1 := (hbY.cell (p := ⟨b1, o1 + k, none⟩) hl1).trans Y1.out
            have c2 := (hbY.cell (p := ⟨b2, o2 + k, none⟩) hl2).trans Y2.out
            by_cases hpl : p < e
            · obtain ⟨b0, o0, e0, t0⟩ := (hv.below hbY).2.2 (by omega)
              subst e0
              have hdec := dec_all b0 o0 n n p d wr HD.out (by omega) (by omega) HBY.out t0
              have HYes : Hid (isB d s p = true → Y ++ [10] = X1 ++ List.replicate (cn d s (p + 1 - s)) 10) := fun h => cn_yes hsp h HY.out
              have HNo : Hid (isB d s p = false → Y = X1 ++ List.replicate (cn d s (p + 1 - s)) 10) := fun h => cn_no hsp h HY.out
              clear HY
              have hpI : (p : Int) < (n : Int) := by omega
              go_upto_region 14 with (go_at_call 29; refine hdec.mono ?_; rintro e wy ⟨⟨r, sz, rfl, hok⟩, hby⟩; have HOK : Hid (DecOK d p r sz) := hok; have hownW := own_keep hownY hby; have hbW := bt hbY hby; have d1 := cell_keep hby c1; have d2 := cell_keep hby c2; have t1 := t0.below hby; clear hok hownY hbY c1 c2 t0 hdec hby)
              cases hbr : isBrk r with
              | false =>
                have hbk := fun W => brk_is r false hbr W
                have HN : Hid (Y = X1 ++ List.replicate (cn d s (p + 1 - s)) 10) := HNo.out (isB_no (.inl (by
                  rcases Nat.eq_zero_or_pos (lb d p) with h | h
                  · exact h
                  · have := HOK.out.2.2.1.2 (by omega); rw [hbr] at this; cases this)))
                clear hbr HNo HYes HOK
                go_wp2_with (go_at_call 30; refine (hbk _).mono ?_; rintro e wz ⟨rfl, hwz⟩; have hwz' := hwz.symm; subst hwz'; clear hwz)
                go_roundw
                case rel => exact ⟨p + 1, Y, by omega, by omega, by go_num, rfl, hownW, by omega, HN, hbW⟩
                case measure => simp [intOf]; omega
              | true =>
                have hbk := fun W => brk_is r true hbr W
                have HLB : Hid (lb d p ≠ 0) := HOK.out.2.2.1.1 hbr
                clear hbr HOK
                have z0 := t1.2 p (by rw [HD.out]; omega)
                have z1 : s < p → wy.cell? ⟨b0, o0 + (p - 1), none⟩ = some (.int .u8 (nth d (p - 1))) := fun _ => t1.2 (p - 1) (by rw [HD.out]; omega)
                have up : ((p : Int) - 1).toNat = p - 1 := by omega
                obtain ⟨x, hx⟩ : ∃ x, nth d p = x := ⟨_, rfl⟩
                obtain ⟨z, hz⟩ : ∃ z, nth d (p - 1) = z := ⟨_, rfl⟩
                rw [hx] at z0
                rw [hz] at z1
                have HXX : Hid (nth d p = x) := hx
                have HZZ : Hid (nth d (p - 1) = z) := hz
                clear hx hz t1
                by_cases hskip : x = 10 ∧ s < p ∧ z = 13
                · obtain ⟨rfl, hsp', rfl⟩ := hskip
                  have HN : Hid (Y = X1 ++ List.replicate (cn d s (p + 1 - s)) 10) := HNo.out (isB_no (.inr ⟨HXX.out, hsp', HZZ.out⟩))
                  have z1' := z1 hsp'
                  have hsI : (s : Int) < (p : Int) := by omega
                  clear HNo HYes z1 HLB
                  go_wp2_with (go_at_call 30; refine (hbk _).mono ?_; rintro e wz ⟨rfl, hwz⟩; have hwz' := hwz.symm; subst hwz'; clear hwz)
                  go_roundw
                  case rel => exact ⟨p + 1, Y, by omega, by omega, by go_num, rfl, hownW, by omega, HN, hbW⟩
                  case measure => simp [intOf]; omega
                · have HN : Hid (Y ++ [10] = X1 ++ List.replicate (cn d s (p + 1 - s)) 10) := HYes.out (isB_yes HLB.out (by rw [HXX.out, HZZ.out]; exact hskip))
                  clear HNo HYes HLB
                  by_cases hx10 : x = 10
                  · subst hx10
                    by_cases hsp' : s < p
                    · have hz13 : (z == 13) = false := by simp; intro h; exact hskip ⟨rfl, hsp', h⟩
                      have z1' := z1 hsp'
                      have hsI : (s : Int) < (p : Int) := by omega
                      clear z1 hskip
                      go_wp2_with (first | (go_at_call 30; refine (hbk _).mono ?_; rintro e wz ⟨rfl, hwz⟩; have hwz' := hwz.symm; subst hwz'; clear hwz) | (at_builtin; refine wpList_append_fits _ rfl (.tmp 82) (.tmp 83) 22 rfl w.heap.size 5 i0 1 Trym.underlying22 hi hz1 w.heap.size Y.length n _ rfl (hownW.alloc _) ⟨_, 0, none⟩ 1 1 (([10] : List Int).map (Value.int .u8)) rfl rfl (lit_cells _ _ 5 _ rfl [10] rfl) (ints_oneCell' _) (by omega) ?_; intro w2 hown2 hgrow2))
                      go_roundw
                      case rel => exact ⟨p + 1, Y ++ [10], by omega, by omega, by go_num, by rw [List.length_append]; rfl, own_app hown2 rfl, by rw [List.length_append]; simp; omega, HN, (hbW.alloc hbW.size _).grown hgrow2 (by have := hbW.size; simp; omega) (fun k h => by cases h; exact Nat.le_refl _)⟩
                      case measure => simp [intOf]; omega
                    · have hsI : ¬ (s : Int) < (p : Int) := by omega
                      clear z1 hskip
                      go_wp2_with (first | (go_at_call 30; refine (hbk _).mono ?_; rintro e wz ⟨rfl, hwz⟩; have hwz' := hwz.symm; subst hwz'; clear hwz) | (at_builtin; refine wpList_append_fits _ rfl (.tmp 82) (.tmp 83) 22 rfl w.heap.size 5 i0 1 Trym.underlying22 hi hz1 w.heap.size Y.length n _ rfl (hownW.alloc _) ⟨_, 0, none⟩ 1 1 (([10] : List Int).map (Value.int .u8)) rfl rfl (lit_cells _ _ 5 _ rfl [10] rfl) (ints_oneCell' _) (by omega) ?_; intro w2 hown2 hgrow2))
                      go_roundw
                      case rel => exact ⟨p + 1, Y ++ [10], by omega, by omega, by go_num, by rw [List.length_append]; rfl, own_app hown2 rfl, by rw [List.length_append]; simp; omega, HN, (hbW.alloc hbW.size _).grown hgrow2 (by have := hbW.size; simp; omega) (fun k h => by cases h; exact Nat.le_refl _)⟩
                      case measure => simp [intOf]; omega
                  · have hxb : (x == 10) = false := by simpa using hx10
                    clear z1 hskip
                    go_wp2_with (first | (go_at_call 30; refine (hbk _).mono ?_; rintro e wz ⟨rfl, hwz⟩; have hwz' := hwz.symm; subst hwz'; clear hwz) | (at_builtin; refine wpList_append_fits _ rfl (.tmp 82) (.tmp 83) 22 rfl w.heap.size 5 i0 1 Trym.underlying22 hi hz1 w.heap.size Y.length n _ rfl (hownW.alloc _) ⟨_, 0, none⟩ 1 1 (([10] : List Int).map (Value.int .u8)) rfl rfl (lit_cells _ _ 5 _ rfl [10] rfl) (ints_oneCell' _) (by omega) ?_; intro w2 hown2 hgrow2))
                    go_roundw
                    case rel => exact ⟨p + 1, Y ++ [10], by omega, by omega, by go_num, by rw [List.length_append]; rfl, own_app hown2 rfl, by rw [List.length_append]; simp; omega, HN, (hbW.alloc hbW.size _).grown hgrow2 (by have := hbW.size; simp; omega) (fun k h => by cases h; exact Nat.le_refl _)⟩
                    case measure => simp [intOf]; omega
            · have hpe' : e = p := by omega
              subst hpe'
              have HN : Hid (Y = acc d S E (k + 1)) := by
                have h1 := HY.out
                rw [HX1.out, HX.out] at h1
                show Y = acc d S E k ++ seg d (fr E k) (sp S k) ++ List.replicate (cn d (sp S k) (ep E k - sp S k)) 10
                rw [HF.out, HS.out, HE.out]
                exact h1
              clear HY
              go_wp2
              go_roundw
              case rel => exact ⟨k + 1, Y, by omega, by go_num, by rw [H5.out], rfl, hownY, HN, hbY⟩
              case measure => simp [intOf]; omega
    · have hkq' : q = k := by omega
      subst hkq'
      have hal := acc_len HD.out HV.out (k := q) (Nat.le_refl _)
      have hfq := (val_frq HV.out).2
      rw [← HX.out] at hal
      have HW : Hid (wsl d S E q = X ++ d.drop (fr E q)) := by show wsl d S E q = _; rw [HX.out]; rfl
      obtain ⟨f, hf⟩ : ∃ f, fr E q = f := ⟨_, rfl⟩
      rw [hf] at hal hfq HW ⊢
      clear hf HX
      obtain ⟨wo, rfl⟩ : ∃ wo, wo = wr := ⟨wr, rfl⟩
      go_wp2
      go_loopw [7, 14] (fun v7 v14 wr => ∃ (p : Nat) (Y : List Int), f ≤ p ∧ p ≤ n ∧ v14 = .int .i64 p ∧ v7 = .slice (some ⟨w.heap.size, 0, none⟩) Y.length n ∧
          wr.ownsRow w.heap.size 5 1 (.slice (some ⟨w.heap.size, 0, none⟩) Y.length n) Y.length (Y.map (Value.int .u8)) ∧ Y.length ≤ p ∧ Hid (Y = X ++ seg d f p) ∧ Below w.heap.size w wr)
        (fun _ v14 _ => n - (intOf v14).toNat)
      case atStart => exact ⟨f, X, Nat.le_refl _, hfq, rfl, rfl, hown, hal, by rw [seg_self, List.append_nil]; exact rfl, hb⟩
      case round =>
        clear hown hal hb
        obtain ⟨p, Y, hfp, hpn, rfl, rfl, hownY, hYl, HY, hbY⟩ := hrel
        by_cases hpl : p < n
        · obtain ⟨b0, o0, e0, t0⟩ := (hv.below hbY).2.2 (by omega)
          subst e0
          have z0 := t0.2 p (by rw [HD.out]; omega)
          have HN : Hid (Y ++ [nth d p] = X ++ seg d f (p + 1)) := by
            show _ = _
            rw [seg_succ d f p hfp (by rw [HD.out]; omega), HY.out, List.append_assoc]
          obtain ⟨v, hve⟩ : ∃ v, nth d p = v := ⟨_, rfl⟩
          rw [hve] at z0 HN
          clear hve t0 HY
          have hpI : (p : Int) < (n : Int) := by omega
          go_wp2_with (at_builtin; refine wpList_append_fits _ rfl (.tmp 96) (.tmp 101) 22 rfl w.heap.size 5 i0 1 Trym.underlying22 hi hz1 w.heap.size Y.length n _ rfl (hownY.alloc _) ⟨_, 0, none⟩ 1 1 (([v] : List Int).map (Value.int .u8)) rfl rfl (lit_cells _ _ 5 _ rfl [v] rfl) (ints_oneCell' _) (by omega) ?_; intro w2 hown2 hgrow2)
          go_roundw
          case rel => exact ⟨p + 1, Y ++ [v], by omega, by omega, by go_num, by rw [List.length_append]; rfl, own_app hown2 rfl, by rw [List.length_append]; simp; omega, HN, (hbY.alloc hbY.size _).grown hgrow2 (by have := hbY.size; simp; omega) (fun k h => by cases h; exact Nat.le_refl _)⟩
          case measure => simp [intOf]; omega
        · have hpn' : n = p := by omega
          subst hpn'
          have HF : Hid (Y = wsl d S E q) := by
            have h1 := HY.out
            rw [← HD.out, seg_full] at h1
            show Y = _
            rw [HW.out]; exact h1
          clear HY HW
          go_wp2
          go_ret
          rw [← HF.out]
          exact ⟨⟨rfl, own_at hownY rfl⟩, hbY⟩
end Go.Proofs.Qxb6600804aMods
