/-
  'withoutSpans' (31) by its contract.
-/
import Derived.Test.Qxb6600804aModsWSPlain
import Derived.Test.Qxb6600804aModsZZ
import Derived.Deep.DeepCutAuto
namespace Go.Proofs.Qxb6600804aMods
open Go.RowKit
set_option linter.unusedVariables false
set_option linter.unusedSimpArgs false

/-- The cells of a literal. -/
theorem lit_cells (w : World) (C : Array Value) (t : TypeId) (B : Nat) (hB : B = w.heap.size) (xs : List Int) (h : C.toList = xs.map (Value.int .u8)) :
    ∀ (j : Nat) (u : Value), (xs.map (Value.int .u8))[j]? = some u → (w.alloc (.cells C t)).cell? ((⟨B, 0, none⟩ : Addr).add j) = some u := by
  intro j u hj
  rw [Addr.add_lit, Nat.zero_add, World.cell?_alloc_at _ _ _ _ hB, ← Array.getElem?_toList, h]
  exact hj
/-- The cells of a piece of a row. -/
theorem seg_cells {w : World} {b o : Nat} {d : List Int} (h : At w b o d) (f s : Nat) : ∀ (j : Nat) (u : Value), ((seg d f s).map (Value.int .u8))[j]? = some u → w.cell? ((⟨b, o + f, none⟩ : Addr).add j) = some u := by
  intro j u hj
  have hjl : j < (seg d f s).length := by
    rcases Nat.lt_or_ge j (seg d f s).length with h' | h'
    · exact h'
    · rw [List.getElem?_eq_none (by simpa using h')] at hj; cases hj
  have h2 := ((h.drop f).take (s - f)).2 j hjl
  rw [Addr.add_lit, h2]
  rw [List.getElem?_map] at hj
  change Option.map _ ((seg d f s)[j]?) = _ at hj
  rw [List.getElem?_eq_getElem hjl] at hj
  simp only [Option.map_some, Option.some.injEq] at hj
  rw [← hj]
  have e : nth (List.take (s - f) (List.drop f d)) j = (seg d f s)[j] := by
    show (seg d f s).getD j 0 = _
    simp [List.getD, List.getElem?_eq_getElem hjl]
  rw [e]
theorem ints_oneCell' (zs : List Int) : ∀ u ∈ zs.map (Value.int .u8), u.oneCell' = true := by
  intro u hu
  obtain ⟨_, _, rfl⟩ := List.mem_map.1 hu
  rfl
theorem own_at {w : World} {B n N : Nat} {xs : List Int} (h : w.ownsRow B 5 1 (.slice (some ⟨B, 0, none⟩) n N) n (xs.map (Value.int .u8))) (hn : xs.length = n) : At w B 0 xs := by
  have hB : B < w.heap.size := by
    rcases h.2 with ⟨h', _⟩ | ⟨g', cap', cur, h', _, hg, _⟩
    · simp at h'
    · simp only [Value.slice.injEq, Option.some.injEq, Addr.mk.injEq, and_true, true_and] at h'
      obtain ⟨rfl, rfl⟩ := h'
      exact (Array.getElem?_eq_some_iff.1 hg).1
  refine ⟨hB, fun i hi => ?_⟩
  rw [Nat.zero_add, h.cellAt i (by omega)]
  simp [List.getElem?_eq_getElem hi, nth, List.getD]

theorem own_lt {w : World} {B n N : Nat} {xs : List Value} (h : w.ownsRow B 5 1 (.slice (some ⟨B, 0, none⟩) n N) n xs) : B < w.heap.size := by
  rcases h.2 with ⟨h', _⟩ | ⟨g', cap', cur, h', _, hg, _⟩
  · simp at h'
  · simp only [Value.slice.injEq, Option.some.injEq, Addr.mk.injEq, and_true, true_and] at h'
    obtain ⟨rfl, rfl⟩ := h'
    exact (Array.getElem?_eq_some_iff.1 hg).1
theorem own_app {w : World} {B N m : Nat} {X Y : List Int} (h : w.ownsRow B 5 1 (.slice (some ⟨B, 0, none⟩) (X.length + m) N) (X.length + m) (X.map (Value.int .u8) ++ Y.map (Value.int .u8))) (hm : Y.length = m) :
    w.ownsRow B 5 1 (.slice (some ⟨B, 0, none⟩) (X ++ Y).length N) (X ++ Y).length ((X ++ Y).map (Value.int .u8)) := by
  rw [List.length_append, hm, List.map_append]; exact h
theorem At.alloc' {w : World} {b off : Nat} {xs : List Int} (h : At w b off xs) (ob : Obj) : At (w.alloc ob) b off xs := h.below ((Below.refl _ _).alloc (Nat.le_refl _) ob)

theorem own_keep {w w' : World} {B n N : Nat} {xs : List Value} (h : w.ownsRow B 5 1 (.slice (some ⟨B, 0, none⟩) n N) n xs) (hb : Below w.heap.size w w') : w'.ownsRow B 5 1 (.slice (some ⟨B, 0, none⟩) n N) n xs := by
  obtain ⟨h1, h2⟩ := h
  refine ⟨h1, ?_⟩
  rcases h2 with h2 | ⟨g, cap, cur, hv, hg, hh, r⟩
  · exact Or.inl h2
  · exact Or.inr ⟨g, cap, cur, hv, hg, by rw [hb.block g (Array.getElem?_eq_some_iff.1 hh).1]; exact hh, r⟩
theorem cell_keep {w w' : World} (hb : Below w.heap.size w w') {p : Addr} {v : Value} (h : w.cell? p = some v) : w'.cell? p = some v := (hb.cell (World.block_lt_of_cell? _ _ h)).trans h

set_option maxHeartbeats 1600000 in
theorem ws_pos (b o n bs q : Nat) (d S E : List Int) (w : World) (hn0 : 0 < n) (hn : n ≤ 524288) (hd : d.length = n) (hq : q ≤ 1048576) (hby : Byt d) (hat : At w b o d) (hsp : SpansAt w bs q S E) (hval : Val n S E q) :
    Calls Trym.prog 31 #[.slice (some ⟨b, o, none⟩) n n, .slice (some ⟨bs, 0, none⟩) q q] w fun e w' =>
      e = .returned (.slice (some ⟨w.heap.size, 0, none⟩) (wsl d S E q).length n) ∧ At w' w.heap.size 0 (wsl d S E q) ∧ Below w.heap.size w w' := by
  have HV : Hid (Val n S E q) := hval
  have HBY : Hid (Byt d) := hby
  clear hval hby
  obtain ⟨i0, hi, hz0, hz1, hz2⟩ := info_parts Trym.info5
  go_enter Trym.func31, Trym.ntmps31
  go_wp2_with (at_make; refine wpList_make_own _ rfl _ _ 22 rfl w.heap.size 5 i0 (.int .u8 0) 1 Trym.underlying22 hi hz0 hz1 _ _ _ n rfl rfl rfl (by rw [hz2]; omega) (by unfold maxLen; omega) (Nat.le_refl _) ?_; intro w1 hown hgrow)
  go_loopw [5, 6, 16] (fun v5 v6 v16 wr => ∃ (k : Nat) (X : List Int), k ≤ q ∧ v16 = .int .i64 k ∧ v6 = .int .i64 (fr E k : Nat) ∧ v5 = .slice (some ⟨w.heap.size, 0, none⟩) X.length n ∧
      wr.ownsRow w.heap.size 5 1 (.slice (some ⟨w.heap.size, 0, none⟩) X.length n) X.length (X.map (Value.int .u8)) ∧ Hid (X = acc d S E k) ∧ Below w.heap.size w wr)
    (fun _ _ v16 _ => q - (intOf v16).toNat)
  case atStart => exact ⟨0, [], Nat.zero_le _, rfl, rfl, rfl, hown, rfl, (Below.refl _ _).grown hgrow (Nat.le_refl _) (fun k h => by cases h)⟩
  case round =>
    obtain ⟨k, X, hk, rfl, rfl, rfl, hown, HX, hb⟩ := hrel
    clear hgrow
    obtain ⟨wo, rfl⟩ : ∃ wo, wo = wr := ⟨wr, rfl⟩
    by_cases hkq : k < q
    · obtain ⟨v1, v2, v3, v4, v5, v6, v7, v8⟩ := val_at HV.out hkq
      obtain ⟨z0, z1, z2, z3, z4⟩ := (hsp.below hb).2 k hkq
      have hal := acc_len hd HV.out (k := k) (by omega)
      rw [← HX.out] at hal
      rw [v1] at z0
      rw [v2] at z1
      have H5 : Hid (fr E (k + 1) = ep E k) := v5
      clear v1 v2 v3 v4 v5
      obtain ⟨s, hs⟩ : ∃ s, sp S k = s := ⟨_, rfl⟩
      obtain ⟨e, he⟩ : ∃ e, ep E k = e := ⟨_, rfl⟩
      obtain ⟨f, hf⟩ : ∃ f, fr E k = f := ⟨_, rfl⟩
      rw [hs] at z0 v6 v7
      rw [he] at z1 v7 v8 H5
      rw [hf] at v6 hal ⊢
      have HS : Hid (sp S k = s) := hs
      have HE : Hid (ep E k = e) := he
      have HF : Hid (fr E k = f) := hf
      clear hs he hf
      have hkI : (k : Int) < (q : Int) := by omega
      go_upto_region 6 with fail
      have hlt := own_lt hown
      go_cut [5] (fun v wx => v = .slice (some ⟨w.heap.size, 0, none⟩) (X ++ seg d f s).length n ∧ wx.ownsRow w.heap.size 5 1 (.slice (some ⟨w.heap.size, 0, none⟩) (X ++ seg d f s).length n) (X ++ seg d f s).length ((X ++ seg d f s).map (Value.int .u8)) ∧
        Below w.heap.size w wx ∧ wx.cell? ⟨wo.heap.size, 0, none⟩ = some (.int .i64 (s : Nat)) ∧ wx.cell? ⟨wo.heap.size, 1, none⟩ = some (.int .i64 (e : Nat)))
      case first =>
        have hsl := seg_len d f s (by omega)
        have HSL : Hid ((seg d f s).length = s - f) := hsl
        clear hsl
        have hfI : (f : Int) ≤ (s : Int) := by omega
        have hsI : (s : Int) ≤ (n : Int) := by omega
        by_cases hfn : n = f
        · subst hfn
          have hsf : s = n := by omega
          subst hsf
          go_wp2_with (at_builtin; refine wpList_append_fits_any _ rfl (.tmp 20) (.tmp 25) 22 rfl w.heap.size 5 i0 1 Trym.underlying22 hi hz1 w.heap.size X.length s _ rfl (hown.alloc _) _ 0 _ [] rfl rfl (fun h => by cases h) (fun ad had j u hj => by cases hj) (fun u hu => by cases hu) (by omega) ?_; intro w2 hown2 hgrow2)
          have hseg : seg d s s = [] := by simp [seg]
          have HSG : Hid (seg d s s = []) := hseg
          clear hseg
          go_meet
          case rel => exact ⟨by rw [HSG.out, List.append_nil], by rw [HSG.out, List.append_nil]; simpa using hown2, (hb.alloc hb.size _).grown hgrow2 (by have := hb.size; simp; omega) (fun k h => by cases h; exact Nat.le_refl _), hgrow2.cell (by simp) (fun h => by have := Option.some.inj h; simp at this; omega), hgrow2.cell (by simp) (fun h => by have := Option.some.inj h; simp at this; omega)⟩
        · go_wp2_with (at_builtin; refine wpList_append_fits_any _ rfl (.tmp 20) (.tmp 25) 22 rfl w.heap.size 5 i0 1 Trym.underlying22 hi hz1 w.heap.size X.length n _ rfl (hown.alloc _) _ (s - f) _ ((seg d f s).map (Value.int .u8)) rfl (by rw [List.length_map, HSL.out, Nat.mul_one]) (fun h => by cases h) (fun ad had => by cases had; exact seg_cells ((hat.below hb).alloc' _) f s) (ints_oneCell' _) (by omega) ?_; intro w2 hown2 hgrow2)
          go_meet
          case rel => exact ⟨by rw [List.length_append, HSL.out], own_app hown2 HSL.out, (hb.alloc hb.size _).grown hgrow2 (by have := hb.size; simp; omega) (fun k h => by cases h; exact Nat.le_refl _), hgrow2.cell (by simp) (fun h => by have := Option.some.inj h; simp at this; omega), hgrow2.cell (by simp) (fun h => by have := Option.some.inj h; simp at this; omega)⟩
      obtain ⟨rfl, hownY, hbY, c0, c1⟩ := hcut
      have hsl : (X ++ seg d f s).length ≤ s := by rw [List.length_append, seg_len d f s (by omega)]; omega
      have HY0 : Hid (X ++ seg d f s = X ++ seg d f s ++ List.replicate (cn d s (min s e - s)) 10) := by
        have e0 : min s e - s = 0 := by omega
        rw [e0]; show _ = _ ++ List.replicate 0 10; simp
      have HA0 : Hid (Ali d s s) := fun h => absurd h (Nat.lt_irrefl _)
      obtain ⟨X0, hX0⟩ : ∃ X0, X ++ seg d f s = X0 := ⟨_, rfl⟩
      have HX0 : Hid (X ++ seg d f s = X0) := hX0
      rw [hX0] at hownY hsl HY0 ⊢
      clear hX0 z0 z1 z2 z3 z4 hown hal v6
      go_wp2
      go_loopw [5, 9] (fun v5 v9 wx => ∃ (i : Nat) (Y : List Int), s ≤ i ∧ i ≤ e + 3 ∧ v9 = .int .i64 (i : Nat) ∧ v5 = .slice (some ⟨w.heap.size, 0, none⟩) Y.length n ∧
          wx.ownsRow w.heap.size 5 1 (.slice (some ⟨w.heap.size, 0, none⟩) Y.length n) Y.length (Y.map (Value.int .u8)) ∧ Y.length ≤ i ∧ Hid (Y = X0 ++ List.replicate (cn d s (min i e - s)) 10) ∧ Hid (Ali d s i) ∧
          Below w.heap.size w wx ∧ wx.cell? ⟨wo.heap.size, 0, none⟩ = some (.int .i64 (s : Nat)) ∧ wx.cell? ⟨wo.heap.size, 1, none⟩ = some (.int .i64 (e : Nat)))
        (fun _ v9 _ => e + 3 - (intOf v9).toNat)
      case atStart => exact ⟨s, X0, Nat.le_refl _, by omega, rfl, rfl, hownY, hsl, HY0, HA0, hbY, c0, c1⟩
      case round =>
        clear hownY hbY c0 c1 HY0 HA0 hsl
        obtain ⟨i, Y, hsi, hie3, rfl, rfl, hownY, hYl, HY, HA, hbY, c0, c1⟩ := hrel
        by_cases hie : i < e
        · have hcall := lb_some b o n n i d wr hd (by omega) (Nat.le_refl _) (by omega) (by omega) HBY.out (hat.below hbY)
          have hm := lb_le3 d i
          by_cases h0 : lb d i = 0
          · have HS1 : Hid (Y = X0 ++ List.replicate (cn d s (min (i + 1) e - s)) 10) := by
              rw [cn_miss d s i e hsi hie h0]
              have e0 : min i e = i := by omega
              have := HY.out; rw [e0] at this; exact this
            have HA1 : Hid (Ali d s (i + 1)) := ali_miss h0
            rw [h0] at hcall
            clear HY HA hm h0
            go_wp2_with (go_at_call 28; refine hcall.mono ?_; rintro e wy ⟨rfl, hby⟩)
            go_roundw
            case rel => exact ⟨i + 1, Y, by omega, by omega, by go_num, rfl, own_keep hownY hby, by omega, HS1, HA1, bt hbY hby, cell_keep hby c0, cell_keep hby c1⟩
            case measure => simp [intOf]; omega
          · have HS1 : Hid (Y ++ [10] = X0 ++ List.replicate (cn d s (min (i + lb d i) e - s)) 10) := by
              show _ = _
              rw [cn_hit d s i e hsi hie HA.out h0]
              have e0 : min i e = i := by omega
              have := HY.out; rw [e0] at this
              rw [this, List.replicate_succ', List.append_assoc]
            have HA1 : Hid (Ali d s (i + lb d i)) := ali_hit h0
            obtain ⟨m, hme⟩ : ∃ m, lb d i = m := ⟨_, rfl⟩
            rw [hme] at hcall hm h0 HS1 HA1
            clear HY HA hme
            have hm0 : (0 : Int) < (m : Int) := by omega
            go_wp2_with (first
              | (go_at_call 28; refine hcall.mono ?_; rintro e wy ⟨rfl, hby⟩; have hownW := own_keep hownY hby; have hbW := bt hbY hby; have d0 := cell_keep hby c0; have d1 := cell_keep hby c1; clear hownY hbY c0 c1 hby hcall)
              | (at_builtin; refine wpList_append_fits _ rfl (.tmp 38) (.tmp 39) 22 rfl w.heap.size 5 i0 1 Trym.underlying22 hi hz1 w.heap.size Y.length n _ rfl (hownW.alloc _) ⟨_, 0, none⟩ 1 1 (([10] : List Int).map (Value.int .u8)) rfl rfl (lit_cells _ _ 5 _ rfl [10] rfl) (ints_oneCell' _) (by omega) ?_; intro w2 hown2 hgrow2))
            go_roundw
            case rel => exact ⟨i + m, Y ++ [10], by omega, by omega, by go_num, by rw [List.length_append]; rfl, own_app hown2 rfl, by rw [List.length_append]; simp; omega, HS1, HA1, (hbW.alloc hbW.size _).grown hgrow2 (by have := hbW.size; simp; omega) (fun k h => by cases h; exact Nat.le_refl _), hgrow2.cell (by rw [World.cell?_alloc_past _ _ _ (World.block_lt_of_cell? _ _ d0)]; exact d0) (fun h => by have := Option.some.inj h; simp at this; omega), hgrow2.cell (by rw [World.cell?_alloc_past _ _ _ (World.block_lt_of_cell? _ _ d1)]; exact d1) (fun h => by have := Option.some.inj h; simp at this; omega)⟩
            case measure => simp [intOf]; omega
        · have HN : Hid (Y = acc d S E (k + 1)) := by
            have e0 : min i e = e := by omega
            have h1 := HY.out
            rw [e0, ← HX0.out, HX.out] at h1
            show Y = acc d S E k ++ seg d (fr E k) (sp S k) ++ List.replicate (cn d (sp S k) (ep E k - sp S k)) 10
            rw [HF.out, HS.out, HE.out]
            exact h1
          clear HY HA
          go_wp2
          go_roundw
          case rel => exact ⟨k + 1, Y, by omega, by go_num, by rw [H5.out], rfl, hownY, HN, hbY⟩
          case measure => simp [intOf]; omega
    · have hkq' : q = k := by omega
      subst hkq'
      have hal := acc_len hd HV.out (k := q) (Nat.le_refl _)
      have hfq := (val_frq HV.out).2
      rw [← HX.out] at hal
      have HW : Hid (wsl d S E q = X ++ d.drop (fr E q)) := by show wsl d S E q = _; rw [HX.out]; rfl
      obtain ⟨f, hf⟩ : ∃ f, fr E q = f := ⟨_, rfl⟩
      rw [hf] at hal hfq HW ⊢
      have hdl : (d.drop f).length = n - f := by rw [List.length_drop]; omega
      have HDL : Hid ((d.drop f).length = n - f) := hdl
      have hsg : seg d f n = d.drop f := List.take_of_length_le (by omega)
      have hcells := seg_cells (hat.below hb) f n
      rw [hsg] at hcells
      clear hf hdl hsg HX
      obtain ⟨D, hD⟩ : ∃ D, d.drop f = D := ⟨_, rfl⟩
      rw [hD] at HW HDL hcells
      clear hD
      by_cases hfn : n = f
      · subst hfn
        have hD0 : D = [] := List.eq_nil_of_length_eq_zero (by rw [HDL.out]; omega)
        subst hD0
        go_wp2_with (at_builtin; refine wpList_append_fits_any _ rfl (.tmp 49) (.tmp 52) 22 rfl w.heap.size 5 i0 1 Trym.underlying22 hi hz1 w.heap.size X.length n _ rfl hown _ 0 _ [] rfl rfl (fun h => by cases h) (fun ad had j u hj => by cases hj) (fun u hu => by cases hu) (by omega) ?_; intro w2 hown2 hgrow2)
        go_ret
        refine ⟨?_, ?_, hb.grown hgrow2 hb.size (fun k h => by cases h; exact Nat.le_refl _)⟩
        · rw [HW.out, List.append_nil]; rfl
        · rw [HW.out, List.append_nil]; exact own_at (by simpa using hown2) rfl
      · go_wp2_with (at_builtin; refine wpList_append_fits_any _ rfl (.tmp 49) (.tmp 52) 22 rfl w.heap.size 5 i0 1 Trym.underlying22 hi hz1 w.heap.size X.length n _ rfl hown _ (n - f) _ (D.map (Value.int .u8)) rfl (by rw [List.length_map, HDL.out, Nat.mul_one]) (fun h => by cases h) (fun ad had => by cases had; exact hcells) (ints_oneCell' _) (by omega) ?_; intro w2 hown2 hgrow2)
        go_ret
        refine ⟨?_, ?_, hb.grown hgrow2 hb.size (fun k h => by cases h; exact Nat.le_refl _)⟩
        · rw [HW.out, List.length_append, HDL.out]; rfl
        · rw [HW.out]; exact own_at (own_app hown2 HDL.out) rfl
end Go.Proofs.Qxb6600804aMods
