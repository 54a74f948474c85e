/-
  'withoutSpans' (31) at a text of no byte; the whole contract; 'ZZWithoutSpans' (19).
-/
import Derived.Test.Qxb6600804aModsWSReal
namespace Go.Proofs.Qxb6600804aMods
open Go.RowKit
set_option linter.unusedVariables false
set_option linter.unusedSimpArgs false

set_option maxHeartbeats 800000 in
theorem ws_zero (a : Option Addr) (bs q : Nat) (S E : List Int) (w : World) (hq : q ≤ 1048576) (hsp : SpansAt w bs q S E) (hval : Val 0 S E q) :
    Calls Trym.prog 31 #[.slice a 0 0, .slice (some ⟨bs, 0, none⟩) q q] w fun e w' =>
      e = .returned (.slice (some ⟨w.heap.size, 0, none⟩) 0 0) ∧ w.heap.size < w'.heap.size ∧ Below w.heap.size w w' := by
  have HV : Hid (Val 0 S E q) := hval
  clear hval
  obtain ⟨i0, hi, hz0, hz1, hz2⟩ := info_parts Trym.info5
  cases a
  all_goals
    go_enter Trym.func31, Trym.ntmps31
    go_wp2_with (at_make; refine wpList_make_own _ rfl _ _ 22 rfl w.heap.size 5 i0 (.int .u8 0) 1 Trym.underlying22 hi hz0 hz1 _ _ _ 0 rfl rfl rfl (by omega) (by unfold maxLen; omega) (Nat.le_refl _) ?_; intro w1 hown hgrow)
    go_loopw [5, 6, 16] (fun v5 v6 v16 wr => ∃ (k : Nat), k ≤ q ∧ v16 = .int .i64 k ∧ v6 = .int .i64 0 ∧ v5 = .slice (some ⟨w.heap.size, 0, none⟩) 0 0 ∧
        wr.ownsRow w.heap.size 5 1 (.slice (some ⟨w.heap.size, 0, none⟩) 0 0) 0 [] ∧ Below w.heap.size w wr)
      (fun _ _ v16 _ => q - (intOf v16).toNat)
    case atStart => exact ⟨0, Nat.zero_le _, rfl, rfl, rfl, hown, (Below.refl _ _).grown hgrow (Nat.le_refl _) (fun k h => by cases h)⟩
    case round =>
      obtain ⟨k, hk, rfl, rfl, rfl, hown, hb⟩ := hrel
      clear hgrow
      have hlt := own_lt hown
      obtain ⟨wo, rfl⟩ : ∃ wo, wo = wr := ⟨wr, rfl⟩
      by_cases hkq : k < q
      · obtain ⟨v1, v2, v3, v4, v5, v6, v7, v8⟩ := val_at HV.out hkq
        obtain ⟨z0, z1, z2, z3, z4⟩ := (hsp.below hb).2 k hkq
        have es : sp S k = 0 := by omega
        have ee : ep E k = 0 := by omega
        rw [v1, es] at z0
        rw [v2, ee] at z1
        clear v1 v2 v3 v4 v5 v6 v7 v8 es ee
        have hkI : (k : Int) < (q : Int) := by omega
        go_wp2
        go_loop [5, 9] (fun v5 v9 => v9 = .int .i64 0 ∧ v5 = .slice (some ⟨w.heap.size, 0, none⟩) 0 0) (fun _ _ => 0)
        case atStart => exact ⟨rfl, rfl⟩
        case round =>
          obtain ⟨rfl, rfl⟩ := hrel
          go_wp2
          go_roundw
          case rel => exact ⟨k + 1, by omega, by go_num, rfl, rfl, hown.alloc _, hb.alloc hb.size _⟩
          case measure => simp [intOf]; omega
      · have hkq' : q = k := by omega
        subst hkq'
        go_wp2_with (at_builtin; refine wpList_append_fits_any _ rfl (.tmp 49) (.tmp 52) 22 rfl w.heap.size 5 i0 1 Trym.underlying22 hi hz1 w.heap.size 0 0 _ rfl hown _ 0 _ [] rfl rfl (fun h => by first | exact ⟨rfl, rfl⟩ | cases h) (fun ad had j u hj => by cases hj) (fun u hu => by cases hu) (by omega) ?_; intro w2 hown2 hgrow2)
        go_ret
        exact ⟨rfl, Nat.lt_of_lt_of_le hlt hgrow2.size, hb.grown hgrow2 hb.size (fun k h => by cases h; exact Nat.le_refl _)⟩

theorem wsl_nil {q : Nat} {S E : List Int} (h : Val 0 S E q) : wsl [] S E q = [] := by
  have : (wsl [] S E q).length ≤ 0 := wsl_len (n := 0) rfl h
  exact List.eq_nil_of_length_eq_zero (by omega)

/-- 'withoutSpans' at every text. -/
theorem ws_all (a : Option Addr) (n bs q : Nat) (d S E : List Int) (w : World) (hn : n ≤ 524288) (hq : q ≤ 1048576) (hby : Byt d) (hv : Vw w a n d) (hsp : SpansAt w bs q S E) (hval : Val n S E q) :
    Calls Trym.prog 31 #[.slice a n n, .slice (some ⟨bs, 0, none⟩) q q] w fun e w' =>
      (e = .returned (.slice (some ⟨w.heap.size, 0, none⟩) (wsl d S E q).length n) ∧ At w' w.heap.size 0 (wsl d S E q)) ∧ Below w.heap.size w w' := by
  by_cases h0 : 0 < n
  · obtain ⟨b, o, rfl, hat⟩ := hv.2.2 h0
    exact (ws_pos b o n bs q d S E w h0 hn hv.1 hq hby hat hsp hval).mono fun e w' h => ⟨⟨h.1, h.2.1⟩, h.2.2⟩
  · have hn0 : n = 0 := by omega
    subst hn0
    have hd0 : d = [] := List.eq_nil_of_length_eq_zero hv.1
    subst hd0
    rw [wsl_nil hval]
    exact (ws_zero a bs q S E w hq hsp hval).mono fun e w' h => ⟨⟨h.1, h.2.1, fun i hi => by simp at hi⟩, h.2.2⟩

/-- 'ZZWithoutSpans'. -/
theorem zzws_all (a a1 a2 : Option Addr) (n q : Nat) (d S E : List Int) (w : World) (hn : n ≤ 524288) (hq : q ≤ 16384) (hby : Byt d) (hv : Vw w a n d) (h1 : VwI w a1 q S) (h2 : VwI w a2 q E) (hval : Val n S E q) :
    Calls Trym.prog 19 #[.slice a n n, .slice a1 q q, .slice a2 q q] w fun e w' =>
      (∃ g, e = .returned (.slice (some ⟨g, 0, none⟩) (wsl d S E q).length n) ∧ At w' g 0 (wsl d S E q)) ∧ Below w.heap.size w w' := by
  refine zzws a a1 a2 n n q S E w _ (by omega) h1 h2 (fun W hb hsp => ?_)
  refine (ws_all a n w.heap.size q d S E W hn (by omega) hby (hv.below hb) hsp hval).mono fun e w' h => ?_
  exact ⟨⟨_, _, _, h.1.1⟩, ⟨_, h.1.1, h.1.2⟩, bt hb h.2⟩
end Go.Proofs.Qxb6600804aMods
