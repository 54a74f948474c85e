/-
  'quotedEnd' (23) and 'ZZquotedEnd' (18) by their contracts.
-/
import Derived.Test.Qxb6600322aModsQPlain
import Derived.Deep.DeepCutAuto
namespace Go.Proofs.Qxb6600322aMods
open Go.RowKit
set_option linter.unusedVariables false
set_option linter.unusedSimpArgs false

/-- How many quotes open the string at place i. -/
def qOpen (d : List Int) (i : Nat) : Nat := if 3 ≤ lead (nth d i) (d.drop i) then 3 else 1
/-- Where the string that starts at place i ends. -/
def qEnd (d : List Int) (i : Nat) : Nat := qend d (nth d i) (qOpen d i) (i + qOpen d i)

theorem byt_drop {d : List Int} (h : Byt d) (k : Nat) : Byt (d.drop k) := fun x hx => h x (List.mem_of_mem_drop hx)
theorem byt_nth {d : List Int} (h : Byt d) {i : Nat} (hi : i < d.length) : 0 ≤ nth d i ∧ nth d i < 256 := by
  have : nth d i = d[i] := by simp [nth, List.getD, List.getElem?_eq_getElem hi]
  rw [this]; exact h _ (List.getElem_mem hi)
theorem byt_rep {q : Int} (h : 0 ≤ q ∧ q < 256) (m : Nat) : Byt (List.replicate m q) := fun x hx => by rw [(List.mem_replicate.1 hx).2]; exact h
theorem nth_rep (q : Int) (m i : Nat) (h : i < m) : nth (List.replicate m q) i = q := by simp [nth, List.getD, List.getElem?_replicate, h]

/-- A literal row of new memory. -/
theorem at_new (w : World) (C : Array Value) (xs : List Int) (t : TypeId) (B : Nat) (hB : B = w.heap.size) (h : ∀ i, i < xs.length → C[i]? = some (.int .u8 (nth xs i))) : At (w.alloc (.cells C t)) B 0 xs :=
  ⟨by simp [hB], fun i hi => by
    have e0 : 0 + i = i := by omega
    rw [e0, World.cell?_alloc_at _ _ _ _ hB]
    exact h i hi⟩
theorem rep3 (q : Int) : ∀ i, i < (List.replicate 3 q).length → (#[Value.int .u8 q, .int .u8 q, .int .u8 q])[i]? = some (.int .u8 (nth (List.replicate 3 q) i))
  | 0, _ => rfl
  | 1, _ => rfl
  | 2, _ => rfl
  | n + 3, h => by simp at h; omega
theorem rep1 (q : Int) : ∀ i, i < (List.replicate 1 q).length → (#[Value.int .u8 q])[i]? = some (.int .u8 (nth (List.replicate 1 q) i))
  | 0, _ => rfl
  | n + 1, h => by simp at h

theorem At.alloc {w : World} {b off : Nat} {xs : List Int} (h : At w b off xs) (ob : Obj) : At (w.alloc ob) b off xs := h.below ((Below.refl _ _).alloc (Nat.le_refl _) ob)

set_option maxHeartbeats 400000 in
theorem quoted_any (b o n c i : Nat) (d : List Int) (w : World) (hd : d.length = n) (hnc : n ≤ c) (hn : n ≤ 1048576) (hi : i < n) (hby : Byt d) (hat : At w b o d) (hq : nth d i = 34 ∨ nth d i = 39) :
    Calls Trym.prog 23 #[.slice (some ⟨b, o, none⟩) n c, .int .i64 i] w fun e w' => e = .returned (.int .i64 (qEnd d i)) ∧ Below w.heap.size w w' := by
  have hc0 := hat.2 i (by omega)
  have hbq := byt_nth hby (i := i) (by omega)
  have hqO : qOpen d i = if hasP (d.drop i) (List.replicate 3 (nth d i)) then 3 else 1 := by
    unfold qOpen; rw [hasP_rep]; simp
  have hqE : qEnd d i = qend d (nth d i) (qOpen d i) (i + qOpen d i) := rfl
  obtain ⟨q, hqe⟩ : ∃ q, nth d i = q := ⟨_, rfl⟩
  rw [hqe] at hc0 hbq hq hqO hqE
  obtain ⟨E, hE⟩ : ∃ E, E = qEnd d i := ⟨_, rfl⟩
  rw [← hE] at hqE ⊢
  obtain ⟨p, hp⟩ : ∃ p, p = hasP (d.drop i) (List.replicate 3 q) := ⟨_, rfl⟩
  rw [← hp] at hqO
  have hcon := prefix_any b (o + i) (n - i) (c - i) (w.heap.size + 1) 0 3 3 (d.drop i) (List.replicate 3 q) ((w.alloc (.cells #[.int .u8 q] 5)).alloc (.cells #[.int .u8 q, .int .u8 q, .int .u8 q] 5))
    (by simp; omega) (by simp) (by omega) (byt_drop hby i) (byt_rep hbq 3) (((hat.drop i).alloc _).alloc _) (at_new _ _ _ _ _ (by simp) (rep3 q))
  rw [← hp] at hcon
  have HqO : Hid (qOpen d i = if p then 3 else 1) := hqO
  have HqE : Hid (E = qend d q (qOpen d i) (i + qOpen d i)) := hqE
  clear hqe hE hp hqO hqE
  have hne : ¬ c = i := by omega
  have hlt : (i : Int) < (n : Int) := by omega
  go_enter Trym.func23, Trym.ntmps23
  go_upto_if 22 with (go_at_call 26; refine hcon.mono ?_; rintro e w' ⟨rfl, rfl⟩)
  go_cut [6] (fun dl wc => ∃ m bd, dl = .slice (some ⟨bd, 0, none⟩) m m ∧ m = qOpen d i ∧ (m = 1 ∨ m = 3) ∧ At wc bd 0 (List.replicate m q) ∧ Below w.heap.size w wc)
  case first =>
    go_wp2
    · go_meet
      case rel => exact ⟨3, w.heap.size + 2, rfl, by rw [HqO.out, if_pos ‹p = true›], .inr rfl, at_new _ _ _ _ _ (by simp) (rep3 q), (((Below.refl _ _).alloc (Nat.le_refl _) _).alloc (by simp) _).alloc (by simp; omega) _⟩
    · go_meet
      case rel => exact ⟨1, w.heap.size, rfl, by rw [HqO.out, if_neg (by simp [‹p = false›])], .inl rfl, (at_new _ _ _ _ _ rfl (rep1 q)).alloc _, ((Below.refl _ _).alloc (Nat.le_refl _) _).alloc (by simp) _⟩
  case rest =>
    obtain ⟨m, bd, rfl, hm, h13, hdat, hbel⟩ := hcut
    have HE : Hid (qend d q m (i + m) = E) := by rw [hm]; exact HqE.out.symm
    have hatc := hat.below hbel
    clear hm HqE HqO hcon hat
    have hm3 : 1 ≤ m ∧ m ≤ 3 := by omega
    go_wp2
    go_loop [7] (fun j => ∃ k : Nat, k ≤ n + 3 ∧ j = .int .i64 k ∧ Hid (qend d q m k = E)) (fun j => n + 3 - (intOf j).toNat)
    case atStart => exact ⟨i + m, by omega, by go_num, HE⟩
    case round =>
      obtain ⟨k, hk, rfl, HK⟩ := hrel
      clear HE
      by_cases hkn : k < n
      · have hck := hatc.2 k (by omega)
        have hpre := prefix_any b (o + k) (n - k) (c - k) bd 0 m m (d.drop k) (List.replicate m q) wc (by simp; omega) (by simp) (by omega) (byt_drop hby k) (byt_rep hbq m) (hatc.drop k) hdat
        rw [hasP_rep] at hpre
        obtain ⟨v, hv⟩ : ∃ v, nth d k = v := ⟨_, rfl⟩
        rw [hv] at hck
        have HV : Hid (nth d k = v) := hv
        clear hv
        have hkc : ¬ c = k := by omega
        have hkI : (k : Int) < (n : Int) := by omega
        by_cases h92 : v = 92
        · subst h92
          clear hpre
          rcases hq with rfl | rfl
          · go_wp2
            go_round
            case rel => exact ⟨k + 2, by omega, by go_num, by rw [← qend_esc d m k (by omega) HV.out]; exact HK⟩
            case measure => simp [intOf]; omega
          · go_wp2
            go_round
            case rel => exact ⟨k + 1, by omega, by go_num, by rw [← qend_next d 39 m k (by omega) (by omega) (by rw [HV.out]; omega)]; exact HK⟩
            case measure => simp [intOf]; omega
        · have hb92 : (v == 92) = false := by simpa using h92
          by_cases hvq : v = q
          · subst hvq
            by_cases hl : m ≤ lead v (d.drop k)
            · rw [decide_eq_true hl] at hpre
              have HH : Hid (E = k + (if m = 1 then 1 else lead v (d.drop k))) := by
                rw [← HK.out]; exact qend_hit d v m k (by omega) (by rw [HV.out]; omega) ⟨HV.out, hl⟩
              clear HK
              rcases h13 with rfl | rfl
              · go_wp2_with (go_at_call 26; refine hpre.mono ?_; rintro e w' ⟨rfl, rfl⟩)
                go_loop [8] (fun e => e = .int .i64 (k + 1)) (fun _ => 0)
                case atStart => rfl
                case round =>
                  subst hrel
                  go_wp2
                  go_ret
                  refine ⟨?_, hbel⟩
                  rw [HH.out]; rfl
              · have hll := lead_le v (d.drop k)
                rw [List.length_drop] at hll
                have hld := lead_drop v 3 (d.drop k) hl
                rw [List.drop_drop] at hld
                have HT : Hid (k + 3 + lead v (d.drop (k + 3)) = E) := by rw [HH.out, if_neg (by omega)]; show _ = _; omega
                clear hld HH
                go_wp2_with (go_at_call 26; refine hpre.mono ?_; rintro e w' ⟨rfl, rfl⟩)
                clear hpre
                go_loop [8] (fun e => ∃ t : Nat, t ≤ n ∧ e = .int .i64 t ∧ Hid (t + lead v (d.drop t) = E)) (fun e => n - (intOf e).toNat)
                case atStart => exact ⟨k + 3, by omega, by go_num, HT⟩
                case round =>
                  obtain ⟨t, ht, rfl, HT'⟩ := hrel
                  clear HT
                  by_cases htn : t < n
                  · have hct := hatc.2 t (by omega)
                    obtain ⟨u, hu⟩ : ∃ u, nth d t = u := ⟨_, rfl⟩
                    rw [hu] at hct
                    have HU : Hid (nth d t = u) := hu
                    clear hu
                    by_cases huv : u = v
                    · subst huv
                      go_wp2
                      go_round
                      case rel => exact ⟨t + 1, by omega, by go_num, by
                        have h1 := HT'.out
                        have h2 := lead_hit d u t (by omega) HU.out
                        show _ = _
                        omega⟩
                      case measure => simp [intOf]; omega
                    · have hbuv : (u == v) = false := by simpa using huv
                      go_wp2
                      go_ret
                      refine ⟨?_, hbel⟩
                      have h1 := HT'.out
                      have h2 := lead_miss d v t (by omega) (by rw [HU.out]; exact huv)
                      have h3 : t = E := by omega
                      rw [← h3]; rfl
                  · go_wp2
                    go_ret
                    refine ⟨?_, hbel⟩
                    have h1 := HT'.out
                    have h2 := lead_out d v t (by omega)
                    have h3 : t = E := by omega
                    rw [← h3]; rfl
            · rw [decide_eq_false hl] at hpre
              go_wp2_with (go_at_call 26; refine hpre.mono ?_; rintro e w' ⟨rfl, rfl⟩)
              go_round
              case rel => exact ⟨k + 1, by omega, by go_num, by rw [← qend_next d v m k (by omega) (by rw [HV.out]; omega) (by rw [HV.out]; omega)]; exact HK⟩
              case measure => simp [intOf]; omega
          · have hbvq : (v == q) = false := by simpa using hvq
            clear hpre
            go_wp2
            go_round
            case rel => exact ⟨k + 1, by omega, by go_num, by rw [← qend_next d q m k (by omega) (by rw [HV.out]; omega) (by rw [HV.out]; omega)]; exact HK⟩
            case measure => simp [intOf]; omega
      · go_wp2
        go_ret
        refine ⟨?_, hbel⟩
        have := HK.out
        rw [qend_out d q m k (by omega)] at this
        rw [← this, hd]; rfl
end Go.Proofs.Qxb6600322aMods
