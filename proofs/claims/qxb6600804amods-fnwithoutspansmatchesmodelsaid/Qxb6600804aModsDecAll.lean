/-
  'zzmB1Decode' (29): the whole contract, in the words of 'lb'; 'zzmB1LineBreakModel' (13).
-/
import Derived.Test.Qxb6600804aModsDecode
namespace Go.Proofs.Qxb6600804aMods
open Go.RowKit
set_option linter.unusedVariables false
set_option linter.unusedSimpArgs false

/-- What a decoded rune says of the line break at its place. -/
def DecOK (d : List Int) (p : Nat) (r : Int) (s : Nat) : Prop :=
  s ≠ 0 ∧ (r = 13 ↔ nth d p = 13) ∧ (isBrk r = true ↔ lb d p ≠ 0) ∧ (lb d p ≠ 0 → r ≠ 13 → s = lb d p)

theorem isBrk_iff (r : Int) : isBrk r = true ↔ (r = 13 ∨ r = 10 ∨ r = 133 ∨ r = 8232 ∨ r = 8233) := by simp [isBrk]

theorem ok_one {d : List Int} {p : Nat} (h0 : 0 ≤ nth d p) (h1 : nth d p < 128) : DecOK d p (nth d p) 1 := by
  refine ⟨by omega, Iff.rfl, ?_, ?_⟩
  · rw [isBrk_iff]; unfold lb; (repeat' split) <;> omega
  · unfold lb; (repeat' split) <;> omega
theorem ok_bad {d : List Int} {p : Nat} (h : lb d p = 0) (h13 : nth d p ≠ 13) : DecOK d p 65533 1 := by
  refine ⟨by omega, by omega, ?_, by omega⟩
  rw [isBrk_iff]; omega
theorem ok_two {d : List Int} {p : Nat} (h1 : 194 ≤ nth d p) (h2 : nth d p < 224) (hy : 128 ≤ nth d (p + 1) ∧ nth d (p + 1) ≤ 191) : DecOK d p (nth d p % 32 * 64 + nth d (p + 1) % 64) 2 := by
  refine ⟨by omega, by omega, ?_, ?_⟩
  · rw [isBrk_iff]; unfold lb; (repeat' split) <;> omega
  · unfold lb; (repeat' split) <;> omega
theorem ok_three {d : List Int} {p : Nat} (h1 : 224 ≤ nth d p) (h2 : nth d p < 240) (hy : 128 ≤ nth d (p + 1) ∧ nth d (p + 1) ≤ 191) (hy' : nth d p = 224 → 160 ≤ nth d (p + 1)) (hz : 128 ≤ nth d (p + 2) ∧ nth d (p + 2) ≤ 191) :
    DecOK d p (nth d p % 16 * 4096 + nth d (p + 1) % 64 * 64 + nth d (p + 2) % 64) 3 := by
  refine ⟨by omega, by omega, ?_, ?_⟩
  · rw [isBrk_iff]; unfold lb; (repeat' split) <;> omega
  · unfold lb; (repeat' split) <;> omega
theorem lb_zero_two {d : List Int} {p : Nat} (h1 : 128 ≤ nth d p) (h2 : nth d p < 224) (hy : ¬ (nth d p = 194 ∧ nth d (p + 1) = 133)) : lb d p = 0 := by
  unfold lb; (repeat' split) <;> omega
theorem lb_zero_three {d : List Int} {p : Nat} (h1 : 224 ≤ nth d p) (hy : ¬ (nth d p = 226 ∧ nth d (p + 1) = 128 ∧ (nth d (p + 2) = 168 ∨ nth d (p + 2) = 169))) : lb d p = 0 := by
  unfold lb; (repeat' split) <;> omega
theorem byt_nth {d : List Int} (h : Byt d) {i : Nat} (hi : i < d.length) : 0 ≤ nth d i ∧ nth d i < 256 := by
  have : nth d i = d[i] := by simp [nth, List.getD, List.getElem?_eq_getElem hi]
  rw [this]; exact h _ (List.getElem_mem hi)

theorem dec_all (b o n c p : Nat) (d : List Int) (w : World) (hd : d.length = n) (hp : p < n) (hn : n ≤ 1048576) (hby : Byt d) (hat : At w b o d) :
    Calls Trym.prog 29 #[.slice (some ⟨b, o, none⟩) n c, .int .i64 p] w fun e w' => (∃ (r : Int) (s : Nat), e = .returned (.tuple #[.int .i32 r, .int .i64 s]) ∧ DecOK d p r s) ∧ Below w.heap.size w w' := by
  have hx := hat.2 p (by omega)
  have hb := byt_nth hby (i := p) (by omega)
  by_cases h1 : nth d p < 128
  · exact (dec_one b o n c p (nth d p) w hp hn hx hb.1 h1).mono fun e w' h => ⟨⟨_, 1, h.1, ok_one hb.1 h1⟩, h.2⟩
  by_cases h2 : nth d p < 194
  · exact (dec_bad b o n c p (nth d p) w hp hn hx (by omega) h2).mono fun e w' h => ⟨⟨_, 1, h.1, ok_bad (lb_zero_two (by omega) (by omega) (by omega)) (by omega)⟩, h.2⟩
  by_cases h3 : nth d p < 224
  · by_cases hp1 : p + 1 < n
    · have hy := hat.2 (p + 1) (by omega)
      cases hc : cont (nth d (p + 1)) with
      | true =>
        have hc' : 128 ≤ nth d (p + 1) ∧ nth d (p + 1) ≤ 191 := by simpa [cont] using hc
        exact (dec_two b o n c p (nth d p) (nth d (p + 1)) w hp1 hn hx hy (by omega) h3 hc).mono fun e w' h => ⟨⟨_, 2, h.1, ok_two (by omega) h3 hc'⟩, h.2⟩
      | false =>
        have hc' : ¬ (128 ≤ nth d (p + 1) ∧ nth d (p + 1) ≤ 191) := by simpa [cont] using hc
        exact (dec_two_no b o n c p (nth d p) (nth d (p + 1)) w hp1 hn hx hy (by omega) h3 hc).mono fun e w' h => ⟨⟨_, 1, h.1, ok_bad (lb_zero_two (by omega) h3 (by omega)) (by omega)⟩, h.2⟩
    · have hy := nth_out d (p + 1) (by omega)
      exact (dec_two_end b o n c p (nth d p) w hp hp1 hn hx (by omega) h3).mono fun e w' h => ⟨⟨_, 1, h.1, ok_bad (lb_zero_two (by omega) h3 (by omega)) (by omega)⟩, h.2⟩
  by_cases h4 : nth d p < 240
  · by_cases hp2 : p + 2 < n
    · have hy := hat.2 (p + 1) (by omega)
      have hz := hat.2 (p + 2) (by omega)
      cases hs : sec (nth d p) (nth d (p + 1)) with
      | true =>
        have hs2 : (if nth d p = 224 then 160 else 128) ≤ nth d (p + 1) ∧ nth d (p + 1) ≤ (if nth d p = 237 then 159 else 191) := by simpa [sec] using hs
        have hyb : 128 ≤ nth d (p + 1) ∧ nth d (p + 1) ≤ 191 := by
          constructor
          · have := hs2.1; split at this <;> omega
          · have := hs2.2; split at this <;> omega
        have hy' : nth d p = 224 → 160 ≤ nth d (p + 1) := fun e => by have := hs2.1; rw [if_pos e] at this; exact this
        cases hc : cont (nth d (p + 2)) with
        | true =>
          have hc' : 128 ≤ nth d (p + 2) ∧ nth d (p + 2) ≤ 191 := by simpa [cont] using hc
          exact (dec_three b o n c p (nth d p) (nth d (p + 1)) (nth d (p + 2)) w hp2 hn hx hy hz (by omega) h4 hs hc).mono fun e w' h => ⟨⟨_, 3, h.1, ok_three (by omega) h4 hyb hy' hc'⟩, h.2⟩
        | false =>
          have hc' : ¬ (128 ≤ nth d (p + 2) ∧ nth d (p + 2) ≤ 191) := by simpa [cont] using hc
          exact (dec_three_c b o n c p (nth d p) (nth d (p + 1)) (nth d (p + 2)) w hp2 hn hx hy hz (by omega) h4 hs hc).mono fun e w' h => ⟨⟨_, 1, h.1, ok_bad (lb_zero_three (by omega) (by omega)) (by omega)⟩, h.2⟩
      | false =>
        have hno : ¬ (nth d p = 226 ∧ nth d (p + 1) = 128) := fun e => by rw [e.1, e.2] at hs; simp [sec] at hs
        exact (dec_three_s b o n c p (nth d p) (nth d (p + 1)) (nth d (p + 2)) w hp2 hn hx hy hz (by omega) h4 hs).mono fun e w' h => ⟨⟨_, 1, h.1, ok_bad (lb_zero_three (by omega) (by omega)) (by omega)⟩, h.2⟩
    · have hz := nth_out d (p + 2) (by omega)
      exact (dec_three_e b o n c p (nth d p) w hp hp2 hn hx (by omega) h4).mono fun e w' h => ⟨⟨_, 1, h.1, ok_bad (lb_zero_three (by omega) (by omega)) (by omega)⟩, h.2⟩
  · exact (dec_four b o n c p (nth d p) w hp hn hx (by omega)).mono fun e w' h => ⟨⟨_, 1, h.1, ok_bad (lb_zero_three (by omega) (by omega)) (by omega)⟩, h.2⟩

theorem lbm_out (a : Option Addr) (n c : Nat) (i : Int) (w : World) (hi : (n : Int) ≤ i) :
    Calls Trym.prog 13 #[.slice a n c, .int .i64 i] w fun e w' => e = .returned (.int .i64 0) ∧ w' = w := by
  have hdec := dec_out a n c i w (.inr hi)
  go_enter Trym.func13, Trym.ntmps13
  go_wp2_with (go_at_call 29; refine hdec.mono ?_; rintro e w' ⟨rfl, rfl⟩)
  go_ret
  exact ⟨rfl, rfl⟩

set_option maxHeartbeats 800000 in
theorem lbm_in (b o n c i : Nat) (d : List Int) (w : World) (hd : d.length = n) (hi : i < n) (hn : n ≤ 1048576) (hby : Byt d) (hat : At w b o d) :
    Calls Trym.prog 13 #[.slice (some ⟨b, o, none⟩) n c, .int .i64 i] w fun e w' => e = .returned (.int .i64 (lb d i)) ∧ Below w.heap.size w w' := by
  have hdec := dec_all b o n c i d w hd hi hn hby hat
  have HL : Hid (lb d i = if nth d i = 13 ∧ nth d (i + 1) = 10 then 2 else if nth d i = 13 ∨ nth d i = 10 then 1 else if nth d i = 194 ∧ nth d (i + 1) = 133 then 2
    else if nth d i = 226 ∧ nth d (i + 1) = 128 ∧ (nth d (i + 2) = 168 ∨ nth d (i + 2) = 169) then 3 else 0) := rfl
  obtain ⟨E, hE⟩ : ∃ E, lb d i = E := ⟨_, rfl⟩
  rw [hE]
  have HE : Hid (lb d i = E) := hE
  clear hE
  go_enter Trym.func13, Trym.ntmps13
  go_wp2_with fail
  refine hdec.mono ?_
  rintro e w1 ⟨⟨r, s, rfl, h1, h2, h3, h4⟩, hb⟩
  have H2 : Hid (r = 13 ↔ nth d i = 13) := h2
  have H3 : Hid (isBrk r = true ↔ lb d i ≠ 0) := h3
  have H4 : Hid (lb d i ≠ 0 → r ≠ 13 → s = lb d i) := h4
  clear h2 h3 h4 hdec
  have hs0 : ((s : Int) == 0) = false := by simp; omega
  have hat1 := hat.below hb
  by_cases hr : r = 13
  · subst hr
    have hx := H2.out.1 rfl
    by_cases hi1 : i + 1 < n
    · have hy := hat1.2 (i + 1) (by omega)
      have hiI : (i : Int) + 1 < (n : Int) := by omega
      obtain ⟨y, hye⟩ : ∃ y, nth d (i + 1) = y := ⟨_, rfl⟩
      rw [hye] at hy
      by_cases hy10 : y = 10
      · subst hy10
        have HF : Hid (E = 2) := by show E = 2; rw [← HE.out, HL.out, if_pos ⟨hx, hye⟩]
        clear hye hx
        go_wp2_with fail
        go_ret
        exact ⟨by rw [HF.out]; rfl, hb⟩
      · have HF : Hid (E = 1) := by show E = 1; rw [← HE.out, HL.out, if_neg (by omega), if_pos (.inl hx)]
        have hyb : (y == 10) = false := by simpa using hy10
        clear hye hx
        go_wp2_with fail
        go_ret
        exact ⟨by rw [HF.out]; rfl, hb⟩
    · have hy := nth_out d (i + 1) (by omega)
      have HF : Hid (E = 1) := by show E = 1; rw [← HE.out, HL.out, if_neg (by omega), if_pos (.inl hx)]
      have hiI : ¬ (i : Int) + 1 < (n : Int) := by omega
      clear hx hy
      go_wp2_with fail
      go_ret
      exact ⟨by rw [HF.out]; rfl, hb⟩
  · have hrb : (r == 13) = false := by simpa using hr
    cases hbr : isBrk r with
    | true =>
      have hbk := fun W => brk_is r true hbr W
      have HF : Hid (s = E) := by rw [← HE.out]; exact H4.out (H3.out.1 hbr) hr
      clear hbr
      go_wp2_with (go_at_call 30; refine (hbk _).mono ?_; rintro e wz ⟨rfl, hwz⟩; have hwz' := hwz.symm; subst hwz'; clear hwz)
      go_ret
      exact ⟨by rw [← HF.out]; rfl, hb⟩
    | false =>
      have hbk := fun W => brk_is r false hbr W
      have HF : Hid (E = 0) := by
        rw [← HE.out]
        by_cases h : lb d i = 0
        · exact h
        · have := H3.out.2 h; rw [hbr] at this; cases this
      clear hbr
      go_wp2_with (go_at_call 30; refine (hbk _).mono ?_; rintro e wz ⟨rfl, hwz⟩; have hwz' := hwz.symm; subst hwz'; clear hwz)
      go_ret
      exact ⟨by rw [HF.out]; rfl, hb⟩
end Go.Proofs.Qxb6600804aMods
