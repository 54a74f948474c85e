/-
  'bytes.Equal' (36) and 'bytes.HasPrefix' (33) by their contracts.
-/
import Derived.Test.Qxb6600804aModsClone
import Derived.Laws.BytesArg
import Derived.Lib.Bytes
namespace Go.Proofs.Qxb6600804aMods
open Go.RowKit
set_option linter.unusedVariables false
set_option linter.unusedSimpArgs false

/-- Every number of the list is a byte. -/
def Byt (xs : List Int) : Prop := ∀ x ∈ xs, 0 ≤ x ∧ x < 256

theorem byt_inj {x y : Int} (hx : 0 ≤ x ∧ x < 256) (hy : 0 ≤ y ∧ y < 256) (h : UInt8.ofNat x.toNat = UInt8.ofNat y.toNat) : x = y := by
  have := congrArg UInt8.toNat h
  simp [UInt8.toNat_ofNat'] at this
  omega

theorem nums_inj : ∀ {xs ys : List Int}, Byt xs → Byt ys → (xs.map fun n => UInt8.ofNat n.toNat) = (ys.map fun n => UInt8.ofNat n.toNat) → xs = ys
  | [], [], _, _, _ => rfl
  | [], _ :: _, _, _, h => by simp at h
  | _ :: _, [], _, _, h => by simp at h
  | x :: xs, y :: ys, hx, hy, h => by
    simp only [List.map_cons, List.cons.injEq] at h
    rw [byt_inj (hx x (by simp)) (hy y (by simp)) h.1, nums_inj (fun z hz => hx z (by simp [hz])) (fun z hz => hy z (by simp [hz])) h.2]

/-- Does 'xs' begin with 'ys'? -/
def hasP (xs ys : List Int) : Bool := decide (xs.take ys.length = ys)

theorem hasP_of (xs ys : List Int) (hx : Byt xs) (hy : Byt ys) : ((strOfNums (xs.take ys.length)).toList == (strOfNums ys).toList) = hasP xs ys := by
  have e : ∀ zs : List Int, (strOfNums zs).toList = zs.map fun n => UInt8.ofNat n.toNat := fun zs => Lib.strOfNums_toList zs
  rw [e, e, Bool.eq_iff_iff]
  simp only [hasP, beq_iff_eq, decide_eq_true_eq]
  exact ⟨fun h => nums_inj (fun z hz => hx z (List.mem_of_mem_take hz)) hy h, fun h => by rw [h]⟩

set_option maxHeartbeats 400000 in
theorem equal_any (v1 v2 : Value) (xs ys : List Int) (w : World) (h1 : (convert 22 9 v1).run Trym.prog w = .ok (.string (strOfNums xs)) w) (h2 : (convert 22 9 v2).run Trym.prog w = .ok (.string (strOfNums ys)) w) :
    Calls Trym.prog 36 #[v1, v2] w fun e w' => e = .returned (.bool ((strOfNums xs).toList == (strOfNums ys).toList)) ∧ w' = w := by
  go_enter Trym.func36, Trym.ntmps36
  go_wp2
  go_ret
  exact ⟨rfl, rfl⟩

set_option maxHeartbeats 400000 in
theorem prefix_any (b1 o1 n c b2 o2 m d : Nat) (xs ys : List Int) (w : World) (hx : xs.length = n) (hy : ys.length = m) (hnc : n ≤ c) (hbx : Byt xs) (hby : Byt ys) (h1 : At w b1 o1 xs) (h2 : At w b2 o2 ys) :
    Calls Trym.prog 33 #[.slice (some ⟨b1, o1, none⟩) n c, .slice (some ⟨b2, o2, none⟩) m d] w fun e w' => e = .returned (.bool (hasP xs ys)) ∧ w' = w := by
  have g2 := run_convert_bytes_arg (P := Trym.prog) w 22 5 Trym.underlying22 Trym.underlying5 b2 o2 m d ys hy (fun i hi => h2.2 i (by omega)) 9 Trym.underlying9
  have g1 : m ≤ n → (convert 22 9 (.slice (some ⟨b1, o1, none⟩) m c)).run Trym.prog w = .ok (.string (strOfNums (xs.take m))) w := fun h =>
    run_convert_bytes_arg (P := Trym.prog) w 22 5 Trym.underlying22 Trym.underlying5 b1 o1 m c (xs.take m) (by simp; omega) (fun i hi => by
      have := (h1.take m).2 i (by simp; omega); exact this) 9 Trym.underlying9
  have e0 := hasP_of xs ys hbx hby
  rw [hy] at e0
  have E0 : Hid (((strOfNums (xs.take m)).toList == (strOfNums ys).toList) = hasP xs ys) := e0
  have e1 : ¬ m ≤ n → hasP xs ys = false := fun h => by
    unfold hasP; rw [decide_eq_false_iff_not]; intro h'; have := congrArg List.length h'; simp at this; omega
  have E1 : Hid (¬ m ≤ n → hasP xs ys = false) := e1
  clear e0 e1
  clear h1 h2
  go_enter Trym.func33, Trym.ntmps33
  go_wp2_with (go_at_call 36; refine (equal_any _ _ (xs.take m) ys _ (g1 (by assumption)) g2).mono ?_; rintro e w' ⟨rfl, rfl⟩)
  · go_ret
    refine ⟨?_, rfl⟩
    rw [← E0.out]; rfl
  · have h : ¬ m ≤ n := by assumption
    go_ret
    refine ⟨?_, rfl⟩
    rw [E1.out h]; rfl
end Go.Proofs.Qxb6600804aMods
