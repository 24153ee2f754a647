/-
  LETTERS AND THE BYTES OF A PATH (spec.letter, spec.pathByte), the writing of a key as a path's component (spec.PathOf), sjson's simple characters.
-/
import Derived.Test.YtmffibpbjobhmaaGreatDoorB1
import Derived.Test.YtmffibpbjobhmaaGreatDoorS1
namespace Go.Proofs.YtmffibpbjobhmaaGreatDoor
open Go.RowKit

theorem ret_bool {a b : Bool} (h : a = b) : Ending.returned (.bool a) = .returned (.bool b) := by rw [h]

def letterN (n : Nat) : Bool := (decide (97 ≤ n) && decide (n ≤ 122)) || (decide (65 ≤ n) && decide (n ≤ 90)) || (decide (48 ≤ n) && decide (n ≤ 57)) || n == 95
def pathN (n : Nat) : Bool := letterN n || n == 45 || n == 32 || decide (128 ≤ n)

set_option maxHeartbeats 1000000 in
theorem t155 (n : Nat) (w : World) :
    Calls Tryz.prog 155 #[.int .u8 n] w fun e w' => e = .returned (.bool (letterN n)) ∧ w = w' := by
  go_enter Tryz.func155, Tryz.ntmps155
  go_wp2
  all_goals
    go_ret
    refine ⟨ret_bool ?_, rfl⟩
    rw [Bool.eq_iff_iff]
    simp [letterN]
    omega

set_option maxHeartbeats 1000000 in
theorem t95 (n : Nat) (w : World) :
    Calls Tryz.prog 95 #[.int .u8 n] w fun e w' => e = .returned (.bool (pathN n)) ∧ w = w' := by
  have h155 := t155 n
  cases hl : letterN n with
  | true =>
    rw [hl] at h155
    have H := Lib.hid h155
    have HP : Hid (pathN n = true) := by unfold Hid pathN; rw [hl]; rfl
    clear h155 hl
    go_enter Tryz.func95, Tryz.ntmps95
    go_wp2_with (go_at_call 155; refine (H.out _).mono ?_; rintro e w' ⟨rfl, rfl⟩)
    go_ret
    exact ⟨ret_bool HP.out.symm, rfl⟩
  | false =>
    rw [hl] at h155
    have H := Lib.hid h155
    have HP : Hid (pathN n = (n == 45 || n == 32 || decide (128 ≤ n))) := by unfold Hid pathN; rw [hl]; rfl
    clear h155 hl
    go_enter Tryz.func95, Tryz.ntmps95
    go_wp2_with (go_at_call 155; refine (H.out _).mono ?_; rintro e w' ⟨rfl, rfl⟩)
    all_goals
      go_ret
      refine ⟨ret_bool ?_, rfl⟩
      rw [HP.out, Bool.eq_iff_iff]
      simp
      omega

def simpleN (n : Nat) : Bool := !(n == 124 || n == 35 || n == 64 || n == 42 || n == 63)
set_option maxHeartbeats 1000000 in
theorem t154 (n : Nat) (w : World) :
    Calls Tryz.prog 154 #[.int .u8 n] w fun e w' => e = .returned (.bool (simpleN n)) ∧ w = w' := by
  go_enter Tryz.func154, Tryz.ntmps154
  go_wp2
  all_goals
    go_ret
    refine ⟨ret_bool ?_, rfl⟩
    simp only [beq_iff_eq, beq_eq_false_iff_ne] at *
    rw [Bool.eq_iff_iff]
    simp [simpleN]
    omega
theorem pathN_simple (n : Nat) (h : pathN n = true) : simpleN n = true := by
  unfold pathN letterN at h
  simp only [Bool.or_eq_true, Bool.and_eq_true, decide_eq_true_eq, beq_iff_eq] at h
  unfold simpleN
  simp
  omega
theorem pathN_not (n : Nat) (h : pathN n = true) : n ≠ 46 ∧ n ≠ 92 ∧ n ≠ 124 ∧ n ≠ 42 ∧ n ≠ 63 ∧ n ≠ 58 := by
  unfold pathN letterN at h
  simp only [Bool.or_eq_true, Bool.and_eq_true, decide_eq_true_eq, beq_iff_eq] at h
  omega

/-- A key written as a path's component: a backslash ahead of each byte that does not stand for itself. -/
def esc : List UInt8 → List UInt8
  | [] => []
  | b :: l => if pathN b.toNat then b :: esc l else 92 :: b :: esc l
theorem esc_append (a b : List UInt8) : esc (a ++ b) = esc a ++ esc b := by
  induction a with
  | nil => rfl
  | cons c a ih =>
    simp only [List.cons_append, esc]
    split <;> simp [ih]
theorem esc_length (l : List UInt8) : l.length ≤ (esc l).length ∧ (esc l).length ≤ 2 * l.length := by
  induction l with
  | nil => simp [esc]
  | cons b l ih => simp only [esc]; split <;> simp <;> omega
theorem esc_snoc_yes (l : List UInt8) (b : UInt8) (h : pathN b.toNat = true) : esc (l ++ [b]) = esc l ++ [b] := by rw [esc_append]; simp [esc, h]
theorem esc_snoc_no (l : List UInt8) (b : UInt8) (h : pathN b.toNat = false) : esc (l ++ [b]) = esc l ++ [92, b] := by rw [esc_append]; simp [esc, h]
theorem esc_plain (l : List UInt8) (h : ∀ b ∈ l, pathN b.toNat = true) : esc l = l := by
  induction l with
  | nil => rfl
  | cons b l ih =>
    simp only [esc]
    rw [if_pos (h b (by simp)), ih fun c hc => h c (by simp [hc])]
end Go.Proofs.YtmffibpbjobhmaaGreatDoor
