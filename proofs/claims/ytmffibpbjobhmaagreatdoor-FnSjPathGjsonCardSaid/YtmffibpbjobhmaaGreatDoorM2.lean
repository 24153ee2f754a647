import Derived.Test.YtmffibpbjobhmaaGreatDoorM1
import Derived.Test.YtmffibpbjobhmaaGreatDoorS1
namespace Go.Proofs.YtmffibpbjobhmaaGreatDoor
open Go.RowKit

def isDotPipeColon (c : UInt8) : Bool := c.toNat == 46 || c.toNat == 124 || c.toNat == 58

/-- What isDotPiperChar says of a text that is not empty. -/
def dotPiper (s : ByteArray) : Bool :=
  if h : 0 < s.size then
    if s[0].toNat == 64 then (modNum (s.extract 1 (scan isDotPipeColon s 1)).toList).isSome else s[0].toNat == 91 || s[0].toNat == 123
  else false

theorem dotPiper_at (s : ByteArray) (h0 : 0 < s.size) (h64 : s[0].toNat = 64) : dotPiper s = (modNum (s.extract 1 (scan isDotPipeColon s 1)).toList).isSome := by
  unfold dotPiper; rw [dif_pos h0, if_pos (by simpa using h64)]
theorem dotPiper_not (s : ByteArray) (h0 : 0 < s.size) (h64 : s[0].toNat ≠ 64) : dotPiper s = (s[0].toNat == 91 || s[0].toNat == 123) := by
  unfold dotPiper; rw [dif_pos h0, if_neg (by simpa using h64)]

theorem nat_eq_int (a : Nat) (b : Int) (k : Nat) (hk : b = k) (h : a = k) : ((a : Int) == b) = true := by subst hk; simpa using (by omega : (a : Int) = k)

set_option maxHeartbeats 2000000 in
theorem t146 (s : ByteArray) (w : World) (hs : s.size ≤ maxLen) (h0 : 0 < s.size) :
    Calls Tryz.prog 146 #[.string s] w fun e w' => e = .returned (.bool (dotPiper s)) ∧ w = w' := by
  unfold maxLen at hs
  by_cases h64 : s[0].toNat = 64
  · have h64' : ((s[0].toNat : Int) == 64) = true := by simpa using (by omega : (s[0].toNat : Int) = 64)
    have HF : Hid (dotPiper s = (modNum (s.extract 1 (scan isDotPipeColon s 1)).toList).isSome) := dotPiper_at s h0 h64
    go_enter Tryz.func146, Tryz.ntmps146
    go_wp2
    clear h64 h64'
    have fin : ∀ (k : Nat), 1 ≤ k → k ≤ s.size → Hid (k = scan isDotPipeColon s 1) → ∀ w' : World,
        Calls Tryz.prog 79 #[.string (s.extract 1 k)] w' fun e w1 => (e = .returned .nilFunc ∧ Hid (dotPiper s = false) ∨ ∃ j, e = .returned (.func (.func j) #[] #[]) ∧ Hid (dotPiper s = true)) ∧ w' = w1 := by
      intro k _ _ hk w'
      cases hm : modNum (s.extract 1 k).toList with
      | none => exact (t79_none _ _ hm).mono fun e w1 h => ⟨Or.inl ⟨h.1, by unfold Hid; rw [HF.out, ← hk.out, hm]; rfl⟩, h.2⟩
      | some j => exact (t79_some _ _ j hm).mono fun e w1 h => ⟨Or.inr ⟨j, h.1, by unfold Hid; rw [HF.out, ← hk.out, hm]; rfl⟩, h.2⟩
    have Fin := Lib.hid fin
    clear fin
    have hq1 := neq_nil_nil
    have hq2 := neq_func_nil
    go_loop [4] (fun i => ∃ k : Nat, 1 ≤ k ∧ k ≤ s.size ∧ i = .int .i64 k ∧ Hid (scan isDotPipeColon s k = scan isDotPipeColon s 1)) (fun i => s.size - (intOf i).toNat)
    case atStart => exact ⟨1, by omega, by omega, rfl, rfl⟩
    case round =>
      obtain ⟨k, hk1, hk, rfl, HK⟩ := hrel
      by_cases hlt : k < s.size
      · by_cases hp : isDotPipeColon s[k] = true
        · have HE : Hid (k = scan isDotPipeColon s 1) := by unfold Hid; rw [← HK.out, scan_hit hlt hp]
          unfold isDotPipeColon at hp
          simp only [Bool.or_eq_true, beq_iff_eq] at hp
          have hp' : s[k].toNat = 46 ∨ s[k].toNat ≠ 46 ∧ s[k].toNat = 124 ∨ s[k].toNat ≠ 46 ∧ s[k].toNat ≠ 124 ∧ s[k].toNat = 58 := by omega
          clear hp
          rcases hp' with h1 | ⟨h1, h2⟩ | ⟨h1, h2, h3⟩
          · have e1 : ((s[k].toNat : Int) == 46) = true := by rw [beq_iff_eq]; omega
            clear h1
            go_wp2_with (go_at_call 79; refine (Fin.out k hk1 hk HE _).mono ?_; rintro e w' ⟨h | ⟨j, h⟩, rfl⟩ <;> obtain ⟨rfl, hd⟩ := h)
            all_goals
              go_ret
              exact ⟨by rw [hd.out]; rfl, rfl⟩
          · have e1 : ((s[k].toNat : Int) == 46) = false := by rw [beq_eq_false_iff_ne]; omega
            have e2 : ((s[k].toNat : Int) == 124) = true := by rw [beq_iff_eq]; omega
            clear h1 h2
            go_wp2_with (go_at_call 79; refine (Fin.out k hk1 hk HE _).mono ?_; rintro e w' ⟨h | ⟨j, h⟩, rfl⟩ <;> obtain ⟨rfl, hd⟩ := h)
            all_goals
              go_ret
              exact ⟨by rw [hd.out]; rfl, rfl⟩
          · have e1 : ((s[k].toNat : Int) == 46) = false := by rw [beq_eq_false_iff_ne]; omega
            have e2 : ((s[k].toNat : Int) == 124) = false := by rw [beq_eq_false_iff_ne]; omega
            have e3 : ((s[k].toNat : Int) == 58) = true := by rw [beq_iff_eq]; omega
            clear h1 h2 h3
            go_wp2_with (go_at_call 79; refine (Fin.out k hk1 hk HE _).mono ?_; rintro e w' ⟨h | ⟨j, h⟩, rfl⟩ <;> obtain ⟨rfl, hd⟩ := h)
            all_goals
              go_ret
              exact ⟨by rw [hd.out]; rfl, rfl⟩
        · have HE : Hid (scan isDotPipeColon s (k + 1) = scan isDotPipeColon s 1) := by unfold Hid; rw [← HK.out, scan_miss hlt (by simpa using hp)]
          unfold isDotPipeColon at hp
          simp only [Bool.or_eq_true, beq_iff_eq, not_or] at hp
          have e1 : ((s[k].toNat : Int) == 46) = false := by rw [beq_eq_false_iff_ne]; omega
          have e2 : ((s[k].toNat : Int) == 124) = false := by rw [beq_eq_false_iff_ne]; omega
          have e3 : ((s[k].toNat : Int) == 58) = false := by rw [beq_eq_false_iff_ne]; omega
          clear hp
          go_wp2
          go_round
          case rel => exact ⟨k + 1, by omega, by omega, by go_num, HE⟩
          case measure => simp [intOf]; omega
      · obtain rfl : k = s.size := by omega
        have HE : Hid (s.size = scan isDotPipeColon s 1) := by unfold Hid; rw [← HK.out, scan_end (Nat.le_refl _)]
        clear hlt
        go_wp2_with (go_at_call 79; refine (Fin.out s.size hk1 hk HE _).mono ?_; rintro e w' ⟨h | ⟨j, h⟩, rfl⟩ <;> obtain ⟨rfl, hd⟩ := h)
        all_goals
          go_ret
          exact ⟨by rw [hd.out]; rfl, rfl⟩
  · have HF : Hid (dotPiper s = (s[0].toNat == 91 || s[0].toNat == 123)) := dotPiper_not s h0 h64
    by_cases h91 : s[0].toNat = 91
    · have HD : Hid (dotPiper s = true) := by unfold Hid; rw [HF.out, h91]; rfl
      go_enter Tryz.func146, Tryz.ntmps146
      go_wp2
      go_ret
      exact ⟨by rw [HD.out]; rfl, rfl⟩
    · by_cases h123 : s[0].toNat = 123
      · have HD : Hid (dotPiper s = true) := by unfold Hid; rw [HF.out, h123]; rfl
        go_enter Tryz.func146, Tryz.ntmps146
        go_wp2
        go_ret
        exact ⟨by rw [HD.out]; rfl, rfl⟩
      · have HD : Hid (dotPiper s = false) := by unfold Hid; rw [HF.out]; simp [h91, h123]
        have e0 : ((s[0].toNat : Int) == 64) = false := by rw [beq_eq_false_iff_ne]; omega
        have e1 : ((s[0].toNat : Int) == 91) = false := by rw [beq_eq_false_iff_ne]; omega
        have e2 : ((s[0].toNat : Int) == 123) = false := by rw [beq_eq_false_iff_ne]; omega
        clear h91 h123 h64
        go_enter Tryz.func146, Tryz.ntmps146
        go_wp2
        go_ret
        exact ⟨by rw [HD.out]; rfl, rfl⟩
end Go.Proofs.YtmffibpbjobhmaaGreatDoor
