import Derived.Test.YtmffibpbjobhmaaGreatDoorProg
import Derived.WalkKit
import Derived.WalkSpells
import Derived.WalkLawsBesides
import Derived.Lib.Hide
namespace Go.Proofs.YtmffibpbjobhmaaGreatDoor
open Go.RowKit

theorem run_equalIn_nil_nil (w : World) (d : Nat) : (Op.equalIn (d + 1) 49 .nilFunc .nilFunc).run Tryz.prog w = .ok true w := by
  simp [Op.equalIn, run_underlying Tryz.underlying49]
theorem run_equalIn_func_nil (w : World) (d : Nat) (f : Fn) (a b : Array Value) : (Op.equalIn (d + 1) 49 (.func f a b) .nilFunc).run Tryz.prog w = .ok false w := by
  simp [Op.equalIn, run_underlying Tryz.underlying49]
theorem neq_nil_nil (w : World) : (binOp .neq 49 .nilFunc .nilFunc).run Tryz.prog w = .ok (.bool false) w := by
  simp only [binOp]
  simp [Op.equal, Op.maxDepth, run_equalIn_nil_nil w 9999]
theorem neq_func_nil (w : World) (f : Fn) (a b : Array Value) : (binOp .neq 49 (.func f a b) .nilFunc).run Tryz.prog w = .ok (.bool true) w := by
  simp only [binOp]
  simp [Op.equal, Op.maxDepth, run_equalIn_func_nil w 9999]

/-- The number of a modifier's function, by its name. -/
def modNum (l : List UInt8) : Option Nat :=
  if (l == [112, 114, 101, 116, 116, 121]) = true then some 133
  else if (l == [117, 103, 108, 121]) = true then some 134
  else if (l == [114, 101, 118, 101, 114, 115, 101]) = true then some 135
  else if (l == [116, 104, 105, 115]) = true then some 136
  else if (l == [102, 108, 97, 116, 116, 101, 110]) = true then some 137
  else if (l == [106, 111, 105, 110]) = true then some 138
  else if (l == [118, 97, 108, 105, 100]) = true then some 139
  else if (l == [107, 101, 121, 115]) = true then some 140
  else if (l == [118, 97, 108, 117, 101, 115]) = true then some 141
  else if (l == [116, 111, 115, 116, 114]) = true then some 142
  else if (l == [102, 114, 111, 109, 115, 116, 114]) = true then some 143
  else if (l == [103, 114, 111, 117, 112]) = true then some 144
  else if (l == [100, 105, 103]) = true then some 145
  else none

def modVal : Option Nat → Value
  | some k => .func (.func k) #[] #[]
  | none => .nilFunc

set_option maxHeartbeats 1000000 in
theorem t79 (s : ByteArray) (w : World) :
    Calls Tryz.prog 79 #[.string s] w fun e w' => e = .returned (modVal (modNum s.toList)) ∧ w = w' := by
  go_enter Tryz.func79, Tryz.ntmps79
  go_wp2
  all_goals
    go_ret
    refine ⟨?_, rfl⟩
    simp only [modNum, *, if_true, Bool.false_eq_true, if_false]
    rfl

theorem t79_none (s : ByteArray) (w : World) (h : modNum s.toList = none) :
    Calls Tryz.prog 79 #[.string s] w fun e w' => e = .returned .nilFunc ∧ w = w' := by
  have := t79 s w
  rw [h] at this
  exact this
theorem t79_some (s : ByteArray) (w : World) (k : Nat) (h : modNum s.toList = some k) :
    Calls Tryz.prog 79 #[.string s] w fun e w' => e = .returned (.func (.func k) #[] #[]) ∧ w = w' := by
  have := t79 s w
  rw [h] at this
  exact this

set_option maxHeartbeats 1000000 in
theorem t45 (s : ByteArray) (w : World) :
    Calls Tryz.prog 45 #[.string s, .nilFunc] w fun e w' => e = .returned (.bool (modNum s.toList).isSome) ∧ w = w' := by
  cases h : modNum s.toList with
  | none =>
    have H := Lib.hid h
    clear h
    have hq := neq_nil_nil
    go_enter Tryz.func45, Tryz.ntmps45
    go_wp2_with (go_at_call 79; refine (t79_none _ _ H.out).mono ?_; rintro e w' ⟨rfl, rfl⟩)
    go_ret
    exact ⟨rfl, rfl⟩
  | some k =>
    have H := Lib.hid h
    clear h
    have hq := neq_func_nil
    go_enter Tryz.func45, Tryz.ntmps45
    go_wp2_with (go_at_call 79; refine (t79_some _ _ k H.out).mono ?_; rintro e w' ⟨rfl, rfl⟩)
    go_ret
    exact ⟨rfl, rfl⟩

theorem t14 (s : ByteArray) (w : World) :
    Calls Tryz.prog 14 #[.string s] w fun e w' => e = .returned (.bool (modNum s.toList).isSome) ∧ w = w' := by
  go_enter Tryz.func14, Tryz.ntmps14
  go_wp2_with (go_at_call 45; refine (t45 _ _).mono ?_; rintro e w' ⟨rfl, rfl⟩)
  go_ret
  exact ⟨rfl, rfl⟩

theorem t14_yes (s : ByteArray) (w : World) (h : (modNum s.toList).isSome = true) :
    Calls Tryz.prog 14 #[.string s] w fun e w' => e = .returned (.bool true) ∧ w = w' := by
  rw [← h]; exact t14 s w
theorem t14_no (s : ByteArray) (w : World) (h : (modNum s.toList).isSome = false) :
    Calls Tryz.prog 14 #[.string s] w fun e w' => e = .returned (.bool false) ∧ w = w' := by
  rw [← h]; exact t14 s w

theorem ite_small (P : List UInt8 → Prop) (l m : List UInt8) (x : Nat) (r : Option Nat) (k : Nat) (hm : P m) (hr : r = some k → P l)
    (h : (if (l == m) = true then some x else r) = some k) : P l := by
  by_cases hl : (l == m) = true
  · rw [beq_iff_eq.1 hl]; exact hm
  · rw [if_neg hl] at h; exact hr h

/-- A modifier's name is made of small letters. -/
theorem mod_small (l : List UInt8) (k : Nat) (h : modNum l = some k) : ∀ c ∈ l, 97 ≤ c.toNat ∧ c.toNat ≤ 122 := by
  unfold modNum at h
  iterate 13 (refine ite_small (fun l => ∀ c ∈ l, 97 ≤ c.toNat ∧ c.toNat ≤ 122) l _ _ _ k (by decide) ?_ h; clear h; intro h)
  cases h

theorem mod_other (s : ByteArray) (k : Nat) (hk : k < s.size) (h : s[k].toNat < 97 ∨ 122 < s[k].toNat) : (modNum s.toList).isSome = false := by
  cases hm : modNum s.toList with
  | none => rfl
  | some j =>
    have hmem : s[k] ∈ s.toList := by
      rw [ByteArray.toList_eq]
      exact Array.mem_toList_iff.2 (Array.getElem_mem (xs := s.data) hk)
    have := mod_small _ _ hm s[k] hmem
    omega

set_option maxHeartbeats 4000000 in
theorem t4 (s : ByteArray) (w : World) (hs : s.size ≤ maxLen) :
    Calls Tryz.prog 4 #[.string s] w fun e w' => e = .returned (.bool true) ∧ Below w.heap.size w w' := by
  unfold maxLen at hs
  by_cases hbig : 2147483647 < s.size
  · go_enter Tryz.func4, Tryz.ntmps4
    go_wp2
    go_ret
    exact ⟨rfl, Below.refl _ _⟩
  go_enter Tryz.func4, Tryz.ntmps4
  go_wp2
  go_loop [4, 11] (fun _ i => ∃ k : Nat, k ≤ 13 ∧ i = .int .i64 k) (fun _ i => 13 - (intOf i).toNat)
  case atStart => exact ⟨0, by omega, rfl⟩
  case round =>
    obtain ⟨k, hk, rfl⟩ := hrel
    by_cases hlt : k < 13
    · have hk' : k = 0 ∨ k = 1 ∨ k = 2 ∨ k = 3 ∨ k = 4 ∨ k = 5 ∨ k = 6 ∨ k = 7 ∨ k = 8 ∨ k = 9 ∨ k = 10 ∨ k = 11 ∨ k = 12 := by omega
      rcases hk' with rfl | rfl | rfl | rfl | rfl | rfl | rfl | rfl | rfl | rfl | rfl | rfl | rfl
      all_goals
        go_wp2_with (go_at_call 14; refine Calls.mono (t14_yes _ _ (by decide +kernel)) ?_; rintro e w' ⟨rfl, rfl⟩)
        go_round
        case rel => first | exact ⟨1, by omega, rfl⟩ | exact ⟨2, by omega, rfl⟩ | exact ⟨3, by omega, rfl⟩ | exact ⟨4, by omega, rfl⟩ | exact ⟨5, by omega, rfl⟩ | exact ⟨6, by omega, rfl⟩ | exact ⟨7, by omega, rfl⟩ | exact ⟨8, by omega, rfl⟩ | exact ⟨9, by omega, rfl⟩ | exact ⟨10, by omega, rfl⟩ | exact ⟨11, by omega, rfl⟩ | exact ⟨12, by omega, rfl⟩ | exact ⟨13, by omega, rfl⟩
        case measure => simp [intOf]
    · obtain rfl : k = 13 := by omega
      clear hlt hk
      go_wp2
      go_loop [5] (fun i => ∃ k : Nat, k ≤ s.size ∧ i = .int .i64 k) (fun i => s.size - (intOf i).toNat)
      case atStart => exact ⟨0, by omega, rfl⟩
      case round =>
        obtain ⟨k, hk, rfl⟩ := hrel
        by_cases hlt : k < s.size
        · by_cases h1 : s[k].toNat < 97
          · have ho := mod_other s k hlt (Or.inl h1)
            have HO := Lib.hid ho
            clear ho
            go_wp2_with (go_at_call 14; refine Calls.mono (t14_no _ _ HO.out) ?_; rintro e w' ⟨rfl, rfl⟩)
            go_ret
            exact ⟨rfl, (Below.refl _ _).alloc (Nat.le_refl _) _⟩
          · by_cases h2 : 122 < s[k].toNat
            · have ho := mod_other s k hlt (Or.inr h2)
              have HO := Lib.hid ho
              clear ho
              go_wp2_with (go_at_call 14; refine Calls.mono (t14_no _ _ HO.out) ?_; rintro e w' ⟨rfl, rfl⟩)
              go_ret
              exact ⟨rfl, (Below.refl _ _).alloc (Nat.le_refl _) _⟩
            · go_wp2
              go_round
              case rel => exact ⟨k + 1, by omega, by go_num⟩
              case measure => simp [intOf]; omega
        · go_wp2
          go_ret
          exact ⟨rfl, (Below.refl _ _).alloc (Nat.le_refl _) _⟩
end Go.Proofs.YtmffibpbjobhmaaGreatDoor
