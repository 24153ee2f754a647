/-
  spec.Character and spec.UTF8: they return, whatever the text; the first says at least one byte and none beyond the end.
-/
import Derived.Test.YtmffibpbjobhmaaGreatDoorE2
namespace Go.Proofs.YtmffibpbjobhmaaGreatDoor
open Go.RowKit

def highZ (n : Int) : Bool := decide (55296 ≤ n) && decide (n ≤ 56319)
def lowZ (n : Int) : Bool := decide (56320 ≤ n) && decide (n ≤ 57343)
theorem t97 (n : Int) (w : World) : Calls Tryz.prog 97 #[.int .i64 n] w fun e w' => e = .returned (.bool (highZ n)) ∧ w = w' := by
  go_enter Tryz.func97, Tryz.ntmps97
  go_wp2
  all_goals
    go_ret
    refine ⟨ret_bool ?_, rfl⟩
    rw [Bool.eq_iff_iff]
    simp [highZ]
    try omega
theorem t98 (n : Int) (w : World) : Calls Tryz.prog 98 #[.int .i64 n] w fun e w' => e = .returned (.bool (lowZ n)) ∧ w = w' := by
  go_enter Tryz.func98, Tryz.ntmps98
  go_wp2
  all_goals
    go_ret
    refine ⟨ret_bool ?_, rfl⟩
    rw [Bool.eq_iff_iff]
    simp [lowZ]
    try omega
theorem t97_ (n : Int) (b : Bool) (hb : highZ n = b) (w : World) : Calls Tryz.prog 97 #[.int .i64 n] w fun e w' => e = .returned (.bool b) ∧ w = w' := by rw [← hb]; exact t97 n w
theorem t98_ (n : Int) (b : Bool) (hb : lowZ n = b) (w : World) : Calls Tryz.prog 98 #[.int .i64 n] w fun e w' => e = .returned (.bool b) ∧ w = w' := by rw [← hb]; exact t98 n w

/-- What Character's answer is good for. -/
def CharOk (s : ByteArray) (k : Nat) (w : World) (e : Ending) (w' : World) : Prop :=
  ∃ (c : Int) (n : Nat) (ok : Bool), e = .returned (.tuple #[.int .i64 c, .int .i64 n, .bool ok]) ∧ 1 ≤ n ∧ k + n ≤ s.size ∧ w = w'

set_option maxHeartbeats 2000000 in
set_option maxRecDepth 100000 in
theorem t80_a (s : ByteArray) (k : Nat) (w : World) (_hs : s.size ≤ maxLen) (hk : k < s.size) (c : Nat) (hc : s[k].toNat = c) (h1 : c < 128) :
    Calls Tryz.prog 80 #[.string s, .int .i64 k] w (CharOk s k w) := by
  have hc1 : (c : Int) ≤ 255 := by have := s[k].toNat_lt; omega
  go_enter Tryz.func80, Tryz.ntmps80
  go_wp2
  go_ret3
  exact ⟨_, 1, _, rfl, by omega, by omega, rfl⟩

set_option maxHeartbeats 2000000 in
set_option maxRecDepth 100000 in
theorem t80_b (s : ByteArray) (k : Nat) (w : World) (hs : s.size ≤ maxLen) (hk : k < s.size) (c : Nat) (hc : s[k].toNat = c) (h1 : 194 ≤ c ∧ c ≤ 223) :
    Calls Tryz.prog 80 #[.string s, .int .i64 k] w (CharOk s k w) := by
  unfold maxLen at hs
  have hc1 : (c : Int) ≤ 255 := by have := s[k].toNat_lt; omega
  have d0 : decide ((c : Int) < 128) = false := by simp; omega
  have d1 : decide ((194 : Int) ≤ c) = true := by simp; omega
  have d2 : decide ((c : Int) ≤ 223) = true := by simp; omega
  go_enter Tryz.func80, Tryz.ntmps80
  by_cases hm : s.size - k ≤ 1
  · go_wp2
    go_ret3
    exact ⟨_, 1, _, rfl, by omega, by omega, rfl⟩
  have dm : decide ((s.size : Int) - k ≤ 1) = false := by simp; omega
  go_wp2
  clear hc
  go_loop [7, 10, 11] (fun z i _ => ∃ (j : Nat) (zz : Int), 1 ≤ j ∧ j ≤ 2 ∧ i = .int .i64 j ∧ z = .int .i64 zz) (fun _ i _ => 2 - (intOf i).toNat)
  case atStart => exact ⟨1, _, by omega, by omega, rfl, rfl⟩
  case round =>
    obtain ⟨j, zz, hj1, hj, rfl, rfl⟩ := hrel
    by_cases hlt : j ≤ 1
    · have hkj : k + j < s.size := by omega
      obtain ⟨d, hd⟩ : ∃ d : Nat, d = s[k + j].toNat := ⟨_, rfl⟩
      have hd1 : (d : Int) ≤ 255 := by have := s[k + j].toNat_lt; omega
      have hd' : s[k + j].toNat = d := hd.symm
      clear hd
      by_cases hl : d < 128
      · go_wp2
        go_ret3
        exact ⟨_, 1, _, rfl, by omega, by omega, rfl⟩
      · by_cases hh : 191 < d
        · go_wp2
          go_ret3
          exact ⟨_, 1, _, rfl, by omega, by omega, rfl⟩
        · go_wp2
          go_round
          case rel => exact ⟨j + 1, _, by omega, by omega, by go_num, rfl⟩
          case measure => simp [intOf]; omega
    · obtain rfl : j = 2 := by omega
      clear hlt hj hj1
      by_cases hz1 : zz < 128
      · go_wp2
        go_ret3
        exact ⟨_, 1, _, rfl, by omega, by omega, rfl⟩
      · by_cases hz2 : 1114111 < zz
        · go_wp2
          go_ret3
          exact ⟨_, 1, _, rfl, by omega, by omega, rfl⟩
        · have H97 := Lib.hid (t97_ zz)
          have H98 := Lib.hid (t98_ zz)
          cases hh : highZ zz with
          | true =>
            have HH := Lib.hid hh
            clear hh
            go_wp2_with (go_at_call 97; refine (H97.out true HH.out _).mono ?_; rintro e w' ⟨rfl, rfl⟩)
            go_ret3
            exact ⟨_, 1, _, rfl, by omega, by omega, rfl⟩
          | false =>
            have HH := Lib.hid hh
            clear hh
            cases hl : lowZ zz with
            | true =>
              have HL := Lib.hid hl
              clear hl
              go_wp2_with (first | (go_at_call 97; refine (H97.out false HH.out _).mono ?_; rintro e w' ⟨rfl, rfl⟩) | (go_at_call 98; refine (H98.out true HL.out _).mono ?_; rintro e w' ⟨rfl, rfl⟩))
              go_ret3
              exact ⟨_, 1, _, rfl, by omega, by omega, rfl⟩
            | false =>
              have HL := Lib.hid hl
              clear hl
              go_wp2_with (first | (go_at_call 97; refine (H97.out false HH.out _).mono ?_; rintro e w' ⟨rfl, rfl⟩) | (go_at_call 98; refine (H98.out false HL.out _).mono ?_; rintro e w' ⟨rfl, rfl⟩))
              go_ret3
              exact ⟨_, 2, _, rfl, by omega, by omega, rfl⟩

set_option maxHeartbeats 2000000 in
set_option maxRecDepth 100000 in
theorem t80_c (s : ByteArray) (k : Nat) (w : World) (hs : s.size ≤ maxLen) (hk : k < s.size) (c : Nat) (hc : s[k].toNat = c) (h1 : 224 ≤ c ∧ c ≤ 239) :
    Calls Tryz.prog 80 #[.string s, .int .i64 k] w (CharOk s k w) := by
  unfold maxLen at hs
  have hc1 : (c : Int) ≤ 255 := by have := s[k].toNat_lt; omega
  have d0 : decide ((c : Int) < 128) = false := by simp; omega
  have d1 : decide ((194 : Int) ≤ c) = true := by simp; omega
  have d2 : decide ((c : Int) ≤ 223) = false := by simp; omega
  have d3 : decide ((224 : Int) ≤ c) = true := by simp; omega
  have d4 : decide ((c : Int) ≤ 239) = true := by simp; omega
  go_enter Tryz.func80, Tryz.ntmps80
  by_cases hm : s.size - k ≤ 2
  · go_wp2
    go_ret3
    exact ⟨_, 1, _, rfl, by omega, by omega, rfl⟩
  have dm : decide ((s.size : Int) - k ≤ 2) = false := by simp; omega
  go_wp2
  clear hc
  go_loop [7, 10, 11] (fun z i _ => ∃ (j : Nat) (zz : Int), 1 ≤ j ∧ j ≤ 3 ∧ i = .int .i64 j ∧ z = .int .i64 zz) (fun _ i _ => 3 - (intOf i).toNat)
  case atStart => exact ⟨1, _, by omega, by omega, rfl, rfl⟩
  case round =>
    obtain ⟨j, zz, hj1, hj, rfl, rfl⟩ := hrel
    by_cases hlt : j ≤ 2
    · have hkj : k + j < s.size := by omega
      obtain ⟨d, hd⟩ : ∃ d : Nat, d = s[k + j].toNat := ⟨_, rfl⟩
      have hd1 : (d : Int) ≤ 255 := by have := s[k + j].toNat_lt; omega
      have hd' : s[k + j].toNat = d := hd.symm
      clear hd
      by_cases hl : d < 128
      · go_wp2
        go_ret3
        exact ⟨_, 1, _, rfl, by omega, by omega, rfl⟩
      · by_cases hh : 191 < d
        · go_wp2
          go_ret3
          exact ⟨_, 1, _, rfl, by omega, by omega, rfl⟩
        · go_wp2
          go_round
          case rel => exact ⟨j + 1, _, by omega, by omega, by go_num, rfl⟩
          case measure => simp [intOf]; omega
    · obtain rfl : j = 3 := by omega
      clear hlt hj hj1
      by_cases hz1 : zz < 2048
      · go_wp2
        go_ret3
        exact ⟨_, 1, _, rfl, by omega, by omega, rfl⟩
      · by_cases hz2 : 1114111 < zz
        · go_wp2
          go_ret3
          exact ⟨_, 1, _, rfl, by omega, by omega, rfl⟩
        · have H97 := Lib.hid (t97_ zz)
          have H98 := Lib.hid (t98_ zz)
          cases hh : highZ zz with
          | true =>
            have HH := Lib.hid hh
            clear hh
            go_wp2_with (go_at_call 97; refine (H97.out true HH.out _).mono ?_; rintro e w' ⟨rfl, rfl⟩)
            go_ret3
            exact ⟨_, 1, _, rfl, by omega, by omega, rfl⟩
          | false =>
            have HH := Lib.hid hh
            clear hh
            cases hl : lowZ zz with
            | true =>
              have HL := Lib.hid hl
              clear hl
              go_wp2_with (first | (go_at_call 97; refine (H97.out false HH.out _).mono ?_; rintro e w' ⟨rfl, rfl⟩) | (go_at_call 98; refine (H98.out true HL.out _).mono ?_; rintro e w' ⟨rfl, rfl⟩))
              go_ret3
              exact ⟨_, 1, _, rfl, by omega, by omega, rfl⟩
            | false =>
              have HL := Lib.hid hl
              clear hl
              go_wp2_with (first | (go_at_call 97; refine (H97.out false HH.out _).mono ?_; rintro e w' ⟨rfl, rfl⟩) | (go_at_call 98; refine (H98.out false HL.out _).mono ?_; rintro e w' ⟨rfl, rfl⟩))
              go_ret3
              exact ⟨_, 3, _, rfl, by omega, by omega, rfl⟩

set_option maxHeartbeats 2000000 in
set_option maxRecDepth 100000 in
theorem t80_d (s : ByteArray) (k : Nat) (w : World) (hs : s.size ≤ maxLen) (hk : k < s.size) (c : Nat) (hc : s[k].toNat = c) (h1 : 240 ≤ c ∧ c ≤ 244) :
    Calls Tryz.prog 80 #[.string s, .int .i64 k] w (CharOk s k w) := by
  unfold maxLen at hs
  have hc1 : (c : Int) ≤ 255 := by have := s[k].toNat_lt; omega
  have d0 : decide ((c : Int) < 128) = false := by simp; omega
  have d1 : decide ((194 : Int) ≤ c) = true := by simp; omega
  have d2 : decide ((c : Int) ≤ 223) = false := by simp; omega
  have d3 : decide ((224 : Int) ≤ c) = true := by simp; omega
  have d4 : decide ((c : Int) ≤ 239) = false := by simp; omega
  have d5 : decide ((240 : Int) ≤ c) = true := by simp; omega
  have d6 : decide ((c : Int) ≤ 244) = true := by simp; omega
  go_enter Tryz.func80, Tryz.ntmps80
  by_cases hm : s.size - k ≤ 3
  · go_wp2
    go_ret3
    exact ⟨_, 1, _, rfl, by omega, by omega, rfl⟩
  have dm : decide ((s.size : Int) - k ≤ 3) = false := by simp; omega
  go_wp2
  clear hc
  go_loop [7, 10, 11] (fun z i _ => ∃ (j : Nat) (zz : Int), 1 ≤ j ∧ j ≤ 4 ∧ i = .int .i64 j ∧ z = .int .i64 zz) (fun _ i _ => 4 - (intOf i).toNat)
  case atStart => exact ⟨1, _, by omega, by omega, rfl, rfl⟩
  case round =>
    obtain ⟨j, zz, hj1, hj, rfl, rfl⟩ := hrel
    by_cases hlt : j ≤ 3
    · have hkj : k + j < s.size := by omega
      obtain ⟨d, hd⟩ : ∃ d : Nat, d = s[k + j].toNat := ⟨_, rfl⟩
      have hd1 : (d : Int) ≤ 255 := by have := s[k + j].toNat_lt; omega
      have hd' : s[k + j].toNat = d := hd.symm
      clear hd
      by_cases hl : d < 128
      · go_wp2
        go_ret3
        exact ⟨_, 1, _, rfl, by omega, by omega, rfl⟩
      · by_cases hh : 191 < d
        · go_wp2
          go_ret3
          exact ⟨_, 1, _, rfl, by omega, by omega, rfl⟩
        · go_wp2
          go_round
          case rel => exact ⟨j + 1, _, by omega, by omega, by go_num, rfl⟩
          case measure => simp [intOf]; omega
    · obtain rfl : j = 4 := by omega
      clear hlt hj hj1
      by_cases hz1 : zz < 65536
      · go_wp2
        go_ret3
        exact ⟨_, 1, _, rfl, by omega, by omega, rfl⟩
      · by_cases hz2 : 1114111 < zz
        · go_wp2
          go_ret3
          exact ⟨_, 1, _, rfl, by omega, by omega, rfl⟩
        · have H97 := Lib.hid (t97_ zz)
          have H98 := Lib.hid (t98_ zz)
          cases hh : highZ zz with
          | true =>
            have HH := Lib.hid hh
            clear hh
            go_wp2_with (go_at_call 97; refine (H97.out true HH.out _).mono ?_; rintro e w' ⟨rfl, rfl⟩)
            go_ret3
            exact ⟨_, 1, _, rfl, by omega, by omega, rfl⟩
          | false =>
            have HH := Lib.hid hh
            clear hh
            cases hl : lowZ zz with
            | true =>
              have HL := Lib.hid hl
              clear hl
              go_wp2_with (first | (go_at_call 97; refine (H97.out false HH.out _).mono ?_; rintro e w' ⟨rfl, rfl⟩) | (go_at_call 98; refine (H98.out true HL.out _).mono ?_; rintro e w' ⟨rfl, rfl⟩))
              go_ret3
              exact ⟨_, 1, _, rfl, by omega, by omega, rfl⟩
            | false =>
              have HL := Lib.hid hl
              clear hl
              go_wp2_with (first | (go_at_call 97; refine (H97.out false HH.out _).mono ?_; rintro e w' ⟨rfl, rfl⟩) | (go_at_call 98; refine (H98.out false HL.out _).mono ?_; rintro e w' ⟨rfl, rfl⟩))
              go_ret3
              exact ⟨_, 4, _, rfl, by omega, by omega, rfl⟩

set_option maxHeartbeats 2000000 in
set_option maxRecDepth 100000 in
theorem t80_e (s : ByteArray) (k : Nat) (w : World) (_hs : s.size ≤ maxLen) (hk : k < s.size) (c : Nat) (hc : s[k].toNat = c) (h1 : 128 ≤ c ∧ c < 194) :
    Calls Tryz.prog 80 #[.string s, .int .i64 k] w (CharOk s k w) := by
  have hc1 : (c : Int) ≤ 255 := by have := s[k].toNat_lt; omega
  go_enter Tryz.func80, Tryz.ntmps80
  go_wp2
  go_ret3
  exact ⟨_, 1, _, rfl, by omega, by omega, rfl⟩

set_option maxHeartbeats 2000000 in
set_option maxRecDepth 100000 in
theorem t80_f (s : ByteArray) (k : Nat) (w : World) (_hs : s.size ≤ maxLen) (hk : k < s.size) (c : Nat) (hc : s[k].toNat = c) (h1 : 245 ≤ c) :
    Calls Tryz.prog 80 #[.string s, .int .i64 k] w (CharOk s k w) := by
  have hc1 : (c : Int) ≤ 255 := by have := s[k].toNat_lt; omega
  go_enter Tryz.func80, Tryz.ntmps80
  go_wp2
  go_ret3
  exact ⟨_, 1, _, rfl, by omega, by omega, rfl⟩

theorem t80 (s : ByteArray) (k : Nat) (w : World) (hs : s.size ≤ maxLen) (hk : k < s.size) : Calls Tryz.prog 80 #[.string s, .int .i64 k] w (CharOk s k w) := by
  by_cases h1 : s[k].toNat < 128
  · exact t80_a s k w hs hk _ rfl h1
  by_cases h2 : s[k].toNat < 194
  · exact t80_e s k w hs hk _ rfl ⟨by omega, h2⟩
  by_cases h3 : s[k].toNat ≤ 223
  · exact t80_b s k w hs hk _ rfl ⟨by omega, h3⟩
  by_cases h4 : s[k].toNat ≤ 239
  · exact t80_c s k w hs hk _ rfl ⟨by omega, h4⟩
  by_cases h5 : s[k].toNat ≤ 244
  · exact t80_d s k w hs hk _ rfl ⟨by omega, h5⟩
  · exact t80_f s k w hs hk _ rfl (by omega)

def SomeBool (w : World) (e : Ending) (w' : World) : Prop := ∃ b : Bool, e = .returned (.bool b) ∧ w = w'

set_option maxHeartbeats 2000000 in
set_option maxRecDepth 100000 in
theorem t46 (s : ByteArray) (w : World) (hs : s.size ≤ maxLen) : Calls Tryz.prog 46 #[.string s] w (SomeBool w) := by
  have HS := Lib.hid hs
  unfold maxLen at hs
  go_enter Tryz.func46, Tryz.ntmps46
  go_wp2
  go_loop [3, 4, 5, 6] (fun i _ _ _ => ∃ k : Nat, k ≤ s.size ∧ i = .int .i64 k) (fun i _ _ _ => s.size - (intOf i).toNat)
  case atStart => exact ⟨0, by omega, rfl⟩
  case round =>
    obtain ⟨k, hk, rfl⟩ := hrel
    by_cases hlt : k < s.size
    · go_wp2_with (go_at_call 80; refine (t80 s k _ HS.out hlt).mono ?_; rintro e w' ⟨c, n, ok, rfl, hn1, hn2, rfl⟩)
      · go_ret
        exact ⟨_, rfl, rfl⟩
      · go_round
        case rel => exact ⟨k + n, by omega, by go_num⟩
        case measure => simp [intOf]; omega
    · go_wp2
      go_ret
      exact ⟨_, rfl, rfl⟩
end Go.Proofs.YtmffibpbjobhmaaGreatDoor
