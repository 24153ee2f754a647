import Derived.Test.YtmffibpbjobhmaaGreatDoorM2
namespace Go.Proofs.YtmffibpbjobhmaaGreatDoor
open Go.RowKit

def isStop (c : UInt8) : Bool := c.toNat == 46 || c.toNat == 124
def isStar (c : UInt8) : Bool := c.toNat == 42 || c.toNat == 63
/-- Whether one of the first k bytes is '*' or '?'. -/
def stars (s : ByteArray) (k : Nat) : Bool := (s.data.toList.take k).any isStar
theorem stars_zero (s : ByteArray) : stars s 0 = false := rfl
theorem stars_succ (s : ByteArray) (k : Nat) (h : k < s.size) : stars s (k + 1) = (stars s k || isStar s[k]) := by
  unfold stars
  rw [List.take_succ_eq_append_getElem (by simpa using h), List.any_append]
  simp
  rfl

/-- parseObjectPath's result as one value. -/
def objV (part path pipe : ByteArray) (piped wild more : Bool) : Value := .agg #[.string part, .string path, .string pipe, .bool piped, .bool wild, .bool more]

def emptyB : ByteArray := ⟨#[]⟩

/-- What parseObjectPath gives for a path without backslashes. -/
def objP (s : ByteArray) : Value :=
  if h : scan isStop s 0 < s.size then
    if s[scan isStop s 0].toNat = 124 then objV (s.extract 0 (scan isStop s 0)) emptyB (s.extract (scan isStop s 0 + 1) s.size) true (stars s (scan isStop s 0)) false
    else if scan isStop s 0 + 1 < s.size ∧ dotPiper (s.extract (scan isStop s 0 + 1) s.size) = true then
      objV (s.extract 0 (scan isStop s 0)) emptyB (s.extract (scan isStop s 0 + 1) s.size) true (stars s (scan isStop s 0)) false
    else objV (s.extract 0 (scan isStop s 0)) (s.extract (scan isStop s 0 + 1) s.size) emptyB false (stars s (scan isStop s 0)) true
  else objV s emptyB emptyB false (stars s s.size) false

theorem objP_pipe (s : ByteArray) (k : Nat) (hk : k < s.size) (he : scan isStop s k = scan isStop s 0) (h : s[k].toNat = 124) :
    objP s = objV (s.extract 0 k) emptyB (s.extract (k + 1) s.size) true (stars s k) false := by
  have e : scan isStop s 0 = k := by rw [← he, scan_hit hk (by simp [isStop, h])]
  unfold objP
  simp only [e, hk, dif_pos, h, if_true]
theorem objP_dot (s : ByteArray) (k : Nat) (hk : k < s.size) (he : scan isStop s k = scan isStop s 0) (h : s[k].toNat = 46) (hd : k + 1 < s.size ∧ dotPiper (s.extract (k + 1) s.size) = true) :
    objP s = objV (s.extract 0 k) emptyB (s.extract (k + 1) s.size) true (stars s k) false := by
  have e : scan isStop s 0 = k := by rw [← he, scan_hit hk (by simp [isStop, h])]
  unfold objP
  simp only [e, hk, dif_pos, h]
  rw [if_neg (by decide), if_pos hd]
theorem objP_more (s : ByteArray) (k : Nat) (hk : k < s.size) (he : scan isStop s k = scan isStop s 0) (h : s[k].toNat = 46) (hd : ¬ (k + 1 < s.size ∧ dotPiper (s.extract (k + 1) s.size) = true)) :
    objP s = objV (s.extract 0 k) (s.extract (k + 1) s.size) emptyB false (stars s k) true := by
  have e : scan isStop s 0 = k := by rw [← he, scan_hit hk (by simp [isStop, h])]
  unfold objP
  simp only [e, hk, dif_pos, h]
  rw [if_neg (by decide), if_neg hd]
theorem objP_end (s : ByteArray) (he : scan isStop s s.size = scan isStop s 0) :
    objP s = objV s emptyB emptyB false (stars s s.size) false := by
  have e : scan isStop s 0 = s.size := by rw [← he, scan_end (Nat.le_refl _)]
  unfold objP
  rw [dif_neg (by omega)]

/-- No byte of a text is a backslash. -/
def noBack (s : ByteArray) : Prop := ∀ k (h : k < s.size), s[k].toNat ≠ 92

theorem t146_yes (s : ByteArray) (w : World) (hs : s.size ≤ maxLen) (h0 : 0 < s.size) (h : dotPiper s = true) :
    Calls Tryz.prog 146 #[.string s] w fun e w' => e = .returned (.bool true) ∧ w = w' := by rw [← h]; exact t146 s w hs h0
theorem t146_no (s : ByteArray) (w : World) (hs : s.size ≤ maxLen) (h0 : 0 < s.size) (h : dotPiper s = false) :
    Calls Tryz.prog 146 #[.string s] w fun e w' => e = .returned (.bool false) ∧ w = w' := by rw [← h]; exact t146 s w hs h0

set_option maxHeartbeats 4000000 in
set_option maxRecDepth 100000 in
theorem t81 (s : ByteArray) (w : World) (hs : s.size ≤ maxLen) (hb : noBack s) :
    Calls Tryz.prog 81 #[.string s] w fun e w' => e = .returned (objP s) ∧ Below w.heap.size w w' := by
  have hs' := hs
  have HB := Lib.hid hb
  clear hb
  unfold maxLen at hs
  go_enter Tryz.func81, Tryz.ntmps81
  go_wp2
  go_loopw [3] (fun i wr => ∃ k : Nat, ∃ wd : Bool, k ≤ s.size ∧ i = .int .i64 k ∧ wr = w.alloc (.cells #[.string ⟨#[]⟩, .string ⟨#[]⟩, .string ⟨#[]⟩, .bool false, .bool wd, .bool false] 122) ∧ Hid (scan isStop s k = scan isStop s 0) ∧ Hid (stars s k = wd)) (fun i _ => s.size - (intOf i).toNat)
  case atStart => exact ⟨0, false, by omega, rfl, rfl, rfl, rfl⟩
  case round =>
    obtain ⟨k, wd, hk, rfl, rfl, HK, HW⟩ := hrel
    by_cases hlt : k < s.size
    · have H92 : ((s[k].toNat : Int) == 92) = false := by rw [beq_eq_false_iff_ne]; have := HB.out k hlt; omega
      by_cases h1 : s[k].toNat = 124
      · have e1 : ((s[k].toNat : Int) == 124) = true := by rw [beq_iff_eq]; omega
        have HE : Hid (objP s = objV (s.extract 0 k) emptyB (s.extract (k + 1) s.size) true wd false) := by unfold Hid; rw [objP_pipe s k hlt HK.out h1, HW.out]
        clear h1
        go_wp2
        exact bodyPost_ret (v := objV (s.extract 0 k) emptyB (s.extract (k + 1) s.size) true wd false) (by simp [results, Tryz.results81, go_sem, objV, emptyB]) rfl ⟨by rw [HE.out], (Below.refl _ _).alloc (Nat.le_refl _) _⟩
      · have e1 : ((s[k].toNat : Int) == 124) = false := by rw [beq_eq_false_iff_ne]; omega
        by_cases h2 : s[k].toNat = 46
        · have e2 : ((s[k].toNat : Int) == 46) = true := by rw [beq_iff_eq]; omega
          by_cases h3 : k + 1 < s.size
          · have HZ1 : Hid ((s.extract (k + 1) s.size).size ≤ maxLen) := by unfold Hid; rw [ByteArray.size_extract]; unfold maxLen; omega
            have HZ2 : Hid (0 < (s.extract (k + 1) s.size).size) := by unfold Hid; rw [ByteArray.size_extract]; omega
            cases h4 : dotPiper (s.extract (k + 1) s.size) with
            | true =>
              have HE : Hid (objP s = objV (s.extract 0 k) emptyB (s.extract (k + 1) s.size) true wd false) := by unfold Hid; rw [objP_dot s k hlt HK.out h2 ⟨h3, h4⟩, HW.out]
              have H4 := Lib.hid h4
              clear h1 h2 h4
              go_wp2_with (go_at_call 146; refine (t146_yes _ _ HZ1.out HZ2.out H4.out).mono ?_; rintro e w' ⟨rfl, rfl⟩)
              exact bodyPost_ret (v := objV (s.extract 0 k) emptyB (s.extract (k + 1) s.size) true wd false) (by simp [results, Tryz.results81, go_sem, objV, emptyB]) rfl ⟨by rw [HE.out], (Below.refl _ _).alloc (Nat.le_refl _) _⟩
            | false =>
              have HE : Hid (objP s = objV (s.extract 0 k) (s.extract (k + 1) s.size) emptyB false wd true) := by unfold Hid; rw [objP_more s k hlt HK.out h2 (by rw [h4]; rintro ⟨_, h⟩; cases h), HW.out]
              have H4 := Lib.hid h4
              clear h1 h2 h4
              go_wp2_with (go_at_call 146; refine (t146_no _ _ HZ1.out HZ2.out H4.out).mono ?_; rintro e w' ⟨rfl, rfl⟩)
              exact bodyPost_ret (v := objV (s.extract 0 k) (s.extract (k + 1) s.size) emptyB false wd true) (by simp [results, Tryz.results81, go_sem, objV, emptyB]) rfl ⟨by rw [HE.out], (Below.refl _ _).alloc (Nat.le_refl _) _⟩
          · have HE : Hid (objP s = objV (s.extract 0 k) (s.extract (k + 1) s.size) emptyB false wd true) := by unfold Hid; rw [objP_more s k hlt HK.out h2 (by rintro ⟨h, _⟩; omega), HW.out]
            clear h1 h2
            go_wp2
            exact bodyPost_ret (v := objV (s.extract 0 k) (s.extract (k + 1) s.size) emptyB false wd true) (by simp [results, Tryz.results81, go_sem, objV, emptyB]) rfl ⟨by rw [HE.out], (Below.refl _ _).alloc (Nat.le_refl _) _⟩
        · have e2 : ((s[k].toNat : Int) == 46) = false := by rw [beq_eq_false_iff_ne]; omega
          have HN : Hid (scan isStop s (k + 1) = scan isStop s 0) := by unfold Hid; rw [← HK.out, scan_miss hlt (by simp [isStop, h1, h2])]
          by_cases h3 : s[k].toNat = 42
          · have e3 : ((s[k].toNat : Int) == 42) = true := by rw [beq_iff_eq]; omega
            have HS : Hid (stars s (k + 1) = true) := by unfold Hid; rw [stars_succ s k hlt]; simp [isStar, h3]
            clear h1 h2 h3
            go_wp2
            go_roundw
            case rel => exact ⟨k + 1, true, by omega, by go_num, rfl, HN, HS⟩
            case measure => simp [intOf]; omega
          · have e3 : ((s[k].toNat : Int) == 42) = false := by rw [beq_eq_false_iff_ne]; omega
            by_cases h4 : s[k].toNat = 63
            · have e4 : ((s[k].toNat : Int) == 63) = true := by rw [beq_iff_eq]; omega
              have HS : Hid (stars s (k + 1) = true) := by unfold Hid; rw [stars_succ s k hlt]; simp [isStar, h4]
              clear h1 h2 h3 h4
              go_wp2
              go_roundw
              case rel => exact ⟨k + 1, true, by omega, by go_num, rfl, HN, HS⟩
              case measure => simp [intOf]; omega
            · have e4 : ((s[k].toNat : Int) == 63) = false := by rw [beq_eq_false_iff_ne]; omega
              have HS : Hid (stars s (k + 1) = wd) := by unfold Hid; rw [stars_succ s k hlt, HW.out]; simp [isStar, h3, h4]
              clear h1 h2 h3 h4
              go_wp2
              go_roundw
              case rel => exact ⟨k + 1, wd, by omega, by go_num, rfl, HN, HS⟩
              case measure => simp [intOf]; omega
    · obtain rfl : k = s.size := by omega
      have HE : Hid (objP s = objV s emptyB emptyB false wd false) := by unfold Hid; rw [objP_end s HK.out, HW.out]
      go_wp2
      exact bodyPost_ret (v := objV s emptyB emptyB false wd false) (by simp [results, Tryz.results81, go_sem, objV, emptyB]) rfl ⟨by rw [HE.out], (Below.refl _ _).alloc (Nat.le_refl _) _⟩
end Go.Proofs.YtmffibpbjobhmaaGreatDoor
