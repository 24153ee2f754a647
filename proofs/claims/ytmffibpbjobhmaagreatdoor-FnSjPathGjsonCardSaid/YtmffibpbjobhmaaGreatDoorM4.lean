import Derived.Test.YtmffibpbjobhmaaGreatDoorM3
import Derived.Deep.QuietTactic
import Derived.BigQuiet
namespace Go.Proofs.YtmffibpbjobhmaaGreatDoor
open Go.RowKit

set_option maxHeartbeats 1000000 in
theorem t47_no (s : ByteArray) (w : World) (hs : s.size ≤ maxLen) (hb : noBack s) :
    Calls Tryz.prog 47 #[.string s] w fun e w' => e = .returned (.bool false) ∧ w = w' := by
  unfold maxLen at hs
  have HB := Lib.hid hb
  clear hb
  go_enter Tryz.func47, Tryz.ntmps47
  go_wp2
  go_loop [3] (fun i => ∃ k : Nat, k ≤ s.size ∧ i = .int .i64 k) (fun i => s.size - (intOf i).toNat)
  case atStart => exact ⟨0, by omega, rfl⟩
  case round =>
    obtain ⟨k, hk, rfl⟩ := hrel
    by_cases hlt : k < s.size
    · have e1 : ((s[k].toNat : Int) == 92) = false := by rw [beq_eq_false_iff_ne]; have := HB.out k hlt; omega
      go_wp2
      go_round
      case rel => exact ⟨k + 1, by omega, by go_num⟩
      case measure => simp [intOf]; omega
    · go_wp2
      go_ret
      exact ⟨rfl, rfl⟩
set_option maxHeartbeats 1000000 in
theorem t47_yes (s : ByteArray) (w : World) (hs : s.size ≤ maxLen) (hb : ¬ noBack s) :
    Calls Tryz.prog 47 #[.string s] w fun e w' => e = .returned (.bool true) ∧ w = w' := by
  unfold maxLen at hs
  have HB := Lib.hid hb
  clear hb
  go_enter Tryz.func47, Tryz.ntmps47
  go_wp2
  go_loop [3] (fun i => ∃ k : Nat, k ≤ s.size ∧ i = .int .i64 k ∧ Hid (∀ j (h : j < s.size), j < k → s[j].toNat ≠ 92)) (fun i => s.size - (intOf i).toNat)
  case atStart => exact ⟨0, by omega, rfl, fun j _ h => by omega⟩
  case round =>
    obtain ⟨k, hk, rfl, HJ⟩ := hrel
    by_cases hlt : k < s.size
    · by_cases h92 : s[k].toNat = 92
      · have e1 : ((s[k].toNat : Int) == 92) = true := by rw [beq_iff_eq]; omega
        clear h92
        go_wp2
        go_ret
        exact ⟨rfl, rfl⟩
      · have e1 : ((s[k].toNat : Int) == 92) = false := by rw [beq_eq_false_iff_ne]; omega
        have HN : Hid (∀ j (h : j < s.size), j < k + 1 → s[j].toNat ≠ 92) := fun j h hj => by
          rcases Nat.lt_or_ge j k with h' | h'
          · exact HJ.out j h h'
          · obtain rfl : j = k := by omega
            exact h92
        clear h92
        go_wp2
        go_round
        case rel => exact ⟨k + 1, by omega, by go_num, HN⟩
        case measure => simp [intOf]; omega
    · exact absurd (fun j h => HJ.out j h (by omega)) HB.out

theorem t20_yes (s : ByteArray) (w : World) (hs : s.size ≤ 4096) (hb : noBack s) :
    Calls Tryz.prog 20 #[.string s] w fun e w' => e = .returned (.bool true) ∧ w = w' := by
  have HB := Lib.hid hb
  have hm : Hid (s.size ≤ maxLen) := by unfold Hid maxLen; omega
  have e1 : decide ((s.size : Int) ≤ 4096) = true := by simp; omega
  clear hb
  go_enter Tryz.func20, Tryz.ntmps20
  go_wp2_with (go_at_call 47; refine (t47_no _ _ hm.out HB.out).mono ?_; rintro e w' ⟨rfl, rfl⟩)
  go_ret
  exact ⟨rfl, rfl⟩
theorem t20_long (s : ByteArray) (w : World) (hs : 4096 < s.size) :
    Calls Tryz.prog 20 #[.string s] w fun e w' => e = .returned (.bool false) ∧ w = w' := by
  have e1 : decide ((s.size : Int) ≤ 4096) = false := by simp; omega
  go_enter Tryz.func20, Tryz.ntmps20
  go_wp2_with (go_at_call 47; fail)
  go_ret
  exact ⟨rfl, rfl⟩
theorem t20_back (s : ByteArray) (w : World) (hs : s.size ≤ 4096) (hb : ¬ noBack s) :
    Calls Tryz.prog 20 #[.string s] w fun e w' => e = .returned (.bool false) ∧ w = w' := by
  have HB := Lib.hid hb
  have hm : Hid (s.size ≤ maxLen) := by unfold Hid maxLen; omega
  have e1 : decide ((s.size : Int) ≤ 4096) = true := by simp; omega
  clear hb
  go_enter Tryz.func20, Tryz.ntmps20
  go_wp2_with (go_at_call 47; refine (t47_yes _ _ hm.out HB.out).mono ?_; rintro e w' ⟨rfl, rfl⟩)
  go_ret
  exact ⟨rfl, rfl⟩

theorem stars_extract (s : ByteArray) (e : Nat) (h : e ≤ s.size) : (s.extract 0 e).size = e ∧ stars (s.extract 0 e) e = stars s e := by
  constructor
  · rw [ByteArray.size_extract]; omega
  · unfold stars
    congr 1
    simp [List.take_take]

/-- What every result of parseObjectPath has, of a path without backslashes. -/
def ObjOk (s : ByteArray) (v : Value) : Prop := ∃ part path pipe piped wild more, v = objV part path pipe piped wild more ∧ part.size ≤ s.size ∧ stars part part.size = wild
theorem objP_ok (s : ByteArray) : ObjOk s (objP s) := by
  unfold objP
  have hle := scan_le isStop s 0 (Nat.zero_le _)
  have hx := stars_extract s _ hle
  repeat' split
  · exact ⟨_, _, _, _, _, _, rfl, by omega, by rw [hx.1, hx.2]⟩
  · exact ⟨_, _, _, _, _, _, rfl, by omega, by rw [hx.1, hx.2]⟩
  · exact ⟨_, _, _, _, _, _, rfl, by omega, by rw [hx.1, hx.2]⟩
  · exact ⟨_, _, _, _, _, _, rfl, by omega, rfl⟩

set_option maxHeartbeats 1000000 in
theorem t48 (s : ByteArray) (w : World) (hs : s.size ≤ maxLen) (hb : noBack s) (part path pipe : ByteArray) (piped wild more : Bool) (ho : objP s = objV part path pipe piped wild more) :
    Calls Tryz.prog 48 #[.string s] w fun e w' => e = .returned (.tuple #[.string part, .string path, .string pipe, .bool piped, .bool wild, .bool more]) ∧ Below w.heap.size w w' := by
  have h81 := t81 s w hs hb
  rw [ho] at h81
  unfold objV at h81
  have H81 := Lib.hid h81
  clear h81 ho hb
  go_enter Tryz.func48, Tryz.ntmps48
  go_wp2_with (go_at_call 81; refine H81.out.mono ?_; rintro e w' ⟨rfl, hbl⟩)
  go_quiet (fail)
  go_wp2
  exact bodyPost_ret (v := .tuple #[.string part, .string path, .string pipe, .bool piped, .bool wild, .bool more]) (by simp [results, Tryz.results48, go_sem]) rfl ⟨rfl, below_drewN (hbl.alloc hbl.size _) _⟩

set_option maxHeartbeats 1000000 in
theorem t21 (s : ByteArray) (w : World) (hs : s.size ≤ maxLen) (hb : noBack s) (part path pipe : ByteArray) (piped wild more : Bool) (ho : objP s = objV part path pipe piped wild more) :
    Calls Tryz.prog 21 #[.string s] w fun e w' => e = .returned (.tuple #[.string part, .string path, .string pipe, .bool piped, .bool wild, .bool more]) ∧ Below w.heap.size w w' := by
  have H := Lib.hid (t48 s w hs hb part path pipe piped wild more ho)
  clear ho hb
  go_enter Tryz.func21, Tryz.ntmps21
  go_wp2_with (go_at_call 48; refine H.out.mono ?_; rintro e w' ⟨rfl, hbl⟩)
  exact bodyPost_ret (v := .tuple #[.string part, .string path, .string pipe, .bool piped, .bool wild, .bool more]) (by simp [results, Tryz.results21, go_sem]) rfl ⟨rfl, hbl⟩

def aStar : ByteArray := ⟨#[97, 42]⟩
theorem aStar_noBack : noBack aStar := by
  intro k h
  have h2 : aStar.size = 2 := by decide
  have : k = 0 ∨ k = 1 := by omega
  rcases this with rfl | rfl
  · exact (by decide : (97 : Nat) ≠ 92)
  · exact (by decide : (42 : Nat) ≠ 92)
theorem aStar_obj : objP aStar = objV aStar emptyB emptyB false true false := by
  have h2 : aStar.size = 2 := by decide
  rw [objP_end aStar]
  · have : stars aStar aStar.size = true := by decide
    rw [this]
  · rw [scan_end (Nat.le_refl _)]
    symm
    refine scan_eq_of (Nat.zero_le _) (Nat.le_refl _) ?_ (fun h => by omega)
    intro k h _ _
    have : k = 0 ∨ k = 1 := by omega
    rcases this with rfl | rfl <;> rfl

set_option maxHeartbeats 2000000 in
theorem t6 (s : ByteArray) (w : World) (hs : s.size ≤ maxLen) :
    Calls Tryz.prog 6 #[.string s] w fun e w' => e = .returned (.bool true) ∧ Below w.heap.size w w' := by
  have hs' := Lib.hid hs
  unfold maxLen at hs
  by_cases hbig : 2147483647 < s.size
  · go_enter Tryz.func6, Tryz.ntmps6
    go_wp2
    go_ret
    exact ⟨rfl, Below.refl _ _⟩
  by_cases h4 : 4096 < s.size
  · go_enter Tryz.func6, Tryz.ntmps6
    go_wp2_with (go_at_call 20; refine (t20_long _ _ (by omega)).mono ?_; rintro e w' ⟨rfl, rfl⟩)
    go_ret
    exact ⟨rfl, Below.refl _ _⟩
  by_cases hb : noBack s
  · obtain ⟨part, path, pipe, piped, wild, more, ho, hp, hw⟩ := objP_ok s
    have HB := Lib.hid hb
    have HO := Lib.hid ho
    have HW := Lib.hid hw
    clear hb ho hw
    go_enter Tryz.func6, Tryz.ntmps6
    go_wp2_with (first | (go_at_call 20; refine (t20_yes _ _ (by omega) HB.out).mono ?_; rintro e w' ⟨rfl, rfl⟩) | (go_at_call 21; refine (t21 _ _ hs'.out HB.out part path pipe piped wild more HO.out).mono ?_; rintro e w1 ⟨rfl, hbl⟩))
    go_loop [9, 10] (fun m i => ∃ k : Nat, ∃ b : Bool, k ≤ part.size ∧ i = .int .i64 k ∧ m = .bool b ∧ Hid (stars part k = b)) (fun _ i => part.size - (intOf i).toNat)
    case atStart => exact ⟨0, false, by omega, rfl, rfl, rfl⟩
    case round =>
      obtain ⟨k, b, hk, rfl, rfl, HK⟩ := hrel
      by_cases hlt : k < part.size
      · by_cases h1 : part[k].toNat = 42
        · have e1 : ((part[k].toNat : Int) == 42) = true := by rw [beq_iff_eq]; omega
          have HS : Hid (stars part (k + 1) = true) := by unfold Hid; rw [stars_succ part k hlt]; simp [isStar, h1]
          clear h1
          cases b with
          | true =>
            go_wp2
            go_round
            case rel => exact ⟨k + 1, true, by omega, by go_num, rfl, HS⟩
            case measure => simp [intOf]; omega
          | false =>
            go_wp2
            go_round
            case rel => exact ⟨k + 1, true, by omega, by go_num, rfl, HS⟩
            case measure => simp [intOf]; omega
        · have e1 : ((part[k].toNat : Int) == 42) = false := by rw [beq_eq_false_iff_ne]; omega
          by_cases h2 : part[k].toNat = 63
          · have e2 : ((part[k].toNat : Int) == 63) = true := by rw [beq_iff_eq]; omega
            have HS : Hid (stars part (k + 1) = true) := by unfold Hid; rw [stars_succ part k hlt]; simp [isStar, h2]
            clear h1 h2
            cases b with
            | true =>
              go_wp2
              go_round
              case rel => exact ⟨k + 1, true, by omega, by go_num, rfl, HS⟩
              case measure => simp [intOf]; omega
            | false =>
              go_wp2
              go_round
              case rel => exact ⟨k + 1, true, by omega, by go_num, rfl, HS⟩
              case measure => simp [intOf]; omega
          · have e2 : ((part[k].toNat : Int) == 63) = false := by rw [beq_eq_false_iff_ne]; omega
            have HS : Hid (stars part (k + 1) = b) := by unfold Hid; rw [stars_succ part k hlt, HK.out]; simp [isStar, h1, h2]
            clear h1 h2
            cases b with
            | true =>
              go_wp2
              go_round
              case rel => exact ⟨k + 1, true, by omega, by go_num, rfl, HS⟩
              case measure => simp [intOf]; omega
            | false =>
              go_wp2
              go_round
              case rel => exact ⟨k + 1, false, by omega, by go_num, rfl, HS⟩
              case measure => simp [intOf]; omega
      · obtain rfl : k = part.size := by omega
        have hbw : b = wild := by rw [← HK.out, ← HW.out]
        subst hbw
        have e9 : (b == b) = true := by simp
        have HM : Hid (aStar.size ≤ maxLen) := by unfold Hid; decide
        have h21 : ∀ w : World, Calls Tryz.prog 21 #[.string ⟨#[97, 42]⟩] w fun e w' => e = .returned (.tuple #[.string ⟨#[97, 42]⟩, .string ⟨#[]⟩, .string ⟨#[]⟩, .bool false, .bool true, .bool false]) ∧ Below w.heap.size w w' :=
          fun w => t21 aStar w HM.out aStar_noBack aStar emptyB emptyB false true false aStar_obj
        have H21 := Lib.hid h21
        clear h21
        go_wp2_with (go_at_call 21; refine (H21.out _).mono ?_; rintro e w2 ⟨rfl, hb2⟩)
        go_ret
        exact ⟨by simp, hbl.trans (hb2.mono hbl.size)⟩
  · have HB := Lib.hid hb
    clear hb
    go_enter Tryz.func6, Tryz.ntmps6
    go_wp2_with (go_at_call 20; refine (t20_back _ _ (by omega) HB.out).mono ?_; rintro e w' ⟨rfl, rfl⟩)
    go_ret
    exact ⟨rfl, Below.refl _ _⟩
end Go.Proofs.YtmffibpbjobhmaaGreatDoor
