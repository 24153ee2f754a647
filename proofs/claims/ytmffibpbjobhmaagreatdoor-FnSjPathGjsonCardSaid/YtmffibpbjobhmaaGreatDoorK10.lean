/-
  FnSjPathGjson at an empty slice of keys, wherever it points.
-/
import Derived.Test.YtmffibpbjobhmaaGreatDoorK9
namespace Go.Proofs.YtmffibpbjobhmaaGreatDoor
open Go.RowKit

theorem t31_zero (a : Option Addr) (cap : Nat) (w : World) : Calls Tryz.prog 31 #[.slice a 0 cap] w fun e w' => e = .returned (.bool true) ∧ w = w' := by
  go_enter Tryz.func31, Tryz.ntmps31
  go_wp2
  go_loop [4, 10] (fun _ i => i = .int .i64 0) (fun _ _ => 0)
  case atStart => rfl
  case round =>
    obtain rfl := hrel
    go_wp2
    go_ret
    exact ⟨rfl, rfl⟩
theorem t32_zero (a : Option Addr) (cap : Nat) (w : World) : Calls Tryz.prog 32 #[.slice a 0 cap] w fun e w' => e = .returned (.bool false) ∧ w = w' := by
  go_enter Tryz.func32, Tryz.ntmps32
  go_wp2
  go_loop [3, 5, 8] (fun t _ i => i = .int .i64 0 ∧ t = .int .i64 0) (fun _ _ _ => 0)
  case atStart => exact ⟨rfl, rfl⟩
  case round =>
    obtain ⟨rfl, rfl⟩ := hrel
    go_wp2
    go_ret
    exact ⟨rfl, rfl⟩
theorem t8_zero (a : Option Addr) (cap : Nat) (names : Int) (w : World) : Calls Tryz.prog 8 #[.slice a 0 cap, .int .u64 names] w fun e w' => e = .returned (.bool true) ∧ Below w.heap.size w w' := by
  go_enter Tryz.func8, Tryz.ntmps8
  go_wp2_with (first | (go_at_call 31; refine (t31_zero _ _ _).mono ?_; rintro e w' ⟨rfl, rfl⟩) | (go_at_call 32; refine (t32_zero _ _ _).mono ?_; rintro e w' ⟨rfl, rfl⟩))
  go_ret
  exact ⟨rfl, Below.refl _ _⟩
end Go.Proofs.YtmffibpbjobhmaaGreatDoor
