import Derived.Test.YtmffibpbjobhmaaGreatDoorK2
namespace Go.Proofs.YtmffibpbjobhmaaGreatDoor
open Go.RowKit

/-- A slice of strings as it lies in memory. -/
def KeysAt (w : World) (v : Value) (ks : List ByteArray) : Prop :=
  (v = .slice none 0 0 ∧ ks = []) ∨ ∃ b off cap, v = .slice (some ⟨b, off, none⟩) ks.length cap ∧ ks.length ≤ cap ∧ ∀ i (h : i < ks.length), w.cell? ⟨b, off + i, none⟩ = some (.string ks[i])

def FitsPost (ks : List ByteArray) (w : World) (e : Ending) (w' : World) : Prop :=
  ∃ r : Bool, e = .returned (.bool r) ∧ (r = true → ks.length ≤ 2147483647 ∧ ∀ k ∈ ks, k.size ≤ 2147483647) ∧ w = w'

set_option maxHeartbeats 2000000 in
theorem t31 (v : Value) (ks : List ByteArray) (w : World) (hv : KeysAt w v ks) (hl : ks.length ≤ maxLen) (hs : ∀ k ∈ ks, k.size ≤ maxLen) :
    Calls Tryz.prog 31 #[v] w (FitsPost ks w) := by
  unfold maxLen at hl
  rcases hv with ⟨rfl, rfl⟩ | ⟨b, off, cap, rfl, hcap, hc⟩
  · clear hs hl
    go_enter Tryz.func31, Tryz.ntmps31
    go_wp2
    go_loop [4, 10] (fun _ i => i = .int .i64 0) (fun _ _ => 0)
    case atStart => rfl
    case round =>
      obtain rfl := hrel
      go_wp2
      go_ret
      exact ⟨true, rfl, fun _ => ⟨by simp, by simp⟩, rfl⟩
  · have HC := Lib.hid hc
    have HS := Lib.hid hs
    clear hc hs
    by_cases hbig : 2147483647 < ks.length
    · go_enter Tryz.func31, Tryz.ntmps31
      go_wp2
      go_ret
      exact ⟨false, rfl, fun h => by simp at h, rfl⟩
    have dbig : decide ((2147483647 : Int) < ks.length) = false := by simp; omega
    go_enter Tryz.func31, Tryz.ntmps31
    go_wp2
    go_loop [4, 10] (fun _ i => ∃ k : Nat, k ≤ ks.length ∧ i = .int .i64 k ∧ Hid (∀ j (h : j < ks.length), j < k → ks[j].size ≤ 2147483647)) (fun _ i => ks.length - (intOf i).toNat)
    case atStart => exact ⟨0, by omega, rfl, fun j _ h => by omega⟩
    case round =>
      obtain ⟨k, hk, rfl, HJ⟩ := hrel
      by_cases hlt : k < ks.length
      · have hck := HC.out k hlt
        have hsk := HS.out ks[k] (List.getElem_mem hlt)
        have HA : ∀ h : ks[k].size ≤ 2147483647, Hid (∀ j (h : j < ks.length), j < k + 1 → ks[j].size ≤ 2147483647) := fun h0 j h hj => by
          rcases Nat.lt_or_ge j k with h' | h'
          · exact HJ.out j h h'
          · obtain rfl : j = k := by omega
            exact h0
        obtain ⟨t, ht⟩ : ∃ t, t = ks[k] := ⟨_, rfl⟩
        rw [← ht] at hck hsk HA
        unfold maxLen at hsk
        have HA' := Lib.hid HA
        clear HA ht
        by_cases hb : 2147483647 < t.size
        · go_wp2
          go_ret
          exact ⟨false, rfl, fun h => by simp at h, rfl⟩
        · go_wp2
          go_round
          case rel => exact ⟨k + 1, by omega, by go_num, HA'.out (by omega)⟩
          case measure => simp [intOf]; omega
      · obtain rfl : k = ks.length := by omega
        go_wp2
        go_ret
        refine ⟨true, rfl, fun _ => ⟨by omega, fun x hx => ?_⟩, rfl⟩
        obtain ⟨j, hj, rfl⟩ := List.getElem_of_mem hx
        exact HJ.out j hj hj
end Go.Proofs.YtmffibpbjobhmaaGreatDoor
