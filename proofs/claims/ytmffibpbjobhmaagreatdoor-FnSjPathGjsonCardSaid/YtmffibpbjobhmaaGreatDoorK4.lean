import Derived.Test.YtmffibpbjobhmaaGreatDoorK3
namespace Go.Proofs.YtmffibpbjobhmaaGreatDoor
open Go.RowKit

def tot (ks : List ByteArray) (k : Nat) : Nat := ((ks.take k).map ByteArray.size).sum
theorem tot_succ (ks : List ByteArray) (k : Nat) (h : k < ks.length) : tot ks (k + 1) = tot ks k + ks[k].size := by
  unfold tot
  rw [List.take_succ_eq_append_getElem h, List.map_append, List.sum_append]
  simp
theorem tot_le (ks : List ByteArray) (M : Nat) (hs : ∀ k ∈ ks, k.size ≤ M) (k : Nat) (hk : k ≤ ks.length) : tot ks k ≤ k * M := by
  induction k with
  | zero => simp [tot]
  | succ k ih =>
    rw [tot_succ ks k (by omega), Nat.succ_mul]
    have := hs ks[k] (List.getElem_mem _)
    have := ih (by omega)
    omega
theorem le_sum (l : List Nat) (x : Nat) (h : x ∈ l) : x ≤ l.sum := by
  induction l with
  | nil => cases h
  | cons y l ih =>
    rcases List.mem_cons.1 h with rfl | h
    · simp
    · have := ih h
      simp; omega
theorem tot_mem (ks : List ByteArray) (x : ByteArray) (hx : x ∈ ks) : x.size ≤ tot ks ks.length := by
  unfold tot
  rw [List.take_length]
  have : x.size ∈ ks.map ByteArray.size := List.mem_map.2 ⟨x, hx, rfl⟩
  exact le_sum _ _ this

def SjKeysPost (ks : List ByteArray) (w : World) (e : Ending) (w' : World) : Prop :=
  ∃ r : Bool, e = .returned (.bool r) ∧ (r = true → 0 < ks.length ∧ ks.length ≤ 32 ∧ ∀ k ∈ ks, k.size ≤ 4096) ∧ w = w'

set_option maxHeartbeats 4000000 in
theorem t32 (v : Value) (ks : List ByteArray) (w : World) (hv : KeysAt w v ks) (hl : ks.length ≤ 2147483647) (hs : ∀ k ∈ ks, k.size ≤ 2147483647) :
    Calls Tryz.prog 32 #[v] w (SjKeysPost ks w) := by
  rcases hv with ⟨rfl, rfl⟩ | ⟨b, off, cap, rfl, hcap, hc⟩
  · clear hs hl
    go_enter Tryz.func32, Tryz.ntmps32
    go_wp2
    go_loop [3, 5, 8] (fun t _ i => i = .int .i64 0 ∧ t = .int .i64 0) (fun _ _ _ => 0)
    case atStart => exact ⟨rfl, rfl⟩
    case round =>
      obtain ⟨rfl, rfl⟩ := hrel
      go_wp2
      go_ret
      exact ⟨false, rfl, fun h => by simp at h, rfl⟩
  · have HC := Lib.hid hc
    have HS := Lib.hid hs
    clear hc hs
    go_enter Tryz.func32, Tryz.ntmps32
    go_wp2
    go_loop [3, 5, 8] (fun t _ i => ∃ (k n : Nat), k ≤ ks.length ∧ i = .int .i64 k ∧ t = .int .i64 n ∧ Hid (n = tot ks k) ∧ n ≤ 4611686014132420609) (fun _ _ i => ks.length - (intOf i).toNat)
    case atStart => exact ⟨0, 0, by omega, rfl, rfl, rfl, by omega⟩
    case round =>
      obtain ⟨k, n, hk, rfl, rfl, HN, hn⟩ := hrel
      by_cases hlt : k < ks.length
      · have hck := HC.out k hlt
        have hsk := HS.out ks[k] (List.getElem_mem hlt)
        have HA : Hid (n + ks[k].size = tot ks (k + 1)) := by unfold Hid; rw [tot_succ ks k hlt, HN.out]
        have hb := tot_le ks 2147483647 HS.out (k + 1) hlt
        have hb2 : (k + 1) * 2147483647 ≤ 2147483647 * 2147483647 := Nat.mul_le_mul_right _ (by omega)
        have hb3 : n + ks[k].size ≤ 4611686014132420609 := by rw [HA.out]; omega
        clear hb hb2
        obtain ⟨t, ht⟩ : ∃ t, t = ks[k] := ⟨_, rfl⟩
        rw [← ht] at hck hsk HA hb3
        have HM : Hid (t.size ≤ maxLen) := by unfold Hid maxLen; omega
        clear ht
        go_wp2_with (go_at_call 46; refine (t46 _ _ HM.out).mono ?_; rintro e w' ⟨r, rfl, rfl⟩)
        all_goals first
          | (go_ret; exact ⟨false, rfl, fun h => by simp at h, rfl⟩)
          | (go_round
             case rel => exact ⟨k + 1, n + t.size, by omega, by go_num, by go_num, HA, hb3⟩
             case measure => simp [intOf]; omega)
      · obtain rfl : k = ks.length := by omega
        by_cases h0 : 0 < ks.length
        · by_cases h32 : ks.length ≤ 32
          · by_cases hn2 : n ≤ 4096
            · have d1 : decide ((0 : Int) < ks.length) = true := by simp; omega
              have d2 : decide ((ks.length : Int) ≤ 32) = true := by simp; omega
              have d3 : decide ((n : Int) ≤ 4096) = true := by simp; omega
              go_wp2
              go_ret
              exact ⟨true, rfl, fun _ => ⟨h0, h32, fun x hx => Nat.le_trans (tot_mem ks x hx) (by rw [← HN.out]; exact hn2)⟩, rfl⟩
            · have d1 : decide ((0 : Int) < ks.length) = true := by simp; omega
              have d2 : decide ((ks.length : Int) ≤ 32) = true := by simp; omega
              have d3 : decide ((n : Int) ≤ 4096) = false := by simp; omega
              go_wp2
              go_ret
              exact ⟨false, rfl, fun h => by simp at h, rfl⟩
          · have d1 : decide ((0 : Int) < ks.length) = true := by simp; omega
            have d2 : decide ((ks.length : Int) ≤ 32) = false := by simp; omega
            go_wp2
            go_ret
            exact ⟨false, rfl, fun h => by simp at h, rfl⟩
        · have d1 : decide ((0 : Int) < ks.length) = false := decide_eq_false (by omega)
          go_wp2
          go_ret
          exact ⟨false, rfl, fun h => by simp at h, rfl⟩
end Go.Proofs.YtmffibpbjobhmaaGreatDoor
