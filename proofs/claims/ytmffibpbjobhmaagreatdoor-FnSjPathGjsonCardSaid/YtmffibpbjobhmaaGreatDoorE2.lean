/-
  spec.PathOf of one key: the key written as a path's component.
-/
import Derived.Test.YtmffibpbjobhmaaGreatDoorE1
namespace Go.Proofs.YtmffibpbjobhmaaGreatDoor
open Go.RowKit

theorem take_snoc (s : ByteArray) (k : Nat) (h : k < s.size) : s.data.toList.take (k + 1) = s.data.toList.take k ++ [s[k]] := by
  rw [List.take_succ_eq_append_getElem (by simpa using h)]; rfl

theorem ownB.below {w w' : World} {base : Nat} {v : Value} {xs : List UInt8} {B : Nat} {w0 : World} (h : ownB w base v xs) (hb : Below B w0 w) (hg : w.grownBy w' v.ownBlock) (hB : B ≤ base) (hs : B ≤ w.heap.size) : Below B w0 w' :=
  hb.grown hg hs fun k hk => Nat.le_trans hB (h.lt k hk).1

set_option maxHeartbeats 4000000 in
theorem t58 (b off cap : Nat) (key : ByteArray) (w : World) (hs : key.size ≤ 1048576) (hc : w.cell? ⟨b, off, none⟩ = some (.string key)) :
    Calls Tryz.prog 58 #[.slice (some ⟨b, off, none⟩) 1 cap] w fun e w' => e = .returned (.string ⟨(esc key.data.toList).toArray⟩) ∧ Below w.heap.size w w' := by
  have hb : b < w.heap.size := World.block_lt_of_cell? w _ hc
  go_enter Tryz.func58, Tryz.ntmps58
  go_wp2
  go_loopw [3, 4, 5, 6, 9] (fun v _ _ _ i wr => Below w.heap.size w wr ∧ (i = .int .i64 0 ∧ ownB wr w.heap.size v [] ∨ i = .int .i64 1 ∧ ownB wr w.heap.size v (esc key.data.toList))) (fun _ _ _ _ i _ => 1 - (intOf i).toNat)
  case atStart => exact ⟨Below.refl _ _, Or.inl ⟨rfl, ownB_nil _ _⟩⟩
  case round =>
    obtain ⟨hbl, ⟨rfl, hown⟩ | ⟨rfl, hown⟩⟩ := hrel
    · have hc' : wr.cell? ⟨b, off, none⟩ = some (.string key) := (hbl.cell (p := ⟨b, off, none⟩) hb).trans hc
      go_wp2
      obtain ⟨wo, rfl⟩ : ∃ wo : World, wo = wr := ⟨_, rfl⟩
      go_loopw [3, 6] (fun v i wr => ∃ j : Nat, j ≤ key.size ∧ i = .int .i64 j ∧ Below w.heap.size w wr ∧ ownB wr w.heap.size v (esc (key.data.toList.take j))) (fun _ i _ => key.size - (intOf i).toNat)
      case atStart => exact ⟨0, by omega, rfl, hbl, hown⟩
      case round =>
        clear hown hbl hc'
        obtain ⟨j, hj, rfl, hbl, hown⟩ := hrel
        by_cases hlt : j < key.size
        · have HT := Lib.hid (take_snoc key j hlt)
          have hz := esc_length (key.data.toList.take j)
          have hz2 : (key.data.toList.take j).length ≤ j := List.length_take_le _ _
          have hzz : (esc (key.data.toList.take j)).length + 2 ≤ 140737488355328 := by omega
          have hsz := hbl.size
          clear hz hz2
          cases hp : pathN key[j].toNat with
          | true =>
            have HE : Hid (esc (key.data.toList.take (j + 1)) = esc (key.data.toList.take j) ++ [key[j]]) := by unfold Hid; rw [HT.out, esc_snoc_yes _ _ hp]
            have h95 := t95 key[j].toNat
            rw [hp] at h95
            have H95 := Lib.hid h95
            clear h95 hp
            go_wp2_with (first | (go_at_call 95; refine (H95.out _).mono ?_; rintro e w' ⟨rfl, rfl⟩) | (at_builtin; (with_reducible refine wpList_append_B w.heap.size _ _ ?_ (hown.alloc _) ⟨wr.heap.size, 0, none⟩ key[j] ?_ ?_ ?_ ?_ ?_); (focus rfl); (focus rfl); (focus simp); (focus omega); (focus (simp; omega)); intro v1 w1 hown1 hg1 _))
            have hbl1 : Below w.heap.size w w1 := (hown.alloc _).below (hbl.alloc hsz _) hg1 (Nat.le_refl _) (by simp; omega)
            have hown2 : ownB w1 w.heap.size v1 (esc (key.data.toList.take (j + 1))) := by rw [HE.out]; exact hown1
            clear hown1 hown hg1
            go_roundw
            case rel => exact ⟨j + 1, by omega, by go_num, hbl1, hown2⟩
            case measure => simp [intOf]; omega
          | false =>
            have HE : Hid (esc (key.data.toList.take (j + 1)) = esc (key.data.toList.take j) ++ [92] ++ [key[j]]) := by unfold Hid; rw [HT.out, esc_snoc_no _ _ hp, List.append_assoc]; rfl
            have h95 := t95 key[j].toNat
            rw [hp] at h95
            have H95 := Lib.hid h95
            clear h95 hp
            go_wp2_with (first | (go_at_call 95; refine (H95.out _).mono ?_; rintro e w' ⟨rfl, rfl⟩) | (at_builtin; (with_reducible refine wpList_append_B w.heap.size _ _ ?_ (hown.alloc _) ⟨wr.heap.size, 0, none⟩ 92 ?_ ?_ ?_ ?_ ?_); (focus rfl); (focus rfl); (focus simp); (focus omega); (focus (simp; omega)); intro v1 w1 hown1 hg1 _; have hsz1 := hg1.size; simp at hsz1) | (at_builtin; (with_reducible refine wpList_append_B w.heap.size _ _ ?_ (hown1.alloc _) ⟨w1.heap.size, 0, none⟩ key[j] ?_ ?_ ?_ ?_ ?_); (focus rfl); (focus rfl); (focus simp); (focus (simp; omega)); (focus (simp; omega)); intro v2 w2 hown2 hg2 _))
            have hbl1 : Below w.heap.size w w1 := (hown.alloc _).below (hbl.alloc hsz _) hg1 (Nat.le_refl _) (by simp; omega)
            have hbl2 : Below w.heap.size w w2 := (hown1.alloc _).below (hbl1.alloc hbl1.size _) hg2 (Nat.le_refl _) (by have := hbl1.size; simp; omega)
            have hown3 : ownB w2 w.heap.size v2 (esc (key.data.toList.take (j + 1))) := by rw [HE.out]; exact hown2
            clear hown1 hown hg1 hg2 hown2 hbl1
            go_roundw
            case rel => exact ⟨j + 1, by omega, by go_num, hbl2, hown3⟩
            case measure => simp [intOf]; omega
        · obtain rfl : j = key.size := by omega
          have HT : Hid (key.data.toList.take key.size = key.data.toList) := by unfold Hid; rw [← data_length, List.take_length]
          rw [HT.out] at hown
          go_wp2
          go_roundw
          case rel => exact ⟨hbl, Or.inr ⟨rfl, hown⟩⟩
          case measure => simp [intOf]
    · go_wp2_with ((with_reducible refine wpList_str_B w.heap.size _ _ ?_ hown ?_); focus rfl)
      go_ret
      exact ⟨rfl, hbl⟩
end Go.Proofs.YtmffibpbjobhmaaGreatDoor
