import Derived.Test.YtmffibpbjobhmaaGreatDoorK4
namespace Go.Proofs.YtmffibpbjobhmaaGreatDoor
open Go.RowKit

theorem t57 (names k : Int) (w : World) (h0 : 0 ≤ k) :
    Calls Tryz.prog 57 #[.int .u64 names, .int .i64 k] w (SomeBool w) := by
  by_cases hk : k < 64
  · have e1 : decide (k < 64) = true := decide_eq_true (by omega)
    go_enter Tryz.func57, Tryz.ntmps57
    go_wp2
    go_ret
    exact ⟨_, rfl, rfl⟩
  · have e1 : decide (k < 64) = false := decide_eq_false (by omega)
    go_enter Tryz.func57, Tryz.ntmps57
    go_wp2
    go_ret
    exact ⟨_, rfl, rfl⟩

def pre (f : Bool) : List UInt8 := if f then [58] else []
/-- How a path of sjson begins: a colon or none, the first key, then nothing or a dot and more. -/
def Begins (k0 : List UInt8) (o : List UInt8) : Prop := ∃ f rest, o = pre f ++ esc k0 ++ rest ∧ (rest = [] ∨ ∃ r, rest = 46 :: r)

theorem size_mk (l : List UInt8) : (⟨l.toArray⟩ : ByteArray).size = l.length := by simp [ByteArray.size]
theorem size_one (x : UInt8) : (⟨#[x]⟩ : ByteArray).size = 1 := rfl
theorem toList_append (a b : ByteArray) : (a ++ b).data.toList = a.data.toList ++ b.data.toList := by simp
theorem begins_more {k0 o x : List UInt8} (h : Begins k0 o) : Begins k0 (o ++ [46] ++ x) := by
  obtain ⟨f, rest, rfl, hr⟩ := h
  refine ⟨f, rest ++ [46] ++ x, by simp, Or.inr ?_⟩
  rcases hr with rfl | ⟨r, rfl⟩
  · exact ⟨x, rfl⟩
  · exact ⟨r ++ [46] ++ x, by simp⟩
theorem begins_first (f : Bool) (k0 : List UInt8) : Begins k0 (pre f ++ esc k0) := ⟨f, [], by simp, Or.inl rfl⟩

set_option maxHeartbeats 4000000 in
set_option maxRecDepth 10000 in
theorem t34 (v : Value) (ks : List ByteArray) (names : Int) (w : World) (hv : KeysAt w v ks) (hl : ks.length ≤ 32) (h0 : 0 < ks.length) (hs : ∀ k ∈ ks, k.size ≤ 4096) :
    Calls Tryz.prog 34 #[v, .int .u64 names] w fun e w' => (∃ o, e = .returned (.string o) ∧ Begins ks[0].data.toList o.data.toList ∧ o.size ≤ 300000) ∧ Below w.heap.size w w' := by
  rcases hv with ⟨rfl, rfl⟩ | ⟨b, off, cap, rfl, hcap, hc⟩
  · simp at h0
  have HC := Lib.hid hc
  have HS := Lib.hid hs
  have hb : b < w.heap.size := World.block_lt_of_cell? w _ (hc 0 h0)
  clear hc hs
  go_enter Tryz.func34, Tryz.ntmps34
  go_wp2
  go_loopw [5, 6, 9] (fun o _ i wr => Below w.heap.size w wr ∧ (i = .int .i64 0 ∧ o = .string ⟨#[]⟩ ∨ ∃ (k : Nat) (s : ByteArray), 0 < k ∧ k ≤ ks.length ∧ i = .int .i64 k ∧ o = .string s ∧ s.size ≤ k * 8200 ∧ Hid (Begins ks[0].data.toList s.data.toList))) (fun _ _ i _ => ks.length - (intOf i).toNat)
  case atStart => exact ⟨Below.refl _ _, Or.inl ⟨rfl, rfl⟩⟩
  case round =>
    obtain ⟨hbl, ⟨rfl, rfl⟩ | ⟨k, s, hk0, hk, rfl, rfl, hsz, HB⟩⟩ := hrel
    · have hck : wr.cell? ⟨b, off, none⟩ = some (.string ks[0]) := (hbl.cell (p := ⟨b, off, none⟩) hb).trans (HC.out 0 h0)
      have hsk := HS.out ks[0] (List.getElem_mem h0)
      have HF : ∀ f, Hid (Begins ks[0].data.toList (pre f ++ esc ks[0].data.toList)) := fun f => begins_first f _
      have HF' := Lib.hid HF
      clear HF
      obtain ⟨t, ht⟩ : ∃ t, t = ks[0] := ⟨_, rfl⟩
      rw [← ht] at hck hsk
      have HT := Lib.hid ht
      clear ht
      have h58 : ∀ (c : Nat) (w' : World), w'.cell? ⟨b, off, none⟩ = some (.string t) → Calls Tryz.prog 58 #[.slice (some ⟨b, off, none⟩) 1 c] w' fun e w1 => e = .returned (.string ⟨(esc t.data.toList).toArray⟩) ∧ Below w'.heap.size w' w1 :=
        fun c w' h => t58 b off c t w' (by omega) h
      have H58 := Lib.hid h58
      clear h58
      have he := (esc_length t.data.toList).2
      have hel : (esc t.data.toList).length ≤ 8192 := by rw [data_length] at he; omega
      clear he
      go_wp2_with (first | (go_at_call 57; refine (t57 names _ _ (by omega)).mono ?_; rintro e w' ⟨r, rfl, rfl⟩) | (go_at_call 58; refine (H58.out _ _ hck).mono ?_; rintro e w1 ⟨rfl, hb1⟩))
      all_goals
        have hbl1 := hbl.trans (hb1.mono hbl.size)
        clear hb1
        go_roundw
      case rel => exact ⟨hbl1, Or.inr ⟨1, _, by omega, by omega, rfl, rfl, by simp [size_mk]; omega, by rw [toList_append, HT.out]; exact HF'.out true⟩⟩
      case measure => simp [intOf]; omega
      case rel => exact ⟨hbl1, Or.inr ⟨1, _, by omega, by omega, rfl, rfl, by simp [size_mk]; omega, by rw [HT.out]; exact HF'.out false⟩⟩
      case measure => simp [intOf]; omega
    · by_cases hlt : k < ks.length
      · have hck : wr.cell? ⟨b, off + k, none⟩ = some (.string ks[k]) := (hbl.cell (p := ⟨b, off + k, none⟩) hb).trans (HC.out k hlt)
        have hsk := HS.out ks[k] (List.getElem_mem hlt)
        obtain ⟨t, ht⟩ : ∃ t, t = ks[k] := ⟨_, rfl⟩
        rw [← ht] at hck hsk
        clear ht
        have h58 : ∀ (c : Nat) (w' : World), w'.cell? ⟨b, off + k, none⟩ = some (.string t) → Calls Tryz.prog 58 #[.slice (some ⟨b, off + k, none⟩) 1 c] w' fun e w1 => e = .returned (.string ⟨(esc t.data.toList).toArray⟩) ∧ Below w'.heap.size w' w1 :=
          fun c w' h => t58 b (off + k) c t w' (by omega) h
        have H58 := Lib.hid h58
        clear h58
        have he := (esc_length t.data.toList).2
        have hel : (esc t.data.toList).length ≤ 8192 := by rw [data_length] at he; omega
        clear he
        have hsl : s.size ≤ 300000 := by have := Nat.mul_le_mul_right 8200 (show k ≤ 32 by omega); omega
        have HN : ∀ x, Hid (Begins ks[0].data.toList (s.data.toList ++ [46] ++ x)) := fun x => begins_more HB.out
        have HN' := Lib.hid HN
        clear HN
        go_wp2_with (first | (go_at_call 57; refine (t57 names _ _ (by omega)).mono ?_; rintro e w' ⟨r, rfl, rfl⟩) | (go_at_call 58; refine (H58.out _ _ hck).mono ?_; rintro e w1 ⟨rfl, hb1⟩))
        all_goals
          have hbl1 := hbl.trans (hb1.mono hbl.size)
          clear hb1
          go_roundw
        case rel => exact ⟨hbl1, Or.inr ⟨k + 1, _, by omega, by omega, by go_num, rfl, by simp [size_mk]; omega, by rw [toList_append, toList_append, toList_append, List.append_assoc]; exact HN'.out _⟩⟩
        case measure => simp [intOf]; omega
        case rel => exact ⟨hbl1, Or.inr ⟨k + 1, _, by omega, by omega, by go_num, rfl, by simp [size_mk]; omega, by rw [toList_append, toList_append]; exact HN'.out _⟩⟩
        case measure => simp [intOf]; omega
      · obtain rfl : k = ks.length := by omega
        have hsl : s.size ≤ 300000 := by have := Nat.mul_le_mul_right 8200 hl; omega
        go_wp2
        go_ret
        exact ⟨⟨s, rfl, HB.out, hsl⟩, hbl⟩
end Go.Proofs.YtmffibpbjobhmaaGreatDoor
