/-
  The walk of law FnSjPathGjson: the doors, and the law.
-/
import Derived.Test.YtmffibpbjobhmaaGreatDoorK8
import Derived.Deep.QuietTactic
import Derived.BigQuiet
namespace Go.Proofs.YtmffibpbjobhmaaGreatDoor
open Go.RowKit

set_option maxHeartbeats 1000000 in
theorem t48_esc (p : ByteArray) (key : List UInt8) (w : World) (hps : p.size ≤ 300000) (hp : p.data.toList = esc key) :
    Calls Tryz.prog 48 #[.string p] w fun e w' => e = .returned (.tuple #[.string ⟨key.toArray⟩, .string ⟨#[]⟩, .string ⟨#[]⟩, .bool false, .bool false, .bool false]) ∧ Below w.heap.size w w' := by
  have h81 := t81_esc p key w hps hp
  unfold objV emptyB at h81
  have H81 := Lib.hid h81
  clear h81 hp
  go_enter Tryz.func48, Tryz.ntmps48
  go_wp2_with (go_at_call 81; refine H81.out.mono ?_; rintro e w' ⟨rfl, hbl⟩)
  go_quiet (fail)
  go_wp2
  exact bodyPost_ret (v := .tuple #[.string ⟨key.toArray⟩, .string ⟨#[]⟩, .string ⟨#[]⟩, .bool false, .bool false, .bool false]) (by simp [results, Tryz.results48, go_sem]) rfl ⟨rfl, below_drewN (hbl.alloc hbl.size _) _⟩

set_option maxHeartbeats 1000000 in
theorem t21_esc (p : ByteArray) (key : List UInt8) (w : World) (hps : p.size ≤ 300000) (hp : p.data.toList = esc key) :
    Calls Tryz.prog 21 #[.string p] w fun e w' => e = .returned (.tuple #[.string ⟨key.toArray⟩, .string ⟨#[]⟩, .string ⟨#[]⟩, .bool false, .bool false, .bool false]) ∧ Below w.heap.size w w' := by
  have H := Lib.hid (t48_esc p key w hps hp)
  clear hp
  go_enter Tryz.func21, Tryz.ntmps21
  go_wp2_with (go_at_call 48; refine H.out.mono ?_; rintro e w' ⟨rfl, hbl⟩)
  exact bodyPost_ret (v := .tuple #[.string ⟨key.toArray⟩, .string ⟨#[]⟩, .string ⟨#[]⟩, .bool false, .bool false, .bool false]) (by simp [results, Tryz.results21, go_sem]) rfl ⟨rfl, hbl⟩

theorem t94_any (s : ByteArray) (key : List UInt8) (w : World) (hs : s.size ≤ 300000) (hb : Begins key s.data.toList) : Calls Tryz.prog 94 #[.string s] w (PathPost key w) := by
  obtain ⟨f, rest, hp, hr⟩ := hb
  cases f with
  | true =>
    have h0 : s.size = (esc key ++ rest).length + 1 := by rw [← data_length, hp]; simp [pre]
    obtain ⟨h1, h2⟩ := byte_at (A := []) (c := 58) (B := esc key ++ rest) (s := s) (by rw [hp]; simp [pre])
    refine t94_yes s (s.extract 1 s.size) key rest w hs (by omega) (by simp only [List.length_nil] at h2; rw [h2]; rfl) rfl ?_ hr
    rw [ByteArray.data_extract, Array.toList_extract, hp]
    simp only [pre, List.extract_eq_take_drop, h0, if_true, List.cons_append, List.nil_append, List.drop_succ_cons, List.drop_zero, Nat.add_sub_cancel]
    exact List.take_of_length_le (Nat.le_refl _)
  | false =>
    have hp' : s.data.toList = esc key ++ rest := by rw [hp]; simp [pre]
    by_cases h0 : s.size = 0
    · have : esc key ++ rest = [] := by rw [← hp']; exact List.length_eq_zero_iff.1 (by rw [data_length]; exact h0)
      obtain ⟨he, rfl⟩ := List.append_eq_nil_iff.1 this
      have hk : key = [] := by
        have := (esc_length key).1
        rw [he] at this
        exact List.length_eq_zero_iff.1 (by simpa using this)
      subst hk
      exact t94_nil s w h0
    · refine t94_no s s key rest w hs (by omega) ?_ rfl hp' hr
      cases key with
      | nil =>
        rcases hr with rfl | ⟨r, rfl⟩
        · exfalso; apply h0; rw [← data_length, hp']; rfl
        · obtain ⟨h1, h2⟩ := byte_at (A := []) (c := 46) (B := r) (s := s) (by rw [hp']; rfl)
          simp only [List.length_nil] at h2
          rw [h2]; decide
      | cons b k =>
        cases hb : pathN b.toNat with
        | true =>
          obtain ⟨h1, h2⟩ := byte_at (A := []) (c := b) (B := esc k ++ rest) (s := s) (by rw [hp', esc, if_pos hb]; simp)
          simp only [List.length_nil] at h2
          rw [h2]
          exact (pathN_not _ hb).2.2.2.2.2
        | false =>
          obtain ⟨h1, h2⟩ := byte_at (A := []) (c := 92) (B := b :: esc k ++ rest) (s := s) (by rw [hp', esc, if_neg (by simp [hb])]; simp)
          simp only [List.length_nil] at h2
          rw [h2]; decide

/-- What the doors to parsePath give. -/
def DoorPost (key : List UInt8) (w : World) (e : Ending) (w' : World) : Prop :=
  ∃ (path : ByteArray) (force more : Bool), e = .returned (.tuple #[.string ⟨key.toArray⟩, .string ⟨(esc key).toArray⟩, .string path, .bool force, .bool more, .bool true]) ∧ Below w.heap.size w w'

set_option maxHeartbeats 1000000 in
theorem t56 (s : ByteArray) (key : List UInt8) (w : World) (hs : s.size ≤ 300000) (hb : Begins key s.data.toList) : Calls Tryz.prog 56 #[.string s] w (DoorPost key w) := by
  have H := Lib.hid (t94_any s key w hs hb)
  clear hb
  go_enter Tryz.func56, Tryz.ntmps56
  go_wp2_with (go_at_call 94; refine H.out.mono ?_; rintro e w' ⟨path, force, more, rfl, hbl⟩)
  go_quiet (fail)
  go_wp2
  exact bodyPost_ret (v := .tuple #[.string ⟨key.toArray⟩, .string ⟨(esc key).toArray⟩, .string path, .bool force, .bool more, .bool true]) (by simp [results, Tryz.results56, go_sem]) rfl ⟨_, _, _, rfl, below_drewN (hbl.alloc hbl.size _) _⟩

set_option maxHeartbeats 1000000 in
theorem t33 (s : ByteArray) (key : List UInt8) (w : World) (hs : s.size ≤ 300000) (hb : Begins key s.data.toList) : Calls Tryz.prog 33 #[.string s] w (DoorPost key w) := by
  have H := Lib.hid (t56 s key w hs hb)
  clear hb
  go_enter Tryz.func33, Tryz.ntmps33
  go_wp2_with (go_at_call 56; refine H.out.mono ?_; rintro e w' ⟨path, force, more, rfl, hbl⟩)
  exact bodyPost_ret (v := .tuple #[.string ⟨key.toArray⟩, .string ⟨(esc key).toArray⟩, .string path, .bool force, .bool more, .bool true]) (by simp [results, Tryz.results33, go_sem]) rfl ⟨_, _, _, rfl, hbl⟩

theorem t33_as (s t : ByteArray) (w : World) (hs : s.size ≤ 300000) (hb : Begins t.data.toList s.data.toList) : Calls Tryz.prog 33 #[.string s] w fun e w' =>
    ∃ (path : ByteArray) (force more : Bool), e = .returned (.tuple #[.string t, .string ⟨(esc t.data.toList).toArray⟩, .string path, .bool force, .bool more, .bool true]) ∧ Below w.heap.size w w' := by
  have := t33 s t.data.toList w hs hb
  unfold DoorPost at this
  rw [ofList] at this
  exact this
theorem t21_as (t : ByteArray) (w : World) (ht : t.size ≤ 4096) : Calls Tryz.prog 21 #[.string ⟨(esc t.data.toList).toArray⟩] w fun e w' =>
    e = .returned (.tuple #[.string t, .string ⟨#[]⟩, .string ⟨#[]⟩, .bool false, .bool false, .bool false]) ∧ Below w.heap.size w w' := by
  have := t21_esc ⟨(esc t.data.toList).toArray⟩ t.data.toList w (by have := (esc_length t.data.toList).2; rw [data_length] at this; rw [size_mk]; omega) (by simp)
  rw [ofList] at this
  exact this

set_option maxHeartbeats 2000000 in
theorem t8 (v : Value) (ks : List ByteArray) (names : Int) (w : World) (hv : KeysAt w v ks) (hl : ks.length ≤ maxLen) (hs : ∀ k ∈ ks, k.size ≤ maxLen) :
    Calls Tryz.prog 8 #[v, .int .u64 names] w fun e w' => e = .returned (.bool true) ∧ Below w.heap.size w w' := by
  have hv' := hv
  rcases hv with ⟨rfl, rfl⟩ | ⟨b, off, cap, rfl, hcap, hc⟩
  · have H31 := Lib.hid (fun w' (h : KeysAt w' (.slice none 0 0) []) => t31 (.slice none 0 0) [] w' h hl hs)
    have H32 := Lib.hid (fun w' (h : KeysAt w' (.slice none 0 0) []) => t32 (.slice none 0 0) [] w' h (by simp) (by simp))
    clear hs hl
    go_enter Tryz.func8, Tryz.ntmps8
    go_wp2_with (first | (go_at_call 31; refine (H31.out _ hv').mono ?_; rintro e w' ⟨r, rfl, hr, rfl⟩; cases r) | (go_at_call 32; refine (H32.out _ hv').mono ?_; rintro e w' ⟨r, rfl, hr2, rfl⟩; cases r))
    · go_ret
      exact ⟨rfl, Below.refl _ _⟩
    · go_ret
      exact ⟨rfl, Below.refl _ _⟩
    · simp at hr2
  · have H31 := Lib.hid (fun w' (h : KeysAt w' (.slice (some ⟨b, off, none⟩) ks.length cap) ks) => t31 _ ks w' h hl hs)
    have H32 := Lib.hid (fun w' (h : KeysAt w' (.slice (some ⟨b, off, none⟩) ks.length cap) ks) hl hs => t32 _ ks w' h hl hs)
    have H34 := Lib.hid (fun w' (h : KeysAt w' (.slice (some ⟨b, off, none⟩) ks.length cap) ks) h0 hl hs => t34 _ ks names w' h hl h0 hs)
    have HC := Lib.hid hc
    clear hs hl hc
    go_enter Tryz.func8, Tryz.ntmps8
    go_wp2_with (first
      | (go_at_call 31; refine (H31.out _ hv').mono ?_; rintro e w' ⟨r, rfl, hr, rfl⟩; cases r)
      | (go_at_call 32; refine (H32.out _ hv' (hr (by simp)).1 (hr (by simp)).2).mono ?_; rintro e w' ⟨r, rfl, hr2, rfl⟩; cases r)
      | (go_at_call 34; refine (H34.out _ hv' (hr2 (by simp)).1 (hr2 (by simp)).2.1 (hr2 (by simp)).2.2).mono ?_; rintro e w1 ⟨⟨o, rfl, hbeg, hos⟩, hb1⟩; have h00 := (hr2 (by simp)).1)
      | (go_at_call 33; refine (t33_as _ _ _ hos hbeg).mono ?_; rintro e w2 ⟨path, force, more, rfl, hb2⟩)
      | (go_at_call 21; refine (t21_as ks[0] _ ((hr2 (by simp)).2.2 _ (List.getElem_mem h00))).mono ?_; rintro e w3 ⟨rfl, hb3⟩; have hb := hb1.trans (hb2.mono hb1.size) |>.trans (hb3.mono (hb1.trans (hb2.mono hb1.size)).size); have hcell := (hb.cell (p := ⟨b, off, none⟩) (World.block_lt_of_cell? w _ (HC.out 0 h00))).trans (HC.out 0 h00)))
    · go_ret
      exact ⟨rfl, Below.refl _ _⟩
    · go_ret
      exact ⟨rfl, Below.refl _ _⟩
    · go_ret
      exact ⟨rfl, hb⟩
end Go.Proofs.YtmffibpbjobhmaaGreatDoor
