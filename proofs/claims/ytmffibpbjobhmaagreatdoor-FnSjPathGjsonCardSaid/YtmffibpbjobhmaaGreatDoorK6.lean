/-
  PLAIN LAWS ON BYTES OF A TEXT THAT BEGINS WITH A KEY WRITTEN AS A COMPONENT.
-/
import Derived.Test.YtmffibpbjobhmaaGreatDoorK5
namespace Go.Proofs.YtmffibpbjobhmaaGreatDoor
open Go.RowKit

/-- A byte of a text by what stands ahead of it. -/
theorem byte_at {s : ByteArray} {A B : List UInt8} {c : UInt8} (h : s.data.toList = A ++ c :: B) : ∃ hlt : A.length < s.size, s[A.length] = c := by
  have hl : s.size = A.length + (B.length + 1) := by rw [← data_length, h]; simp
  refine ⟨by omega, ?_⟩
  have h1 : s.data.toList[A.length]? = some c := by rw [h]; simp
  have h2 : s.data.toList[A.length]? = some s[A.length] := by
    rw [List.getElem?_eq_getElem (by rw [data_length]; omega)]
    rfl
  rw [h2] at h1
  exact Option.some.inj h1

theorem extract_take (s : ByteArray) (k : Nat) (_h : k ≤ s.size) : (s.extract 0 k).data.toList = s.data.toList.take k := by
  simp
theorem ofList (s : ByteArray) : (⟨s.data.toList.toArray⟩ : ByteArray) = s := by cases s; simp

/-- Where the bytes up to j stand for themselves: the text so far is the key so far. -/
theorem plain_split (key : List UInt8) (j : Nat) (hp : ∀ b ∈ key.take j, pathN b.toNat = true) : esc key = key.take j ++ esc (key.drop j) := by
  conv => lhs; rw [← List.take_append_drop j key]
  rw [esc_append, esc_plain _ hp]
theorem esc_split (key : List UInt8) (j : Nat) : esc key = esc (key.take j) ++ esc (key.drop j) := by
  conv => lhs; rw [← List.take_append_drop j key]
  rw [esc_append]
theorem drop_cons (key : List UInt8) (j : Nat) (h : j < key.length) : key.drop j = key[j] :: key.drop (j + 1) := List.drop_eq_getElem_cons h
theorem take_snocL (key : List UInt8) (j : Nat) (h : j < key.length) : key.take (j + 1) = key.take j ++ [key[j]] := List.take_succ_eq_append_getElem h

/-- At byte j of the key, all ahead plain. -/
theorem at_plain {s : ByteArray} {key rest : List UInt8} (hs : s.data.toList = esc key ++ rest) {j : Nat} (hj : j < key.length) (hp : ∀ b ∈ key.take j, pathN b.toNat = true) (h : pathN key[j].toNat = true) :
    ∃ hlt : j < s.size, s[j] = key[j] := by
  have e : s.data.toList = key.take j ++ key[j] :: (esc (key.drop (j + 1)) ++ rest) := by
    rw [hs, plain_split key j hp, drop_cons key j hj, esc, if_pos h]
    simp
  have hl : (key.take j).length = j := by rw [List.length_take]; omega
  obtain ⟨h1, h2⟩ := byte_at e
  simp only [hl] at h1 h2
  exact ⟨h1, h2⟩
theorem at_first {s : ByteArray} {key rest : List UInt8} (hs : s.data.toList = esc key ++ rest) {j : Nat} (hj : j < key.length) (hp : ∀ b ∈ key.take j, pathN b.toNat = true) (h : pathN key[j].toNat = false) :
    (∃ hlt : j < s.size, s[j] = 92) ∧ ∃ hlt : j + 1 < s.size, s[j + 1] = key[j] := by
  have e : s.data.toList = key.take j ++ 92 :: (key[j] :: (esc (key.drop (j + 1)) ++ rest)) := by
    rw [hs, plain_split key j hp, drop_cons key j hj, esc, if_neg (by simp [h])]
    simp
  have e2 : s.data.toList = (key.take j ++ [92]) ++ key[j] :: (esc (key.drop (j + 1)) ++ rest) := by rw [e]; simp
  have hl : (key.take j).length = j := by rw [List.length_take]; omega
  have hl2 : (key.take j ++ [92]).length = j + 1 := by simp; omega
  obtain ⟨h1, h2⟩ := byte_at e
  obtain ⟨h3, h4⟩ := byte_at e2
  simp only [hl] at h1 h2
  simp only [hl2] at h3 h4
  exact ⟨⟨h1, h2⟩, ⟨h3, h4⟩⟩
theorem at_end {s : ByteArray} {key rest : List UInt8} (hs : s.data.toList = esc key ++ rest) (hr : rest = [] ∨ ∃ r, rest = 46 :: r) :
    (s.size = (esc key).length ∧ s.data.toList = esc key) ∨ ∃ hlt : (esc key).length < s.size, s[(esc key).length] = 46 := by
  rcases hr with rfl | ⟨r, rfl⟩
  · left
    rw [List.append_nil] at hs
    exact ⟨by rw [← data_length, hs], hs⟩
  · right
    exact byte_at hs
theorem esc_take_len {key : List UInt8} {j : Nat} : (esc (key.take j)).length ≤ (esc key).length := by
  rw [esc_split key j, List.length_append]; omega
theorem at_esc_plain {s : ByteArray} {key rest : List UInt8} (hs : s.data.toList = esc key ++ rest) {j : Nat} (hj : j < key.length) (h : pathN key[j].toNat = true) :
    ∃ hlt : (esc (key.take j)).length < s.size, s[(esc (key.take j)).length] = key[j] := by
  have e : s.data.toList = esc (key.take j) ++ key[j] :: (esc (key.drop (j + 1)) ++ rest) := by
    rw [hs, esc_split key j, drop_cons key j hj, esc, if_pos h]
    simp
  exact byte_at e
theorem at_esc_back {s : ByteArray} {key rest : List UInt8} (hs : s.data.toList = esc key ++ rest) {j : Nat} (hj : j < key.length) (h : pathN key[j].toNat = false) :
    (∃ hlt : (esc (key.take j)).length < s.size, s[(esc (key.take j)).length] = 92) ∧ ∃ hlt : (esc (key.take j)).length + 1 < s.size, s[(esc (key.take j)).length + 1] = key[j] := by
  have e : s.data.toList = esc (key.take j) ++ 92 :: (key[j] :: (esc (key.drop (j + 1)) ++ rest)) := by
    rw [hs, esc_split key j, drop_cons key j hj, esc, if_neg (by simp [h])]
    simp
  have e2 : s.data.toList = (esc (key.take j) ++ [92]) ++ key[j] :: (esc (key.drop (j + 1)) ++ rest) := by rw [e]; simp
  have hl2 : (esc (key.take j) ++ [92]).length = (esc (key.take j)).length + 1 := by simp
  obtain ⟨h3, h4⟩ := byte_at e2
  simp only [hl2] at h3 h4
  exact ⟨byte_at e, ⟨h3, h4⟩⟩
end Go.Proofs.YtmffibpbjobhmaaGreatDoor
