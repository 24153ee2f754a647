/-
  PLAIN WORDS ON STRINGS: the first place from an index on at which a byte meets a test.
-/
import Derived.WalkKit
namespace Go.Proofs.YtmffibpbjobhmaaGreatDoor

/-- The first index from i on whose byte meets p; the end of the string if there is none. -/
def scan (p : UInt8 → Bool) (s : ByteArray) (i : Nat) : Nat :=
  if h : i < s.size then if p s[i] then i else scan p s (i + 1) else i
termination_by s.size - i

theorem scan_hit {p : UInt8 → Bool} {s : ByteArray} {i : Nat} (h : i < s.size) (hp : p s[i] = true) : scan p s i = i := by
  rw [scan, dif_pos h, if_pos hp]
theorem scan_miss {p : UInt8 → Bool} {s : ByteArray} {i : Nat} (h : i < s.size) (hp : p s[i] = false) : scan p s i = scan p s (i + 1) := by
  rw [scan, dif_pos h, if_neg (by simp [hp])]
theorem scan_end {p : UInt8 → Bool} {s : ByteArray} {i : Nat} (h : s.size ≤ i) : scan p s i = i := by
  rw [scan, dif_neg (by omega)]
theorem scan_ge (p : UInt8 → Bool) (s : ByteArray) (i : Nat) : i ≤ scan p s i := by
  induction h : s.size - i generalizing i with
  | zero => rw [scan_end (by omega)]; omega
  | succ n ih =>
    have hlt : i < s.size := by omega
    cases hp : p s[i] with
    | true => rw [scan_hit hlt hp]; omega
    | false => rw [scan_miss hlt hp]; have := ih (i + 1) (by omega); omega
theorem scan_le (p : UInt8 → Bool) (s : ByteArray) (i : Nat) (hi : i ≤ s.size) : scan p s i ≤ s.size := by
  induction h : s.size - i generalizing i with
  | zero => rw [scan_end (by omega)]; omega
  | succ n ih =>
    have hlt : i < s.size := by omega
    cases hp : p s[i] with
    | true => rw [scan_hit hlt hp]; omega
    | false => rw [scan_miss hlt hp]; exact ih (i + 1) (by omega) (by omega)
theorem scan_before {p : UInt8 → Bool} {s : ByteArray} {i j : Nat} (h1 : i ≤ j) (h2 : j < scan p s i) (h3 : j < s.size) : p s[j] = false := by
  induction h : s.size - i generalizing i with
  | zero => omega
  | succ n ih =>
    have hlt : i < s.size := by omega
    cases hp : p s[i] with
    | true => rw [scan_hit hlt hp] at h2; omega
    | false =>
      rcases Nat.eq_or_lt_of_le h1 with rfl | h1
      · exact hp
      · rw [scan_miss hlt hp] at h2
        exact ih (by omega) h2 (by omega)
theorem scan_at {p : UInt8 → Bool} {s : ByteArray} {i : Nat} (h : scan p s i < s.size) : p s[scan p s i] = true := by
  induction hn : s.size - i generalizing i with
  | zero => rw [scan_end (by omega)] at h; omega
  | succ n ih =>
    have hlt : i < s.size := by omega
    cases hp : p s[i] with
    | true =>
      have e := scan_hit hlt hp
      simp only [e]; exact hp
    | false =>
      have e := scan_miss hlt hp
      simp only [e] at h ⊢
      exact ih h (by omega)
theorem scan_eq_of {p : UInt8 → Bool} {s : ByteArray} {i j : Nat} (hij : i ≤ j) (hj : j ≤ s.size) (hb : ∀ k (h : k < s.size), i ≤ k → k < j → p s[k] = false)
    (he : ∀ h : j < s.size, p s[j] = true) : scan p s i = j := by
  induction hn : j - i generalizing i with
  | zero =>
    obtain rfl : i = j := by omega
    by_cases h : i < s.size
    · exact scan_hit h (he h)
    · exact scan_end (by omega)
  | succ n ih =>
    rw [scan_miss (by omega) (hb i (by omega) (Nat.le_refl _) (by omega))]
    exact ih (by omega) (fun k h h1 h2 => hb k h (by omega) h2) (by omega)
end Go.Proofs.YtmffibpbjobhmaaGreatDoor
