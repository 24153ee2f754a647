/-
  gjson.parseObjectPath of one escaped component: the part is the key, and nothing else.
-/
import Derived.Test.YtmffibpbjobhmaaGreatDoorK7
import Derived.Test.YtmffibpbjobhmaaGreatDoorM4
namespace Go.Proofs.YtmffibpbjobhmaaGreatDoor
open Go.RowKit

/-- A row of bytes of a call and its record. -/
structure One (w0 w : World) (vE : Value) (x : List UInt8) : Prop where
  below : Below w0.heap.size w0 w
  big : w0.heap.size + 1 ≤ w.heap.size
  r0 : w.heap[w0.heap.size]? = some (.cells #[.string ⟨#[]⟩, .string ⟨#[]⟩, .string ⟨#[]⟩, .bool false, .bool false, .bool false] 122)
  e : ownB w (w0.heap.size + 1) vE x

theorem row6 {w : World} {g : Nat} {a b c d e f : Value} {t : TypeId} (h : w.heap[g]? = some (.cells #[a, b, c, d, e, f] t)) :
    (w.cell? ⟨g, 0, none⟩ = some a ∧ w.cell? ⟨g, 1, none⟩ = some b ∧ w.cell? ⟨g, 2, none⟩ = some c ∧ w.cell? ⟨g, 3, none⟩ = some d ∧ w.cell? ⟨g, 4, none⟩ = some e ∧ w.cell? ⟨g, 5, none⟩ = some f) ∧
    ∀ i, w.frozen? ⟨g, i, none⟩ = false := by
  refine ⟨⟨?_, ?_, ?_, ?_, ?_, ?_⟩, fun i => ?_⟩ <;> simp [World.cell?, World.frozen?, h]

theorem One.app {w0 w w' : World} {vE v' : Value} {x x' : List UInt8} {o : Obj} (h : One w0 w vE x)
    (ho : ownB w' (w0.heap.size + 1) v' x') (hg : (w.alloc o).grownBy w' vE.ownBlock) : One w0 w' v' x' := by
  have hs := hg.size
  have hz : (w.alloc o).heap.size = w.heap.size + 1 := by simp
  have hbig := h.big
  have e1 := h.e.alloc o
  refine ⟨e1.below (h.below.alloc (by omega) _) hg (by omega) (by omega), by omega, ?_, ho⟩
  rw [old_row hg e1 (by omega) (by omega), Below.heap_alloc _ _ _ (by omega)]; exact h.r0
theorem One.start {w0 w1 : World} {vE : Value} {x : List UInt8} (hE : ownB w1 (w0.heap.size + 1) vE x)
    (hEg : (w0.alloc (.cells #[.string ⟨#[]⟩, .string ⟨#[]⟩, .string ⟨#[]⟩, .bool false, .bool false, .bool false] 122)).grownBy w1 none) : One w0 w1 vE x := by
  have s1 := hEg.size
  have hz : (w0.alloc (.cells #[.string ⟨#[]⟩, .string ⟨#[]⟩, .string ⟨#[]⟩, .bool false, .bool false, .bool false] 122)).heap.size = w0.heap.size + 1 := by simp
  refine ⟨((Below.refl _ _).alloc (Nat.le_refl _) _).grown hEg (by omega) (by simp), by omega, ?_, hE⟩
  rw [hEg.block _ (by omega) (by simp)]
  exact heap_alloc_new w0 _

set_option maxHeartbeats 8000000 in
set_option maxRecDepth 100000 in
theorem t81_esc (p : ByteArray) (key : List UInt8) (w : World) (hps : p.size ≤ 300000) (hp : p.data.toList = esc key) :
    Calls Tryz.prog 81 #[.string p] w fun e w' => e = .returned (objV ⟨key.toArray⟩ emptyB emptyB false false false) ∧ Below w.heap.size w w' := by
  have HP : Hid (p.data.toList = esc key ++ []) := by unfold Hid; rw [List.append_nil]; exact hp
  have HS : Hid (p.size = (esc key).length) := by unfold Hid; rw [← data_length, hp]
  clear hp
  go_enter Tryz.func81, Tryz.ntmps81
  go_wp2
  go_loop [3] (fun i => ∃ j : Nat, j ≤ key.length ∧ i = .int .i64 j ∧ Hid (∀ b ∈ key.take j, pathN b.toNat = true)) (fun i => key.length - (intOf i).toNat)
  case atStart => exact ⟨0, by omega, rfl, fun b hb => by simp at hb⟩
  case round =>
    obtain ⟨j, hj, rfl, HB⟩ := hrel
    by_cases hlt : j < key.length
    · cases hpn : pathN key[j].toNat with
      | true =>
        obtain ⟨hjs, hjb⟩ := at_plain HP.out hlt HB.out hpn
        have HN : Hid (∀ b ∈ key.take (j + 1), pathN b.toNat = true) := fun b hb => by
          rw [take_snocL key j hlt] at hb
          rcases List.mem_append.1 hb with h | h
          · exact HB.out b h
          · obtain rfl := List.mem_singleton.1 h
            exact hpn
        rw [← hjb] at hpn
        have hno := pathN_not _ hpn
        have e1 : ((p[j].toNat : Int) == 46) = false := by rw [beq_eq_false_iff_ne]; omega
        have e2 : ((p[j].toNat : Int) == 92) = false := by rw [beq_eq_false_iff_ne]; omega
        have e3 : ((p[j].toNat : Int) == 124) = false := by rw [beq_eq_false_iff_ne]; omega
        have e4 : ((p[j].toNat : Int) == 42) = false := by rw [beq_eq_false_iff_ne]; omega
        have e5 : ((p[j].toNat : Int) == 63) = false := by rw [beq_eq_false_iff_ne]; omega
        clear hpn hjb hno
        go_wp2
        go_round
        case rel => exact ⟨j + 1, by omega, by go_num, HN⟩
        case measure => simp [intOf]; omega
      | false =>
        obtain ⟨⟨hjs, hjb⟩, ⟨hjs1, hjb1⟩⟩ := at_first HP.out hlt HB.out hpn
        have e1 : ((p[j].toNat : Int) == 46) = false := by rw [hjb]; rfl
        have e2 : ((p[j].toNat : Int) == 92) = true := by rw [hjb]; rfl
        have e3 : ((p[j].toNat : Int) == 124) = false := by rw [hjb]; rfl
        have e4 : ((p[j].toNat : Int) == 42) = false := by rw [hjb]; rfl
        have e5 : ((p[j].toNat : Int) == 63) = false := by rw [hjb]; rfl
        have HX0 : Hid ((p.extract 0 j).data.toList = key.take j) := esc_x0 HP.out hlt HB.out
        have HT1 : Hid (key.take j ++ [p[j + 1]] = key.take (j + 1)) := by unfold Hid; rw [hjb1]; exact (take_snocL key j hlt).symm
        have hjl : (key.take j).length = j := by rw [List.length_take]; omega
        have HL : Hid (j + 2 = (esc (key.take (j + 1))).length) := by unfold Hid; rw [esc_take_snoc_no key j hlt hpn, esc_plain _ HB.out]; simp; omega
        have hlen0 : (key.take j).length + 1 ≤ 140737488355328 := by omega
        clear hjl hjb1 hjb hpn
        go_wp2_with (first
          | ((with_reducible refine wpList_conv_B (w.heap.size + 1) (p.extract 0 j) ?_ ?_ ?_ ?_); (focus rfl); (focus (simp [maxLen]; omega)); (focus simp); intro vE w1 hE hEb hEg; rw [HX0.out] at hE; have h2 := One.start hE hEg)
          | (at_builtin; (with_reducible refine wpList_append_B (w.heap.size + 1) _ _ ?_ (h2.e.alloc _) ⟨w1.heap.size, 0, none⟩ p[j + 1] ?_ ?_ ?_ ?_ ?_); (focus rfl); (focus rfl); (focus simp); (focus exact hlen0); (focus (have := h2.big; simp; omega)); intro v3 w3 hown3 hg3 hb3; have h3 := h2.app hown3 hg3))
        rw [HT1.out] at h3
        have hn4 : j + 1 ≤ key.length := by omega
        clear h2 hE hEg hEb hown3 hg3 hb3 hlen0 HX0 HT1 e1 e2 e3 e4 e5
        go_loopw [3, 4] (fun i vE wr => ∃ n l : Nat, n ≤ key.length ∧ Hid (l = (esc (key.take n)).length) ∧ i = .int .i64 l ∧ One w wr vE (key.take n)) (fun i _ _ => p.size - (intOf i).toNat)
        case atStart => exact ⟨j + 1, j + 2, by omega, HL, by go_num, h3⟩
        case round =>
          clear h3 HL HB hlt hj
          obtain ⟨n, l, hn, HL, rfl, h4⟩ := hrel
          by_cases hlt : n < key.length
          · cases hpn : pathN key[n].toNat with
            | true =>
              have hq := at_esc_plain HP.out hlt hpn
              rw [← HL.out] at hq
              obtain ⟨hls, hlb⟩ := hq
              have HT1 : Hid (key.take n ++ [p[l]] = key.take (n + 1)) := by unfold Hid; rw [hlb]; exact (take_snocL key n hlt).symm
              have HL2 : Hid (l + 1 = (esc (key.take (n + 1))).length) := by unfold Hid; rw [esc_take_snoc_yes key n hlt hpn, List.length_append, ← HL.out]; rfl
              have hlen0 : (key.take n).length + 1 ≤ 140737488355328 := by have := esc_length' (key.take n); rw [← HL.out] at this; omega
              rw [← hlb] at hpn
              have hno := pathN_not _ hpn
              have e1 : ((p[l].toNat : Int) == 46) = false := by rw [beq_eq_false_iff_ne]; omega
              have e2 : ((p[l].toNat : Int) == 92) = false := by rw [beq_eq_false_iff_ne]; omega
              have e3 : ((p[l].toNat : Int) == 124) = false := by rw [beq_eq_false_iff_ne]; omega
              have e4 : ((p[l].toNat : Int) == 42) = false := by rw [beq_eq_false_iff_ne]; omega
              have e5 : ((p[l].toNat : Int) == 63) = false := by rw [beq_eq_false_iff_ne]; omega
              clear hpn hlb hno
              go_wp2_with (at_builtin; (with_reducible refine wpList_append_B (w.heap.size + 1) _ _ ?_ (h4.e.alloc _) ⟨wr.heap.size, 0, none⟩ p[l] ?_ ?_ ?_ ?_ ?_); (focus rfl); (focus rfl); (focus simp); (focus exact hlen0); (focus (have := h4.big; simp; omega)); intro v5 w5 hown5 hg5 hb5; have h5 := h4.app hown5 hg5)
              rw [HT1.out] at h5
              go_roundw
              case rel => exact ⟨n + 1, l + 1, by omega, HL2, by go_num, h5⟩
              case measure => simp [intOf]; omega
            | false =>
              have hq := at_esc_back HP.out hlt hpn
              rw [← HL.out] at hq
              obtain ⟨⟨hls, hlb⟩, hls1, hlb1⟩ := hq
              have HT1 : Hid (key.take n ++ [p[l + 1]] = key.take (n + 1)) := by unfold Hid; rw [hlb1]; exact (take_snocL key n hlt).symm
              have HL2 : Hid (l + 2 = (esc (key.take (n + 1))).length) := by unfold Hid; rw [esc_take_snoc_no key n hlt hpn, List.length_append, List.length_append, ← HL.out]; rfl
              have hlen0 : (key.take n).length + 1 ≤ 140737488355328 := by have := esc_length' (key.take n); rw [← HL.out] at this; omega
              have e2 : ((p[l].toNat : Int) == 92) = true := by rw [hlb]; rfl
              clear hpn hlb hlb1
              go_wp2_with (at_builtin; (with_reducible refine wpList_append_B (w.heap.size + 1) _ _ ?_ (h4.e.alloc _) ⟨wr.heap.size, 0, none⟩ p[l + 1] ?_ ?_ ?_ ?_ ?_); (focus rfl); (focus rfl); (focus simp); (focus exact hlen0); (focus (have := h4.big; simp; omega)); intro v5 w5 hown5 hg5 hb5; have h5 := h4.app hown5 hg5)
              rw [HT1.out] at h5
              go_roundw
              case rel => exact ⟨n + 1, l + 2, by omega, HL2, by go_num, h5⟩
              case measure => simp [intOf]; omega
          · obtain rfl : n = key.length := by omega
            rw [List.take_length] at h4 HL
            have hc0 := row6 h4.r0
            have hz1 : p.size = l := by rw [HL.out]; exact HS.out
            have hge : ¬ l < p.size := by omega
            clear hlt hn
            go_wp2_with ((with_reducible refine wpList_str_B (w.heap.size + 1) _ _ ?_ h4.e ?_); focus rfl)
            exact bodyPost_ret (v := objV ⟨key.toArray⟩ emptyB emptyB false false false) (by simp [results, Tryz.results81, go_sem, hc0.1, objV, emptyB]) rfl ⟨rfl, h4.below.setCell (by simp) _⟩
    · obtain rfl : j = key.length := by omega
      have HK : Hid (esc key = key) := plain_all HB.out
      have hps2 : p.size = key.length := by rw [HS.out, HK.out]
      have HM : Hid (p = ⟨key.toArray⟩) := mk_eq (by rw [HP.out, HK.out, List.append_nil])
      have hge : ¬ key.length < p.size := by omega
      clear hlt hj
      go_wp2
      exact bodyPost_ret (v := objV p emptyB emptyB false false false) (by simp [results, Tryz.results81, go_sem, objV, emptyB]) rfl ⟨by rw [HM.out], (Below.refl _ _).alloc (Nat.le_refl _) _⟩
end Go.Proofs.YtmffibpbjobhmaaGreatDoor
