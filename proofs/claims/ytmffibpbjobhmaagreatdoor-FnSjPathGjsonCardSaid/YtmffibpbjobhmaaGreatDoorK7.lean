/-
  sjson.parsePath of a path that begins with a key written as a component: its part is the key, its part for gjson the component.
-/
import Derived.Test.YtmffibpbjobhmaaGreatDoorK6
namespace Go.Proofs.YtmffibpbjobhmaaGreatDoor
open Go.RowKit

theorem t154_yes (n : Nat) (w : World) (h : pathN n = true) : Calls Tryz.prog 154 #[.int .u8 n] w fun e w' => e = .returned (.bool true) ∧ w = w' := by
  have := t154 n w
  rw [pathN_simple n h] at this
  exact this
theorem t154_s (n : Nat) (w : World) (h : simpleN n = true) : Calls Tryz.prog 154 #[.int .u8 n] w fun e w' => e = .returned (.bool true) ∧ w = w' := by
  have := t154 n w
  rw [h] at this
  exact this

/-- What parsePath gives. -/
def PathPost (key : List UInt8) (w : World) (e : Ending) (w' : World) : Prop :=
  ∃ (path : ByteArray) (force more : Bool), e = .returned (.tuple #[.agg #[.string ⟨key.toArray⟩, .string ⟨(esc key).toArray⟩, .string path, .bool force, .bool more], .bool true]) ∧ Below w.heap.size w w'

theorem row5 {w : World} {g : Nat} {a b c d e : Value} {t : TypeId} (h : w.heap[g]? = some (.cells #[a, b, c, d, e] t)) :
    (w.cell? ⟨g, 0, none⟩ = some a ∧ w.cell? ⟨g, 1, none⟩ = some b ∧ w.cell? ⟨g, 2, none⟩ = some c ∧ w.cell? ⟨g, 3, none⟩ = some d ∧ w.cell? ⟨g, 4, none⟩ = some e) ∧
    ∀ i, w.frozen? ⟨g, i, none⟩ = false := by
  refine ⟨⟨?_, ?_, ?_, ?_, ?_⟩, fun i => ?_⟩ <;> simp [World.cell?, World.frozen?, h]

theorem mk_eq {s : ByteArray} {l : List UInt8} (h : s.data.toList = l) : s = ⟨l.toArray⟩ := by rw [← h, ofList]
theorem plain_all {key : List UInt8} (hp : ∀ b ∈ key.take key.length, pathN b.toNat = true) : esc key = key := by
  rw [List.take_length] at hp
  exact esc_plain key hp


/-- Two rows of bytes of a call, apart, and its two records. -/
structure Two (w0 w : World) (r : Array Value) (vE vG : Value) (x y : List UInt8) : Prop where
  below : Below w0.heap.size w0 w
  big : w0.heap.size + 2 ≤ w.heap.size
  r0 : w.heap[w0.heap.size]? = some (.cells #[.string ⟨#[]⟩, .string ⟨#[]⟩, .string ⟨#[]⟩, .bool false, .bool false] 137)
  r1 : w.heap[w0.heap.size + 1]? = some (.cells r 137)
  e : ownB w (w0.heap.size + 2) vE x
  g : ownB w (w0.heap.size + 2) vG y
  ne : ∃ a b, vE.ownBlock = some a ∧ vG.ownBlock = some b ∧ a ≠ b

theorem old_row {w w' : World} {v : Value} {xs : List UInt8} {B k : Nat} (hg : w.grownBy w' v.ownBlock) (h : ownB w B v xs) (hk : k < B) (hkw : k < w.heap.size) : w'.heap[k]? = w.heap[k]? := by
  refine hg.block k hkw fun e => ?_
  have := (h.lt k e.symm).1
  omega

theorem Two.appE {w0 w w' : World} {r : Array Value} {vE vG v' : Value} {x y x' : List UInt8} {o : Obj} (h : Two w0 w r vE vG x y)
    (ho : ownB w' (w0.heap.size + 2) v' x') (hg : (w.alloc o).grownBy w' vE.ownBlock) (hb : v'.ownBlock = vE.ownBlock ∨ v'.ownBlock = some (w.alloc o).heap.size) : Two w0 w' r v' vG x' y := by
  have hs := hg.size
  have hz : (w.alloc o).heap.size = w.heap.size + 1 := by simp
  have hbig := h.big
  have e1 := h.e.alloc o
  obtain ⟨a, b, ha, hbb, hne⟩ := h.ne
  have hbl := (h.g.lt b hbb).2
  have hal := (h.e.lt a ha).2
  refine ⟨e1.below (h.below.alloc (by omega) _) hg (by omega) (by omega), by omega, ?_, ?_, ho, ?_, ?_⟩
  · rw [old_row hg e1 (by omega) (by omega), Below.heap_alloc _ _ _ (by omega)]; exact h.r0
  · rw [old_row hg e1 (by omega) (by omega), Below.heap_alloc _ _ _ (by omega)]; exact h.r1
  · refine h.g.same fun k hk => ?_
    obtain rfl : b = k := by rw [hbb] at hk; exact Option.some.inj hk
    rw [hg.block b (by omega) (by rw [ha]; intro e; exact hne (Option.some.inj e).symm), Below.heap_alloc _ _ _ hbl]
  · rcases hb with hb | hb
    · exact ⟨a, b, hb.trans ha, hbb, hne⟩
    · exact ⟨_, b, hb, hbb, by omega⟩

theorem Two.appG {w0 w w' : World} {r : Array Value} {vE vG v' : Value} {x y y' : List UInt8} {o : Obj} (h : Two w0 w r vE vG x y)
    (ho : ownB w' (w0.heap.size + 2) v' y') (hg : (w.alloc o).grownBy w' vG.ownBlock) (hb : v'.ownBlock = vG.ownBlock ∨ v'.ownBlock = some (w.alloc o).heap.size) : Two w0 w' r vE v' x y' := by
  have hs := hg.size
  have hz : (w.alloc o).heap.size = w.heap.size + 1 := by simp
  have hbig := h.big
  have e1 := h.g.alloc o
  obtain ⟨a, b, ha, hbb, hne⟩ := h.ne
  have hbl := (h.g.lt b hbb).2
  have hal := (h.e.lt a ha).2
  refine ⟨e1.below (h.below.alloc (by omega) _) hg (by omega) (by omega), by omega, ?_, ?_, ?_, ho, ?_⟩
  · rw [old_row hg e1 (by omega) (by omega), Below.heap_alloc _ _ _ (by omega)]; exact h.r0
  · rw [old_row hg e1 (by omega) (by omega), Below.heap_alloc _ _ _ (by omega)]; exact h.r1
  · refine h.e.same fun k hk => ?_
    obtain rfl : a = k := by rw [ha] at hk; exact Option.some.inj hk
    rw [hg.block a (by omega) (by rw [hbb]; intro e; exact hne (Option.some.inj e)), Below.heap_alloc _ _ _ hal]
  · rcases hb with hb | hb
    · exact ⟨a, b, ha, hb.trans hbb, hne⟩
    · exact ⟨a, _, ha, hb, by omega⟩

theorem Two.start {w0 W w1 w2 : World} {r : Array Value} {vE vG : Value} {x y : List UInt8} (hbel : Below w0.heap.size w0 W) (hbig : w0.heap.size + 2 ≤ W.heap.size)
    (h0 : W.heap[w0.heap.size]? = some (.cells #[.string ⟨#[]⟩, .string ⟨#[]⟩, .string ⟨#[]⟩, .bool false, .bool false] 137)) (h1 : W.heap[w0.heap.size + 1]? = some (.cells r 137))
    (hE : ownB w1 (w0.heap.size + 2) vE x) (hEb : vE.ownBlock = some W.heap.size) (hEg : W.grownBy w1 none)
    (hG : ownB w2 (w0.heap.size + 2) vG y) (hGb : vG.ownBlock = some w1.heap.size) (hGg : w1.grownBy w2 none) : Two w0 w2 r vE vG x y := by
  have s1 := hEg.size
  have s2 := hGg.size
  have b1 := (hE.lt _ hEb).2
  refine ⟨(hbel.grown hEg (by omega) (by simp)).grown hGg (by omega) (by simp), by omega, ?_, ?_, ?_, hG, ⟨_, _, hEb, hGb, by omega⟩⟩
  · rw [hGg.block _ (by omega) (by simp), hEg.block _ (by omega) (by simp)]; exact h0
  · rw [hGg.block _ (by omega) (by simp), hEg.block _ (by omega) (by simp)]; exact h1
  · refine hE.same fun k hk => ?_
    have hk' : W.heap.size = k := by rw [hEb] at hk; exact Option.some.inj hk
    rw [hGg.block k (by omega) (by simp)]

theorem two0 (w : World) (A B : Obj) : ((w.alloc A).alloc B).heap[w.heap.size]? = some A := by
  rw [Below.heap_alloc _ _ _ (by simp)]; exact heap_alloc_new w A
theorem two1 (w : World) (A B : Obj) : ((w.alloc A).alloc B).heap[w.heap.size + 1]? = some B := by
  have := heap_alloc_new (w.alloc A) B
  simpa using this
theorem two0s (w : World) (A B : Obj) (v : Value) : (((w.alloc A).alloc B).setCell ⟨w.heap.size + 1, 3, none⟩ v).heap[w.heap.size]? = some A := by
  rw [Below.heap_setCell _ _ _ _ (by simp)]; exact two0 w A B
theorem two1s (w : World) (A : Obj) (a b c d e v : Value) (t : TypeId) : (((w.alloc A).alloc (.cells #[a, b, c, d, e] t)).setCell ⟨w.heap.size + 1, 3, none⟩ v).heap[w.heap.size + 1]? = some (.cells #[a, b, c, v, e] t) := by
  have h := two1 w A (.cells #[a, b, c, d, e] t)
  rw [setCell_eq_setRow _ _ _ _ _ _ _ h, setRow_heap _ _ _ _ _ _ h]
  simp

theorem ownB.setCell {w : World} {base : Nat} {v : Value} {xs : List UInt8} (h : ownB w base v xs) (p : Addr) (u : Value) (hp : p.block < base) : ownB (w.setCell p u) base v xs :=
  h.same fun k hk => Below.heap_setCell w p u k (by have := (h.lt k hk).1; omega)

theorem esc_x0 {s : ByteArray} {key rest : List UInt8} (hs : s.data.toList = esc key ++ rest) {j : Nat} (hj : j < key.length) (hp : ∀ b ∈ key.take j, pathN b.toNat = true) : (s.extract 0 j).data.toList = key.take j := by
  have hl : (key.take j).length = j := by rw [List.length_take]; omega
  rw [ByteArray.data_extract, Array.toList_extract, hs, plain_split key j hp, List.append_assoc]
  simp only [List.extract_eq_take_drop, List.drop_zero, Nat.sub_zero]
  exact List.take_left' hl
theorem esc_x1 {s : ByteArray} {key rest : List UInt8} (hs : s.data.toList = esc key ++ rest) {j : Nat} (hj : j < key.length) (hp : ∀ b ∈ key.take j, pathN b.toNat = true) (hn : pathN key[j].toNat = false) : (s.extract 0 (j + 1)).data.toList = key.take j ++ [92] := by
  have e : esc key ++ rest = (key.take j ++ [92]) ++ (key[j] :: esc (key.drop (j + 1)) ++ rest) := by
    rw [plain_split key j hp, drop_cons key j hj, esc, if_neg (by simp [hn])]; simp
  rw [ByteArray.data_extract, Array.toList_extract, hs, e]
  simp only [List.extract_eq_take_drop, List.drop_zero, Nat.sub_zero]
  exact List.take_left' (by simp; omega)

theorem esc_length' (k : List UInt8) : k.length ≤ (esc k).length := by
  induction k with
  | nil => simp
  | cons b k ih => unfold esc; split <;> simp <;> omega

theorem esc_take_snoc_yes (key : List UInt8) (n : Nat) (h : n < key.length) (hp : pathN key[n].toNat = true) : esc (key.take (n + 1)) = esc (key.take n) ++ [key[n]] := by
  rw [take_snocL key n h, esc_snoc_yes _ _ hp]
theorem esc_take_snoc_no (key : List UInt8) (n : Nat) (h : n < key.length) (hp : pathN key[n].toNat = false) : esc (key.take (n + 1)) = esc (key.take n) ++ [92] ++ [key[n]] := by
  rw [take_snocL key n h, esc_snoc_no _ _ hp, List.append_assoc]; rfl

set_option maxHeartbeats 2000000 in
set_option maxRecDepth 100000 in
theorem t94_nil (s : ByteArray) (w : World) (h0 : s.size = 0) : Calls Tryz.prog 94 #[.string s] w (PathPost [] w) := by
  have hs : s = ⟨#[]⟩ := by cases s; simp [ByteArray.size] at h0; simp [h0]
  subst hs
  clear h0
  go_enter Tryz.func94, Tryz.ntmps94
  go_wp2
  go_loop [5] (fun i => i = .int .i64 0) (fun _ => 0)
  case atStart => rfl
  case round =>
    obtain rfl := hrel
    go_wp2
    exact bodyPost_ret (v := .tuple #[.agg #[.string ⟨#[]⟩, .string ⟨#[]⟩, .string ⟨#[]⟩, .bool false, .bool false], .bool true]) (by simp [results, Tryz.results94, go_sem]) rfl ⟨_, _, _, rfl, ((Below.refl _ _).alloc (Nat.le_refl _) _).alloc (by simp) _⟩

set_option maxHeartbeats 8000000 in
set_option maxRecDepth 100000 in
theorem t94_no (s p : ByteArray) (key rest : List UInt8) (w : World) (hs : s.size ≤ 300000) (h0 : 0 < s.size) (h58 : s[0].toNat ≠ 58) (hsp : s = p) (hp : p.data.toList = esc key ++ rest) (hr : rest = [] ∨ ∃ r, rest = 46 :: r) :
    Calls Tryz.prog 94 #[.string s] w (PathPost key w) := by
  have hps : p.size ≤ 300000 := by rw [← hsp]; exact hs
  have HP := Lib.hid hp
  have HE := Lib.hid (at_end hp hr)
  clear hp hr
  have e58 : ((s[0].toNat : Int) == 58) = false := by rw [beq_eq_false_iff_ne]; omega
  subst hsp
  clear hs h58
  go_enter Tryz.func94, Tryz.ntmps94
  go_wp2
  obtain ⟨p, rfl⟩ : ∃ p, p = s := ⟨_, rfl⟩
  go_loop [5] (fun i => ∃ j : Nat, j ≤ key.length ∧ i = .int .i64 j ∧ Hid (∀ b ∈ key.take j, pathN b.toNat = true)) (fun i => key.length - (intOf i).toNat)
  case atStart => exact ⟨0, by omega, rfl, fun b hb => by simp at hb⟩
  case round =>
    obtain ⟨j, hj, rfl, HB⟩ := hrel
    by_cases hlt : j < key.length
    · cases hpn : pathN key[j].toNat with
      | true =>
        obtain ⟨hjs, hjb⟩ := at_plain HP.out hlt HB.out hpn
        have HN : Hid (∀ b ∈ key.take (j + 1), pathN b.toNat = true) := fun b hb => by
          rw [take_snocL key j hlt] at hb
          rcases List.mem_append.1 hb with h | h
          · exact HB.out b h
          · obtain rfl := List.mem_singleton.1 h
            exact hpn
        rw [← hjb] at hpn
        have hno := pathN_not _ hpn
        have e1 : ((p[j].toNat : Int) == 46) = false := by rw [beq_eq_false_iff_ne]; omega
        have e2 : ((p[j].toNat : Int) == 92) = false := by rw [beq_eq_false_iff_ne]; omega
        have HPN := Lib.hid hpn
        clear hpn hjb hno
        go_wp2_with (go_at_call 154; refine (t154_yes _ _ HPN.out).mono ?_; rintro e w' ⟨rfl, rfl⟩)
        go_round
        case rel => exact ⟨j + 1, by omega, by go_num, HN⟩
        case measure => simp [intOf]; omega
      | false =>
        obtain ⟨⟨hjs, hjb⟩, ⟨hjs1, hjb1⟩⟩ := at_first HP.out hlt HB.out hpn
        have HS154 : Hid (simpleN p[j].toNat = true) := by unfold Hid; rw [hjb]; decide
        have e1 : ((p[j].toNat : Int) == 46) = false := by rw [hjb]; rfl
        have e2 : ((p[j].toNat : Int) == 92) = true := by rw [hjb]; rfl
        have HX0 : Hid ((p.extract 0 j).data.toList = key.take j) := esc_x0 HP.out hlt HB.out
        have HX1 : Hid ((p.extract 0 (j + 1)).data.toList = key.take j ++ [92]) := esc_x1 HP.out hlt HB.out hpn
        have HJ1 := Lib.hid hjb1
        have HT1 : Hid (key.take j ++ [p[j + 1]] = key.take (j + 1)) := by unfold Hid; rw [hjb1]; exact (take_snocL key j hlt).symm
        have HT2 : Hid (key.take j ++ [92] ++ [p[j + 1]] = esc (key.take (j + 1))) := by
          unfold Hid; rw [hjb1, esc_take_snoc_no key j hlt hpn, esc_plain _ HB.out]
        have hjl : (key.take j).length = j := by rw [List.length_take]; omega
        have HL : Hid (j + 2 = (esc (key.take (j + 1))).length) := by unfold Hid; rw [← HT2.out]; simp; omega
        have hlen0 : (key.take j).length + 1 ≤ 140737488355328 := by omega
        have hlen1 : (key.take j ++ [92]).length + 1 ≤ 140737488355328 := by simp; omega
        clear hjl hjb1 hjb hpn
        go_wp2_with (first
          | (go_at_call 154; refine (t154_s _ _ HS154.out).mono ?_; rintro e w' ⟨rfl, rfl⟩)
          | ((with_reducible refine wpList_conv_B (w.heap.size + 2) (p.extract 0 j) ?_ ?_ ?_ ?_); (focus rfl); (focus (simp [maxLen]; omega)); (focus simp); intro vE w1 hE hEb hEg; rw [HX0.out] at hE)
          | ((with_reducible refine wpList_conv_B (w.heap.size + 2) (p.extract 0 (j + 1)) ?_ ?_ ?_ ?_); (focus rfl); (focus (simp [maxLen]; omega)); (focus (have := hEg.size; simp at this; omega)); intro vG w2 hG hGb hGg; rw [HX1.out] at hG; have h2 : Two w w2 #[.string ⟨#[]⟩, .string ⟨#[]⟩, .string ⟨#[]⟩, .bool false, .bool false] vE vG (key.take j) (key.take j ++ [92]) := Two.start (((Below.refl _ _).alloc (Nat.le_refl _) _).alloc (by simp) _) (by simp) (two0 _ _ _) (two1 _ _ _) hE hEb hEg hG hGb hGg)
          | (at_builtin; (with_reducible refine wpList_append_B (w.heap.size + 2) _ _ ?_ (h2.e.alloc _) ⟨w2.heap.size, 0, none⟩ p[j + 1] ?_ ?_ ?_ ?_ ?_); (focus rfl); (focus rfl); (focus simp); (focus exact hlen0); (focus (have := h2.big; simp; omega)); intro v3 w3 hown3 hg3 hb3; have h3 := h2.appE hown3 hg3 hb3)
          | (at_builtin; (with_reducible refine wpList_append_B (w.heap.size + 2) _ _ ?_ (h3.g.alloc _) ⟨w3.heap.size, 0, none⟩ p[j + 1] ?_ ?_ ?_ ?_ ?_); (focus rfl); (focus rfl); (focus simp); (focus exact hlen1); (focus (have := h3.big; simp; omega)); intro v4 w4 hown4 hg4 hb4; have h4 := h3.appG hown4 hg4 hb4))
        obtain ⟨hn4, hm4⟩ : j + 1 ≤ key.length ∧ key.take j ++ [p[j + 1]] = key.take (j + 1) := ⟨by omega, HT1.out⟩
        rw [HT1.out, HT2.out] at h4
        clear h2 h3 hE hEg hEb hG hGb hGg hown3 hg3 hb3 hown4 hg4 hb4 hlen0 hlen1 HX0 HX1 HJ1 HT1 HT2 HS154 hm4 hn4 e1 e2
        go_loopw [5, 6, 7] (fun i vE vG wr => ∃ n l : Nat, n ≤ key.length ∧ Hid (l = (esc (key.take n)).length) ∧ i = .int .i64 l ∧ Two w wr #[.string ⟨#[]⟩, .string ⟨#[]⟩, .string ⟨#[]⟩, .bool false, .bool false] vE vG (key.take n) (esc (key.take n))) (fun i _ _ _ => p.size - (intOf i).toNat)
        case atStart => exact ⟨j + 1, j + 2, by omega, HL, by go_num, h4⟩
        case round =>
          clear h4 HL HB hlt hj
          obtain ⟨n, l, hn, HL, rfl, h4⟩ := hrel
          by_cases hlt : n < key.length
          · cases hpn : pathN key[n].toNat with
            | true =>
              have hq := at_esc_plain HP.out hlt hpn
              rw [← HL.out] at hq
              obtain ⟨hls, hlb⟩ := hq
              have HT1 : Hid (key.take n ++ [p[l]] = key.take (n + 1)) := by unfold Hid; rw [hlb]; exact (take_snocL key n hlt).symm
              have HT2 : Hid (esc (key.take n) ++ [p[l]] = esc (key.take (n + 1))) := by unfold Hid; rw [hlb]; exact (esc_take_snoc_yes key n hlt hpn).symm
              have HL2 : Hid (l + 1 = (esc (key.take (n + 1))).length) := by unfold Hid; rw [← HT2.out, List.length_append, ← HL.out]; rfl
              have hlen1 : (esc (key.take n)).length + 1 ≤ 140737488355328 := by rw [← HL.out]; omega
              have hlen0 : (key.take n).length + 1 ≤ 140737488355328 := by have := esc_length' (key.take n); omega
              rw [← hlb] at hpn
              have hno := pathN_not _ hpn
              have e1 : ((p[l].toNat : Int) == 46) = false := by rw [beq_eq_false_iff_ne]; omega
              have e2 : ((p[l].toNat : Int) == 92) = false := by rw [beq_eq_false_iff_ne]; omega
              have HPN := Lib.hid hpn
              clear hpn hlb hno
              go_wp2_with (first
                | (go_at_call 154; refine (t154_yes _ _ HPN.out).mono ?_; rintro e w' ⟨rfl, rfl⟩)
                | (at_builtin; (with_reducible refine wpList_append_B (w.heap.size + 2) _ _ ?_ (h4.e.alloc _) ⟨wr.heap.size, 0, none⟩ p[l] ?_ ?_ ?_ ?_ ?_); (focus rfl); (focus rfl); (focus simp); (focus exact hlen0); (focus (have := h4.big; simp; omega)); intro v5 w5 hown5 hg5 hb5; have h5 := h4.appE hown5 hg5 hb5)
                | (at_builtin; (with_reducible refine wpList_append_B (w.heap.size + 2) _ _ ?_ (h5.g.alloc _) ⟨w5.heap.size, 0, none⟩ p[l] ?_ ?_ ?_ ?_ ?_); (focus rfl); (focus rfl); (focus simp); (focus exact hlen1); (focus (have := h5.big; simp; omega)); intro v6 w6 hown6 hg6 hb6; have h6 := h5.appG hown6 hg6 hb6))
              rw [HT1.out, HT2.out] at h6
              go_roundw
              case rel => exact ⟨n + 1, l + 1, by omega, HL2, by go_num, h6⟩
              case measure => simp [intOf]; omega
            | false =>
              have hq := at_esc_back HP.out hlt hpn
              rw [← HL.out] at hq
              obtain ⟨⟨hls, hlb⟩, hls1, hlb1⟩ := hq
              have HT1 : Hid (key.take n ++ [p[l + 1]] = key.take (n + 1)) := by unfold Hid; rw [hlb1]; exact (take_snocL key n hlt).symm
              have HT2 : Hid (esc (key.take n) ++ [92] ++ [p[l + 1]] = esc (key.take (n + 1))) := by unfold Hid; rw [hlb1]; exact (esc_take_snoc_no key n hlt hpn).symm
              have HL2 : Hid (l + 2 = (esc (key.take (n + 1))).length) := by unfold Hid; rw [← HT2.out, List.length_append, List.length_append, ← HL.out]; rfl
              have hlen1 : (esc (key.take n)).length + 1 ≤ 140737488355328 := by rw [← HL.out]; omega
              have hlen2 : (esc (key.take n) ++ [92]).length + 1 ≤ 140737488355328 := by rw [List.length_append, ← HL.out]; simp; omega
              have hlen0 : (key.take n).length + 1 ≤ 140737488355328 := by have := esc_length' (key.take n); omega
              have e2 : ((p[l].toNat : Int) == 92) = true := by rw [hlb]; rfl
              clear hpn hlb hlb1
              go_wp2_with (first
                | (at_builtin; (with_reducible refine wpList_append_B (w.heap.size + 2) _ _ ?_ (h4.g.alloc _) ⟨wr.heap.size, 0, none⟩ 92 ?_ ?_ ?_ ?_ ?_); (focus rfl); (focus rfl); (focus simp); (focus exact hlen1); (focus (have := h4.big; simp; omega)); intro v5 w5 hown5 hg5 hb5; have h5 := h4.appG hown5 hg5 hb5)
                | (at_builtin; (with_reducible refine wpList_append_B (w.heap.size + 2) _ _ ?_ (h5.e.alloc _) ⟨w5.heap.size, 0, none⟩ p[l + 1] ?_ ?_ ?_ ?_ ?_); (focus rfl); (focus rfl); (focus simp); (focus exact hlen0); (focus (have := h5.big; simp; omega)); intro v6 w6 hown6 hg6 hb6; have h6 := h5.appE hown6 hg6 hb6)
                | (at_builtin; (with_reducible refine wpList_append_B (w.heap.size + 2) _ _ ?_ (h6.g.alloc _) ⟨w6.heap.size, 0, none⟩ p[l + 1] ?_ ?_ ?_ ?_ ?_); (focus rfl); (focus rfl); (focus simp); (focus exact hlen2); (focus (have := h6.big; simp; omega)); intro v7 w7 hown7 hg7 hb7; have h7 := h6.appG hown7 hg7 hb7))
              rw [HT1.out, HT2.out] at h7
              go_roundw
              case rel => exact ⟨n + 1, l + 2, by omega, HL2, by go_num, h7⟩
              case measure => simp [intOf]; omega
          · obtain rfl : n = key.length := by omega
            rw [List.take_length] at h4 HL
            have hc0 := row5 h4.r0
            have hc1 := row5 h4.r1
            rcases HE.out with ⟨hz1, hz2⟩ | ⟨hz1, hz2⟩
            · rw [← HL.out] at hz1
              have hge : ¬ l < p.size := by omega
              clear hz2 hlt hn
              go_wp2_with (first
                | ((with_reducible refine wpList_str_B (w.heap.size + 2) _ _ ?_ h4.e ?_); focus rfl)
                | ((with_reducible refine wpList_str_B (w.heap.size + 2) _ _ ?_ (h4.g.setCell ⟨w.heap.size + 1, 0, none⟩ _ ?_) ?_); (focus rfl); (focus simp)))
              exact bodyPost_ret (v := .tuple #[.agg #[.string ⟨key.toArray⟩, .string ⟨(esc key).toArray⟩, .string ⟨#[]⟩, .bool false, .bool false], .bool true]) (by simp [results, Tryz.results94, go_sem, hc0.1]) rfl ⟨_, _, _, rfl, by
                repeat (refine Below.setCell ?_ (by simp) _)
                exact h4.below⟩
            · simp only [← HL.out] at hz1 hz2
              have e1 : ((p[l].toNat : Int) == 46) = true := by rw [hz2]; rfl
              have e2 : ((p[l].toNat : Int) == 92) = false := by rw [hz2]; rfl
              clear hz2 hlt hn
              go_wp2_with (first
                | ((with_reducible refine wpList_str_B (w.heap.size + 2) _ _ ?_ h4.e ?_); focus rfl)
                | ((with_reducible refine wpList_str_B (w.heap.size + 2) _ _ ?_ (h4.g.setCell ⟨w.heap.size + 1, 0, none⟩ _ ?_) ?_); (focus rfl); (focus simp)))
              exact bodyPost_ret (v := .tuple #[.agg #[.string ⟨key.toArray⟩, .string ⟨(esc key).toArray⟩, .string (p.extract (l + 1) p.size), .bool false, .bool true], .bool true]) (by simp [results, Tryz.results94, go_sem, hc0.1]) rfl ⟨_, _, _, rfl, by
                repeat (refine Below.setCell ?_ (by simp) _)
                exact h4.below⟩
    · obtain rfl : j = key.length := by omega
      have HK : Hid (esc key = key) := plain_all HB.out
      rcases HE.out with ⟨h1, h2⟩ | ⟨h1, h2⟩
      · have hps2 : p.size = key.length := by rw [h1, HK.out]
        have HM : Hid (p = ⟨key.toArray⟩) := mk_eq (by rw [h2, HK.out])
        have hge : ¬ key.length < p.size := by omega
        have HZ := Lib.hid hps2
        clear h1 h2 hps2 hlt hj
        go_wp2
        exact bodyPost_ret (v := .tuple #[.agg #[.string p, .string p, .string ⟨#[]⟩, .bool false, .bool false], .bool true]) (by simp [results, Tryz.results94, go_sem]) rfl ⟨_, _, _, by rw [HK.out, HM.out], ((Below.refl _ _).alloc (Nat.le_refl _) _).alloc (by simp) _⟩
      · simp only [HK.out] at h1 h2
        have e1 : ((p[key.length].toNat : Int) == 46) = true := by rw [h2]; rfl
        have HM : Hid (p.extract 0 key.length = ⟨key.toArray⟩) := mk_eq (by
          rw [extract_take _ _ (by omega), HP.out, HK.out, List.take_left])
        clear h2 hlt hj
        go_wp2
        exact bodyPost_ret (v := .tuple #[.agg #[.string (p.extract 0 key.length), .string (p.extract 0 key.length), .string (p.extract (key.length + 1) p.size), .bool false, .bool true], .bool true]) (by simp [results, Tryz.results94, go_sem]) rfl ⟨_, _, _, by rw [HK.out, HM.out], ((Below.refl _ _).alloc (Nat.le_refl _) _).alloc (by simp) _⟩

set_option maxHeartbeats 8000000 in
set_option maxRecDepth 100000 in
theorem t94_yes (s p : ByteArray) (key rest : List UInt8) (w : World) (hs : s.size ≤ 300000) (h0 : 0 < s.size) (h58 : s[0].toNat = 58) (hsp : s.extract 1 s.size = p) (hp : p.data.toList = esc key ++ rest) (hr : rest = [] ∨ ∃ r, rest = 46 :: r) :
    Calls Tryz.prog 94 #[.string s] w (PathPost key w) := by
  have hps : p.size ≤ 300000 := by rw [← hsp, ByteArray.size_extract]; omega
  have HP := Lib.hid hp
  have HE := Lib.hid (at_end hp hr)
  clear hp hr
  have e58 : ((s[0].toNat : Int) == 58) = true := by rw [beq_iff_eq]; omega
  have HSP := Lib.hid hsp
  clear h58 hsp
  go_enter Tryz.func94, Tryz.ntmps94
  go_wp2
  rw [HSP.out]
  go_loop [5] (fun i => ∃ j : Nat, j ≤ key.length ∧ i = .int .i64 j ∧ Hid (∀ b ∈ key.take j, pathN b.toNat = true)) (fun i => key.length - (intOf i).toNat)
  case atStart => exact ⟨0, by omega, rfl, fun b hb => by simp at hb⟩
  case round =>
    obtain ⟨j, hj, rfl, HB⟩ := hrel
    by_cases hlt : j < key.length
    · cases hpn : pathN key[j].toNat with
      | true =>
        obtain ⟨hjs, hjb⟩ := at_plain HP.out hlt HB.out hpn
        have HN : Hid (∀ b ∈ key.take (j + 1), pathN b.toNat = true) := fun b hb => by
          rw [take_snocL key j hlt] at hb
          rcases List.mem_append.1 hb with h | h
          · exact HB.out b h
          · obtain rfl := List.mem_singleton.1 h
            exact hpn
        rw [← hjb] at hpn
        have hno := pathN_not _ hpn
        have e1 : ((p[j].toNat : Int) == 46) = false := by rw [beq_eq_false_iff_ne]; omega
        have e2 : ((p[j].toNat : Int) == 92) = false := by rw [beq_eq_false_iff_ne]; omega
        have HPN := Lib.hid hpn
        clear hpn hjb hno
        go_wp2_with (go_at_call 154; refine (t154_yes _ _ HPN.out).mono ?_; rintro e w' ⟨rfl, rfl⟩)
        go_round
        case rel => exact ⟨j + 1, by omega, by go_num, HN⟩
        case measure => simp [intOf]; omega
      | false =>
        obtain ⟨⟨hjs, hjb⟩, ⟨hjs1, hjb1⟩⟩ := at_first HP.out hlt HB.out hpn
        have HS154 : Hid (simpleN p[j].toNat = true) := by unfold Hid; rw [hjb]; decide
        have e1 : ((p[j].toNat : Int) == 46) = false := by rw [hjb]; rfl
        have e2 : ((p[j].toNat : Int) == 92) = true := by rw [hjb]; rfl
        have HX0 : Hid ((p.extract 0 j).data.toList = key.take j) := esc_x0 HP.out hlt HB.out
        have HX1 : Hid ((p.extract 0 (j + 1)).data.toList = key.take j ++ [92]) := esc_x1 HP.out hlt HB.out hpn
        have HJ1 := Lib.hid hjb1
        have HT1 : Hid (key.take j ++ [p[j + 1]] = key.take (j + 1)) := by unfold Hid; rw [hjb1]; exact (take_snocL key j hlt).symm
        have HT2 : Hid (key.take j ++ [92] ++ [p[j + 1]] = esc (key.take (j + 1))) := by
          unfold Hid; rw [hjb1, esc_take_snoc_no key j hlt hpn, esc_plain _ HB.out]
        have hjl : (key.take j).length = j := by rw [List.length_take]; omega
        have HL : Hid (j + 2 = (esc (key.take (j + 1))).length) := by unfold Hid; rw [← HT2.out]; simp; omega
        have hlen0 : (key.take j).length + 1 ≤ 140737488355328 := by omega
        have hlen1 : (key.take j ++ [92]).length + 1 ≤ 140737488355328 := by simp; omega
        clear hjl hjb1 hjb hpn
        go_wp2_with (first
          | (go_at_call 154; refine (t154_s _ _ HS154.out).mono ?_; rintro e w' ⟨rfl, rfl⟩)
          | ((with_reducible refine wpList_conv_B (w.heap.size + 2) (p.extract 0 j) ?_ ?_ ?_ ?_); (focus rfl); (focus (simp [maxLen]; omega)); (focus simp); intro vE w1 hE hEb hEg; rw [HX0.out] at hE)
          | ((with_reducible refine wpList_conv_B (w.heap.size + 2) (p.extract 0 (j + 1)) ?_ ?_ ?_ ?_); (focus rfl); (focus (simp [maxLen]; omega)); (focus (have := hEg.size; simp at this; omega)); intro vG w2 hG hGb hGg; rw [HX1.out] at hG; have h2 : Two w w2 #[.string ⟨#[]⟩, .string ⟨#[]⟩, .string ⟨#[]⟩, .bool true, .bool false] vE vG (key.take j) (key.take j ++ [92]) := Two.start (((Below.refl _ _).alloc (Nat.le_refl _) _).alloc (by simp) _) (by simp) (two0 _ _ _) (two1 _ _ _) hE hEb hEg hG hGb hGg)
          | (at_builtin; (with_reducible refine wpList_append_B (w.heap.size + 2) _ _ ?_ (h2.e.alloc _) ⟨w2.heap.size, 0, none⟩ p[j + 1] ?_ ?_ ?_ ?_ ?_); (focus rfl); (focus rfl); (focus simp); (focus exact hlen0); (focus (have := h2.big; simp; omega)); intro v3 w3 hown3 hg3 hb3; have h3 := h2.appE hown3 hg3 hb3)
          | (at_builtin; (with_reducible refine wpList_append_B (w.heap.size + 2) _ _ ?_ (h3.g.alloc _) ⟨w3.heap.size, 0, none⟩ p[j + 1] ?_ ?_ ?_ ?_ ?_); (focus rfl); (focus rfl); (focus simp); (focus exact hlen1); (focus (have := h3.big; simp; omega)); intro v4 w4 hown4 hg4 hb4; have h4 := h3.appG hown4 hg4 hb4))
        obtain ⟨hn4, hm4⟩ : j + 1 ≤ key.length ∧ key.take j ++ [p[j + 1]] = key.take (j + 1) := ⟨by omega, HT1.out⟩
        rw [HT1.out, HT2.out] at h4
        clear h2 h3 hE hEg hEb hG hGb hGg hown3 hg3 hb3 hown4 hg4 hb4 hlen0 hlen1 HX0 HX1 HJ1 HT1 HT2 HS154 hm4 hn4 e1 e2
        go_loopw [5, 6, 7] (fun i vE vG wr => ∃ n l : Nat, n ≤ key.length ∧ Hid (l = (esc (key.take n)).length) ∧ i = .int .i64 l ∧ Two w wr #[.string ⟨#[]⟩, .string ⟨#[]⟩, .string ⟨#[]⟩, .bool true, .bool false] vE vG (key.take n) (esc (key.take n))) (fun i _ _ _ => p.size - (intOf i).toNat)
        case atStart => exact ⟨j + 1, j + 2, by omega, HL, by go_num, h4⟩
        case round =>
          clear h4 HL HB hlt hj
          obtain ⟨n, l, hn, HL, rfl, h4⟩ := hrel
          by_cases hlt : n < key.length
          · cases hpn : pathN key[n].toNat with
            | true =>
              have hq := at_esc_plain HP.out hlt hpn
              rw [← HL.out] at hq
              obtain ⟨hls, hlb⟩ := hq
              have HT1 : Hid (key.take n ++ [p[l]] = key.take (n + 1)) := by unfold Hid; rw [hlb]; exact (take_snocL key n hlt).symm
              have HT2 : Hid (esc (key.take n) ++ [p[l]] = esc (key.take (n + 1))) := by unfold Hid; rw [hlb]; exact (esc_take_snoc_yes key n hlt hpn).symm
              have HL2 : Hid (l + 1 = (esc (key.take (n + 1))).length) := by unfold Hid; rw [← HT2.out, List.length_append, ← HL.out]; rfl
              have hlen1 : (esc (key.take n)).length + 1 ≤ 140737488355328 := by rw [← HL.out]; omega
              have hlen0 : (key.take n).length + 1 ≤ 140737488355328 := by have := esc_length' (key.take n); omega
              rw [← hlb] at hpn
              have hno := pathN_not _ hpn
              have e1 : ((p[l].toNat : Int) == 46) = false := by rw [beq_eq_false_iff_ne]; omega
              have e2 : ((p[l].toNat : Int) == 92) = false := by rw [beq_eq_false_iff_ne]; omega
              have HPN := Lib.hid hpn
              clear hpn hlb hno
              go_wp2_with (first
                | (go_at_call 154; refine (t154_yes _ _ HPN.out).mono ?_; rintro e w' ⟨rfl, rfl⟩)
                | (at_builtin; (with_reducible refine wpList_append_B (w.heap.size + 2) _ _ ?_ (h4.e.alloc _) ⟨wr.heap.size, 0, none⟩ p[l] ?_ ?_ ?_ ?_ ?_); (focus rfl); (focus rfl); (focus simp); (focus exact hlen0); (focus (have := h4.big; simp; omega)); intro v5 w5 hown5 hg5 hb5; have h5 := h4.appE hown5 hg5 hb5)
                | (at_builtin; (with_reducible refine wpList_append_B (w.heap.size + 2) _ _ ?_ (h5.g.alloc _) ⟨w5.heap.size, 0, none⟩ p[l] ?_ ?_ ?_ ?_ ?_); (focus rfl); (focus rfl); (focus simp); (focus exact hlen1); (focus (have := h5.big; simp; omega)); intro v6 w6 hown6 hg6 hb6; have h6 := h5.appG hown6 hg6 hb6))
              rw [HT1.out, HT2.out] at h6
              go_roundw
              case rel => exact ⟨n + 1, l + 1, by omega, HL2, by go_num, h6⟩
              case measure => simp [intOf]; omega
            | false =>
              have hq := at_esc_back HP.out hlt hpn
              rw [← HL.out] at hq
              obtain ⟨⟨hls, hlb⟩, hls1, hlb1⟩ := hq
              have HT1 : Hid (key.take n ++ [p[l + 1]] = key.take (n + 1)) := by unfold Hid; rw [hlb1]; exact (take_snocL key n hlt).symm
              have HT2 : Hid (esc (key.take n) ++ [92] ++ [p[l + 1]] = esc (key.take (n + 1))) := by unfold Hid; rw [hlb1]; exact (esc_take_snoc_no key n hlt hpn).symm
              have HL2 : Hid (l + 2 = (esc (key.take (n + 1))).length) := by unfold Hid; rw [← HT2.out, List.length_append, List.length_append, ← HL.out]; rfl
              have hlen1 : (esc (key.take n)).length + 1 ≤ 140737488355328 := by rw [← HL.out]; omega
              have hlen2 : (esc (key.take n) ++ [92]).length + 1 ≤ 140737488355328 := by rw [List.length_append, ← HL.out]; simp; omega
              have hlen0 : (key.take n).length + 1 ≤ 140737488355328 := by have := esc_length' (key.take n); omega
              have e2 : ((p[l].toNat : Int) == 92) = true := by rw [hlb]; rfl
              clear hpn hlb hlb1
              go_wp2_with (first
                | (at_builtin; (with_reducible refine wpList_append_B (w.heap.size + 2) _ _ ?_ (h4.g.alloc _) ⟨wr.heap.size, 0, none⟩ 92 ?_ ?_ ?_ ?_ ?_); (focus rfl); (focus rfl); (focus simp); (focus exact hlen1); (focus (have := h4.big; simp; omega)); intro v5 w5 hown5 hg5 hb5; have h5 := h4.appG hown5 hg5 hb5)
                | (at_builtin; (with_reducible refine wpList_append_B (w.heap.size + 2) _ _ ?_ (h5.e.alloc _) ⟨w5.heap.size, 0, none⟩ p[l + 1] ?_ ?_ ?_ ?_ ?_); (focus rfl); (focus rfl); (focus simp); (focus exact hlen0); (focus (have := h5.big; simp; omega)); intro v6 w6 hown6 hg6 hb6; have h6 := h5.appE hown6 hg6 hb6)
                | (at_builtin; (with_reducible refine wpList_append_B (w.heap.size + 2) _ _ ?_ (h6.g.alloc _) ⟨w6.heap.size, 0, none⟩ p[l + 1] ?_ ?_ ?_ ?_ ?_); (focus rfl); (focus rfl); (focus simp); (focus exact hlen2); (focus (have := h6.big; simp; omega)); intro v7 w7 hown7 hg7 hb7; have h7 := h6.appG hown7 hg7 hb7))
              rw [HT1.out, HT2.out] at h7
              go_roundw
              case rel => exact ⟨n + 1, l + 2, by omega, HL2, by go_num, h7⟩
              case measure => simp [intOf]; omega
          · obtain rfl : n = key.length := by omega
            rw [List.take_length] at h4 HL
            have hc0 := row5 h4.r0
            have hc1 := row5 h4.r1
            rcases HE.out with ⟨hz1, hz2⟩ | ⟨hz1, hz2⟩
            · rw [← HL.out] at hz1
              have hge : ¬ l < p.size := by omega
              clear hz2 hlt hn
              go_wp2_with (first
                | ((with_reducible refine wpList_str_B (w.heap.size + 2) _ _ ?_ h4.e ?_); focus rfl)
                | ((with_reducible refine wpList_str_B (w.heap.size + 2) _ _ ?_ (h4.g.setCell ⟨w.heap.size + 1, 0, none⟩ _ ?_) ?_); (focus rfl); (focus simp)))
              exact bodyPost_ret (v := .tuple #[.agg #[.string ⟨key.toArray⟩, .string ⟨(esc key).toArray⟩, .string ⟨#[]⟩, .bool true, .bool false], .bool true]) (by simp [results, Tryz.results94, go_sem, hc0.1]) rfl ⟨_, _, _, rfl, by
                repeat (refine Below.setCell ?_ (by simp) _)
                exact h4.below⟩
            · simp only [← HL.out] at hz1 hz2
              have e1 : ((p[l].toNat : Int) == 46) = true := by rw [hz2]; rfl
              have e2 : ((p[l].toNat : Int) == 92) = false := by rw [hz2]; rfl
              clear hz2 hlt hn
              go_wp2_with (first
                | ((with_reducible refine wpList_str_B (w.heap.size + 2) _ _ ?_ h4.e ?_); focus rfl)
                | ((with_reducible refine wpList_str_B (w.heap.size + 2) _ _ ?_ (h4.g.setCell ⟨w.heap.size + 1, 0, none⟩ _ ?_) ?_); (focus rfl); (focus simp)))
              exact bodyPost_ret (v := .tuple #[.agg #[.string ⟨key.toArray⟩, .string ⟨(esc key).toArray⟩, .string (p.extract (l + 1) p.size), .bool true, .bool true], .bool true]) (by simp [results, Tryz.results94, go_sem, hc0.1]) rfl ⟨_, _, _, rfl, by
                repeat (refine Below.setCell ?_ (by simp) _)
                exact h4.below⟩
    · obtain rfl : j = key.length := by omega
      have HK : Hid (esc key = key) := plain_all HB.out
      rcases HE.out with ⟨h1, h2⟩ | ⟨h1, h2⟩
      · have hps2 : p.size = key.length := by rw [h1, HK.out]
        have HM : Hid (p = ⟨key.toArray⟩) := mk_eq (by rw [h2, HK.out])
        have hge : ¬ key.length < p.size := by omega
        have HZ := Lib.hid hps2
        clear h1 h2 hps2 hlt hj
        go_wp2
        exact bodyPost_ret (v := .tuple #[.agg #[.string p, .string p, .string ⟨#[]⟩, .bool true, .bool false], .bool true]) (by simp [results, Tryz.results94, go_sem]) rfl ⟨_, _, _, by rw [HK.out, HM.out], ((Below.refl _ _).alloc (Nat.le_refl _) _).alloc (by simp) _⟩
      · simp only [HK.out] at h1 h2
        have e1 : ((p[key.length].toNat : Int) == 46) = true := by rw [h2]; rfl
        have HM : Hid (p.extract 0 key.length = ⟨key.toArray⟩) := mk_eq (by
          rw [extract_take _ _ (by omega), HP.out, HK.out, List.take_left])
        clear h2 hlt hj
        go_wp2
        exact bodyPost_ret (v := .tuple #[.agg #[.string (p.extract 0 key.length), .string (p.extract 0 key.length), .string (p.extract (key.length + 1) p.size), .bool true, .bool true], .bool true]) (by simp [results, Tryz.results94, go_sem]) rfl ⟨_, _, _, by rw [HK.out, HM.out], ((Below.refl _ _).alloc (Nat.le_refl _) _).alloc (by simp) _⟩
end Go.Proofs.YtmffibpbjobhmaaGreatDoor
