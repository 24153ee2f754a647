/-
  ROWS OF BYTES that a call makes and appends to, conversions' rows ('[]byte(s)') among them: what they hold, what append, '[]byte(s)' and 'string(b)' do.
-/
import Derived.Test.YtmffibpbjobhmaaGreatDoorProg
import Derived.WalkKit
import Derived.WalkSpells
import Derived.WalkLawsBesides
import Derived.Lib.Hide
import Derived.Laws.BytesArg
import Derived.Lib.ConvBytes
namespace Go.Proofs.YtmffibpbjobhmaaGreatDoor
open Go.RowKit

/-- A byte as a value. -/
def vB (b : UInt8) : Value := .int .u8 b.toNat

/-- The slice value v is nil and xs is empty, or it begins a row of bytes in a block from base on, and its bytes are xs; its spare places may be written. -/
def ownB (w : World) (base : Nat) (v : Value) (xs : List UInt8) : Prop :=
  (v = .slice none 0 0 ∧ xs = []) ∨
  ∃ g cap cur lo hi, v = .slice (some ⟨g, 0, none⟩) xs.length cap ∧ base ≤ g ∧ w.heap[g]? = some (.cells cur 5 (lo, hi)) ∧ (cap ≤ lo ∨ hi = 0) ∧ xs.length ≤ cap ∧ cap ≤ maxLen ∧ cap ≤ cur.size ∧
    cur.toList.take xs.length = xs.map vB

theorem info5 : (Tryz.prog.info? 5).map (fun i => (i.zero, i.size, i.bytes)) = some (some (.int .u8 0), 1, 1) := by kernel_rfl

theorem ownB_nil (w : World) (base : Nat) : ownB w base (.slice none 0 0) [] := Or.inl ⟨rfl, rfl⟩

theorem ownB.lt {w : World} {base : Nat} {v : Value} {xs : List UInt8} (h : ownB w base v xs) : ∀ k, v.ownBlock = some k → base ≤ k ∧ k < w.heap.size := by
  rintro k hk
  rcases h with ⟨rfl, _⟩ | ⟨g, cap, cur, lo, hi, rfl, hg, hb, _⟩
  · cases hk
  · cases hk
    exact ⟨hg, (Array.getElem?_eq_some_iff.1 hb).1⟩

theorem ownB.kept {w w' : World} {base : Nat} {v : Value} {xs : List UInt8} {row : Option Nat} (h : ownB w base v xs) (hg : w.grownBy w' row) (hne : v.ownBlock = none ∨ v.ownBlock ≠ row) : ownB w' base v xs := by
  rcases h with h | ⟨g, cap, cur, lo, hi, rfl, h1, h2, h3⟩
  · exact Or.inl h
  · refine Or.inr ⟨g, cap, cur, lo, hi, rfl, h1, ?_, h3⟩
    rw [hg.block g (Array.getElem?_eq_some_iff.1 h2).1 (hne.elim (fun h => by cases h) id)]
    exact h2

/-- What was not written stays owned: whatever changes below or above the row's block. -/
theorem ownB.same {w w' : World} {base : Nat} {v : Value} {xs : List UInt8} (h : ownB w base v xs) (hg : ∀ k, v.ownBlock = some k → w'.heap[k]? = w.heap[k]?) : ownB w' base v xs := by
  rcases h with h | ⟨g, cap, cur, lo, hi, rfl, h1, h2, h3⟩
  · exact Or.inl h
  · exact Or.inr ⟨g, cap, cur, lo, hi, rfl, h1, (hg g rfl).trans h2, h3⟩

theorem ownB.alloc {w : World} {base : Nat} {v : Value} {xs : List UInt8} (h : ownB w base v xs) (o : Obj) : ownB (w.alloc o) base v xs :=
  h.same fun k hk => Below.heap_alloc w o k (h.lt k hk).2

theorem ownB.cells {w : World} {base : Nat} {v : Value} {xs : List UInt8} (h : ownB w base v xs) {g : Nat} (hg : v.ownBlock = some g) : ∀ j b, xs[j]? = some b → w.cell? ⟨g, j, none⟩ = some (vB b) := by
  intro j b hj
  rcases h with ⟨rfl, _⟩ | ⟨g', cap, cur, lo, hi, rfl, h1, h2, h3, h4, h5, h6, h7⟩
  · cases hg
  · cases hg
    have hjl : j < xs.length := (List.getElem?_eq_some_iff.1 hj).1
    have : (cur.toList.take xs.length)[j]? = some (vB b) := by rw [h7, List.getElem?_map, hj]; rfl
    rw [List.getElem?_take, if_pos hjl] at this
    simp [World.cell?, h2]
    simpa using this

theorem storeB (g : Nat) : ∀ (news : List UInt8) (o i : Nat) (cur : Array Value) (w : World) (lo hi : Nat), w.heap[g]? = some (.cells cur 5 (lo, hi)) → o + i + news.length ≤ cur.size → (o + i + news.length ≤ lo ∨ hi = 0) →
    (storeCells ⟨g, o, none⟩ (news.map vB) i).run Tryz.prog w = .ok () (w.setRow g (cur.toList.take (o + i) ++ news.map vB ++ cur.toList.drop (o + i + news.length)).toArray)
  | [], o, i, cur, w, lo, hi, hg, _, _ => by
    simp only [List.map_nil, storeCells, List.append_nil, List.length_nil, Nat.add_zero, List.take_append_drop, Array.toArray_toList]
    rw [setRow_self w g cur 5 (lo, hi) hg]
    rfl
  | b :: rest, o, i, cur, w, lo, hi, hg, hl, hf => by
    have hi' : o + i < cur.size := by simp at hl; omega
    have hadd : (⟨g, o, none⟩ : Addr).add i = ⟨g, o + i, none⟩ := by unfold Addr.add; split <;> simp_all
    have hcell : w.cell? ⟨g, o + i, none⟩ = some cur[o + i] := by simp [World.cell?, hg, hi']
    have hfro : w.frozen? ⟨g, o + i, none⟩ = false := by
      simp [World.frozen?, hg]
      simp at hf
      omega
    have hst : (store ((⟨g, o, none⟩ : Addr).add i) (vB b)).run Tryz.prog w = .ok () (w.setRow g (cur.setIfInBounds (o + i) (vB b))) := by
      rw [hadd, run_store Tryz.prog w _ (vB b) _ rfl, hcell]
      simp [hfro, setCell_eq_setRow w g (o + i) cur 5 (lo, hi) (vB b) hg]
    have ih := storeB g rest o (i + 1) (cur.setIfInBounds (o + i) (vB b)) (w.setRow g (cur.setIfInBounds (o + i) (vB b))) lo hi (setRow_heap w g cur _ 5 _ hg) (by simp at hl ⊢; omega) (by simp at hf; rcases hf with h | h <;> omega)
    simp only [List.map_cons, storeCells, Sem.run_bind, hst, Result.andThen_ok, ih, setRow_setRow]
    congr 3
    have e := list_seg_step cur.toList (o + i) (vB b) (rest.map vB) (by simp at hl ⊢; omega)
    simpa [Array.toList_setIfInBounds, Nat.add_assoc] using e

theorem zeroCells1 (n : Nat) : (Builtin.zeroCells (Value.cells (.int .u8 0)) n).size = n := by simp [size_zeroCells, Value.cells]

/-- append(v, bytes that lie at an address): the new slice value owns what v had and the new bytes. -/
theorem run_append_B (ty : TypeId) (w : World) (base : Nat) (v : Value) (xs : List UInt8) (hown : ownB w base v xs) (a : Addr) (c : Nat) (news : List UInt8)
    (hnews : ∀ j b, news[j]? = some b → w.cell? (a.add j) = some (vB b)) (hlen : xs.length + news.length ≤ 140737488355328) (hbase : base ≤ w.heap.size) :
    ∃ v' w', (Builtin.append_ #[106, 106] ty #[v, .slice (some a) news.length c]).run Tryz.prog w = .ok v' w' ∧ ownB w' base v' (xs ++ news) ∧ w.grownBy w' v.ownBlock ∧ (v'.ownBlock = v.ownBlock ∨ v'.ownBlock = some w.heap.size) := by
  obtain ⟨i, hi, hz, hs1, hs2⟩ := info_parts info5
  have hn' : ∀ j u, (news.map vB)[j]? = some u → w.cell? (a.add j) = some u := by
    intro j u hj
    rw [List.getElem?_map] at hj
    obtain ⟨b, hb, rfl⟩ := Option.map_eq_some_iff.1 hj
    exact hnews j b hb
  have grown : ∀ (old : Nat) (row : Option Nat),
      ownB (w.drew.alloc (.cells ((xs.map vB).toArray ++ (news.map vB).toArray ++ Builtin.zeroCells (Value.cells (.int .u8 0)) (grownCap w (xs.length + news.length) old 5 - (xs.length + news.length))) 5)) base
        (.slice (some ⟨w.heap.size, 0, none⟩) (xs.length + news.length) (grownCap w (xs.length + news.length) old 5)) (xs ++ news) ∧
      w.grownBy (w.drew.alloc (.cells ((xs.map vB).toArray ++ (news.map vB).toArray ++ Builtin.zeroCells (Value.cells (.int .u8 0)) (grownCap w (xs.length + news.length) old 5 - (xs.length + news.length))) 5)) row := by
    intro old row
    have hge := grownCap_ge w (xs.length + news.length) old 5
    have hcm : grownCap w (xs.length + news.length) old 5 ≤ maxLen := grownCap_le_maxLen w (xs.length + news.length) old 5 (by unfold maxLen; omega)
    refine ⟨Or.inr ⟨w.heap.size, _, _, 0, 0, by rw [List.length_append], hbase, heap_alloc_new w.drew _, Or.inr rfl, by rw [List.length_append]; exact hge, hcm, ?_, ?_⟩, ⟨rfl, rfl, rfl, by simp, fun k hk _ => heap_alloc_old w.drew _ hk⟩⟩
    · simp only [Array.size_append, List.size_toArray, List.length_map, zeroCells1]; omega
    · simp only [Array.toList_append, List.map_append]
      exact List.take_left' (by simp)
  rcases hown with ⟨rfl, rfl⟩ | ⟨g, cap, cur, lo, hi', rfl, h1, h2, h3, h4, h5, h6, h7⟩
  · by_cases hm : news = []
    · subst hm
      refine ⟨.slice none 0 0, w, ?_, ownB_nil w base, ⟨rfl, rfl, rfl, Nat.le_refl _, fun _ _ _ => rfl⟩, Or.inl rfl⟩
      simp [Builtin.append_, run_underlying Tryz.underlying106, sizeOf, typeInfo, hi, Builtin.lenOf, Builtin.firstCells, loadCells, loadCellsFrom]
    · have hr := run_append_nil (P := Tryz.prog) w 106 ty 5 i _ Tryz.underlying106 hi hz a news.length c (news.map vB) (by simp [hs1]) hn' (List.length_pos_iff.2 hm) (by simp at hlen; omega) (by simp at hlen; rw [hs2]; omega)
      have hgr := grown 0 (Value.ownBlock (.slice none 0 0))
      simp only [List.map_nil, List.length_nil, Nat.zero_add, List.nil_append, Array.empty_append] at hgr ⊢
      exact ⟨_, _, hr, hgr.1, hgr.2, Or.inr rfl⟩
  · by_cases hroom : xs.length + news.length ≤ cap
    · have hf := run_firstCells_some (P := Tryz.prog) w i.size news.length a news.length c (news.map vB) (by simp [hs1]) hn'
      have hst := storeB g news xs.length 0 cur w lo hi' h2 (by omega) (by rcases h3 with h | h <;> omega)
      simp only [Nat.add_zero] at hst
      have hr : (Builtin.append_ #[106, 106] ty #[.slice (some ⟨g, 0, none⟩) xs.length cap, .slice (some a) news.length c]).run Tryz.prog w =
          .ok (.slice (some ⟨g, 0, none⟩) (xs.length + news.length) cap) (w.setRow g (cur.toList.take xs.length ++ news.map vB ++ cur.toList.drop (xs.length + news.length)).toArray) := by
        simp [Builtin.append_, run_underlying Tryz.underlying106, sizeOf, typeInfo, hi, Builtin.lenOf, hroom, hs1] at hf ⊢
        simp [hf, Addr.add_lit, hst]
      refine ⟨_, _, hr, Or.inr ⟨g, cap, _, lo, hi', by rw [List.length_append], h1, setRow_heap w g cur _ 5 _ h2, h3, by rw [List.length_append]; exact hroom, h5, ?_, ?_⟩,
        ⟨rfl, rfl, rfl, by simp [World.setRow], fun k _ hk => setRow_other w g k _ (fun e => hk (by simp [Value.ownBlock, e]))⟩, Or.inl rfl⟩
      · simp only [List.size_toArray, List.length_append, List.length_take, List.length_drop, Array.length_toList, List.length_map]
        omega
      · rw [h7]
        simp only [List.map_append]
        exact List.take_left' (by simp)
    · have holds : ∀ j u, (xs.map vB)[j]? = some u → w.cell? ((⟨g, 0, none⟩ : Addr).add j) = some u := by
        intro j u hj
        rw [List.getElem?_map] at hj
        obtain ⟨b, hb, rfl⟩ := Option.map_eq_some_iff.1 hj
        have hadd : (⟨g, 0, none⟩ : Addr).add j = ⟨g, j, none⟩ := by unfold Addr.add; split <;> simp_all
        rw [hadd]
        exact ownB.cells (Or.inr ⟨g, cap, cur, lo, hi', rfl, h1, h2, h3, h4, h5, h6, h7⟩) rfl j b hb
      have hr := run_append_grow (P := Tryz.prog) w 106 ty 5 i _ Tryz.underlying106 hi hz ⟨g, 0, none⟩ xs.length cap (xs.map vB) (by simp [hs1]) holds a news.length c (news.map vB) (by simp [hs1]) hn' (by omega) (by omega)
        (growslice_fits (by omega) (by rw [hs2]; omega))
      have hgr := grown cap (Value.ownBlock (.slice (some ⟨g, 0, none⟩) xs.length cap))
      exact ⟨_, _, hr, hgr.1, hgr.2, Or.inr rfl⟩

/-- The arm at 'append(s, x...)', x one byte in a new block. -/
theorem wpList_append_B {ops : Array Oper} {rest : List Oper} {Q : Exit → Act → World → Prop} {a : Act} {w : World} {d : Option Tmp} {s x : Operand} {ty : TypeId} {ps : String} {af : Array Edge}
    (base : Nat) (v : Value) (xs : List UInt8) (hs : a.eval s = v) (hown : ownB w base v xs) (ad : Addr) (b : UInt8) (hx : a.eval x = .slice (some ad) 1 1) (hcell : w.cell? ad = some (.int .u8 b.toNat))
    (hlen : xs.length + 1 ≤ 140737488355328) (hbase : base ≤ w.heap.size)
    (h : ∀ v' w', ownB w' base v' (xs ++ [b]) → w.grownBy w' v.ownBlock → (v'.ownBlock = v.ownBlock ∨ v'.ownBlock = some w.heap.size) → wpList Tryz.prog ops Q rest (a.put d v') w') :
    wpList Tryz.prog ops Q ({ dst := d, op := .call { callee := .builtin .append, args := #[s, x], argTypes := #[106, 106] }, type := ty, pos := ps, after := af, guard := none } :: rest) a w := by
  refine wpList_plain rfl fun K hK => ?_
  obtain ⟨v', w', hr, h2, h3, h4⟩ := run_append_B ty w base v xs hown ad 1 [b] (fun j b' hj => by
    match j, hj with
    | 0, hj =>
      simp at hj
      subst hj
      have hadd : ad.add 0 = ad := by cases ad; unfold Addr.add; split <;> simp_all
      rw [hadd]
      exact hcell) hlen hbase
  have hr' : (Builtin.append_ #[106, 106] ty #[v, .slice (some ad) 1 1]).run Tryz.prog w = .ok v' w' := hr
  unfold Oper.wp execOp
  simp only [resolve, invoke, builtin, Sem.run_bind, Sem.run_pure, Result.andThen_ok, List.map_toArray, List.map_cons, List.map_nil, hs, hx, hr']
  exact hK _ _ (h v' w' h2 h3 h4)

theorem data_length (s : ByteArray) : s.data.toList.length = s.size := by rw [Array.length_toList]; rfl

theorem ownB_conv (w : World) (base : Nat) (s : ByteArray) (hs : s.size ≤ maxLen) (hbase : base ≤ w.heap.size) :
    ownB (Lib.bytesWorld w 5 s) base (.slice (some ⟨w.heap.size, 0, none⟩) s.size (grownCap w s.size 0 5)) s.data.toList ∧ w.grownBy (Lib.bytesWorld w 5 s) none := by
  have hge := grownCap_ge w s.size 0 5
  have hcm := grownCap_le_maxLen w s.size 0 5 hs
  have hsz : (Lib.bytesCells w 5 s).size = grownCap w s.size 0 5 := by
    have : s.data.size = s.size := rfl
    simp [Lib.bytesCells]; omega
  refine ⟨Or.inr ⟨w.heap.size, _, _, _, _, by rw [data_length], hbase, Lib.bytesWorld_at_new w 5 s, Or.inl (by omega), by rw [data_length]; exact hge, hcm, by omega, ?_⟩,
    ⟨rfl, rfl, rfl, by rw [Lib.bytesWorld_size]; omega, fun k hk _ => Lib.bytesWorld_at_old w 5 s k hk⟩⟩
  rw [data_length]
  simp only [Lib.bytesCells, Array.toList_append, Array.toList_map]
  exact List.take_left' (by rw [List.length_map, data_length])

/-- The arm at '[]byte(s)'. -/
theorem wpList_conv_B {ops : Array Oper} {rest : List Oper} {Q : Exit → Act → World → Prop} {a : Act} {w : World} {d : Option Tmp} {x : Operand} {ty : TypeId} {ps : String} {af : Array Edge}
    (base : Nat) (s : ByteArray) (hx : a.eval x = .string s) (hs : s.size ≤ maxLen) (hbase : base ≤ w.heap.size)
    (h : ∀ v' w', ownB w' base v' s.data.toList → v'.ownBlock = some w.heap.size → w.grownBy w' none → wpList Tryz.prog ops Q rest (a.put d v') w') :
    wpList Tryz.prog ops Q ({ dst := d, op := .convert 9 106 x, type := ty, pos := ps, after := af, guard := none } :: rest) a w := by
  refine wpList_plain rfl fun K hK => ?_
  have hr := Lib.run_convert_string_bytes (P := Tryz.prog) w 9 106 5 s Tryz.underlying9 Tryz.underlying106 Tryz.underlying5
  unfold Oper.wp execOp
  simp only [Sem.run_bind, Sem.run_pure, hx, hr, Result.andThen_ok]
  exact hK _ _ (h _ _ (ownB_conv w base s hs hbase).1 rfl (ownB_conv w base s hs hbase).2)

theorem run_str_B {w : World} {base : Nat} {v : Value} {xs : List UInt8} (hown : ownB w base v xs) : (convert 106 9 v).run Tryz.prog w = .ok (.string ⟨xs.toArray⟩) w := by
  rcases hown with ⟨rfl, rfl⟩ | ⟨g, cap, cur, lo, hi', rfl, h1, h2, h3, h4, h5, h6, h7⟩
  · exact run_convert_bytes_nil w 106 5 Tryz.underlying106 Tryz.underlying5 0 0 9 Tryz.underlying9
  · have hc := ownB.cells (Or.inr ⟨g, cap, cur, lo, hi', rfl, h1, h2, h3, h4, h5, h6, h7⟩ : ownB w base _ xs) (g := g) rfl
    have := run_convert_bytes_arg (P := Tryz.prog) w 106 5 Tryz.underlying106 Tryz.underlying5 g 0 xs.length cap (xs.map fun b => (b.toNat : Int)) (by simp) (fun i hi => by
      have := hc i xs[i] (List.getElem?_eq_getElem hi)
      rw [Nat.zero_add, this]
      simp [vB, hi]) 9 Tryz.underlying9
    have e : strOfNums (xs.map fun b => (b.toNat : Int)) = ⟨xs.toArray⟩ := by
      unfold strOfNums
      rw [List.map_map]
      have : xs.map ((fun n : Int => UInt8.ofNat n.toNat) ∘ fun b => (b.toNat : Int)) = xs := by
        conv => rhs; rw [← List.map_id xs]
        exact List.map_congr_left fun b _ => by simp
      rw [this]
    rw [this, e]

/-- The arm at 'string(b)'. -/
theorem wpList_str_B {ops : Array Oper} {rest : List Oper} {Q : Exit → Act → World → Prop} {a : Act} {w : World} {d : Option Tmp} {x : Operand} {ty : TypeId} {ps : String} {af : Array Edge}
    (base : Nat) (v : Value) (xs : List UInt8) (hx : a.eval x = v) (hown : ownB w base v xs)
    (h : wpList Tryz.prog ops Q rest (a.put d (.string ⟨xs.toArray⟩)) w) :
    wpList Tryz.prog ops Q ({ dst := d, op := .convert 106 9 x, type := ty, pos := ps, after := af, guard := none } :: rest) a w := by
  refine wpList_plain rfl fun K hK => ?_
  have hr := run_str_B hown
  unfold Oper.wp execOp
  simp only [Sem.run_bind, Sem.run_pure, hx, hr, Result.andThen_ok]
  exact hK _ _ h
end Go.Proofs.YtmffibpbjobhmaaGreatDoor
