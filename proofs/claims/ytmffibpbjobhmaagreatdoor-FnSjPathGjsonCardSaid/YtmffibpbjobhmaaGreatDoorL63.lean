/-
  FnSjPathGjson: of every list of 1 to 32 keys of together at most 2^12 bytes, the first component that a setter reads out of the path written for them is the first key, and its escaped form, read as a getter reads it, is that key, one component alone without wildcards: the law returns true for every input, and the input reads as it did.
-/
import Derived.Test.YtmffibpbjobhmaaGreatDoorCards
import Derived.Test.YtmffibpbjobhmaaGreatDoorTie
import Derived.Test.YtmffibpbjobhmaaGreatDoorF1
import Derived.Test.YtmffibpbjobhmaaGreatDoorK10
import Derived.SliceStrings
import Derived.Carry
namespace Go.Proofs.YtmffibpbjobhmaaGreatDoor.L63
open Go.ChangeShapes Go.WideShapes Go.ChangeAt Go.RowKit Go.ChangeMaps Go.Proofs.YtmffibpbjobhmaaGreatDoor

theorem laidOut : laidOutB Tryz.prog = true := by kernel_rfl
theorem cells9 : Tryz.prog.cellsOf 9 = 1 := by kernel_rfl

set_option maxRecDepth 100000 in
theorem contract (H : Type) (enc : TypeId × Value → H) (W : World) (base : Nat) (args : Array Value) (ds gs : List (DataW H)) (before : List MemPlace)
    (hval : ∀ (j : Nat) t v, Tryz.f8.params[j]? = some t → args[j]? = some v → Value.okWide Tryz.prog W .any base t v)
    (hW : DataW.Whole enc Tryz.prog Tryz.f8.params.toList Rows.fnSjPathGjsonSpec.vars false W args.toList ds gs before) (_hL : laidMetH Tryz.prog Rows.fnSjPathGjsonRow.laid W) (_hO : W.ShapedOpen Tryz.prog) :
    Calls Tryz.prog 8 args W fun e W' => ∃ v, e = .returned v ∧ Rows.fnSjPathGjsonSpec.post enc Tryz.prog Tryz.f8 false true false false W args v W' := by
  have hW' := hW
  obtain ⟨p, q, hA0, hV, rfl, hfz, hnd⟩ := hW
  have hA : DataW.TrodAll enc Tryz.prog W 0 (fun _ => true) true Tryz.f8.params.toList args.toList ds p := hA0
  rw [Tryz.params8] at hA hval
  obtain ⟨v0, vs0, d0, ds0, p0, q0, hargs, rfl, rfl, h0, r0⟩ := trodAll_cons hA
  obtain ⟨v1, vs1, d1, ds1, p1, q1, rfl, rfl, rfl, h1, r1⟩ := trodAll_cons r0
  obtain ⟨rfl, rfl, rfl⟩ := trodAll_nil r1
  obtain rfl : args = #[v0, v1] := by cases args; simp_all
  obtain ⟨rfl, rfl⟩ := trodVars_none hV
  obtain ⟨x1, rfl, rfl, rfl, hx1⟩ := open_int Tryz.underlying44 (hval 1 44 v1 rfl rfl) h1
  obtain ⟨a0, len, cap, rfl⟩ := okWide_slice Tryz.underlying22 (hval 0 22 v0 rfl rfl)
  have h0k := h0
  obtain ⟨fuel, hf⟩ := h0
  clear hA0
  simp only [List.append_nil] at hW'
  have hlt : ∀ x ∈ p0, x.block < W.heap.size := fun x hx => by simpa using hW'.lt x hx
  suffices hc : Calls Tryz.prog 8 #[.slice a0 len cap, .int .u64 x1] W fun e W' => e = .returned (.bool true) ∧ Below W.heap.size W W' by
    refine hc.mono fun e W' ⟨he, hb⟩ => ?_
    subst he
    exact ⟨_, rfl, post_below (pa := p0) (pv := []) hW' (fun _ _ _ => trodAll_cons_mk (shut_bool Tryz.underlying4 _) trodAll_mk0)
      (fun sp hsp => by
        have := trodAll_cons_mk (WideElems.Trod_stays (sp' := sp) laidOut (by kernel_rfl) (of_decide_eq_true (by kernel_rfl)) h0k (fun x hx => hb.same (hlt x hx)) (fun x hx => hsp x (by simpa using hx))) (trodAll_cons_mk (shut_int Tryz.underlying44 hx1) trodAll_mk0)
        simp only [List.append_nil] at this
        exact this) (fun _ _ => rfl) (by simp) (hb.frame _)⟩
  rcases open_strings Tryz.underlying22 Tryz.underlying9 cells9 hf with ⟨hcs, hx⟩ | ⟨a, len', cap', ss, hcs, _, hl, hm, hz, hx, hcell, hws⟩
  · simp [Value.cells] at hcs
    obtain ⟨rfl, rfl, rfl⟩ := hcs
    exact t8_zero none 0 x1 W
  · simp [Value.cells] at hcs
    obtain ⟨rfl, rfl, rfl⟩ := hcs
    simp only [if_true] at hz
    by_cases hl0 : len = 0
    · subst hl0
      exact t8_zero _ _ x1 W
    · obtain ⟨b, off, spot⟩ := a
      have hspot : spot = none := by simpa [Addr.add] using World.cell?_spot (hcell 0 (by omega))
      subst hspot
      have hlen : (ss.take len).length = len := by rw [List.length_take]; omega
      refine t8 (.slice (some ⟨b, off, none⟩) len cap) (ss.take len) x1 W (Or.inr ⟨b, off, cap, by rw [hlen], by rw [hlen]; exact hl, fun i hi => ?_⟩) (by rw [hlen]; omega) (fun k hk => hws k (List.mem_of_mem_take hk))
      rw [hlen] at hi
      have := hcell i (by omega)
      rw [add_plain, List.getD_eq_getElem?_getD, List.getElem?_eq_getElem (by omega)] at this
      rw [this, List.getElem_take]
      rfl

theorem reads (os : Os) {H : Type} (enc : TypeId × Value → H) : ∃ places, DataW.whole enc Tryz.prog (startWorld os #[.slice none 0 0, .int .u64 0]).memory Tryz.f8.params.toList Rows.fnSjPathGjsonSpec.vars false #[Value.slice none 0 0, Value.int .u64 0].toList 8 = some ([.nil, .lit (.int .u64 0)], [], places) :=
  ⟨[], by kernel_rfl⟩

set_option maxRecDepth 100000 in
theorem lifted (os : Os) (started : os.Started) (H : Type) (enc : TypeId × Value → H) (F : Stop.Interp) :
    ReturnsInHanded {} Tryz.checked os 8 .any ((OpenSpec.ofChange Rows.fnSjPathGjsonSpec).preRow enc Tryz.prog Tryz.f8 Rows.fnSjPathGjsonRow.domain false Rows.fnSjPathGjsonRow.laid) (((OpenSpec.ofChange Rows.fnSjPathGjsonSpec).at F).post enc Tryz.prog Tryz.f8 false true false false) := by
  obtain ⟨places, hx⟩ := reads os enc
  have hok : Input.okWideB Tryz.prog (startWorld os #[.slice none 0 0, .int .u64 0]) 8 ⟨#[], #[.slice none 0 0, .int .u64 0], []⟩ = true := by kernel_rfl
  have hw := Input.okWide_of_okWideB (base := (World.laidAll Tryz.prog os laidL).heap.size) hok
  refine returnsInHanded_of_row (C := Tryz.checked) (s := OpenSpec.ofChange Rows.fnSjPathGjsonSpec) own started (by kernel_rfl) Tryz.func8
    ⟨World.laidAll Tryz.prog os laidL, fun _ _ => 0, ⟨#[], #[.slice none 0 0, .int .u64 0], []⟩, World.laidAll_os _ _ _, start_shaped os _, hw.1, hw.2, OpenSpec.preRow_of_cond 8 hx (by kernel_rfl) (fun k hk => by cases hk) (by kernel_rfl) (start_met os _), by
      simp only [Assume.holds]
      exact ⟨by simp, by simp, fun _ => Modest.zero, by simp, by simp⟩⟩ ?_
  intro W base args ds gs before hval hW _ _ _ hL hO _
  exact contract H enc W base args ds gs before hval hW hL hO

theorem said : Rows.FnSjPathGjsonSaid :=
  OpenClaim.holds_of_cond 8 Tryz.f8 rfl rfl rfl rfl rfl rfl rfl ⟨rfl, rfl, rfl, rfl, rfl⟩ rfl rfl rfl rfl rfl (by kernel_rfl) Tryz.func8 (by kernel_rfl)
    (of_decide_eq_true (by kernel_rfl)) (by unfold Func.isWrapper; rw [if_neg (of_decide_eq_false (by kernel_rfl))]; exact ⟨rfl, rfl⟩)
    (fun os started H enc _ F => by rw [OpenClaim.pre_eq_preRow]; exact lifted os started H enc F)

theorem plain (f : FuncId) (fn : Func) (hf : Tryz.pinned.checked.prog.funcNamed "pub-tetrapla/laws.FnSjPathGjson" = some f) (hfn : Tryz.pinned.checked.prog.funcs[f]? = some fn) :
    true = Tryz.pinned.checked.prog.looks [] ∧ ∀ (j : Nat) t, fn.params[j]? = some t → Tryz.pinned.checked.prog.wantsStandIn t = false := by
  obtain rfl : f = 8 := Option.some.inj ((show Tryz.prog.funcNamed "pub-tetrapla/laws.FnSjPathGjson" = some 8 by kernel_rfl).symm.trans hf) |>.symm
  obtain rfl : fn = Tryz.f8 := (Option.some.inj (Tryz.func8.symm.trans hfn)).symm
  refine ⟨by kernel_rfl, fun j t ht => ?_⟩
  rw [Tryz.params8] at ht
  have hm : t ∈ [22, 44] := by simpa using Array.mem_of_getElem? ht
  have hall : ([22, 44].all fun u => !Tryz.prog.wantsStandIn u) = true := by kernel_rfl
  exact (show Tryz.prog.wantsStandIn t = false by simpa using List.all_eq_true.1 hall t hm)

/-- THE CARD. -/
theorem card : Rows.FnSjPathGjsonCardSaid :=
  Claim7.holds_tied_plain_at .later [] _ _ _ _ said (fun _ h => by cases h) (by kernel_rfl) (fun _ h => by cases h) fnSjPathGjson_row_tie rfl ⟨rfl, rfl⟩ (by kernel_rfl) rfl plain (by kernel_rfl)
end Go.Proofs.YtmffibpbjobhmaaGreatDoor.L63
