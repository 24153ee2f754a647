/-
  FnGjObjectPathStar: of every path of at most 2^12 bytes without a backslash, the first component in an object has wildcards just if it has one of '*' and '?'; so it is for the component 'a*': the law returns true for every input, and the input reads as it did.
-/
import Derived.Test.YtmffibpbjobhmaaGreatDoorCards
import Derived.Test.YtmffibpbjobhmaaGreatDoorTie
import Derived.Test.YtmffibpbjobhmaaGreatDoorF1
import Derived.Test.YtmffibpbjobhmaaGreatDoorM4
namespace Go.Proofs.YtmffibpbjobhmaaGreatDoor.L60
open Go.ChangeShapes Go.WideShapes Go.ChangeAt Go.RowKit Go.ChangeMaps Go.Proofs.YtmffibpbjobhmaaGreatDoor

set_option maxRecDepth 100000 in
theorem contract (H : Type) (enc : TypeId × Value → H) (W : World) (base : Nat) (args : Array Value) (ds gs : List (DataW H)) (before : List MemPlace)
    (hval : ∀ (j : Nat) t v, Tryz.f6.params[j]? = some t → args[j]? = some v → Value.okWide Tryz.prog W .any base t v)
    (hW : DataW.Whole enc Tryz.prog Tryz.f6.params.toList Rows.fnGjObjectPathStarSpec.vars false W args.toList ds gs before) (_hL : laidMetH Tryz.prog Rows.fnGjObjectPathStarRow.laid W) (_hO : W.ShapedOpen Tryz.prog) :
    Calls Tryz.prog 6 args W fun e W' => ∃ v, e = .returned v ∧ Rows.fnGjObjectPathStarSpec.post enc Tryz.prog Tryz.f6 false true false false W args v W' := by
  have hW' := hW
  obtain ⟨p, q, hA0, hV, rfl, hfz, hnd⟩ := hW
  have hA : DataW.TrodAll enc Tryz.prog W 0 (fun _ => true) true Tryz.f6.params.toList args.toList ds p := hA0
  rw [Tryz.params6] at hA hval
  obtain ⟨v0, vs0, d0, ds0, p0, q0, hargs, rfl, rfl, h0, r0⟩ := trodAll_cons hA
  obtain ⟨rfl, rfl, rfl⟩ := trodAll_nil r0
  obtain rfl : args = #[v0] := by cases args; simp_all
  obtain ⟨rfl, rfl⟩ := trodVars_none hV
  obtain ⟨x0, rfl, rfl, rfl, hx0⟩ := open_string Tryz.underlying9 (hval 0 9 v0 rfl rfl) h0
  clear hA0
  simp only [List.append_nil] at hW'
  refine (t6 x0 W hx0).mono fun e W' ⟨he, hb⟩ => ?_
  subst he
  exact ⟨_, rfl, post_below (pa := []) (pv := []) hW' (fun _ _ _ => trodAll_cons_mk (shut_bool Tryz.underlying4 _) trodAll_mk0) (fun _ _ => (trodAll_cons_mk (shut_string Tryz.underlying9 hx0) trodAll_mk0)) (fun _ _ => rfl) rfl (hb.frame _)⟩

theorem reads (os : Os) {H : Type} (enc : TypeId × Value → H) : ∃ places, DataW.whole enc Tryz.prog (startWorld os #[.string ⟨#[]⟩]).memory Tryz.f6.params.toList Rows.fnGjObjectPathStarSpec.vars false #[Value.string ⟨#[]⟩].toList 8 = some ([.lit (.string [])], [], places) :=
  ⟨[], by kernel_rfl⟩

set_option maxRecDepth 100000 in
theorem lifted (os : Os) (started : os.Started) (H : Type) (enc : TypeId × Value → H) (F : Stop.Interp) :
    ReturnsInHanded {} Tryz.checked os 6 .any ((OpenSpec.ofChange Rows.fnGjObjectPathStarSpec).preRow enc Tryz.prog Tryz.f6 Rows.fnGjObjectPathStarRow.domain false Rows.fnGjObjectPathStarRow.laid) (((OpenSpec.ofChange Rows.fnGjObjectPathStarSpec).at F).post enc Tryz.prog Tryz.f6 false true false false) := by
  obtain ⟨places, hx⟩ := reads os enc
  have hok : Input.okWideB Tryz.prog (startWorld os #[.string ⟨#[]⟩]) 6 ⟨#[], #[.string ⟨#[]⟩], []⟩ = true := by kernel_rfl
  have hw := Input.okWide_of_okWideB (base := (World.laidAll Tryz.prog os laidL).heap.size) hok
  refine returnsInHanded_of_row (C := Tryz.checked) (s := OpenSpec.ofChange Rows.fnGjObjectPathStarSpec) own started (by kernel_rfl) Tryz.func6
    ⟨World.laidAll Tryz.prog os laidL, fun _ _ => 0, ⟨#[], #[.string ⟨#[]⟩], []⟩, World.laidAll_os _ _ _, start_shaped os _, hw.1, hw.2, OpenSpec.preRow_of_cond 8 hx (by kernel_rfl) (fun k hk => by cases hk) (by kernel_rfl) (start_met os _), by
      simp only [Assume.holds]
      exact ⟨by simp, by simp, fun _ => Modest.zero, by simp, by simp⟩⟩ ?_
  intro W base args ds gs before hval hW _ _ _ hL hO _
  exact contract H enc W base args ds gs before hval hW hL hO

theorem said : Rows.FnGjObjectPathStarSaid :=
  OpenClaim.holds_of_cond 6 Tryz.f6 rfl rfl rfl rfl rfl rfl rfl ⟨rfl, rfl, rfl, rfl, rfl⟩ rfl rfl rfl rfl rfl (by kernel_rfl) Tryz.func6 (by kernel_rfl)
    (of_decide_eq_true (by kernel_rfl)) (by unfold Func.isWrapper; rw [if_neg (of_decide_eq_false (by kernel_rfl))]; exact ⟨rfl, rfl⟩)
    (fun os started H enc _ F => by rw [OpenClaim.pre_eq_preRow]; exact lifted os started H enc F)

theorem plain (f : FuncId) (fn : Func) (hf : Tryz.pinned.checked.prog.funcNamed "pub-tetrapla/laws.FnGjObjectPathStar" = some f) (hfn : Tryz.pinned.checked.prog.funcs[f]? = some fn) :
    true = Tryz.pinned.checked.prog.looks [] ∧ ∀ (j : Nat) t, fn.params[j]? = some t → Tryz.pinned.checked.prog.wantsStandIn t = false := by
  obtain rfl : f = 6 := Option.some.inj ((show Tryz.prog.funcNamed "pub-tetrapla/laws.FnGjObjectPathStar" = some 6 by kernel_rfl).symm.trans hf) |>.symm
  obtain rfl : fn = Tryz.f6 := (Option.some.inj (Tryz.func6.symm.trans hfn)).symm
  refine ⟨by kernel_rfl, fun j t ht => ?_⟩
  rw [Tryz.params6] at ht
  have hm : t ∈ [9] := by simpa using Array.mem_of_getElem? ht
  have hall : ([9].all fun u => !Tryz.prog.wantsStandIn u) = true := by kernel_rfl
  exact (show Tryz.prog.wantsStandIn t = false by simpa using List.all_eq_true.1 hall t hm)

/-- THE CARD. -/
theorem card : Rows.FnGjObjectPathStarCardSaid :=
  Claim7.holds_tied_plain_at .later [] _ _ _ _ said (fun _ h => by cases h) (by kernel_rfl) (fun _ h => by cases h) fnGjObjectPathStar_row_tie rfl ⟨rfl, rfl⟩ (by kernel_rfl) rfl plain (by kernel_rfl)
end Go.Proofs.YtmffibpbjobhmaaGreatDoor.L60
