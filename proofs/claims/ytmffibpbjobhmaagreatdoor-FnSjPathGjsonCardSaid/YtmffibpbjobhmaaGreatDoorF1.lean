/-
  WHAT ALL LAWS OF THIS SEAT SHARE: the start that meets the rows' lists (each listed variable laid by its datum), its shape, that no parameter wants a stand-in.
-/
import Derived.Test.YtmffibpbjobhmaaGreatDoorRows
import Derived.ProofKit
import Derived.OpenShut
import Derived.LaidMore
import Derived.Lay
import Derived.Deep.DeepHandedRow
import Derived.SevenTiedAt
import Derived.Stop.Joined
namespace Go.Proofs.YtmffibpbjobhmaaGreatDoor
open Go.ChangeShapes Go.WideShapes Go.ChangeAt Go.RowKit

theorem own : ownKnob Tryz.prog.godebug = none := by kernel_rfl

/-- The variables that every row of this seat lists. -/
def laidL : List (String × DataW Unit) := Rows.fnGjModifierExistsRow.laid

noncomputable def startWorld (os : Os) (args : Array Value) : World := (World.laidAll Tryz.prog os laidL).forCall (fun _ _ => 0) ⟨#[], args, []⟩

theorem start_shaped (os : Os) (args : Array Value) : (startWorld os args).Shaped Tryz.prog :=
  World.shaped_of_ZipB (by kernel_rfl) (by kernel_rfl)

theorem start_fits (os : Os) : (World.holding Tryz.prog os ⟨#[], #[], []⟩).layFits Tryz.prog laidL [] = true := by kernel_rfl
theorem start_ifaces (os : Os) : (World.holding Tryz.prog os ⟨#[], #[], []⟩).layIfaces Tryz.prog laidL (World.laidAll Tryz.prog os laidL) = true := by kernel_rfl
theorem start_met (os : Os) (args : Array Value) : laidMetH Tryz.prog laidL (startWorld os args).memory := by
  rw [MakeChecks.laidMetH_plain _ _ _ (by kernel_rfl)]
  exact laidMet_laidAll _ (start_fits os) (start_ifaces os)

/-- Nothing that was there before the call has turned: what the rows ask behind the call, without 'again'. -/
theorem post_below {H : Type} {enc : TypeId × Value → H} {P : Program} {f : Func} {s : ChangeSpec} {apart fresh handsOn : Bool} {W W' : World} {args : Array Value} {v : Value} {ds gs : List (DataW H)} {before pa pv : List MemPlace}
    (hW : DataW.Whole enc P f.params.toList s.vars apart W args.toList ds gs before)
    (hres : ∀ (b : Nat) (sp : Nat → Bool) (hd : Bool), DataW.TrodAll enc P W' b sp hd f.resultTypes.toList (v.resultList f.resultTypes.size) (s.fn H (ds ++ gs)).results [])
    (hargs : ∀ sp : Nat → Bool, (∀ p ∈ before, sp p.block = true) → DataW.TrodAll enc P W' 0 sp true f.params.toList args.toList (s.fn H (ds ++ gs)).args pa)
    (hvars : ∀ sp : Nat → Bool, (∀ p ∈ before, sp p.block = true) → DataW.TrodVars enc P W' sp s.vars (s.fn H (ds ++ gs)).vars pv)
    (hps : before = pa ++ pv) (hk : W.keptBut W' (· ∈ before)) :
    s.post enc P f apart fresh handsOn false W args v W' := by
  have hold : ∀ p ∈ before, (fun b => decide (b < W.heap.size)) p.block = true := fun p hp => by simpa using hW.lt p hp
  refine ⟨ds, gs, before, [], pa, pv, hW, hres _ _ _, hargs _ hold, hvars _ hold, World.keptBut_mono (fun p hp => ⟨hp, ?_⟩) hk, fun h => by cases h⟩
  rw [hps, List.mem_append] at hp
  exact Or.inr hp
end Go.Proofs.YtmffibpbjobhmaaGreatDoor
