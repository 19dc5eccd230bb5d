/- The law FnWriteCharScriptSpellsBytes: its row and its tied card, lifted from the walk: for every input the call returns true and the arguments read as before. Conditions: those of the given card alone (the listed sentinels read as the program's text lays them). -/
import Derived.Test.YtgldbnpphmddhaaDoorCards
import Derived.Test.YtgldbnpphmddhaaDoorTie
import Derived.Test.YtgldbnpphmddhaaDoorL145b
import Derived.Test.YtgldbnpphmddhaaDoorOpen
import Derived.Carry
import Derived.ProofKit
import Derived.OpenShut
import Derived.ShutString
import Derived.LaidMore
import Derived.Deep.DeepHandedRow
import Derived.Deep.DeepWitnessRowRef
namespace Go.Proofs.YtgldbnpphmddhaaDoor.C145b
open Go.ChangeShapes Go.WideShapes Go.ChangeAt Go.RowKit
open Go.ChangeMaps (open_string shut_string)

theorem own : ownKnob Tryd.prog.godebug = none := by kernel_rfl

theorem laidOut : laidOutB Tryd.prog = true := by kernel_rfl
theorem cellsOfI : Tryd.prog.cellsOf 3 = 1 := by kernel_rfl
abbrev ws : Array Value := #[.slice none 0 0]
theorem laid_met (os : Os) : laidMet Tryd.prog Rows.fnWriteCharScriptSpellsBytesRow.laid ((World.doorLaid Tryd.prog 28 os).forCall (fun _ _ => 0) ⟨#[], ws, []⟩).memory :=
  laidMet_of_run' 8 (by kernel_rfl) (by kernel_rfl)
theorem reads (os : Os) {H : Type} (enc : TypeId × Value → H) : ∃ places, DataW.whole enc Tryd.prog ((World.doorLaid Tryd.prog 28 os).forCall (fun _ _ => 0) ⟨#[], ws, []⟩).memory Tryd.f4.params.toList Rows.fnWriteCharScriptSpellsBytesSpec.vars false ws.toList 8 = some ([.nil], [], places) :=
  ⟨[], by kernel_rfl⟩

set_option maxRecDepth 100000 in
theorem lifted (os : Os) (started : os.Started) (H : Type) (enc : TypeId × Value → H) (F : Stop.Interp) :
    ReturnsInHanded {} Tryd.checked os 4 .any ((OpenSpec.ofChange Rows.fnWriteCharScriptSpellsBytesSpec).preRow enc Tryd.prog Tryd.f4 Rows.fnWriteCharScriptSpellsBytesRow.domain false Rows.fnWriteCharScriptSpellsBytesRow.laid) (((OpenSpec.ofChange Rows.fnWriteCharScriptSpellsBytesSpec).at F).post enc Tryd.prog Tryd.f4 false true false false) := by
  obtain ⟨places, hx⟩ := reads os enc
  refine returnsInHanded_of_row (C := Tryd.checked) (s := OpenSpec.ofChange Rows.fnWriteCharScriptSpellsBytesSpec) own started (by kernel_rfl) Tryd.func4
    (witness_row_atRef (enc := enc) (C := Tryd.checked) false (World.doorLaid Tryd.prog 28 os) ws rfl (by kernel_rfl) (by kernel_rfl) (by kernel_rfl)
      (OpenSpec.preRow_of_cond 8 hx (by kernel_rfl) (fun k hk => by cases hk) (by kernel_rfl) (laid_met os))) ?_
  intro W base args ds gs before hval0 hW _ _ _ hL _ _
  have hval : ∀ (j : Nat) t v, Tryd.f4.params[j]? = some t → args[j]? = some v → Value.okWide Tryd.prog W .any base t v := hval0
  have hW' := hW
  obtain ⟨p, q, hA0, hV, rfl, hfz, hnd⟩ := hW
  have hA : DataW.TrodAll enc Tryd.prog W 0 (fun _ => true) true Tryd.f4.params.toList args.toList ds p := hA0
  rw [Tryd.params4] at hA hval
  obtain ⟨v0, vs0, d0, ds0, p0, q0, hargs, rfl, rfl, h0, r0⟩ := trodAll_cons hA
  obtain ⟨rfl, rfl, rfl⟩ := trodAll_nil r0
  obtain rfl : args = #[v0] := by cases args; simp_all
  obtain ⟨rfl, rfl⟩ := trodVars_none hV
  obtain ⟨a0, n0, c0, rfl⟩ := okWide_slice Tryd.underlying27 (hval 0 27 v0 rfl rfl)
  obtain ⟨l0, sl0⟩ := Si.opened Tryd.underlying27 Tryd.underlying3 cellsOfI h0
  clear hA0
  simp only [List.append_nil, List.nil_append] at hW'
  have walk : Calls Tryd.prog 4 #[Value.slice a0 n0 c0] W fun e w' => e = .returned (.bool true) ∧ Below W.heap.size W w' := b145_walk W _ l0 sl0
  refine walk.mono fun e W' ⟨he', hb⟩ => ?_
  subst he'
  have hlt : ∀ x ∈ p0, x.block < W.heap.size := fun x hx => by simpa using hW'.lt x hx
  have HARG0 := Below.trod laidOut (by kernel_rfl) (of_decide_eq_true (by kernel_rfl)) h0 hb (fun x hx => hlt x hx)
  refine ⟨_, rfl, _, _, _, [], p0, [], hW', ?_, ?_, rfl, hb.frame _, fun h => by cases h⟩
  · exact trodAll_cons_mk (shut_bool Tryd.underlying4 _) trodAll_mk0
  · have hm := trodAll_cons_mk (HARG0) trodAll_mk0
    simp only [List.append_nil] at hm
    exact hm

theorem said : Rows.FnWriteCharScriptSpellsBytesSaid :=
  OpenClaim.holds_of_cond 4 Tryd.f4 rfl rfl rfl rfl rfl rfl rfl ⟨rfl, rfl, rfl, rfl, rfl⟩ rfl rfl rfl rfl rfl (by kernel_rfl) Tryd.func4 (by kernel_rfl)
    (of_decide_eq_true (by kernel_rfl)) (by unfold Func.isWrapper; rw [if_neg (of_decide_eq_false (by kernel_rfl))]; exact ⟨rfl, rfl⟩)
    (fun os started H enc _ F => by rw [OpenClaim.pre_eq_preRow]; exact lifted os started H enc F)

theorem plain (f : FuncId) (fn : Func) (hf : Tryd.pinned.checked.prog.funcNamed "github.com/yuin/gopher-lua/n005_145.FnWriteCharScriptSpellsBytes" = some f) (hfn : Tryd.pinned.checked.prog.funcs[f]? = some fn) :
    false = Tryd.pinned.checked.prog.looks [] ∧ ∀ (j : Nat) t, fn.params[j]? = some t → Tryd.pinned.checked.prog.wantsStandIn t = false := by
  obtain rfl : f = 4 := Option.some.inj ((show Tryd.prog.funcNamed "github.com/yuin/gopher-lua/n005_145.FnWriteCharScriptSpellsBytes" = some 4 by kernel_rfl).symm.trans hf) |>.symm
  obtain rfl : fn = Tryd.f4 := (Option.some.inj (Tryd.func4.symm.trans hfn)).symm
  refine ⟨by kernel_rfl, fun j t ht => ?_⟩
  rw [Tryd.params4] at ht
  have hm : t ∈ [27] := by simpa using Array.mem_of_getElem? ht
  have hall : ([27].all fun u => !Tryd.prog.wantsStandIn u) = true := by kernel_rfl
  exact (show Tryd.prog.wantsStandIn t = false by simpa using List.all_eq_true.1 hall t hm)

/-- The card. -/
theorem card : Rows.FnWriteCharScriptSpellsBytesCardSaid :=
  Claim7.holds_tied_plain_at .later [] _ _ _ _ said (fun _ h => by cases h) (by kernel_rfl) (fun _ h => by cases h) fnWriteCharScriptSpellsBytes_row_tie rfl ⟨rfl, rfl⟩ (by kernel_rfl) rfl plain (by kernel_rfl)
#print axioms card
end Go.Proofs.YtgldbnpphmddhaaDoor.C145b
