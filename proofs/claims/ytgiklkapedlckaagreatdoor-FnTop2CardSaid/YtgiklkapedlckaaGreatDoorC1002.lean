/- The law FnTop2: its row and its tied card, lifted from the walk: for every input the call returns true and the arguments read as before. Conditions: those of the given card alone (the listed sentinels read as the program's text lays them). -/
import Derived.Test.YtgiklkapedlckaaGreatDoorCards
import Derived.Test.YtgiklkapedlckaaGreatDoorTie
import Derived.Test.YtgiklkapedlckaaGreatDoorYW
import Derived.Test.YtgiklkapedlckaaGreatDoorEof
import Derived.Test.YtgiklkapedlckaaGreatDoorTnV
import Derived.OpenVars
import Derived.Test.YtgiklkapedlckaaGreatDoorOpen
import Derived.Carry
import Derived.ProofKit
import Derived.OpenShut
import Derived.ShutString
import Derived.LaidMore
import Derived.Deep.DeepHandedRow
import Derived.Deep.DeepWitnessRowRef
namespace Go.Proofs.YtgiklkapedlckaaGreatDoor.C1002
open Go.ChangeShapes Go.WideShapes Go.ChangeAt Go.RowKit
open Go.ChangeMaps (open_string shut_string)

theorem own : ownKnob Tryz.prog.godebug = none := by kernel_rfl

theorem laidOut : laidOutB Tryz.prog = true := by kernel_rfl
theorem cellsOfB : Tryz.prog.cellsOf 5 = 1 := by kernel_rfl
abbrev ws : Array Value := #[.slice none 0 0]
theorem laid_met (os : Os) : laidMet Tryz.prog Rows.fnTop2Row.laid ((World.doorLaid Tryz.prog 162 os).forCall (fun _ _ => 0) ⟨#[], ws, []⟩).memory :=
  laidMet_of_run' 8 (by kernel_rfl) (by kernel_rfl)
theorem reads (os : Os) {H : Type} (enc : TypeId × Value → H) : ∃ places, DataW.whole enc Tryz.prog ((World.doorLaid Tryz.prog 162 os).forCall (fun _ _ => 0) ⟨#[], ws, []⟩).memory Tryz.f3.params.toList Rows.fnTop2Spec.vars false ws.toList 8 = some ([.nil], [Rows.laid_github_com_yuin_gopher_lua_parse_yyToknames], places) :=
  ⟨MemPlace.row ⟨0, 0, none⟩ 56, by kernel_rfl⟩

set_option maxRecDepth 100000 in
theorem lifted (os : Os) (started : os.Started) (H : Type) (enc : TypeId × Value → H) (F : Stop.Interp) :
    ReturnsInHanded {} Tryz.checked os 3 .any ((OpenSpec.ofChange Rows.fnTop2Spec).preRow enc Tryz.prog Tryz.f3 Rows.fnTop2Row.domain false Rows.fnTop2Row.laid) (((OpenSpec.ofChange Rows.fnTop2Spec).at F).post enc Tryz.prog Tryz.f3 false true false false) := by
  obtain ⟨places, hx⟩ := reads os enc
  refine returnsInHanded_of_row (C := Tryz.checked) (s := OpenSpec.ofChange Rows.fnTop2Spec) own started (by kernel_rfl) Tryz.func3
    (witness_row_atRef (enc := enc) (C := Tryz.checked) false (World.doorLaid Tryz.prog 162 os) ws rfl (by kernel_rfl) (by kernel_rfl) (by kernel_rfl)
      (OpenSpec.preRow_of_cond 8 hx (by kernel_rfl) (fun k hk => by cases hk) (by kernel_rfl) (laid_met os))) ?_
  intro W base args ds gs before hval0 hW _ _ _ hL _ _
  have hval : ∀ (j : Nat) t v, Tryz.f3.params[j]? = some t → args[j]? = some v → Value.okWide Tryz.prog W .any base t v := hval0
  have hW' := hW
  obtain ⟨p, q, hA0, hV, rfl, hfz, hnd⟩ := hW
  have hA : DataW.TrodAll enc Tryz.prog W 0 (fun _ => true) true Tryz.f3.params.toList args.toList ds p := hA0
  rw [Tryz.params3] at hA hval
  obtain ⟨v0, vs0, d0, ds0, p0, q0, hargs, rfl, rfl, h0, r0⟩ := trodAll_cons hA
  obtain ⟨rfl, rfl, rfl⟩ := trodAll_nil r0
  obtain rfl : args = #[v0] := by cases args; simp_all
  have hVB := hV
  obtain ⟨gk, tk, csk, fuelk, dk, pk, rfl, hgk, htk, hvark, hdk, hqk⟩ := trodVars_one hV
  have ht := tok_of_var hgk htk hvark hdk
  obtain ⟨a0, n0, c0, rfl⟩ := okWide_slice Tryz.underlying22 (hval 0 22 v0 rfl rfl)
  obtain ⟨l0, sl0⟩ := Sl.opened Tryz.underlying22 Tryz.underlying5 cellsOfB h0
  clear hA0
  try simp only [List.append_nil, List.nil_append] at hW'
  obtain ⟨a, he⟩ := eof_of_list (by kernel_rfl) hL
  have walk : Calls Tryz.prog 3 #[Value.slice a0 n0 c0] W fun e w' => e = .returned (.bool true) ∧ Below W.heap.size W w' := top_walk W a he ht _ l0 sl0
  refine walk.mono fun e W' ⟨he', hb⟩ => ?_
  subst he'
  have hlt : ∀ x ∈ p0, x.block < W.heap.size := fun x hx => by simpa using hW'.lt x (List.mem_append.2 (.inl hx))
  have HARG0 := Below.trod laidOut (by kernel_rfl) (of_decide_eq_true (by kernel_rfl)) h0 hb (fun x hx => hlt x hx)
  refine ⟨_, rfl, _, _, _, [], p0, q, hW', ?_, ?_, Below.trodVars laidOut hb (by kernel_rfl) hVB, hb.frame _, fun h => by cases h⟩
  · exact trodAll_cons_mk (shut_bool Tryz.underlying4 _) trodAll_mk0
  · have hm := trodAll_cons_mk (HARG0) trodAll_mk0
    simp only [List.append_nil] at hm
    exact hm

theorem said : Rows.FnTop2Said :=
  OpenClaim.holds_of_cond 3 Tryz.f3 rfl rfl rfl rfl rfl rfl rfl ⟨rfl, rfl, rfl, rfl, rfl⟩ rfl rfl rfl rfl rfl (by kernel_rfl) Tryz.func3 (by kernel_rfl)
    (of_decide_eq_true (by kernel_rfl)) (by unfold Func.isWrapper; rw [if_neg (of_decide_eq_false (by kernel_rfl))]; exact ⟨rfl, rfl⟩)
    (fun os started H enc _ F => by rw [OpenClaim.pre_eq_preRow]; exact lifted os started H enc F)

theorem plain (f : FuncId) (fn : Func) (hf : Tryz.pinned.checked.prog.funcNamed "github.com/yuin/gopher-lua/n005_1002.FnTop2" = some f) (hfn : Tryz.pinned.checked.prog.funcs[f]? = some fn) :
    true = Tryz.pinned.checked.prog.looks [] ∧ ∀ (j : Nat) t, fn.params[j]? = some t → Tryz.pinned.checked.prog.wantsStandIn t = false := by
  obtain rfl : f = 3 := Option.some.inj ((show Tryz.prog.funcNamed "github.com/yuin/gopher-lua/n005_1002.FnTop2" = some 3 by kernel_rfl).symm.trans hf) |>.symm
  obtain rfl : fn = Tryz.f3 := (Option.some.inj (Tryz.func3.symm.trans hfn)).symm
  refine ⟨by kernel_rfl, fun j t ht => ?_⟩
  rw [Tryz.params3] at ht
  have hm : t ∈ [22] := by simpa using Array.mem_of_getElem? ht
  have hall : ([22].all fun u => !Tryz.prog.wantsStandIn u) = true := by kernel_rfl
  exact (show Tryz.prog.wantsStandIn t = false by simpa using List.all_eq_true.1 hall t hm)

/-- The card. -/
theorem card : Rows.FnTop2CardSaid :=
  Claim7.holds_tied_plain_at .later [] _ _ _ _ said (fun _ h => by cases h) (by kernel_rfl) (fun _ h => by cases h) fnTop2_row_tie rfl ⟨rfl, rfl⟩ (by kernel_rfl) rfl plain (by kernel_rfl)
#print axioms card
end Go.Proofs.YtgiklkapedlckaaGreatDoor.C1002
