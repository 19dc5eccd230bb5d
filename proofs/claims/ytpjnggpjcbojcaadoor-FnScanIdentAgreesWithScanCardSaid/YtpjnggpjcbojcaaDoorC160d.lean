/- The law FnScanIdentAgreesWithScan: its row and its tied card, lifted from the walk: for every input the call returns true and the arguments read as before. Conditions: those of the given card alone (the listed sentinels read as the program's text lays them). -/
import Derived.Test.YtpjnggpjcbojcaaDoorCards
import Derived.Test.YtpjnggpjcbojcaaDoorTie
import Derived.Test.YtpjnggpjcbojcaaDoorL160e
import Derived.Test.YtpjnggpjcbojcaaDoorEof
import Derived.Test.YtpjnggpjcbojcaaDoorTnV
import Derived.OpenVars
import Derived.ProofKit
import Derived.OpenShut
import Derived.ShutString
import Derived.LaidMore
import Derived.Deep.DeepHandedRow
import Derived.Deep.DeepWitnessRowRef
namespace Go.Proofs.YtpjnggpjcbojcaaDoor.C160d
open Go.ChangeShapes Go.WideShapes Go.ChangeAt Go.RowKit
open Go.ChangeMaps (open_string shut_string)

theorem own : ownKnob Tryd.prog.godebug = none := by kernel_rfl

theorem laidOut : laidOutB Tryd.prog = true := by kernel_rfl
abbrev ws : Array Value := #[.string ⟨#[]⟩]
theorem laid_met (os : Os) : laidMet Tryd.prog Rows.fnScanIdentAgreesWithScanRow.laid ((World.doorLaid Tryd.prog 162 os).forCall (fun _ _ => 0) ⟨#[], ws, []⟩).memory :=
  laidMet_of_run' 8 (by kernel_rfl) (by kernel_rfl)
theorem reads (os : Os) {H : Type} (enc : TypeId × Value → H) : ∃ places, DataW.whole enc Tryd.prog ((World.doorLaid Tryd.prog 162 os).forCall (fun _ _ => 0) ⟨#[], ws, []⟩).memory Tryd.f5.params.toList Rows.fnScanIdentAgreesWithScanSpec.vars false ws.toList 8 = some ([.lit (.string [])], [Rows.laid_github_com_yuin_gopher_lua_parse_yyToknames], places) :=
  ⟨MemPlace.row ⟨1, 0, none⟩ 56, by kernel_rfl⟩

set_option maxRecDepth 100000 in
theorem lifted (os : Os) (started : os.Started) (H : Type) (enc : TypeId × Value → H) (F : Stop.Interp) :
    ReturnsInHanded {} Tryd.checked os 5 .any ((OpenSpec.ofChange Rows.fnScanIdentAgreesWithScanSpec).preRow enc Tryd.prog Tryd.f5 Rows.fnScanIdentAgreesWithScanRow.domain false Rows.fnScanIdentAgreesWithScanRow.laid) (((OpenSpec.ofChange Rows.fnScanIdentAgreesWithScanSpec).at F).post enc Tryd.prog Tryd.f5 false true false false) := by
  obtain ⟨places, hx⟩ := reads os enc
  refine returnsInHanded_of_row (C := Tryd.checked) (s := OpenSpec.ofChange Rows.fnScanIdentAgreesWithScanSpec) own started (by kernel_rfl) Tryd.func5
    (witness_row_atRef (enc := enc) (C := Tryd.checked) false (World.doorLaid Tryd.prog 162 os) ws rfl (by kernel_rfl) (by kernel_rfl) (by kernel_rfl)
      (OpenSpec.preRow_of_cond 8 hx (by kernel_rfl) (fun k hk => by cases hk) (by kernel_rfl) (laid_met os))) ?_
  intro W base args ds gs before hval0 hW _ _ _ hL _ _
  have hval : ∀ (j : Nat) t v, Tryd.f5.params[j]? = some t → args[j]? = some v → Value.okWide Tryd.prog W .any base t v := hval0
  have hW' := hW
  obtain ⟨p, q, hA0, hV, rfl, hfz, hnd⟩ := hW
  have hA : DataW.TrodAll enc Tryd.prog W 0 (fun _ => true) true Tryd.f5.params.toList args.toList ds p := hA0
  rw [Tryd.params5] at hA hval
  obtain ⟨v0, vs0, d0, ds0, p0, q0, hargs, rfl, rfl, h0, r0⟩ := trodAll_cons hA
  obtain ⟨rfl, rfl, rfl⟩ := trodAll_nil r0
  obtain rfl : args = #[v0] := by cases args; simp_all
  have hVB := hV
  obtain ⟨gk, tk, csk, fuelk, dk, pk, rfl, hgk, htk, hvark, hdk, hqk⟩ := trodVars_one hV
  have ht := tok_of_var hgk htk hvark hdk
  obtain ⟨s0, rfl, rfl, rfl, w0⟩ := open_string Tryd.underlying9 (hval 0 9 v0 rfl rfl) h0
  clear hA0
  try simp only [List.append_nil, List.nil_append] at hW'
  obtain ⟨a, he⟩ := eof_of_list (by kernel_rfl) hL
  have walk : Calls Tryd.prog 5 #[Value.string s0] W fun e w' => e = .returned (.bool true) ∧ Below W.heap.size W w' := ia_walk W a he ht s0
  refine walk.mono fun e W' ⟨he', hb⟩ => ?_
  subst he'
  refine ⟨_, rfl, _, _, _, [], [], q, hW', ?_, ?_, Below.trodVars laidOut hb (by kernel_rfl) hVB, hb.frame _, fun h => by cases h⟩
  · exact trodAll_cons_mk (shut_bool Tryd.underlying4 _) trodAll_mk0
  · exact trodAll_cons_mk (shut_string Tryd.underlying9 w0) trodAll_mk0

theorem said : Rows.FnScanIdentAgreesWithScanSaid :=
  OpenClaim.holds_of_cond 5 Tryd.f5 rfl rfl rfl rfl rfl rfl rfl ⟨rfl, rfl, rfl, rfl, rfl⟩ rfl rfl rfl rfl rfl (by kernel_rfl) Tryd.func5 (by kernel_rfl)
    (of_decide_eq_true (by kernel_rfl)) (by unfold Func.isWrapper; rw [if_neg (of_decide_eq_false (by kernel_rfl))]; exact ⟨rfl, rfl⟩)
    (fun os started H enc _ F => by rw [OpenClaim.pre_eq_preRow]; exact lifted os started H enc F)

theorem plain (f : FuncId) (fn : Func) (hf : Tryd.pinned.checked.prog.funcNamed "github.com/yuin/gopher-lua/n005_160.FnScanIdentAgreesWithScan" = some f) (hfn : Tryd.pinned.checked.prog.funcs[f]? = some fn) :
    true = Tryd.pinned.checked.prog.looks [] ∧ ∀ (j : Nat) t, fn.params[j]? = some t → Tryd.pinned.checked.prog.wantsStandIn t = false := by
  obtain rfl : f = 5 := Option.some.inj ((show Tryd.prog.funcNamed "github.com/yuin/gopher-lua/n005_160.FnScanIdentAgreesWithScan" = some 5 by kernel_rfl).symm.trans hf) |>.symm
  obtain rfl : fn = Tryd.f5 := (Option.some.inj (Tryd.func5.symm.trans hfn)).symm
  refine ⟨by kernel_rfl, fun j t ht => ?_⟩
  rw [Tryd.params5] at ht
  have hm : t ∈ [9] := by simpa using Array.mem_of_getElem? ht
  have hall : ([9].all fun u => !Tryd.prog.wantsStandIn u) = true := by kernel_rfl
  exact (show Tryd.prog.wantsStandIn t = false by simpa using List.all_eq_true.1 hall t hm)

/-- The card. -/
theorem card : Rows.FnScanIdentAgreesWithScanCardSaid :=
  Claim7.holds_tied_plain_at .later [] _ _ _ _ said (fun _ h => by cases h) (by kernel_rfl) (fun _ h => by cases h) fnScanIdentAgreesWithScan_row_tie rfl ⟨rfl, rfl⟩ (by kernel_rfl) rfl plain (by kernel_rfl)
#print axioms card
end Go.Proofs.YtpjnggpjcbojcaaDoor.C160d
