/- The law FnScanPositionsAdvanceToEnd: its row and its tied card, lifted from the walk: for every input the call returns true and the arguments read as before. Conditions: those of the given card alone (the listed sentinels read as the program's text lays them). -/
import Derived.Test.YtnmpeipccpgkpaaDoorCards
import Derived.Test.YtnmpeipccpgkpaaDoorTie
import Derived.Test.YtnmpeipccpgkpaaDoorL77a
import Derived.Test.YtnmpeipccpgkpaaDoorEof
import Derived.Test.YtnmpeipccpgkpaaDoorTnV
import Derived.OpenVars
import Derived.Test.YtnmpeipccpgkpaaDoorOpen
import Derived.Carry
import Derived.ProofKit
import Derived.OpenShut
import Derived.ShutString
import Derived.LaidMore
import Derived.Deep.DeepHandedRow
import Derived.Deep.DeepWitnessRowRef
namespace Go.Proofs.YtnmpeipccpgkpaaDoor.C77a
open Go.ChangeShapes Go.WideShapes Go.ChangeAt Go.RowKit
open Go.ChangeMaps (open_string shut_string)

theorem own : ownKnob Tryd.prog.godebug = none := by kernel_rfl

theorem laidOut : laidOutB Tryd.prog = true := by kernel_rfl
theorem cellsOfB : Tryd.prog.cellsOf 5 = 1 := by kernel_rfl
abbrev ws : Array Value := #[.slice none 0 0, .string ⟨#[]⟩]
theorem laid_met (os : Os) : laidMet Tryd.prog Rows.fnScanPositionsAdvanceToEndRow.laid ((World.doorLaid Tryd.prog 162 os).forCall (fun _ _ => 0) ⟨#[], ws, []⟩).memory :=
  laidMet_of_run' 8 (by kernel_rfl) (by kernel_rfl)
theorem reads (os : Os) {H : Type} (enc : TypeId × Value → H) : ∃ places, DataW.whole enc Tryd.prog ((World.doorLaid Tryd.prog 162 os).forCall (fun _ _ => 0) ⟨#[], ws, []⟩).memory Tryd.f3.params.toList Rows.fnScanPositionsAdvanceToEndSpec.vars false ws.toList 8 = some ([.nil, .lit (.string [])], [Rows.laid_github_com_yuin_gopher_lua_parse_yyToknames], places) :=
  ⟨MemPlace.row ⟨0, 0, none⟩ 56, by kernel_rfl⟩

set_option maxRecDepth 100000 in
theorem lifted (os : Os) (started : os.Started) (H : Type) (enc : TypeId × Value → H) (F : Stop.Interp) :
    ReturnsInHanded {} Tryd.checked os 3 .any ((OpenSpec.ofChange Rows.fnScanPositionsAdvanceToEndSpec).preRow enc Tryd.prog Tryd.f3 Rows.fnScanPositionsAdvanceToEndRow.domain false Rows.fnScanPositionsAdvanceToEndRow.laid) (((OpenSpec.ofChange Rows.fnScanPositionsAdvanceToEndSpec).at F).post enc Tryd.prog Tryd.f3 false true false false) := by
  obtain ⟨places, hx⟩ := reads os enc
  refine returnsInHanded_of_row (C := Tryd.checked) (s := OpenSpec.ofChange Rows.fnScanPositionsAdvanceToEndSpec) own started (by kernel_rfl) Tryd.func3
    (witness_row_atRef (enc := enc) (C := Tryd.checked) false (World.doorLaid Tryd.prog 162 os) ws rfl (by kernel_rfl) (by kernel_rfl) (by kernel_rfl)
      (OpenSpec.preRow_of_cond 8 hx (by kernel_rfl) (fun k hk => by cases hk) (by kernel_rfl) (laid_met os))) ?_
  intro W base args ds gs before hval0 hW _ _ _ hL _ _
  have hval : ∀ (j : Nat) t v, Tryd.f3.params[j]? = some t → args[j]? = some v → Value.okWide Tryd.prog W .any base t v := hval0
  have hW' := hW
  obtain ⟨p, q, hA0, hV, rfl, hfz, hnd⟩ := hW
  have hA : DataW.TrodAll enc Tryd.prog W 0 (fun _ => true) true Tryd.f3.params.toList args.toList ds p := hA0
  rw [Tryd.params3] at hA hval
  obtain ⟨v0, vs0, d0, ds0, p0, q0, hargs, rfl, rfl, h0, r0⟩ := trodAll_cons hA
  obtain ⟨v1, vs1, d1, ds1, p1, q1, rfl, rfl, rfl, h1, r1⟩ := trodAll_cons r0
  obtain ⟨rfl, rfl, rfl⟩ := trodAll_nil r1
  obtain rfl : args = #[v0, v1] := by cases args; simp_all
  have hVB := hV
  obtain ⟨gk, tk, csk, fuelk, dk, pk, rfl, hgk, htk, hvark, hdk, hqk⟩ := trodVars_one hV
  have ht := tok_of_var hgk htk hvark hdk
  obtain ⟨a0, n0, c0, rfl⟩ := okWide_slice Tryd.underlying22 (hval 0 22 v0 rfl rfl)
  obtain ⟨l0, sl0⟩ := Sl.opened Tryd.underlying22 Tryd.underlying5 cellsOfB h0
  obtain ⟨s1, rfl, rfl, rfl, w1⟩ := open_string Tryd.underlying9 (hval 1 9 v1 rfl rfl) h1
  clear hA0
  try simp only [List.append_nil, List.nil_append] at hW'
  obtain ⟨a, he⟩ := eof_of_list (by kernel_rfl) hL
  have walk : Calls Tryd.prog 3 #[Value.slice a0 n0 c0, Value.string s1] W fun e w' => e = .returned (.bool true) ∧ Below W.heap.size W w' := pos_walk W a he ht _ l0 sl0 s1
  refine walk.mono fun e W' ⟨he', hb⟩ => ?_
  subst he'
  have hlt : ∀ x ∈ p0, x.block < W.heap.size := fun x hx => by simpa using hW'.lt x (List.mem_append.2 (.inl hx))
  have HARG0 := Below.trod laidOut (by kernel_rfl) (of_decide_eq_true (by kernel_rfl)) h0 hb (fun x hx => hlt x hx)
  refine ⟨_, rfl, _, _, _, [], p0, q, hW', ?_, ?_, Below.trodVars laidOut hb (by kernel_rfl) hVB, hb.frame _, fun h => by cases h⟩
  · exact trodAll_cons_mk (shut_bool Tryd.underlying4 _) trodAll_mk0
  · have hm := trodAll_cons_mk (HARG0) (trodAll_cons_mk (shut_string Tryd.underlying9 w1) trodAll_mk0)
    simp only [List.append_nil] at hm
    exact hm

theorem said : Rows.FnScanPositionsAdvanceToEndSaid :=
  OpenClaim.holds_of_cond 3 Tryd.f3 rfl rfl rfl rfl rfl rfl rfl ⟨rfl, rfl, rfl, rfl, rfl⟩ rfl rfl rfl rfl rfl (by kernel_rfl) Tryd.func3 (by kernel_rfl)
    (of_decide_eq_true (by kernel_rfl)) (by unfold Func.isWrapper; rw [if_neg (of_decide_eq_false (by kernel_rfl))]; exact ⟨rfl, rfl⟩)
    (fun os started H enc _ F => by rw [OpenClaim.pre_eq_preRow]; exact lifted os started H enc F)

theorem plain (f : FuncId) (fn : Func) (hf : Tryd.pinned.checked.prog.funcNamed "github.com/yuin/gopher-lua/n005_77.FnScanPositionsAdvanceToEnd" = some f) (hfn : Tryd.pinned.checked.prog.funcs[f]? = some fn) :
    true = Tryd.pinned.checked.prog.looks [] ∧ ∀ (j : Nat) t, fn.params[j]? = some t → Tryd.pinned.checked.prog.wantsStandIn t = false := by
  obtain rfl : f = 3 := Option.some.inj ((show Tryd.prog.funcNamed "github.com/yuin/gopher-lua/n005_77.FnScanPositionsAdvanceToEnd" = some 3 by kernel_rfl).symm.trans hf) |>.symm
  obtain rfl : fn = Tryd.f3 := (Option.some.inj (Tryd.func3.symm.trans hfn)).symm
  refine ⟨by kernel_rfl, fun j t ht => ?_⟩
  rw [Tryd.params3] at ht
  have hm : t ∈ [22, 9] := by simpa using Array.mem_of_getElem? ht
  have hall : ([22, 9].all fun u => !Tryd.prog.wantsStandIn u) = true := by kernel_rfl
  exact (show Tryd.prog.wantsStandIn t = false by simpa using List.all_eq_true.1 hall t hm)

/-- The card. -/
theorem card : Rows.FnScanPositionsAdvanceToEndCardSaid :=
  Claim7.holds_tied_plain_at .later [] _ _ _ _ said (fun _ h => by cases h) (by kernel_rfl) (fun _ h => by cases h) fnScanPositionsAdvanceToEnd_row_tie rfl ⟨rfl, rfl⟩ (by kernel_rfl) rfl plain (by kernel_rfl)
#print axioms card
end Go.Proofs.YtnmpeipccpgkpaaDoor.C77a
