/- What the rows' list gives: io.EOF holds a pointer. -/
import Derived.Test.YtgiklkapedlckaaGreatDoorRd
import Derived.Stop.LaidErr
import Derived.ProofKit
import Derived.LaidMore
import Derived.LaidSub
namespace Go.Proofs.YtgiklkapedlckaaGreatDoor
open Go.RowKit

theorem gEof : Tryz.prog.globalNamed "io.EOF" = some 1 := by kernel_rfl
theorem gEofType : (Tryz.prog.globals[1]?).map (·.type) = some 39 := by kernel_rfl
theorem cellsErr : Tryz.prog.cellsOf 137 = 1 := by kernel_rfl
theorem cellsStr : Tryz.prog.cellsOf 9 = 1 := by kernel_rfl
theorem starErr : "*" ++ "errors.errorString" = "*errors.errorString" := by decide
theorem rowErr (u : TypeId) (h : Tryz.prog.typeName? 3 u = some "*errors.errorString") : u = 135 :=
  typeName_ptr_named (nm := "errors.errorString") (by rw [starErr]; kernel_rfl) (by kernel_rfl) (by decide) u (by rw [starErr]; exact h)

theorem eof_of_laid {W : World} {r : List (String × DataW Unit)} (hr : (((("io.EOF", Rows.laid_io_EOF) :: r : List (String × DataW Unit)).all fun x => x.snd.handleName?.isNone)) = true) (h : laidMetH Tryz.prog (("io.EOF", Rows.laid_io_EOF) :: r) W) : ∃ a, HasEof W a := by
  rw [MakeChecks.laidMetH_plain _ _ _ hr] at h
  obtain ⟨a, s, hv, -, -, -⟩ := laid_sentinel h gEof gEofType Tryz.underlying39 rowErr Tryz.underlying135 Tryz.underlying137 rfl rfl Tryz.underlying9 cellsErr cellsStr
  have hc := World.var?_cell gEof hv 0
  refine ⟨a, by simpa [eofV] using hc, ?_⟩
  rcases Nat.lt_or_ge 1 W.heap.size with h' | h'
  · exact h'
  · simp [World.cell?, Array.getElem?_eq_none h'] at hc
/-- The same, wherever io.EOF stands in the list. -/
theorem eof_of_list {W : World} {l : List (String × DataW Unit)} (hf : l.filter (fun x => x.1 == "io.EOF") = [("io.EOF", Rows.laid_io_EOF)]) (h : laidMetH Tryz.prog l W) : ∃ a, HasEof W a := by
  have h1 := laidMetH.filter (fun x => x.1 == "io.EOF") h
  rw [hf] at h1
  exact eof_of_laid (r := []) rfl h1
end Go.Proofs.YtgiklkapedlckaaGreatDoor
