/- (*Scanner).Error, walked. -/
import Derived.Test.YtgiklkapedlckaaGreatDoorUse
import Derived.LaidEqlPtr
namespace Go.Proofs.YtgiklkapedlckaaGreatDoor
open Go.RowKit

set_option maxHeartbeats 1600000 in
theorem error_any (w : World) (L : Loc) (st : St) (lb : Option UInt8) (tok msg : ByteArray) (h : Sc w L st lb) :
    Calls Tryz.prog 21 #[.pointer (some ⟨L.S, 0, none⟩), .string tok, .string msg] w
      fun e w' => e = .returned (.pointer (some ⟨w.heap.size, 0, none⟩)) ∧ Blk w' w.heap.size [.string L.src, .int .i64 st.line, .int .i64 st.col, .string msg, .string tok] ∧ Sc w' L st lb ∧ Fr [] w w' ∧ w'.heap.size = w.heap.size + 1 := by
  obtain ⟨c0, c1, c2, _, _, _⟩ := h.facts
  go_enter Tryz.func21, Tryz.ntmps21
  go_wp2
  go_ret
  have fr : Fr [] w (w.alloc (.cells #[.string L.src, .int .i64 st.line, .int .i64 st.col, .string msg, .string tok] 95)) := (Fr.refl _ _).alloc _
  exact ⟨rfl, Blk.new _ _ _, h.fr fr, fr, size_alloc _ _⟩

/-- Two errors are two pointers. -/
theorem two_errors (w : World) (a b : Nat) (ca cb : List Value) (hne : a ≠ b) (ha : Blk w a ca) (hb : Blk w b cb) :
    (binOp .eql 46 (.pointer (some ⟨a, 0, none⟩)) (.pointer (some ⟨b, 0, none⟩))).run Tryz.prog w = .ok (.bool false) w := by
  obtain ⟨ta, ha⟩ := ha
  obtain ⟨tb, hb⟩ := hb
  have hi : (Tryz.prog.info? 95).map (·.size) = some 5 := by kernel_rfl
  cases hq : Tryz.prog.info? 95 with
  | none => simp [hq] at hi
  | some j =>
    have hs : j.size ≠ 0 := by
      have : j.size = 5 := by simpa [hq] using hi
      omega
    exact run_eql_ptr_other w Tryz.underlying46 hq hs (fun e => hne (by cases e; rfl)) ha hb
end Go.Proofs.YtgiklkapedlckaaGreatDoor
