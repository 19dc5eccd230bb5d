/- writeChar, the buffer's WriteByte, WriteString, String, beside the scanner. -/
import Derived.Test.YtgiklkapedlckaaGreatDoorBuf
import Derived.Test.YtgiklkapedlckaaGreatDoorShelf
import Derived.IntWalk
namespace Go.Proofs.YtgiklkapedlckaaGreatDoor
open Go.RowKit

theorem u8_wrap (c : Int) : IntKind.u8.wrap c = ((by8 c).toNat : Int) := by
  rw [by8_toNat]; rfl
theorem cells_snoc (l : List UInt8) (c : UInt8) : Lib.byteCells l ++ [.int .u8 c.toNat] = Lib.byteCells (l ++ [c]) := by simp [Lib.byteCells]

section
variable {W0 w : World} {L : Loc} {B b : Nat} {st : St} {l : List UInt8}
theorem writeByte_at (h : At W0 L B b w st l) (c : UInt8) (hlim : l.length + 1 ≤ 140737488355328) :
    Calls Tryz.prog 44 #[.pointer (some ⟨b, 0, none⟩), .int .u8 c.toNat] w fun e w' => e = .returned .nilIface ∧ At W0 L B b w' st (l ++ [c]) :=
  (Any.Buffer_WriteByte Tryz.lays179 B b _ c.toNat w h.buf h.le (Lib.byteCells_one l) (by rw [Lib.byteCells_length]; exact hlim)).mono fun _ _ ⟨he, hb, f⟩ => ⟨he, h.wrote (by rw [cells_snoc] at hb; exact hb) f⟩
theorem writeString_at (h : At W0 L B b w st l) (s : ByteArray) (hlim : l.length + s.size ≤ 140737488355328) :
    Calls Tryz.prog 45 #[.pointer (some ⟨b, 0, none⟩), .string s] w fun e w' => e = .returned (.tuple #[.int .i64 s.size, .nilIface]) ∧ At W0 L B b w' st (l ++ s.data.toList) :=
  (Any.Buffer_WriteString Tryz.lays178 B b _ s w h.buf h.le (Lib.byteCells_one l) (by rw [Lib.byteCells_length]; exact hlim)).mono fun _ _ ⟨he, hb, f⟩ => ⟨he, h.wrote (by rw [← Lib.byteCells_append] at hb; exact hb) f⟩
theorem bufString_at (h : At W0 L B b w st l) :
    Calls Tryz.prog 12 #[.pointer (some ⟨b, 0, none⟩)] w fun e w' => e = .returned (.string ⟨l.toArray⟩) ∧ ∃ n, w' = w.drewN n :=
  Any.Buffer_String Tryz.lays182 B b l w h.buf
set_option maxHeartbeats 1600000 in
theorem writeChar_at (h : At W0 L B b w st l) (c : Int) (hlim : l.length + 1 ≤ 140737488355328) :
    Calls Tryz.prog 22 #[.pointer (some ⟨b, 0, none⟩), .int .i64 c] w fun e w' => e = .returned (.tuple #[]) ∧ At W0 L B b w' st (l ++ [by8 c]) := by
  have hw := u8_wrap c
  go_enter Tryz.func22, Tryz.ntmps22
  go_wp2_with (go_at_call 44; refine (writeByte_at h (by8 c) hlim).mono ?_; rintro e w' ⟨rfl, h'⟩)
  refine bodyPost_end (results_none rfl _ _ _) rfl ⟨rfl, h'⟩
end
end Go.Proofs.YtgiklkapedlckaaGreatDoor
