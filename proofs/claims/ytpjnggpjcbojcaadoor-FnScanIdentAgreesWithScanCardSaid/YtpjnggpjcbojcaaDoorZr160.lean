/- ZZrest and ZZskipComments, walked. -/
import Derived.Test.YtpjnggpjcbojcaaDoorRAll2
import Derived.Test.YtpjnggpjcbojcaaDoorCom
import Derived.Test.YtpjnggpjcbojcaaDoorZ160
namespace Go.Proofs.YtpjnggpjcbojcaaDoor
open Go.RowKit

set_option maxRecDepth 100000 in
set_option maxHeartbeats 1600000 in
theorem zrest (w : World) (L : Loc) (st : St) (lb : Option UInt8) (h : Sc w L st lb) (hl : st.rest.length ≤ 1099511627776) :
    Calls Tryd.prog 12 #[.pointer (some ⟨L.S, 0, none⟩)] w fun e w' => e = .returned (.string ⟨st.rest.toArray⟩) ∧ Fr L.own w w' := by
  obtain ⟨_, _, _, c3, _, _⟩ := h.facts
  have hr := readAll w L st.rest lb h.rd hl (fun k hk => h.lt k (by
    simp only [Loc.base, List.mem_cons, List.not_mem_nil, or_false] at hk ⊢
    omega))
  go_enter Tryd.func12, Tryd.ntmps12
  go_wp2_with (go_at_call 25; refine hr.mono ?_; rintro e w1 ⟨v, rfl, hb, hrd, fr⟩; have htx := hb.text)
  go_ret
  exact ⟨rfl, fr.mono Loc.rown_own⟩

set_option maxRecDepth 100000 in
set_option maxHeartbeats 1600000 in
theorem zcom (w : World) (L : Loc) (st : St) (c : Int) (h : Sc w L st none) (hl : st.rest.length ≤ 1099511627776) :
    Calls Tryd.prog 11 #[.pointer (some ⟨L.S, 0, none⟩), .int .i64 c] w (ComIs w L (comment c st)) := by
  have hr := comment_any w L st c h hl
  unfold ComIs at hr
  go_enter Tryd.func11, Tryd.ntmps11
  go_wp2_with (go_at_call 24; refine hr.mono ?_; rintro e w1 ⟨er, rfl, he, hs, f⟩)
  go_ret
  exact ⟨er, rfl, he, hs, f⟩
end Go.Proofs.YtpjnggpjcbojcaaDoor
