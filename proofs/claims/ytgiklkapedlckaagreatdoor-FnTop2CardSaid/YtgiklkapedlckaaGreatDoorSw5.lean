/- Scan's switch, walked: identifiers. -/
import Derived.Test.YtgiklkapedlckaaGreatDoorSw
import Derived.Test.YtgiklkapedlckaaGreatDoorRes
namespace Go.Proofs.YtgiklkapedlckaaGreatDoor
open Go.RowKit

set_option maxRecDepth 1000000 in
set_option maxHeartbeats 16000000 in
theorem sc_ident {W0 w : World} {L : Loc} {lx B b tb rb : Nat} {ls : List Value} {st : St} {line col : Int} {nl : Bool} {rl : Nat} {c : Int} (h : Tk W0 L lx B b tb rb ls w st [] 0 ⟨#[]⟩ ⟨#[]⟩ line col) (HI : Hid (identS c = true)) (hl : st.rest.length ≤ 1099511627776) (R : Act → World → Prop) (u2 u3 u12 u13 u14 u15 u16 u17 u18 u19 u20 u21 u22 u23 u24 u25 u26 u27 u28 u29 u30 u31 u32 u33 u34 u35 u36 u37 u38 u39 u40 u41 u42 u43 u44 u45 u46 u47 u48 u49 u50 u51 u52 u53 u54 u55 u56 u57 u58 u59 u60 u61 u62 u63 u64 u65 u66 u67 u68 u69 u70 u71 u72 u73 u74 u75 u76 u77 u78 u79 u80 u81 u82 u83 u84 u85 u86 u87 u88 u89 u90 u91 u92 u93 u94 u95 u96 u97 u98 u99 u100 u101 u102 u103 u104 u105 u106 u107 u108 u109 u110 u111 u112 u113 u114 u115 u116 u117 u118 u119 u120 u121 u122 u123 u124 u125 u126 u127 u128 u129 u130 u131 u132 u133 u134 u135 u136 u137 u138 u139 u140 u141 u142 u143 u144 u145 u146 u147 u148 u149 u150 u151 u152 u153 u154 u155 u156 u157 u158 u159 u160 u161 u162 u163 u164 u165 u166 u167 u168 u169 u170 u171 u172 u173 u174 u175 u176 u177 u178 u179 u180 u181 u182 u183 u184 u185 u186 u187 u188 u189 u190 u191 u192 u193 u194 u195 u196 u197 u198 u199 u200 u201 u202 u203 u204 u205 u206 u207 u208 u209 u210 u211 u212 u213 u214 u215 u216 u217 u218 u219 u220 u221 u222 u223 u224 u225 u226 u227 u228 u229 u230 u231 u232 u233 u234 u235 u236 u237 u238 u239 u240 u241 u242 u243 u244 u245 u246 u247 u248 u249 u250 u251 u252 u253 u254 u255 u256 u257 u258 u259 u260 u261 u262 u263 u264 u265 u266 u267 u268 u269 u270 u271 u272 u273 u274 u275 u276 u277 u278 u279 u280 u281 u282 : Value) :
    Code.wp Tryz.prog scanSw (SwQ (Fin W0 L lx B b tb rb ls line col (identK c st)) R) ⟨#[Value.pointer (some ⟨L.S, 0, none⟩), Value.pointer (some ⟨lx, 0, none⟩), u2, u3, Value.pointer (some ⟨rb, 0, none⟩), Value.nilIface, Value.nilIface, Value.pointer (some ⟨tb, 0, none⟩), Value.bool nl, Value.int .i64 c, Value.pointer (some ⟨b, 0, none⟩), Value.pointer (some ⟨b, 0, none⟩), u12, u13, u14, u15, u16, u17, u18, u19, u20, u21, u22, u23, u24, u25, u26, u27, u28, u29, u30, u31, u32, u33, u34, u35, u36, u37, u38, u39, u40, u41, u42, u43, u44, u45, u46, u47, u48, u49, u50, u51, u52, u53, u54, u55, u56, u57, u58, u59, u60, u61, u62, u63, u64, u65, u66, u67, u68, u69, u70, u71, u72, u73, u74, u75, u76, u77, u78, u79, u80, u81, u82, u83, u84, u85, u86, u87, u88, u89, u90, u91, u92, u93, u94, u95, u96, u97, u98, u99, u100, u101, u102, u103, u104, u105, u106, u107, u108, u109, u110, u111, u112, u113, u114, u115, u116, u117, u118, u119, u120, u121, u122, u123, u124, u125, u126, u127, u128, u129, u130, u131, u132, u133, u134, u135, u136, u137, u138, u139, u140, u141, u142, u143, u144, u145, u146, u147, u148, u149, u150, u151, u152, u153, u154, u155, u156, u157, u158, u159, u160, u161, u162, u163, u164, u165, u166, u167, u168, u169, u170, u171, u172, u173, u174, u175, u176, u177, u178, u179, u180, u181, u182, u183, u184, u185, u186, u187, u188, u189, u190, u191, u192, u193, u194, u195, u196, u197, u198, u199, u200, u201, u202, u203, u204, u205, u206, u207, u208, u209, u210, u211, u212, u213, u214, u215, u216, u217, u218, u219, u220, u221, u222, u223, u224, u225, u226, u227, u228, u229, u230, u231, u232, u233, u234, u235, u236, u237, u238, u239, u240, u241, u242, u243, u244, u245, u246, u247, u248, u249, u250, u251, u252, u253, u254, u255, u256, u257, u258, u259, u260, u261, u262, u263, u264, u265, u266, u267, u268, u269, u270, u271, u272, u273, u274, u275, u276, u277, u278, u279, u280, u281, u282], []⟩ w := by
  conv => arg 2; whnf
  obtain ⟨t0, t1, t2, t3, t4, t5, f0, f1, f2⟩ := h.facts
  have hw8 : (⟨([] ++ by8 c :: st.run identI).toArray⟩ : ByteArray).size ≤ 4398046511104 := by
    have h1 := run_len identI st
    show ([] ++ by8 c :: st.run identI).toArray.size ≤ _
    simp only [List.size_toArray, List.nil_append, List.length_cons]; omega
  obtain ⟨S, hS⟩ : ∃ S : ByteArray, S = ⟨([] ++ by8 c :: st.run identI).toArray⟩ := ⟨_, rfl⟩
  have hSd : S.data.toList = by8 c :: st.run identI := by rw [hS]; simp
  rw [← hS] at hw8
  have HSS := Lib.hid (And.intro hS (And.intro hSd hw8))
  clear hS hSd hw8
  go_wp2_with (first | (go_at_call 10; refine (isIdent0_yes _ _ HI).mono ?_; rintro e w' ⟨rfl, rfl⟩) | (go_at_call 11; refine (ident_tk (h.setTyp 57375) c (by simp; omega)).mono ?_; rintro e w1 ⟨rfl, h1⟩; refine Hid.out ?_))
  refine Lib.hid ?_
  clear t0 t1 t2 t3 t4 t5 f0 f1 f2
  go_wp2_with (go_at_call 12; refine (bufString_tk h1).mono ?_; rintro e w2 ⟨rfl, h2⟩; rw [← HSS.out.1]; refine Hid.out ?_)
  refine Lib.hid ?_
  obtain ⟨t0, t1, t2, t3, t4, t5, f0, f1, f2⟩ := h2.facts
  go_upto_region 107 with fail
  have h3 := h2.setStr S
  generalize w2.setCell ⟨tb, 2, none⟩ (.string S) = w3 at h3 ⊢
  clear t0 t1 t2 t3 t4 t5 f0 f1 f2
  clear h1 h2
  obtain ⟨t0, t1, t2, t3, t4, t5, f0, f1, f2⟩ := h3.facts
  go_cut [12, 13] from 256 to 262 (fun s12 s13 wx => ∃ (c2 : Int) (k : Bool), s12 = .int .i64 c2 ∧ s13 = .bool k ∧ ((k = true ∧ kw (by8 c :: st.run identI) = c2) ∨ (k = false ∧ kw (by8 c :: st.run identI) = 57375)) ∧ Tk W0 L lx B b tb rb ls wx (st.adv identI) ([] ++ by8 c :: st.run identI) 57375 ⟨#[]⟩ S line col)
  case first =>
    have hcell : ∀ w', Fr [] w3.drew w' → w'.cell? ⟨tb, 2, none⟩ = some (.string S) := fun w' f => by
      have b := f.blk (h3.drewN 1).hTb (by simp)
      unfold tkCells at b
      exact b.cell 2 _ rfl
    go_region_with (go_at_call 13; refine (res_any _).mono ?_; rintro e w' ⟨bm, rfl, f, hlk⟩; have hc2 := hcell _ f; obtain ⟨c2, k, hrun, hkw⟩ := hlk S HSS.out.2.2)
    all_goals
      go_wp2_with fail
      go_meet
      rw [HSS.out.2.1] at hkw
      exact ⟨c2, k, rfl, rfl, hkw, (h3.drewN 1).step ((h3.drewN 1).at_.fr f)⟩
  case rest =>
    obtain ⟨c2, k, rfl, rfl, hkw, h4⟩ := hcut
    clear t0 t1 t2 t3 t4 t5 f0 f1 f2 h3
    obtain ⟨t0, t1, t2, t3, t4, t5, f0, f1, f2⟩ := h4.facts
    rcases hkw with ⟨rfl, hkw⟩ | ⟨rfl, hkw⟩
    · go_wp2
      exact ⟨_, _, _, _, _, _, _, rfl, rfl, Or.inl ⟨rfl, rfl⟩, h4.setTyp _, fun _ => ⟨hkw.symm, HSS.out.1⟩, hkw ▸ (kw_bound _).1, hkw ▸ (kw_bound _).2⟩
    · go_wp2
      exact ⟨_, _, _, _, _, _, _, rfl, rfl, Or.inl ⟨rfl, rfl⟩, h4, fun _ => ⟨hkw.symm, HSS.out.1⟩, by decide, by decide⟩

end Go.Proofs.YtgiklkapedlckaaGreatDoor
