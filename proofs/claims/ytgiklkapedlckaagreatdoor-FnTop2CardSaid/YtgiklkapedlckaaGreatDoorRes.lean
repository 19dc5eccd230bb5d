/- reservedWords, walked: the map of the reserved words, and a look-up in it. -/
import Derived.Test.YtgiklkapedlckaaGreatDoorScM
import Derived.Test.YtgiklkapedlckaaGreatDoorUse
import Derived.Maps.OwnSet
namespace Go.Proofs.YtgiklkapedlckaaGreatDoor
open Go.RowKit Go.WideMaps Go.Maps

theorem kwLaw : Keyed Tryz.prog 9 := string_keyed Tryz.underlying9
theorem zeroInt (w : World) : (zeroValue 3).run Tryz.prog w = .ok (.int .i64 0) w := by kernel_rfl
/-- The map in block B reads as D. -/
def Mp (w0 : World) (B n : Nat) (D : DataW Unit) (w : World) : Prop := w.ownsMap Tryz.prog 9 (plainElem Tryz.prog 3) B n D ∧ Fr [B] w0 w

theorem wpList_insert_mp {w : World} {ops : Array Oper} {rest : List Oper} {o : Oper} {a : Act} {Q : Exit → Act → World → Prop} (hg : o.guard = none) (m x v : Operand) (hop : o.op = Op.insert 67 m x v)
    (w0 : World) (B n : Nat) (D : DataW Unit) (hm : a.eval m = .map (some B)) (s : ByteArray) (c : Int) (hx : a.eval x = .string s) (hv : a.eval v = .int .i64 c) (hs : s.size ≤ 1000) (hc : (Lit.int .i64 c).wf = true) (h : Mp w0 B n D w) (hn : n < 1000)
    (hK : ∀ w', Mp w0 B (n + 1) (D.put (.string s.data.toList) (.lit (.int .i64 c))) w' → wpList Tryz.prog ops Q rest (a.put o.dst undef) w') : wpList Tryz.prog ops Q (o :: rest) a w := by
  refine wpList_plain hg fun K' hK' => ?_
  obtain ⟨w', hrun, r1, r2⟩ := h.1.update kwLaw Tryz.underlying67 (by unfold maxLen; omega) (key := .string s) (val := .int .i64 c) (keyOf_string_mk Tryz.underlying9 (by unfold maxLen; omega)) (plainElem_int Tryz.underlying3 hc)
  have hf : Fr [B] w0 w' := h.2.trans ⟨r2.os, r2.tape, r2.output, r2.size, fun k hk ho => r2.block k hk (by simpa using fun e => ho (by simp [e]))⟩
  unfold Oper.wp
  simp [execOp, hop, hm, hx, hv, hrun, Result.andThen]
  exact hK' _ _ (hK w' ⟨r1, hf⟩)

/-- The datum behind all the stores. -/
def kwD : List (List UInt8 × Int) → DataW Unit → DataW Unit
  | [], D => D
  | (k, v) :: r, D => kwD r (D.put (.string k) (.lit (.int .i64 v)))
/-- The last entry with this key. -/
def lastIn : List (List UInt8 × Int) → List UInt8 → Option Int → Option Int
  | [], _, d => d
  | (k, v) :: r, s, d => lastIn r s (if k = s then some v else d)
theorem kwD_at (tab : List (List UInt8 × Int)) (D : DataW Unit) (hD : IsMap D) (s : List UInt8) (d : Option Int)
    (h1 : Maps.has D (.string s) = d.isSome) (h2 : ∀ v, d = some v → D.atKey (.string s) (.lit (.int .i64 0)) = .lit (.int .i64 v)) :
    Maps.has (kwD tab D) (.string s) = (lastIn tab s d).isSome ∧ (∀ v, lastIn tab s d = some v → (kwD tab D).atKey (.string s) (.lit (.int .i64 0)) = .lit (.int .i64 v)) := by
  induction tab generalizing D d with
  | nil => exact ⟨h1, h2⟩
  | cons q r ih =>
    obtain ⟨k, v⟩ := q
    show Maps.has (kwD r (D.put (.string k) (.lit (.int .i64 v)))) (.string s) = (lastIn r s (if k = s then some v else d)).isSome ∧ _
    by_cases hk : k = s
    · subst hk
      rw [if_pos rfl]
      have := ih (D.put (.string k) (.lit (.int .i64 v))) (hD.put _ _) (some v) (has_put_same hD (show WideAt.IsKeyLit (.string k) from trivial) _) (fun u hu => by cases hu; exact atKey_put_same hD (show WideAt.IsKeyLit (.string k) from trivial) _ _)
      refine ⟨this.1, fun u hu => this.2 u ?_⟩
      have e : lastIn ((k, v) :: r) k d = lastIn r k (some v) := by show lastIn r k (if k = k then some v else d) = _; rw [if_pos rfl]
      rw [← e]; exact hu
    · rw [if_neg hk]
      have hne : (Lit.string s) ≠ (Lit.string k) := fun e => hk (by cases e; rfl)
      have := ih (D.put (.string k) (.lit (.int .i64 v))) (hD.put _ _) d ((has_put_other hne _).trans h1) (fun u hu => (atKey_put_other hne _ _).trans (h2 u hu))
      refine ⟨this.1, fun u hu => this.2 u ?_⟩
      have e : lastIn ((k, v) :: r) s d = lastIn r s d := by show lastIn r s (if k = s then some v else d) = _; rw [if_neg hk]
      rw [← e]; exact hu
theorem kw_last (s : List UInt8) : kw s = (lastIn kwTab s none).getD 57375 := by
  have hgen : ∀ (tab : List (List UInt8 × Int)), (tab.map (·.1)).Nodup → ∀ d : Option Int, (∀ v, d = some v → s ∉ tab.map (·.1)) → (lastIn tab s d).getD 57375 = if s ∈ tab.map (·.1) then kwIn tab s else d.getD 57375 := by
    intro tab
    induction tab with
    | nil => intro _ d _; simp [lastIn]
    | cons q r ih =>
      obtain ⟨k, v⟩ := q
      intro hnd d hd
      simp only [List.map_cons, List.nodup_cons] at hnd
      by_cases hk : k = s
      · subst hk
        have e : lastIn ((k, v) :: r) k d = lastIn r k (some v) := by show lastIn r k (if k = k then some v else d) = _; rw [if_pos rfl]
        rw [e, ih hnd.2 (some v) (fun _ _ => hnd.1), if_neg hnd.1]
        simp [kwIn]
      · have e : lastIn ((k, v) :: r) s d = lastIn r s d := by show lastIn r s (if k = s then some v else d) = _; rw [if_neg hk]
        have hd' : ∀ u, d = some u → s ∉ r.map (·.1) := fun u hu hm => hd u hu (by simp [hm])
        rw [e, ih hnd.2 d hd']
        have hks : s ≠ k := fun e => hk e.symm
        by_cases hm : s ∈ r.map (·.1)
        · rw [if_pos hm, if_pos (by simp only [List.map_cons, List.mem_cons]; exact Or.inr hm)]
          show kwIn r s = (if k = s then v else kwIn r s)
          rw [if_neg hk]
        · rw [if_neg hm, if_neg (by simp only [List.map_cons, List.mem_cons, not_or]; exact ⟨hks, hm⟩)]
  have h := hgen kwTab (by decide) none (fun v hv => by cases hv)
  rw [h]
  by_cases hm : s ∈ kwTab.map (·.1)
  · rw [if_pos hm]; rfl
  · rw [if_neg hm]
    have hno : ∀ (tab : List (List UInt8 × Int)), s ∉ tab.map (·.1) → kwIn tab s = 57375 := by
      intro tab
      induction tab with
      | nil => intro _; rfl
      | cons q r ih =>
        obtain ⟨k, v⟩ := q
        intro hn
        simp only [List.map_cons, List.mem_cons, not_or] at hn
        show (if k = s then v else kwIn r s) = _
        rw [if_neg (fun e => hn.1 e.symm), ih hn.2]
    exact hno kwTab hm

/-- The map, and what a look-up in it answers. -/
def ResIs (w : World) (e : Ending) (w' : World) : Prop :=
  ∃ bm : Nat, e = .returned (.map (some bm)) ∧ Fr [] w w' ∧ ∀ (s : ByteArray), s.size ≤ 4398046511104 → ∃ (c : Int) (k : Bool), (Instr.lookup 67 (.map (some bm)) (.string s) true).run Tryz.prog w' = .ok (.tuple #[.int .i64 c, .bool k]) w' ∧ ((k = true ∧ kw s.data.toList = c) ∨ (k = false ∧ kw s.data.toList = 57375))

set_option maxRecDepth 100000 in
set_option maxHeartbeats 6400000 in
theorem res_any (w : World) : Calls Tryz.prog 13 #[] w (ResIs w) := by
  have hmm := @run_makeMap Tryz.prog
  have h0 : Mp (w.alloc (.map #[] 0)) w.heap.size 0 (.map []) (w.alloc (.map #[] 0)) := ⟨World.ownsMap_made _ _ _ _, Fr.refl _ _⟩
  go_enter Tryz.func13, Tryz.ntmps13
  go_wp2_with (with_reducible refine wpList_insert_mp rfl _ _ _ rfl (w.alloc (.map #[] 0)) w.heap.size _ _ rfl _ _ rfl rfl (by decide) (by decide) (by assumption) (by decide) ?_; intro w' h')
  go_ret
  have hD := h'.1
  refine ⟨w.heap.size, rfl, Fr.new ((Fr.refl [] w).alloc _) h'.2 (by simp), fun s hs => ?_⟩
  have hD2 : w'.ownsMap Tryz.prog 9 (plainElem Tryz.prog 3) w.heap.size 22 (kwD kwTab (.map [])) := hD
  obtain ⟨v, ps, hrun, hv⟩ := hD2.look_ok kwLaw Tryz.underlying67 (zeroInt w') (zd := .lit (.int .i64 0)) (plainElem_int Tryz.underlying3 (by decide)) (key := .string s) (keyOf_string_mk Tryz.underlying9 (by unfold maxLen; omega))
  obtain ⟨c, rfl, hc, _⟩ := plainElem_int_inv Tryz.underlying3 hv
  have hat : (kwD kwTab (.map [])).atKey (.string s.data.toList) (.lit (.int .i64 0)) = .lit (.int .i64 c) := congrArg Prod.fst hc
  obtain ⟨k1, k2⟩ := kwD_at kwTab (.map []) ⟨_, rfl⟩ s.data.toList none rfl (fun v hv => by cases hv)
  refine ⟨c, _, hrun, ?_⟩
  rw [k1, kw_last]
  cases hl : lastIn kwTab s.data.toList none with
  | none => exact Or.inr ⟨rfl, rfl⟩
  | some u =>
    left
    have := k2 u hl
    rw [hat] at this
    have e : c = u := by cases this; rfl
    exact ⟨rfl, by rw [e]; rfl⟩
end Go.Proofs.YtgiklkapedlckaaGreatDoor
