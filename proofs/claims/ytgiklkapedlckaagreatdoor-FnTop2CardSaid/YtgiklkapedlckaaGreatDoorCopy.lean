/- 'copy' into a row of bytes from a place on: from a string, from another row. No program in sight. -/
import Derived.Test.YtgiklkapedlckaaGreatDoorSc
import Derived.Laws.CopyOwn
namespace Go.Proofs.YtgiklkapedlckaaGreatDoor
open Go.RowKit

theorem add_add (a : Addr) (i j : Nat) : (a.add i).add j = a.add (i + j) := by
  unfold Addr.add
  by_cases hi : i = 0
  · subst hi; simp
  · by_cases hj : j = 0
    · subst hj; simp [hi]
    · simp [hi, hj]; omega
/-- Block b holds the cells cs, of type T. -/
def BlkT (w : World) (b : Nat) (T : TypeId) (cs : List Value) : Prop := w.heap[b]? = some (.cells cs.toArray T (0, 0))
theorem BlkT.blk {w : World} {b : Nat} {T : TypeId} {cs : List Value} (h : BlkT w b T cs) : Blk w b cs := ⟨T, h⟩
theorem Blk.typed {w : World} {b : Nat} {cs : List Value} (h : Blk w b cs) : ∃ T, BlkT w b T cs := h
theorem BlkT.lt {w : World} {b : Nat} {T : TypeId} {cs : List Value} (h : BlkT w b T cs) : b < w.heap.size := h.blk.lt
theorem BlkT.of_block {w w' : World} {b : Nat} {T : TypeId} {cs : List Value} (h : BlkT w b T cs) (e : w'.heap[b]? = w.heap[b]?) : BlkT w' b T cs := e.trans h
theorem BlkT.drewN {w : World} {b : Nat} {T : TypeId} {cs : List Value} (h : BlkT w b T cs) (n : Nat) : BlkT (w.drewN n) b T cs := h
theorem BlkT.other {w : World} {b : Nat} {T : TypeId} {cs : List Value} (h : BlkT w b T cs) {a : Addr} (hne : b ≠ a.block) (v : Value) : BlkT (w.setCell a v) b T cs := h.of_block (Below.heap_setCell _ _ _ _ hne)
theorem BlkT.setRow {w : World} {b : Nat} {T : TypeId} {cs : List Value} (h : BlkT w b T cs) (cs' : List Value) : BlkT (w.setRow b cs'.toArray) b T cs' := setRow_heap w b _ _ T _ h
theorem Fr.blkT {own : List Nat} {w w' : World} (h : Fr own w w') {b : Nat} {T : TypeId} {cs : List Value} (hb : BlkT w b T cs) (ho : b ∉ own) : BlkT w' b T cs := hb.of_block (h.block b hb.lt ho)
/-- The row behind a copy of l to place off. -/
def laid (cur : List Value) (off : Nat) (l : List UInt8) : List Value := cur.take off ++ (l.map u8v ++ cur.drop (off + l.length))
theorem laid_len (cur : List Value) (off : Nat) (l : List UInt8) (h : off + l.length ≤ cur.length) : (laid cur off l).length = cur.length := by
  simp [laid]; omega
theorem laid_take (cur : List Value) (off : Nat) (l : List UInt8) (h : off + l.length ≤ cur.length) : (laid cur off l).take (off + l.length) = cur.take off ++ l.map u8v := by
  have h1 : (cur.take off).length = off := by rw [List.length_take]; omega
  unfold laid
  rw [← List.append_assoc, List.take_append_of_le_length (by simp; omega), List.take_of_length_le (by simp; omega)]
theorem laid_get (cur : List Value) (off : Nat) (l : List UInt8) (h : off + l.length ≤ cur.length) (j : Nat) (hj : j < l.length) : (laid cur off l)[off + j]? = some (u8v l[j]) := by
  have h1 : (cur.take off).length = off := by rw [List.length_take]; omega
  unfold laid
  rw [List.getElem?_append_right (by omega), h1, List.getElem?_append_left (by simp; omega), Nat.add_sub_cancel_left]
  simp [hj]
theorem byt_laid {w : World} {b : Nat} {T : TypeId} {bs l : List UInt8} (h : BlkT w b T (laid (bs.map u8v) 0 l)) : Byt w b (l ++ bs.drop l.length) := by
  refine ⟨T, ?_⟩
  have e : laid (bs.map u8v) 0 l = (l ++ bs.drop l.length).map u8v := by simp [laid, List.map_drop]
  rw [← e]; exact h

theorem run_copy_str_at {P : Program} (w : World) (dT sT ty elem T : TypeId) (g off dLen dCap : Nat) (s : ByteArray) (cur : List Value) (l : List UInt8) (hl : l = s.data.toList)
    (hu : P.underlying dT = some (.slice elem)) (hs : (P.info? elem).map (·.size) = some 1) (hg : BlkT w g T cur) (hfit : off + dLen ≤ cur.length) :
    (Builtin.copy_ #[dT, sT] ty #[.slice (some ⟨g, off, none⟩) dLen dCap, .string s]).run P w =
      .ok (.int .i64 (min dLen l.length : Nat)) (w.setRow g (laid cur off (l.take dLen)).toArray) := by
  subst hl
  have hsz : s.size = s.data.toList.length := by rw [Array.length_toList]; rfl
  have hlen : ((s.data.toList.take dLen).map u8v).length = min dLen s.data.toList.length := by simp
  have hlen' : (s.data.toList.take dLen).length = min dLen s.data.toList.length := by simp
  have hst := run_storeCells_at P g off T ((s.data.toList.take dLen).map u8v) 0 cur.toArray w hg (by rw [hlen]; simp; omega) (u8v_one _)
  have hmin : Nat.min s.size dLen = min dLen s.data.toList.length := by rw [hsz]; exact Nat.min_comm _ _
  have htk : List.take (min dLen s.data.toList.length) (List.map (fun b : UInt8 => Value.int IntKind.u8 (b.toNat : Int)) s.data.toList) = (s.data.toList.take dLen).map u8v := by
    rw [← List.map_take]
    have : List.take (min dLen s.data.toList.length) s.data.toList = s.data.toList.take dLen := by
      rcases Nat.le_total dLen s.data.toList.length with h | h
      · rw [Nat.min_eq_left h]
      · rw [Nat.min_eq_right h, List.take_of_length_le (Nat.le_refl _), List.take_of_length_le h]
    rw [this]; rfl
  rw [hlen] at hst
  simp only [Nat.add_zero] at hst
  unfold laid
  rw [hlen']
  cases hq : P.info? elem with
  | none => simp [hq] at hs
  | some i =>
    simp [Builtin.copy_, run_underlying hu, Builtin.lenOf, Builtin.firstCells, sizeOf, typeInfo, hq, hmin]
    rw [← hsz] at htk hst
    rw [htk, hst]
    simp [Result.andThen, goInt, List.map_take]

/-- 'copy(dst, s)', s a string, dst a row's part. -/
theorem wpList_copy_strT {P : Program} {w : World} {ops : Array Oper} {rest : List Oper} {o : Oper} {a : Act} {Q : Exit → Act → World → Prop} (hgd : o.guard = none) (d s : Operand) (dT sT : TypeId)
    (ho : o.op = .call { callee := .builtin .copy, args := #[d, s], argTypes := #[dT, sT] }) (elem : TypeId) (hu : P.underlying dT = some (.slice elem)) (hsz : (P.info? elem).map (·.size) = some 1)
    (g off dLen dCap : Nat) (t : ByteArray) (hd : a.eval d = .slice (some ⟨g, off, none⟩) dLen dCap) (hs : a.eval s = .string t) (T : TypeId) (cur : List Value) (l : List UInt8) (n : Nat) (hl : Hid (l = t.data.toList)) (hn : Hid (n = min dLen l.length))
    (hg : BlkT w g T cur) (hfit : Hid (off + dLen ≤ cur.length))
    (h : ∀ w', BlkT w' g T (laid cur off (l.take dLen)) → Fr [g] w w' → wpList P ops Q rest (a.put o.dst (.int .i64 n)) w') :
    wpList P ops Q (o :: rest) a w := by
  refine wpList_plain hgd fun K hK => ?_
  have hl := hl.out
  have hn := hn.out
  subst hn
  have hrun := run_copy_str_at (P := P) w dT sT o.type elem T g off dLen dCap t cur l hl hu hsz hg hfit.out
  have hb := hg.setRow (laid cur off (l.take dLen))
  have hf : Fr [g] w (w.setRow g (laid cur off (l.take dLen)).toArray) := (Fr.refl _ _).setRow (by simp) _
  generalize w.setRow g (laid cur off (l.take dLen)).toArray = w1 at hrun hb hf
  unfold Oper.wp
  simp only [execOp, ho, resolve, invoke, builtin]
  simp [hd, hs, hrun, Result.andThen]
  exact hK _ _ (h _ hb hf)

/-- 'copy(dst, src)', src a row's part elsewhere (or here). -/
theorem wpList_copy_slT {P : Program} {w : World} {ops : Array Oper} {rest : List Oper} {o : Oper} {a : Act} {Q : Exit → Act → World → Prop} (hgd : o.guard = none) (d s : Operand) (dT sT : TypeId)
    (ho : o.op = .call { callee := .builtin .copy, args := #[d, s], argTypes := #[dT, sT] }) (elem : TypeId) (hu : P.underlying dT = some (.slice elem)) (hsz : (P.info? elem).map (·.size) = some 1)
    (g off dLen dCap : Nat) (ad : Addr) (sLen sCap : Nat) (hd : a.eval d = .slice (some ⟨g, off, none⟩) dLen dCap) (hs : a.eval s = .slice (some ad) sLen sCap) (T : TypeId) (cur : List Value) (l : List UInt8) (n : Nat) (hl : Hid (l.length = sLen)) (hn : Hid (n = min dLen l.length))
    (hg : BlkT w g T cur) (hfit : Hid (off + dLen ≤ cur.length)) (hsrc : Hid (∀ j (h : j < l.length), w.cell? (ad.add j) = some (.int .u8 l[j].toNat)))
    (h : ∀ w', BlkT w' g T (laid cur off (l.take dLen)) → Fr [g] w w' → wpList P ops Q rest (a.put o.dst (.int .i64 n)) w') :
    wpList P ops Q (o :: rest) a w := by
  have hn := hn.out
  subst hn
  have hlen : (l.take dLen).length = min dLen l.length := by simp
  have hfit := hfit.out
  refine wpList_copy_own hgd d s dT sT ho elem hu hsz g off dLen dCap ad sLen sCap hd hs cur.toArray T hg ((l.take dLen).map u8v) (by rw [List.length_map, hlen, ← hl.out]; exact Nat.min_comm _ _) ?_ (by rw [List.length_map, hlen]; simp; omega) (u8v_one _) ?_
  · intro j v hj
    rw [List.getElem?_map] at hj
    cases hq : (l.take dLen)[j]? with
    | none => rw [hq] at hj; cases hj
    | some c =>
      rw [hq] at hj
      have hv : v = u8v c := by simpa using hj.symm
      have hjl : j < l.length := by
        have := (List.getElem?_eq_some_iff.1 hq).1
        simp at this; omega
      have hc : l[j] = c := by
        have := (List.getElem?_eq_some_iff.1 hq).2
        simpa using this
      rw [hsrc.out j hjl, hv, hc]; rfl
  · have hb := hg.setRow (laid cur off (l.take dLen))
    have hf : Fr [g] w (w.setRow g (laid cur off (l.take dLen)).toArray) := (Fr.refl _ _).setRow (by simp) _
    have e : (cur.toArray.toList.take off ++ ((l.take dLen).map u8v ++ cur.toArray.toList.drop (off + ((l.take dLen).map u8v).length))).toArray = (laid cur off (l.take dLen)).toArray := by
      unfold laid; simp
    rw [e]
    have e2 : goInt ((l.take dLen).map u8v).length = .int .i64 ((min dLen l.length : Nat) : Int) := by
      rw [List.length_map, hlen]; rfl
    rw [e2]
    exact h _ hb hf
/-- The same, the source's value told apart. -/
theorem wpList_copy_slV {P : Program} {w : World} {ops : Array Oper} {rest : List Oper} {o : Oper} {a : Act} {Q : Exit → Act → World → Prop} (hgd : o.guard = none) (d s : Operand) (dT sT : TypeId)
    (ho : o.op = .call { callee := .builtin .copy, args := #[d, s], argTypes := #[dT, sT] }) (elem : TypeId) (hu : P.underlying dT = some (.slice elem)) (hsz : (P.info? elem).map (·.size) = some 1)
    (g off dLen dCap : Nat) (ad : Addr) (sLen sCap : Nat) (hd : a.eval d = .slice (some ⟨g, off, none⟩) dLen dCap) (sv : Value) (hs : a.eval s = sv) (hsv : sv = .slice (some ad) sLen sCap) (T : TypeId) (cur : List Value) (l : List UInt8) (n : Nat) (hl : Hid (l.length = sLen)) (hn : Hid (n = min dLen l.length))
    (hg : BlkT w g T cur) (hfit : Hid (off + dLen ≤ cur.length)) (hsrc : Hid (∀ j (h : j < l.length), w.cell? (ad.add j) = some (.int .u8 l[j].toNat)))
    (h : ∀ w', BlkT w' g T (laid cur off (l.take dLen)) → Fr [g] w w' → wpList P ops Q rest (a.put o.dst (.int .i64 n)) w') :
    wpList P ops Q (o :: rest) a w := by
  subst hsv
  exact wpList_copy_slT hgd d s dT sT ho elem hu hsz g off dLen dCap ad sLen sCap hd hs T cur l n hl hn hg hfit hsrc h
end Go.Proofs.YtgiklkapedlckaaGreatDoor
