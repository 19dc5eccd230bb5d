/- Scan's own blocks beside the scanner and its buffer: what stands of them behind each call. -/
import Derived.Test.YtgiklkapedlckaaGreatDoorNumH
import Derived.Test.YtgiklkapedlckaaGreatDoorStr
import Derived.Test.YtgiklkapedlckaaGreatDoorCom
namespace Go.Proofs.YtgiklkapedlckaaGreatDoor
open Go.RowKit

def tkCells (typ : Int) (nm str src : ByteArray) (line col : Int) : List Value := [.int .i64 typ, .string nm, .string str, .string src, .int .i64 line, .int .i64 col]
/-- The token's block tb, the result's block rb, the lexer's block lx, the buffer b; W0: the world at the call's start. -/
structure Tk (W0 : World) (L : Loc) (lx B b tb rb : Nat) (ls : List Value) (w : World) (st : St) (l : List UInt8) (typ : Int) (nm str : ByteArray) (line col : Int) : Prop where
  at_ : At w L B b w st l
  hTb : Blk w tb (tkCells typ nm str L.src line col)
  hRb : Blk w rb (tkCells 0 ⟨#[]⟩ ⟨#[]⟩ ⟨#[]⟩ 0 0)
  hLx : Blk w lx ls
  fr : Fb (lx :: L.own) W0.heap.size W0 w
  tbB : tb < B
  rbB : rb < B
  lxB : lx < B
  tn : W0.heap.size ≤ tb
  rn : W0.heap.size ≤ rb
  bn : W0.heap.size ≤ B
  tr : tb ≠ rb
  ax : lx ∉ L.all
  lw : ∀ k ∈ L.all, k < W0.heap.size
  lxw : lx < W0.heap.size

section
variable {W0 w w' : World} {L : Loc} {lx B b tb rb : Nat} {ls : List Value} {st st' : St} {l l' : List UInt8} {typ : Int} {nm str : ByteArray} {line col : Int}
theorem Tk.nt (h : Tk W0 L lx B b tb rb ls w st l typ nm str line col) : tb ∉ L.all := fun hm => by have := h.lw tb hm; have := h.tn; omega
theorem Tk.nr (h : Tk W0 L lx B b tb rb ls w st l typ nm str line col) : rb ∉ L.all := fun hm => by have := h.lw rb hm; have := h.rn; omega
theorem Tk.tl (h : Tk W0 L lx B b tb rb ls w st l typ nm str line col) : tb ≠ lx := fun e => by have := h.lxw; have := h.tn; omega
theorem Tk.rl (h : Tk W0 L lx B b tb rb ls w st l typ nm str line col) : rb ≠ lx := fun e => by have := h.lxw; have := h.rn; omega
/-- Behind a call of the scanner's or the buffer's. -/
theorem Tk.step (h : Tk W0 L lx B b tb rb ls w st l typ nm str line col) (h' : At w L B b w' st' l') : Tk W0 L lx B b tb rb ls w' st' l' typ nm str line col :=
  ⟨⟨h'.sc, h'.buf, Fb.refl _ _ _, h'.low⟩, h.hTb.of_block (h'.fb.block tb h.tbB (fun hm => h.nt (Loc.own_all _ hm))), h.hRb.of_block (h'.fb.block rb h.rbB (fun hm => h.nr (Loc.own_all _ hm))),
    h.hLx.of_block (h'.fb.block lx h.lxB (fun hm => h.ax (Loc.own_all _ hm))),
    h.fr.trans ⟨h'.fb.os, h'.fb.tape, h'.fb.output, h'.fb.size, fun k hk ho => h'.fb.block k (Nat.lt_of_lt_of_le hk h.bn) (fun hm => ho (by simp [hm]))⟩, h.tbB, h.rbB, h.lxB, h.tn, h.rn, h.bn, h.tr, h.ax, h.lw, h.lxw⟩
theorem Tk.drewN (h : Tk W0 L lx B b tb rb ls w st l typ nm str line col) (n : Nat) : Tk W0 L lx B b tb rb ls (w.drewN n) st l typ nm str line col := h.step (h.at_.drewN n)
/-- Behind a store into the token's block. -/
theorem Tk.put (h : Tk W0 L lx B b tb rb ls w st l typ nm str line col) {typ' : Int} {nm' str' : ByteArray} {line' col' : Int} (f : Fr [tb] w w') (hb : Blk w' tb (tkCells typ' nm' str' L.src line' col')) : Tk W0 L lx B b tb rb ls w' st l typ' nm' str' line' col' :=
  ⟨⟨h.at_.sc.keep f.size (fun k hk => f.block k (h.at_.sc.lt k hk) (by
      simp only [List.mem_cons, List.not_mem_nil, or_false]
      intro e; exact h.nt (by rw [← e]; exact hk))), h.at_.buf.fr f (by simpa using h.tbB), Fb.refl _ _ _, h.at_.low⟩, hb, f.blk h.hRb (by simpa using h.tr.symm), f.blk h.hLx (by simpa using h.tl.symm),
    h.fr.trans ⟨f.os, f.tape, f.output, f.size, fun k hk _ => f.block k (Nat.lt_of_lt_of_le hk h.fr.size) (by
      have := h.tn
      simp only [List.mem_cons, List.not_mem_nil, or_false]; omega)⟩, h.tbB, h.rbB, h.lxB, h.tn, h.rn, h.bn, h.tr, h.ax, h.lw, h.lxw⟩
theorem Tk.setTyp (h : Tk W0 L lx B b tb rb ls w st l typ nm str line col) (t : Int) : Tk W0 L lx B b tb rb ls (w.setCell ⟨tb, 0, none⟩ (.int .i64 t)) st l t nm str line col :=
  h.put ((Fr.refl _ _).setCell (by simp) _) (h.hTb.set 0 _)
theorem Tk.setNm (h : Tk W0 L lx B b tb rb ls w st l typ nm str line col) (s : ByteArray) : Tk W0 L lx B b tb rb ls (w.setCell ⟨tb, 1, none⟩ (.string s)) st l typ s str line col :=
  h.put ((Fr.refl _ _).setCell (by simp) _) (h.hTb.set 1 _)
theorem Tk.setStr (h : Tk W0 L lx B b tb rb ls w st l typ nm str line col) (s : ByteArray) : Tk W0 L lx B b tb rb ls (w.setCell ⟨tb, 2, none⟩ (.string s)) st l typ nm s line col :=
  h.put ((Fr.refl _ _).setCell (by simp) _) (h.hTb.set 2 _)
theorem Tk.facts (h : Tk W0 L lx B b tb rb ls w st l typ nm str line col) :
    w.cell? ⟨tb, 0, none⟩ = some (.int .i64 typ) ∧ w.cell? ⟨tb, 1, none⟩ = some (.string nm) ∧ w.cell? ⟨tb, 2, none⟩ = some (.string str) ∧ w.cell? ⟨tb, 3, none⟩ = some (.string L.src) ∧ w.cell? ⟨tb, 4, none⟩ = some (.int .i64 line) ∧ w.cell? ⟨tb, 5, none⟩ = some (.int .i64 col) ∧
    w.frozen? ⟨tb, 0, none⟩ = false ∧ w.frozen? ⟨tb, 1, none⟩ = false ∧ w.frozen? ⟨tb, 2, none⟩ = false := by
  have b := h.hTb
  unfold tkCells at b
  exact ⟨b.cell 0 _ rfl, b.cell 1 _ rfl, b.cell 2 _ rfl, b.cell 3 _ rfl, b.cell 4 _ rfl, b.cell 5 _ rfl, b.free 0, b.free 1, b.free 2⟩

theorem peek_tk (h : Tk W0 L lx B b tb rb ls w st l typ nm str line col) : Calls Tryz.prog 16 #[.pointer (some ⟨L.S, 0, none⟩)] w
      fun e w' => e = .returned (.int .i64 (hd st.rest)) ∧ Tk W0 L lx B b tb rb ls w' st l typ nm str line col :=
  (peek_at h.at_).mono fun _ _ ⟨he, hs⟩ => ⟨he, h.step hs⟩
theorem next_tk (h : Tk W0 L lx B b tb rb ls w st l typ nm str line col) : Calls Tryz.prog 18 #[.pointer (some ⟨L.S, 0, none⟩)] w
      fun e w' => e = .returned (.int .i64 st.nextC) ∧ Tk W0 L lx B b tb rb ls w' st.nextS l typ nm str line col :=
  (next_at h.at_).mono fun _ _ ⟨he, hs⟩ => ⟨he, h.step hs⟩
theorem writeChar_tk (h : Tk W0 L lx B b tb rb ls w st l typ nm str line col) (c : Int) (hlim : l.length + 1 ≤ 140737488355328) :
    Calls Tryz.prog 22 #[.pointer (some ⟨b, 0, none⟩), .int .i64 c] w fun e w' => e = .returned (.tuple #[]) ∧ Tk W0 L lx B b tb rb ls w' st (l ++ [by8 c]) typ nm str line col :=
  (writeChar_at h.at_ c hlim).mono fun _ _ ⟨he, hs⟩ => ⟨he, h.step hs⟩
theorem bufString_tk (h : Tk W0 L lx B b tb rb ls w st l typ nm str line col) :
    Calls Tryz.prog 12 #[.pointer (some ⟨b, 0, none⟩)] w fun e w' => e = .returned (.string ⟨l.toArray⟩) ∧ Tk W0 L lx B b tb rb ls w' st l typ nm str line col :=
  (bufString_at h.at_).mono fun _ _ ⟨he, n, hw⟩ => ⟨he, hw ▸ h.drewN n⟩
theorem error_tk (h : Tk W0 L lx B b tb rb ls w st l typ nm str line col) (tok msg : ByteArray) : Calls Tryz.prog 21 #[.pointer (some ⟨L.S, 0, none⟩), .string tok, .string msg] w
      fun e w' => ∃ k : Nat, e = .returned (.pointer (some ⟨k, 0, none⟩)) ∧ Tk W0 L lx B b tb rb ls w' st l typ nm str line col :=
  (error_at h.at_ tok msg).mono fun _ _ ⟨he, hs⟩ => ⟨_, he, h.step hs⟩
theorem ident_tk (h : Tk W0 L lx B b tb rb ls w st l typ nm str line col) (c : Int) (hl : l.length + st.rest.length ≤ 8796093022208) :
    Calls Tryz.prog 11 #[.pointer (some ⟨L.S, 0, none⟩), .int .i64 c, .pointer (some ⟨b, 0, none⟩)] w
      fun e w' => e = .returned .nilIface ∧ Tk W0 L lx B b tb rb ls w' (st.adv identI) (l ++ by8 c :: st.run identI) typ nm str line col :=
  (ident_at h.at_ c hl).mono fun _ _ ⟨he, hs⟩ => ⟨he, h.step hs⟩
theorem str_tk (h : Tk W0 L lx B b tb rb ls w st l typ nm str line col) (q : Int) (hl : l.length + st.rest.length ≤ 1099511627776) :
    Calls Tryz.prog 19 #[.pointer (some ⟨L.S, 0, none⟩), .int .i64 q, .pointer (some ⟨b, 0, none⟩)] w
      fun e w' => ∃ er, e = .returned er ∧ ErrIs (strL q st.nextC st.nextS l).1 er ∧ Tk W0 L lx B b tb rb ls w' (strL q st.nextC st.nextS l).2.2 (strL q st.nextC st.nextS l).2.1 typ nm str line col :=
  (str_at h.at_ q hl).mono fun _ _ ⟨er, he, hr, hs⟩ => ⟨er, he, hr, h.step hs⟩
theorem multi_tk (h : Tk W0 L lx B b tb rb ls w st [] typ nm str line col) (c : Int) (hl : st.rest.length ≤ 1099511627776) :
    Calls Tryz.prog 20 #[.pointer (some ⟨L.S, 0, none⟩), .int .i64 c, .pointer (some ⟨b, 0, none⟩)] w
      fun e w' => ∃ er, e = .returned er ∧ ErrIs (long c st).1 er ∧ Tk W0 L lx B b tb rb ls w' (long c st).2.2 (long c st).2.1 typ nm str line col :=
  (multi_at h.at_ c hl).mono fun _ _ ⟨er, he, hr, hs⟩ => ⟨er, he, hr, h.step hs⟩
theorem num_tk (h : Tk W0 L lx B b tb rb ls w st [] typ nm str line col) (c : Int) (hl : st.rest.length ≤ 1099511627776) :
    Calls Tryz.prog 15 #[.pointer (some ⟨L.S, 0, none⟩), .int .i64 c, .pointer (some ⟨b, 0, none⟩)] w
      fun e w' => ∃ er, e = .returned er ∧ ErrIs (num c st).1 er ∧ Tk W0 L lx B b tb rb ls w' (num c st).2.2 (num c st).2.1 typ nm str line col :=
  (num_at h.at_ c (by simp; omega)).mono fun _ _ ⟨er, he, hr, hs⟩ => ⟨er, he, hr, h.step hs⟩
theorem com_tk (h : Tk W0 L lx B b tb rb ls w st l typ nm str line col) (c : Int) (hl : st.rest.length ≤ 1099511627776) :
    Calls Tryz.prog 17 #[.pointer (some ⟨L.S, 0, none⟩), .int .i64 c] w
      fun e w' => ∃ er, e = .returned er ∧ ErrIs (comment c st).1 er ∧ Tk W0 L lx B b tb rb ls w' (comment c st).2 l typ nm str line col :=
  (comment_any w L st c h.at_.sc hl).mono fun _ _ ⟨er, he, hr, hs, f⟩ => ⟨er, he, hr, h.step (h.at_.scan hs f)⟩
end
end Go.Proofs.YtgiklkapedlckaaGreatDoor
