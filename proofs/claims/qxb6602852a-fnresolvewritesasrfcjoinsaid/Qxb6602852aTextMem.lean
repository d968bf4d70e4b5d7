import Derived.Test.Qxb6602852aBack
import Derived.Test.Qxb6602852aStep
import Derived.Test.Qxb6602852aRes
import Derived.Maps.AppendAt
import Derived.Deep.Cut
import Derived.Deep.CutRange
import Derived.OneCell
namespace Go.Proofs.Qxb6602852a
open Go.RowKit Go.Shelf

/-- the chain of directories from a pointer on: block and path of each -/
def Chain (W : World) (n₀ : Nat) : Option Addr → List (Nat × ByteArray) → Prop
  | none, [] => True
  | some ad, x :: rest => ad = ⟨x.1, 0, none⟩ ∧ x.1 < n₀ ∧ W.cell? ⟨x.1, 3, none⟩ = some (.string x.2) ∧ ∃ un, W.cell? ⟨x.1, 4, none⟩ = some (.pointer un) ∧ Chain W n₀ un rest
  | none, _ :: _ => False
  | some _, [] => False
theorem Chain.below {W W' : World} {n₀ : Nat} (h : Below n₀ W W') : ∀ {p : Option Addr} {ps : List (Nat × ByteArray)}, Chain W n₀ p ps → Chain W' n₀ p ps
  | none, [], _ => trivial
  | some _, x :: _, ⟨h1, h2, h3, un, h4, h5⟩ => ⟨h1, h2, (h.cell (p := ⟨x.1, 3, none⟩) h2).trans h3, un, (h.cell (p := ⟨x.1, 4, none⟩) h2).trans h4, Chain.below h h5⟩
def tot : List (Nat × ByteArray) → Nat
  | [] => 0
  | x :: r => 1 + x.2.size + tot r
theorem tot_append (a b : List (Nat × ByteArray)) : tot (a ++ b) = tot a + tot b := by
  induction a with
  | nil => simp [tot]
  | cons x a ih => simp [tot, ih]; omega

def ptrs (l : List (Nat × ByteArray)) : List Value := l.map fun x => .pointer (some ⟨x.1, 0, none⟩)
theorem info25 : (Try.prog.info? 25).map (fun i => (i.zero, i.size, i.bytes)) = some (some (.pointer none), 1, 8) := by kernel_rfl
theorem info5 : (Try.prog.info? 5).map (fun i => (i.zero, i.size, i.bytes)) = some (some (.int .u8 0), 1, 1) := by kernel_rfl

theorem grown_below {w wr w3 : World} {v : Value} {n : Nat} {xs : List Value} {e : TypeId} (hb : Below w.heap.size w wr) (hr : wr.ownsRow w.heap.size e 1 v n xs) (o : Obj) (hg : (wr.alloc o).grownBy w3 v.ownBlock) : Below w.heap.size w w3 :=
  (hb.alloc hb.size o).grown hg (by simp; have := hb.size; omega) (fun k hk => (hr.lt k hk).1)

def bys (l : List UInt8) : List Value := l.map fun x => .int .u8 (x.toNat : Int)
/-- the variable that holds the buffer -/
structure Bxs (w wr wx : World) (Bb Bx : Nat) (v : Value) : Prop where
  bo : Boxed wx Bx 27 v
  blt : Bb < wx.heap.size
  ne : Bx ≠ Bb
  lb : w.heap.size ≤ Bb
  lx : w.heap.size ≤ Bx
  bw : Below w.heap.size w wx
  br : Below wr.heap.size wr wx
  lbr : wr.heap.size ≤ Bb
  lxr : wr.heap.size ≤ Bx
theorem Bxs.c {w wr wx : World} {Bb Bx : Nat} {v : Value} (h : Bxs w wr wx Bb Bx v) : wx.cell? ⟨Bx, 0, none⟩ = some v := h.bo.cell
theorem Bxs.f {w wr wx : World} {Bb Bx : Nat} {v : Value} (h : Bxs w wr wx Bb Bx v) : wx.frozen? ⟨Bx, 0, none⟩ = false := h.bo.frozen
theorem Bxs.lt {w wr wx : World} {Bb Bx : Nat} {v : Value} (h : Bxs w wr wx Bb Bx v) : Bx < wx.heap.size := h.bo.lt
theorem Bxs.drew {w wr wx : World} {Bb Bx : Nat} {v : Value} (h : Bxs w wr wx Bb Bx v) : Bxs w wr wx.drew Bb Bx v := ⟨h.bo, h.blt, h.ne, h.lb, h.lx, h.bw.drew, h.br.drew, h.lbr, h.lxr⟩
theorem Bxs.alloc {w wr wx : World} {Bb Bx : Nat} {v : Value} (h : Bxs w wr wx Bb Bx v) (o : Obj) : Bxs w wr (wx.alloc o) Bb Bx v :=
  have hb := (Below.refl wx.heap.size wx).alloc (Nat.le_refl _) o
  ⟨h.bo.alloc o, Nat.lt_of_lt_of_le h.blt hb.size, h.ne, h.lb, h.lx, h.bw.alloc h.bw.size o, h.br.alloc h.br.size o, h.lbr, h.lxr⟩
theorem Bxs.grown {w wr wx w' : World} {Bb Bx : Nat} {v : Value} (h : Bxs w wr wx Bb Bx v) (hg : wx.grownBy w' (some Bb)) : Bxs w wr w' Bb Bx v :=
  ⟨h.bo.kept hg (fun e => h.ne (by simpa using e)), Nat.lt_of_lt_of_le h.blt hg.size, h.ne, h.lb, h.lx,
    h.bw.grown hg h.bw.size (fun k hk => by cases hk; exact h.lb), h.br.grown hg h.br.size (fun k hk => by cases hk; exact h.lbr), h.lbr, h.lxr⟩
theorem Bxs.store {w wr wx : World} {Bb Bx : Nat} {v : Value} (h : Bxs w wr wx Bb Bx v) (u : Value) : Bxs w wr (wx.setCell ⟨Bx, 0, none⟩ u) Bb Bx u :=
  ⟨h.bo.set u, by simpa using h.blt, h.ne, h.lb, h.lx, h.bw.setCell h.lx _, h.br.setCell h.lxr _, h.lbr, h.lxr⟩
/-- the buffer and the variable that holds it -/
structure TB (w wr wx : World) (Bb Bx cap : Nat) (l : List UInt8) : Prop where
  row : wx.ownsRow w.heap.size 5 1 (.slice (some ⟨Bb, 0, none⟩) l.length cap) l.length (bys l)
  bx : Bxs w wr wx Bb Bx (.slice (some ⟨Bb, 0, none⟩) l.length cap)
/-- behind an append and the store into the variable -/
theorem TB.stored {w wr w' : World} {Bb Bx cap n : Nat} {v : Value} {xs : List Value} (l' : List UInt8) (hl : l'.length = n) (hx : xs = bys l') (hr : w'.ownsRow w.heap.size 5 1 (.slice (some ⟨Bb, 0, none⟩) n cap) n xs) (hb : Bxs w wr w' Bb Bx v) :
    TB w wr (w'.setCell ⟨Bx, 0, none⟩ (.slice (some ⟨Bb, 0, none⟩) n cap)) Bb Bx cap l' := by
  subst hl hx
  exact ⟨ownsRow_setCell_other hr (by simp [Value.ownBlock]; exact fun e => hb.ne e.symm) _, hb.store _⟩

/-- where no way out but the plain one is taken -/
theorem wp_strict {P : Program} {c : Code} {K : Act → World → Prop} {Q : Exit → Act → World → Prop} {a : Act} {w : World} (h : c.wp P (Exit.then K (fun _ _ _ => False)) a w) : c.wp P (Exit.then K Q) a w :=
  wp_mono h fun e _ _ hq => by
    cases e with
    | normal => exact hq
    | _ => exact hq.elim

def hdr (sc au : ByteArray) (ha : Bool) : List UInt8 := if sc.toList.isEmpty then [] else sc.data.toList ++ [58] ++ (if ha then [47, 47] ++ au.data.toList else [])

theorem hdr_le (sc au : ByteArray) (ha : Bool) : (hdr sc au ha).length ≤ sc.size + 3 + au.size := by
  have h1 := Lib.size_eq sc
  have h2 := Lib.size_eq au
  unfold hdr
  split
  · simp
  · split
    · simp; omega
    · simp; omega
theorem bys_app (a b : List UInt8) : bys (a ++ b) = bys a ++ bys b := by simp [bys]
theorem bys_str (s : ByteArray) : Lib.strCells s = bys s.data.toList := rfl
theorem TB.first {w wr w0 : World} {n : Nat} (hb : Below w.heap.size w w0) (hbr : Below wr.heap.size wr w0) (hwr : w.heap.size ≤ wr.heap.size) (hlt : wr.heap.size < w0.heap.size) (h : w0.ownsRow w.heap.size 5 1 (.slice (some ⟨wr.heap.size, 0, none⟩) 0 n) 0 []) :
    TB w wr (w0.alloc (.cells #[.slice (some ⟨wr.heap.size, 0, none⟩) 0 n] 27)) wr.heap.size w0.heap.size n [] :=
  ⟨h.alloc _, Boxed.new _ _ _, by simp; omega, by omega, hwr, hb.size, hb.alloc hb.size _, hbr.alloc hbr.size _, Nat.le_refl _, Nat.le_of_lt hlt⟩
/-- the one cell of a literal, behind an append elsewhere -/
theorem lit_kept {wx w' : World} {Bb : Nat} (x : Value) (t : TypeId) (hlt : Bb < wx.heap.size) (hg : (wx.alloc (.cells #[x] t)).grownBy w' (some Bb)) : ∀ j u, [x][j]? = some u → w'.cell? ((⟨wx.heap.size, 0, none⟩ : Addr).add j) = some u := by
  intro j u hj
  have h1 := cell_one_new wx x t j u hj
  have hb : w'.heap[wx.heap.size]? = (wx.alloc (.cells #[x] t)).heap[wx.heap.size]? := hg.block _ (by simp) (fun e => by simp at e; omega)
  have ha : ((⟨wx.heap.size, 0, none⟩ : Addr).add j).block = wx.heap.size := by
    match j, hj with
    | 0, _ => simp [Addr.add]
  rw [← h1]
  exact World.cell?_of_block (by rw [ha]; exact hb)
theorem lit_kept_d {wx w' : World} {Bb : Nat} (x : Value) (t : TypeId) (hlt : Bb < wx.heap.size) (hg : (wx.alloc (.cells #[x] t)).drew.grownBy w' (some Bb)) : ∀ j u, [x][j]? = some u → w'.cell? ((⟨wx.heap.size, 0, none⟩ : Addr).add j) = some u :=
  lit_kept x t hlt ⟨hg.os, hg.tape, hg.output, hg.size, hg.block⟩
theorem len_app (l : List UInt8) (s : ByteArray) : (l ++ s.data.toList).length = l.length + s.size := by rw [List.length_append, ← Lib.size_eq]
theorem bys_app2 (l : List UInt8) (s : ByteArray) : bys l ++ Lib.strCells s = bys (l ++ s.data.toList) := by rw [bys_app, bys_str]
theorem len_sc1 (sc : ByteArray) : (sc.data.toList ++ [58]).length = sc.size + 1 := by rw [List.length_append, ← Lib.size_eq]; rfl
theorem bys_sc1 (sc : ByteArray) : Lib.strCells sc ++ [.int .u8 58] = bys (sc.data.toList ++ [58]) := by rw [bys_app, bys_str]; rfl
theorem len_sc2 (sc au : ByteArray) : (sc.data.toList ++ [58] ++ ([47, 47] ++ au.data.toList)).length = sc.size + 1 + 2 + au.size := by
  rw [List.length_append, len_sc1, List.length_append, ← Lib.size_eq]
  show sc.size + 1 + (2 + au.size) = _
  omega
theorem bys_sc2 (sc au : ByteArray) : bys (sc.data.toList ++ [58]) ++ Lib.strCells ⟨#[47, 47]⟩ ++ Lib.strCells au = bys (sc.data.toList ++ [58] ++ ([47, 47] ++ au.data.toList)) := by
  rw [bys_app (sc.data.toList ++ [58]), bys_app [47, 47], ← List.append_assoc]
  rfl
end Go.Proofs.Qxb6602852a
