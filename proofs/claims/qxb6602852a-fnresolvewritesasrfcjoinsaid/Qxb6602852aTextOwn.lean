import Derived.Test.Qxb6602852aTextMem
import Derived.WalkSmall
import Derived.Lib.BufferRead
namespace Go.Proofs.Qxb6602852a
open Go.RowKit Go.Shelf

/-- one path under another -/
def joinB (q p : List UInt8) : List UInt8 := (if q.getLast? = some 47 then q.dropLast else q) ++ 47 :: p

/-- the loop's variables in W1, a round having begun in W: the buffer's, the start's, the slice's, and the slice's own block -/
structure Mid (w : World) (Bx Bs Bc y hl : Nat) (sv v : Value) (W W1 : World) : Prop where
  bx : Boxed W1 Bx 27 v
  bs : Boxed W1 Bs 3 (.int .i64 (hl : Int))
  bc : Boxed W1 Bc 42 sv
  yy : y = Bc ∨ ∃ c, W1.heap[y]? = some (.cells c 25 (0, 0))
  lx : w.heap.size ≤ Bx
  bw : Below w.heap.size w W1
  ko : KeepsOthers W W1
  kb : KeepB Bc y W W1

theorem yy_kept {W1 W2 : World} {Bc y : Nat} (h : y = Bc ∨ ∃ c, W1.heap[y]? = some (.cells c 25 (0, 0))) (e : W2.heap[y]? = W1.heap[y]?) : y = Bc ∨ ∃ c, W2.heap[y]? = some (.cells c 25 (0, 0)) := by
  rcases h with h | ⟨c, hc⟩
  · exact Or.inl h
  · exact Or.inr ⟨c, e.trans hc⟩
section
variable {w W W1 W2 : World} {Bx Bs Bc y hl : Nat} {sv v : Value}
theorem Mid.again (h : Mid w Bx Bs Bc y hl sv v W W1) : Mid w Bx Bs Bc y hl sv v W1 W1 := ⟨h.bx, h.bs, h.bc, h.yy, h.lx, h.bw, KeepsOthers.refl _, KeepB.refl _ _ _⟩
theorem Mid.drew (h : Mid w Bx Bs Bc y hl sv v W W1) : Mid w Bx Bs Bc y hl sv v W W1.drew := ⟨h.bx, h.bs, h.bc, h.yy, h.lx, h.bw.drew, h.ko.trans (KeepsOthers.drew _), h.kb⟩
theorem Mid.ylt (h : Mid w Bx Bs Bc y hl sv v W W1) : y < W1.heap.size := by
  rcases h.yy with rfl | ⟨c, hc⟩
  · exact h.bc.lt
  · exact (Array.getElem?_eq_some_iff.1 hc).1
theorem Mid.alloc (h : Mid w Bx Bs Bc y hl sv v W W1) (o : Obj) : Mid w Bx Bs Bc y hl sv v W (W1.alloc o) :=
  ⟨h.bx.alloc o, h.bs.alloc o, h.bc.alloc o, yy_kept h.yy (Below.heap_alloc W1 o y h.ylt), h.lx, h.bw.alloc h.bw.size o, h.ko.trans (KeepsOthers.alloc _ _),
    h.kb.trans ⟨Below.heap_alloc W1 o Bc h.bc.lt, Below.heap_alloc W1 o y h.ylt⟩⟩
/-- behind the turn of a row of bytes of the call's own -/
theorem Mid.row (h : Mid w Bx Bs Bc y hl sv v W W1) {g n cap : Nat} {xs : List Value} (hr : W1.ownsRow w.heap.size 5 1 (.slice (some ⟨g, 0, none⟩) n cap) n xs) (hg : W1.grownBy W2 (some g)) : Mid w Bx Bs Bc y hl sv v W W2 := by
  have n1 : some Bx ≠ some g := h.bx.not_row (by decide) hr
  have n2 : some Bs ≠ some g := h.bs.not_row (by decide) hr
  have n3 : some Bc ≠ some g := h.bc.not_row (by decide) hr
  obtain ⟨cur, hgc, hgb⟩ : ∃ cur, W1.heap[g]? = some (.cells cur 5 (0, 0)) ∧ w.heap.size ≤ g := by
    rcases hr.2 with ⟨hv, _⟩ | ⟨g', cap', cur, hv, hb, hc, _⟩
    · cases hv
    · cases hv; exact ⟨cur, hc, hb⟩
  have n4 : some y ≠ some g := by
    rcases h.yy with rfl | ⟨c, hc⟩
    · exact n3
    · intro e
      obtain rfl : y = g := by simpa using e
      rw [hc] at hgc; simp at hgc
  have ey := hg.block y h.ylt n4
  exact ⟨h.bx.kept hg n1, h.bs.kept hg n2, h.bc.kept hg n3, yy_kept h.yy ey, h.lx, h.bw.grown hg h.bw.size (fun k hk => by cases hk; exact hgb),
    h.ko.trans (KeepsOthers.of_grownBy hg fun j o ej hj => by cases ej; rw [hgc] at hj; cases hj; rfl), h.kb.trans ⟨hg.block Bc h.bc.lt n3, ey⟩⟩
/-- behind the store into the buffer's variable -/
theorem Mid.store (h : Mid w Bx Bs Bc y hl sv v W W1) (u : Value) : Mid w Bx Bs Bc y hl sv u W (W1.setCell ⟨Bx, 0, none⟩ u) := by
  have hg := grownBy_setCell' W1 Bx u
  have ne {k : Nat} {t : TypeId} {x : Value} (hk : Boxed W1 k t x) (ht : t ≠ 27) : some k ≠ some Bx := fun e => by
    obtain rfl : k = Bx := by simpa using e
    have := (show W1.heap[k]? = _ from hk).symm.trans h.bx
    simp at this; exact ht this.2
  have n3 := ne h.bc (by decide)
  have n4 : some y ≠ some Bx := by
    rcases h.yy with rfl | ⟨c, hc⟩
    · exact n3
    · intro e
      obtain rfl : y = Bx := by simpa using e
      have := hc.symm.trans h.bx
      simp at this
  have ey := hg.block y h.ylt n4
  exact ⟨h.bx.set u, h.bs.kept hg (ne h.bs (by decide)), h.bc.kept hg n3, yy_kept h.yy ey, h.lx, h.bw.setCell h.lx u, h.ko.trans (KeepsOthers.setCell _ _ _), h.kb.trans ⟨hg.block Bc h.bc.lt n3, ey⟩⟩

/-- the buffer holds l -/
def TO (w : World) (Bx Bs Bc y hl : Nat) (sv : Value) (l : List UInt8) (W : World) : Prop :=
  ∃ g cap, W.ownsRow w.heap.size 5 1 (.slice (some ⟨g, 0, none⟩) l.length cap) l.length (bys l) ∧ Mid w Bx Bs Bc y hl sv (.slice (some ⟨g, 0, none⟩) l.length cap) W W

theorem TO.abides {l : List UInt8} {N : Nat} {row : Option Nat} (h : TO w Bx Bs Bc y hl sv l W) (hg : W.grownBy W1 row) (hr : ∀ r, row = some r → N ≤ r ∧ ∃ o : Obj, W.heap[r]? = some o ∧ o.isCells = false) (hN : w.heap.size ≤ N) : TO w Bx Bs Bc y hl sv l W1 := by
  obtain ⟨g, cap, h1, h2⟩ := h
  have kp : ∀ {k : Nat} {o : Obj}, W.heap[k]? = some o → o.isCells = true → W1.heap[k]? = some o := fun {k o} hk ho => by
    rw [← hk]
    refine hg.block k (Array.getElem?_eq_some_iff.1 hk).1 fun e => ?_
    obtain ⟨_, o', ho', hc⟩ := hr k e.symm
    rw [hk] at ho'; cases ho'; rw [ho] at hc; cases hc
  refine ⟨g, cap, h1.kept hg (Or.inr fun e => ?_), kp h2.bx rfl, kp h2.bs rfl, kp h2.bc rfl, h2.yy.elim Or.inl fun ⟨c, hc⟩ => Or.inr ⟨c, kp hc rfl⟩, h2.lx, h2.bw.grown hg h2.bw.size fun k hk => Nat.le_trans hN (hr k hk).1, KeepsOthers.refl _, KeepB.refl _ _ _⟩
  obtain ⟨_, o', ho', hc⟩ := hr g (e.symm.trans rfl)
  rcases h1.2 with ⟨hv, _⟩ | ⟨g', cap', cur, hv, _, hg', _⟩
  · cases hv
  · cases hv; rw [hg'] at ho'; cases ho'; cases hc
end
/-- slices.Backward over the chain's pointers, nil or not -/
theorem seq_any (n : Nat) (hn : 1 ≤ n) (w W : World) (Bc c3 : Nat) (ao : Option Addr) (pre : List (Nat × ByteArray)) (hlen : pre.length ≤ 1048576) (hr : W.ownsRow w.heap.size 25 1 (.slice ao pre.length c3) pre.length (ptrs pre)) (hb : Boxed W Bc 42 (.slice ao pre.length c3)) :
    ∃ y, (y = Bc ∨ ∃ c, W.heap[y]? = some (.cells c 25 (0, 0))) ∧ SeqStopsK Fence.wide n Try.prog 27 #[.pointer (some ⟨Bc, 0, none⟩)] (fun x : Fin pre.length => #[Value.int .i64 (x.val : Int), .pointer (some ⟨pre[x].1, 0, none⟩)]) (KeepB Bc y) (fun ys => ys = ord pre.length)
      (fun q => ∃ k, k ≤ pre.length ∧ q = (ord pre.length).take k) pre.length W := by
  rcases hr.2 with ⟨hv, h0⟩ | ⟨g, cap, cur, hv, _, hc, _⟩
  · obtain rfl : pre = [] := List.length_eq_zero_iff.1 h0
    cases hv
    exact ⟨Bc, Or.inl rfl, back_stops_nil Fence.wide n trivial rfl Bc Bc (fun x => ([] : List (Nat × ByteArray))[x].1) W hb.lt hb.cell⟩
  · cases hv
    refine ⟨g, Or.inr ⟨cur, hc⟩, back_stops Fence.wide n trivial rfl hn Bc g c3 pre.length (fun x => pre[x].1) hlen W hb.lt (Array.getElem?_eq_some_iff.1 hc).1 hb.cell fun j => ?_⟩
    rw [hr.cellAt j.val (by have := j.2; omega)]
    simp [ptrs]
theorem putObj_keeps {W9 W : World} {x y l : Nat} {o' : Obj} (hx : x < W9.heap.size) (hy : y < W9.heap.size) (hl : W9.heap.size ≤ l) : KeepB x y W (W.putObj l o') := by
  have h : ∀ k, k ≠ l → (W.putObj l o').heap[k]? = W.heap[k]? := fun k hk => by
    by_cases hlt : k < W.heap.size
    · exact (grownBy_putObj' W l o').block k hlt (fun e => hk (by simpa using e))
    · have h1 : W.heap[k]? = none := Array.getElem?_eq_none (by omega)
      rw [h1]
      exact Array.getElem?_eq_none (by have := (grownBy_putObj' W l o').size; simp [World.putObj]; omega)
  exact ⟨h x (by omega), h y (by omega)⟩
/-- string(b) of an owned row -/
theorem conv_all {W : World} {B g cap : Nat} {l : List UInt8} (h : W.ownsRow B 5 1 (.slice (some ⟨g, 0, none⟩) l.length cap) l.length (bys l)) :
    (convert 27 9 (.slice (some ⟨g, 0, none⟩) l.length cap)).run Try.prog W = .ok (.string ⟨l.toArray⟩) W := by
  have := run_convert_bytes_back (P := Try.prog) W 27 9 5 ⟨g, 0, none⟩ cap l Try.underlying27 Try.underlying5 Try.underlying9 fun j hj => by
    have ha : (⟨g, 0, none⟩ : Addr).add j = ⟨g, j, none⟩ := by
      simp only [Addr.add]
      split <;> simp_all
    rw [ha, h.cellAt j (by omega)]
    simp [bys, hj]
  simpa using this
theorem Chain.at {W : World} {n₀ : Nat} : ∀ {p : Option Addr} {ps : List (Nat × ByteArray)}, Chain W n₀ p ps → ∀ (i : Nat) (h : i < ps.length), W.cell? ⟨ps[i].1, 3, none⟩ = some (.string ps[i].2) ∧ ps[i].1 < n₀
  | none, [], _, _, h => absurd h (Nat.not_lt_zero _)
  | some _, _ :: _, ⟨_, h2, h3, _⟩, 0, _ => ⟨h3, h2⟩
  | some _, _ :: r, ⟨_, _, _, _, _, h5⟩, i + 1, h => Chain.at h5 i (by simpa using h)

/-- the paths' text: the last one's under all the others -/
def pathsT : List (Nat × ByteArray) → List UInt8
  | [] => []
  | [x] => x.2.data.toList
  | x :: y :: r => joinB (pathsT (y :: r)) x.2.data.toList
theorem ord_cons (n : Nat) : ord (n + 1) = (ord n).map Fin.succ ++ [0] := by simp [ord, List.finRange_succ]
theorem fold_ord (bt : Nat) (pt : ByteArray) : ∀ pre : List (Nat × ByteArray), (ord pre.length).foldl (fun (q : List UInt8) (j : Fin pre.length) => joinB q pre[j].2.data.toList) pt.data.toList = pathsT (pre ++ [(bt, pt)])
  | [] => rfl
  | a :: pre => by
    have ih := fold_ord bt pt pre
    have e : pathsT (a :: pre ++ [(bt, pt)]) = joinB (pathsT (pre ++ [(bt, pt)])) a.2.data.toList := by
      cases pre with
      | nil => rfl
      | cons x r => rfl
    rw [e, ← ih]
    show (ord (pre.length + 1)).foldl _ _ = _
    rw [ord_cons, List.foldl_append, List.foldl_map]
    rfl
theorem joinB_len (q p : List UInt8) : (joinB q p).length ≤ q.length + (1 + p.length) := by
  unfold joinB
  split
  · simp; omega
  · simp; omega
theorem fold_len (pre : List (Nat × ByteArray)) (M : Nat) (hM : ∀ j : Fin pre.length, pre[j].2.size ≤ M) : ∀ (q : List (Fin pre.length)) (p0 : List UInt8), (q.foldl (fun (q : List UInt8) (j : Fin pre.length) => joinB q pre[j].2.data.toList) p0).length ≤ p0.length + q.length * (1 + M)
  | [], p0 => by simp
  | j :: q, p0 => by
    have ih := fold_len pre M hM q (joinB p0 pre[j].2.data.toList)
    have h1 := joinB_len p0 pre[j].2.data.toList
    have h2 := hM j
    rw [Lib.size_eq] at h2
    rw [List.foldl_cons, List.length_cons, Nat.succ_mul]
    omega
theorem tot_at : ∀ (l : List (Nat × ByteArray)) (j : Fin l.length), l[j].2.size ≤ tot l
  | x :: r, ⟨0, _⟩ => by show x.2.size ≤ _; simp [tot]; omega
  | x :: r, ⟨i + 1, h⟩ => by
    have hi : i < r.length := by simpa using h
    have := tot_at r ⟨i, hi⟩
    show r[i].2.size ≤ _
    simp [tot] at this ⊢
    omega
/-- behind a round: the appended row, stored into the buffer's variable -/
theorem TO.behind {w W w3 : World} {Bx Bs Bc y hl g3 cap3 n3 : Nat} {sv v : Value} {xs : List Value} (l : List UInt8) (hr : w3.ownsRow w.heap.size 5 1 (.slice (some ⟨g3, 0, none⟩) n3 cap3) n3 xs) (hm : Mid w Bx Bs Bc y hl sv v W w3) (hn : l.length = n3) (hx : xs = bys l) :
    KeepsOthers W (w3.setCell ⟨Bx, 0, none⟩ (.slice (some ⟨g3, 0, none⟩) n3 cap3)) ∧ KeepB Bc y W (w3.setCell ⟨Bx, 0, none⟩ (.slice (some ⟨g3, 0, none⟩) n3 cap3)) ∧ TO w Bx Bs Bc y hl sv l (w3.setCell ⟨Bx, 0, none⟩ (.slice (some ⟨g3, 0, none⟩) n3 cap3)) := by
  have hs := hm.store (.slice (some ⟨g3, 0, none⟩) n3 cap3)
  refine ⟨hs.ko, hs.kb, ?_⟩
  subst hn hx
  exact ⟨g3, cap3, ownsRow_setCell_other hr (fun e => hm.bx.not_row (by decide) hr e.symm) _, hs.again⟩
theorem row_cap {w : World} {B g n cap : Nat} {xs : List Value} (h : w.ownsRow B 5 1 (.slice (some ⟨g, 0, none⟩) n cap) n xs) : n ≤ cap := by
  rcases h.2 with ⟨hv, _⟩ | ⟨g', cap', cur, hv, _, _, hn, _⟩
  · cases hv
  · cases hv; exact hn
theorem joinB_no {q : List UInt8} {c : UInt8} (p : List UInt8) (h : c ≠ 47) : joinB (q ++ [c]) p = q ++ [c] ++ 47 :: p := by
  unfold joinB
  rw [if_neg (by simpa using h)]
theorem joinB_sl (q p : List UInt8) : joinB (q ++ [47]) p = q ++ 47 :: p := by
  unfold joinB
  rw [if_pos (by simp), List.dropLast_concat]
theorem joinB_nil (p : List UInt8) : joinB [] p = 47 :: p := rfl
theorem end_len (L : List UInt8) (s : ByteArray) : (L ++ 47 :: s.data.toList).length = L.length + 1 + s.size := by
  rw [List.length_append, List.length_cons, ← Lib.size_eq]; omega
theorem end_bys (L : List UInt8) (s : ByteArray) : bys L ++ [.int .u8 47] ++ Lib.strCells s = bys (L ++ 47 :: s.data.toList) := by
  rw [bys_app, bys_str, List.append_assoc]; rfl
end Go.Proofs.Qxb6602852a
