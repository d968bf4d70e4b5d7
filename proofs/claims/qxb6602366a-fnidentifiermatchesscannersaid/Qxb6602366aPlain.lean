import Derived.Lib.AsciiSet
import Derived.Lib.Strings
import Derived.Lib.IndexBytes
namespace Go.Proofs.Qxb6602366a
open Go.Lib

/-- the bound on total length -/
def okLen (a b : Nat) : Bool := decide (a + b ≤ 1048576)

/-- every byte below 128 -/
def ascii (l : List UInt8) : Bool := l.all fun b => decide (b.toNat < 128)

theorem ascii_at {l : List UInt8} (h : ascii l = true) (j : Nat) (b : UInt8) (hj : l[j]? = some b) : b.toNat < 128 := by
  have hm : b ∈ l := List.mem_of_getElem? hj
  have := List.all_eq_true.1 h b hm
  simpa using this

theorem ascii_of {l : List UInt8} (h : ∀ (j : Nat) b, l[j]? = some b → b.toNat < 128) : ascii l = true := by
  refine List.all_eq_true.2 fun b hb => ?_
  obtain ⟨j, hj⟩ := List.mem_iff_getElem?.1 hb
  simpa using h j b hj

theorem ascii_not {l : List UInt8} {j : Nat} {b : UInt8} (hj : l[j]? = some b) (hb : ¬ b.toNat < 128) : ascii l = false := by
  cases h : ascii l with
  | false => rfl
  | true => exact absurd (ascii_at h j b hj) hb

/-- what the quoted reader gives of the bytes behind the opening backquote: the name, and what is left -/
def scanQ : List UInt8 → List UInt8 × List UInt8
  | [] => ([], [])
  | [c] => if c = 96 then ([], []) else ([c], [])
  | c :: d :: u => if c = 96 then (if d = 96 then (96 :: (scanQ u).1, (scanQ u).2) else ([], d :: u)) else (c :: (scanQ (d :: u)).1, (scanQ (d :: u)).2)

theorem scanQ_ne {c : UInt8} (h : c ≠ 96) (t : List UInt8) : scanQ (c :: t) = (c :: (scanQ t).1, (scanQ t).2) := by
  cases t with
  | nil => simp [scanQ, h]
  | cons d u => simp [scanQ, h]

theorem scanQ_two (u : List UInt8) : scanQ (96 :: 96 :: u) = (96 :: (scanQ u).1, (scanQ u).2) := by simp [scanQ]

theorem scanQ_end {t : List UInt8} (h : t.head? ≠ some 96) : scanQ (96 :: t) = ([], t) := by
  cases t with
  | nil => simp [scanQ]
  | cons d u =>
    have : d ≠ 96 := fun e => h (by rw [e]; rfl)
    simp [scanQ, this]

theorem scanQ_append : ∀ (p : List UInt8), (∀ b ∈ p, b ≠ 96) → ∀ t, scanQ (p ++ t) = (p ++ (scanQ t).1, (scanQ t).2)
  | [], _, t => by simp
  | c :: p, h, t => by
    have ih := scanQ_append p (fun b hb => h b (List.mem_cons_of_mem _ hb)) t
    rw [List.cons_append, scanQ_ne (h c (List.mem_cons_self ..)), ih]
    simp

theorem scanQ_none {p : List UInt8} (h : ∀ b ∈ p, b ≠ 96) : scanQ p = (p, []) := by
  have := scanQ_append p h []
  simpa [scanQ] using this

/-- the rest is a suffix, and together they are not longer -/
theorem scanQ_le : ∀ (n : Nat) (l : List UInt8), l.length ≤ n → (scanQ l).1.length + (scanQ l).2.length ≤ l.length
  | 0, [], _ => by simp [scanQ]
  | n + 1, [], _ => by simp [scanQ]
  | n + 1, [c], _ => by by_cases h : c = 96 <;> simp [scanQ, h]
  | n + 1, c :: d :: u, hn => by
    have i1 := scanQ_le n u (by simp at hn; omega)
    have i2 := scanQ_le n (d :: u) (by simp at hn ⊢; omega)
    by_cases h : c = 96
    · by_cases h2 : d = 96
      · subst h h2; rw [scanQ_two]; simp; omega
      · subst h; rw [scanQ_end (by simp [h2])]; simp
    · rw [scanQ_ne h]; simp at i2 ⊢; omega

/-- the model's set of 128 -/
def setC (l : List UInt8) : Array Value := l.foldl (fun a c => a.setIfInBounds c.toNat (.bool true)) (Array.replicate 128 (.bool false))
theorem setC_nil : setC [] = Array.replicate 128 (.bool false) := rfl
theorem setC_snoc (l : List UInt8) (x : UInt8) : setC (l ++ [x]) = (setC l).setIfInBounds x.toNat (.bool true) := by simp [setC, List.foldl_append]
theorem setC_at (l : List UInt8) (x : UInt8) (h : x.toNat < 128) : (setC l)[x.toNat]? = some (.bool (l.contains x)) := by
  have := fold_at l (Array.replicate 128 (.bool false)) false x (by rw [Array.getElem?_replicate, if_pos h])
  simpa [setC] using this
theorem setC_size (l : List UInt8) : (setC l).size = 128 := by
  unfold setC
  rw [fold_size, Array.size_replicate]

/-- the unquoted reader: cut at the first byte that is among ends -/
def cutPlain (s ends : ByteArray) : ByteArray × ByteArray :=
  if 0 ≤ indexAny s.data.toList ends.data.toList then (s.extract 0 (indexAny s.data.toList ends.data.toList).toNat, s.extract (indexAny s.data.toList ends.data.toList).toNat s.size) else (s, ⟨#[]⟩)

theorem cutPlain_hit {s ends : ByteArray} {k : Nat} {x : UInt8} (hno : NoAny s.data.toList ends.data.toList k) (hx : s.data.toList[k]? = some x) (hc : ends.data.toList.contains x = true) :
    cutPlain s ends = (s.extract 0 k, s.extract k s.size) := by
  have h := indexAny_hit hno hx hc
  unfold cutPlain
  rw [h, if_pos (by omega)]
  simp
theorem cutPlain_none {s ends : ByteArray} (hno : NoAny s.data.toList ends.data.toList s.size) : cutPlain s ends = (s, ⟨#[]⟩) := by
  have h := indexAny_none (s := s.data.toList) (chars := ends.data.toList) (by rw [← size_eq]; exact hno)
  unfold cutPlain
  rw [h, if_neg (by decide)]
theorem not_in_of_high {l : List UInt8} {x : UInt8} (ha : ascii l = true) (hx : ¬ x.toNat < 128) : l.contains x = false := by
  cases h : l.contains x with
  | false => rfl
  | true =>
    have hm : x ∈ l := by simpa using h
    obtain ⟨j, hj⟩ := List.mem_iff_getElem?.1 hm
    exact absurd (ascii_at ha j x hj) hx

/-- a string out of its bytes -/
theorem mk_eq {s : ByteArray} {l : List UInt8} (h : s.data.toList = l) : s = ⟨l.toArray⟩ := by
  obtain ⟨d⟩ := s
  rw [← h]
theorem mk_data (l : List UInt8) : (⟨l.toArray⟩ : ByteArray).data.toList = l := by simp

/-- the model's loop: what is read so far, and what is to come -/
def Inv (Q : List UInt8) (k : Nat) (acc : List UInt8) : Prop := scanQ Q = (acc ++ (scanQ (Q.drop k)).1, (scanQ (Q.drop k)).2)
theorem Inv.zero (Q : List UInt8) : Inv Q 0 [] := by simp [Inv]
theorem drop_at {Q : List UInt8} {k : Nat} {x : UInt8} (hx : Q[k]? = some x) : Q.drop k = x :: Q.drop (k + 1) := by
  obtain ⟨h, e⟩ := List.getElem?_eq_some_iff.1 hx
  rw [List.drop_eq_getElem_cons h, e]
theorem Inv.ne {Q : List UInt8} {k : Nat} {acc : List UInt8} {x : UInt8} (h : Inv Q k acc) (hx : Q[k]? = some x) (hn : x ≠ 96) : Inv Q (k + 1) (acc ++ [x]) := by
  unfold Inv at *
  rw [h, drop_at hx, scanQ_ne hn]
  simp
theorem Inv.two {Q : List UInt8} {k : Nat} {acc : List UInt8} (h : Inv Q k acc) (hx : Q[k]? = some 96) (hy : Q[k + 1]? = some 96) : Inv Q (k + 2) (acc ++ [96]) := by
  unfold Inv at *
  rw [h, drop_at hx, drop_at hy, scanQ_two]
  simp
theorem Inv.stop {Q : List UInt8} {k : Nat} {acc : List UInt8} (h : Inv Q k acc) (hx : Q[k]? = some 96) (hy : Q[k + 1]? ≠ some 96) : scanQ Q = (acc, Q.drop (k + 1)) := by
  unfold Inv at *
  rw [h, drop_at hx, scanQ_end (by rw [List.head?_drop]; exact hy)]
  simp
theorem Inv.done {Q : List UInt8} {k : Nat} {acc : List UInt8} (h : Inv Q k acc) (hk : Q.length ≤ k) : scanQ Q = (acc, []) := by
  unfold Inv at *
  rw [h, List.drop_of_length_le hk]
  simp [scanQ]

/-- the builder's loop: what is read so far, and what is to come -/
def InvB (Q acc C : List UInt8) : Prop := scanQ Q = (acc ++ (scanQ C).1, (scanQ C).2)
theorem InvB.start (Q : List UInt8) : InvB Q [] Q := by simp [InvB]
theorem scan_hit {l : List UInt8} {k : Nat} (h3 : ∀ b ∈ l.take k, b ≠ 96) (h4 : l.drop k = 96 :: l.drop (k + 1)) : scanQ l = (l.take k ++ (scanQ (96 :: l.drop (k + 1))).1, (scanQ (96 :: l.drop (k + 1))).2) := by
  have := scanQ_append (l.take k) h3 (l.drop k)
  rw [List.take_append_drop, h4] at this
  exact this
theorem head_of_pre {l : List UInt8} (h : hasPrefix l [96] = true) : l = 96 :: l.tail := by
  cases l with
  | nil => simp [hasPrefix, List.isPrefixOf] at h
  | cons a t =>
    simp [hasPrefix, List.isPrefixOf] at h
    rw [← h]; rfl
theorem head_of_not {l : List UInt8} (h : hasPrefix l [96] = false) : l.head? ≠ some 96 := by
  cases l with
  | nil => simp
  | cons a t =>
    simp [hasPrefix, List.isPrefixOf] at h
    simp
    exact fun e => h e.symm
theorem scan_stop {l : List UInt8} {k : Nat} (h3 : ∀ b ∈ l.take k, b ≠ 96) (h4 : l.drop k = 96 :: l.drop (k + 1)) (h : hasPrefix (l.drop (k + 1)) [96] = false) : scanQ l = (l.take k, l.drop (k + 1)) := by
  rw [scan_hit h3 h4, scanQ_end (head_of_not h)]
  simp
theorem InvB.none {Q acc C : List UInt8} (h : InvB Q acc C) (hC : ∀ b ∈ C, b ≠ 96) : scanQ Q = (acc ++ C, []) := by
  unfold InvB at h
  rw [h, scanQ_none hC]
theorem InvB.stop {Q acc C : List UInt8} {k : Nat} (h : InvB Q acc C) (h3 : ∀ b ∈ C.take k, b ≠ 96) (h4 : C.drop k = 96 :: C.drop (k + 1)) (hp : hasPrefix (C.drop (k + 1)) [96] = false) : scanQ Q = (acc ++ C.take k, C.drop (k + 1)) := by
  unfold InvB at h
  rw [h, scan_stop h3 h4 hp]
theorem InvB.next {Q acc C : List UInt8} {k : Nat} (h : InvB Q acc C) (h3 : ∀ b ∈ C.take k, b ≠ 96) (h4 : C.drop k = 96 :: C.drop (k + 1)) (hp : hasPrefix (C.drop (k + 1)) [96] = true) : InvB Q (acc ++ C.take k ++ [96]) ((C.drop (k + 1)).drop 1) := by
  unfold InvB at *
  rw [h, scan_hit h3 h4, head_of_pre hp, scanQ_two]
  simp
end Go.Proofs.Qxb6602366a
