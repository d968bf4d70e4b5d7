import Derived.Test.Qxb6602631aBoth
namespace Go.Proofs.Qxb6602631a
open Go.RowKit

/-- a backslash before each quote and backslash -/
def esc : List UInt8 → List UInt8
  | [] => []
  | c :: t => if c = 34 ∨ c = 92 then 92 :: c :: esc t else c :: esc t
def braceB (t : List UInt8) : Bool := t.any fun c => c == 123 || c == 125

theorem esc_append (c : UInt8) : ∀ l : List UInt8, esc (l ++ [c]) = esc l ++ (if c = 34 ∨ c = 92 then [92, c] else [c])
  | [] => by by_cases h : c = 34 ∨ c = 92 <;> simp [esc, h]
  | d :: l => by
    have ih := esc_append c l
    by_cases h : d = 34 ∨ d = 92
    · simp only [List.cons_append, esc, if_pos h, ih]
    · simp only [List.cons_append, esc, if_neg h, ih]
theorem esc_le : ∀ l : List UInt8, (esc l).length ≤ 2 * l.length
  | [] => by simp [esc]
  | c :: l => by
    have ih := esc_le l
    by_cases h : c = 34 ∨ c = 92
    · simp only [esc, if_pos h, List.length_cons]; omega
    · simp only [esc, if_neg h, List.length_cons]; omega

theorem rd_esc_all (u : List UInt8) : ∀ t : List UInt8, rd (esc t ++ 34 :: 44 :: u) true = if braceB t = true then none else some (t.map fun c => (c, true), true, 44 :: u)
  | [] => by
    show rd (34 :: 44 :: u) true = _
    rw [rd_quote]
    show (rd (44 :: u) false).map _ = _
    rw [rd_comma]
    rfl
  | c :: t => by
    have ih := rd_esc_all u t
    by_cases h : c = 34 ∨ c = 92
    · have e : esc (c :: t) ++ 34 :: 44 :: u = 92 :: c :: (esc t ++ 34 :: 44 :: u) := by simp [esc, h]
      have hb : braceB (c :: t) = braceB t := by
        rcases h with rfl | rfl <;> simp [braceB]
      rw [e, rd_esc, ih, hb]
      by_cases hb2 : braceB t = true <;> simp [hb2]
    · have e : esc (c :: t) ++ 34 :: 44 :: u = c :: (esc t ++ 34 :: 44 :: u) := by simp [esc, h]
      rw [e]
      by_cases hc : c = 123 ∨ c = 125
      · have hb : braceB (c :: t) = true := by rcases hc with rfl | rfl <;> simp [braceB]
        rw [rd_brace hc, hb]; rfl
      · have h3 : c ≠ 34 := fun e => h (Or.inl e)
        have h2 : c ≠ 92 := fun e => h (Or.inr e)
        have h4 : c ≠ 123 := fun e => hc (Or.inl e)
        have h5 : c ≠ 125 := fun e => hc (Or.inr e)
        have hb : braceB (c :: t) = braceB t := by simp [braceB, h4, h5]
        rw [rd_plain (by simp) h2 h3 h4 h5, ih, hb]
        by_cases hb2 : braceB t = true <;> simp [hb2]

/-- what the quoting writes, with a comma and a tail behind it -/
def quoted (t tail : List UInt8) : List UInt8 := (34 :: (esc t ++ [34])) ++ 44 :: tail
theorem rd_quoted (t tail : List UInt8) : rd (quoted t tail) false = if braceB t = true then none else some (t.map fun c => (c, true), true, 44 :: tail) := by
  have e : quoted t tail = 34 :: (esc t ++ 34 :: 44 :: tail) := by simp [quoted]
  rw [e, rd_quote]
  show (rd _ true).map _ = _
  rw [rd_esc_all]
  by_cases hb : braceB t = true <;> simp [hb]

theorem trim_kept (t : List UInt8) : Trim (t.map fun c => (c, true)) 0 t.length := by
  refine ⟨Nat.zero_le _, by simp, fun j y h => absurd h (Nat.not_lt_zero _), fun j y hj hy => ?_, fun y hy => ?_, fun y _ hy => ?_⟩
  · have := (List.getElem?_eq_some_iff.1 hy).1; simp at this; omega
  · obtain ⟨c, _, rfl⟩ : ∃ c, t[0]? = some c ∧ (c, true) = y := by simpa using hy
    exact blank_kept c
  · obtain ⟨c, _, rfl⟩ : ∃ c, t[t.length - 1]? = some c ∧ (c, true) = y := by simpa using hy
    exact blank_kept c
theorem span_kept (t : List UInt8) : span (t.map fun c => (c, true)) 0 t.length = t := by
  simp [span, List.map_map, Function.comp_def]

/-- arrayElement at what the quoting wrote -/
theorem elem_quoted (s t tail : ByteArray) (hs : s.size ≤ 1048576) (h : s.data.toList = quoted t.data.toList tail.data.toList) (w : World) :
    Calls Try.prog 14 #[.string s] w fun e w' => e = (if braceB t.data.toList = true then .returned (.tuple #[.string ⟨#[]⟩, .bool false, .string ⟨#[]⟩, .bool false]) else .returned (.tuple #[.string t, .bool true, .string ⟨(44 :: tail.data.toList).toArray⟩, .bool true])) ∧ Below w.heap.size w w' := by
  refine (elem14 s w hs).mono ?_
  rintro e w' ⟨he, hb⟩
  refine ⟨?_, hb⟩
  unfold Ans at he
  rw [h, rd_quoted] at he
  by_cases hbr : braceB t.data.toList = true
  · rw [if_pos hbr] at he ⊢
    exact he
  · rw [if_neg hbr] at he ⊢
    obtain ⟨f, l, ht, rfl⟩ := he
    obtain ⟨e1, e2⟩ := (trim_kept t.data.toList).uniq ht
    subst e1 e2
    rw [span_kept, ← mk_eq (s := t) rfl]
end Go.Proofs.Qxb6602631a
