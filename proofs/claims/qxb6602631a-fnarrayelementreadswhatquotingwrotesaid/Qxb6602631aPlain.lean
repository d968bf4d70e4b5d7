import Derived.Lib.Bytealg
import Derived.Lib.Strings
import Derived.Lib.IndexBytes
namespace Go.Proofs.Qxb6602631a
open Go.Lib

/-- decoded bytes, each with 'kept'; spelled; what is left -/
abbrev Rd := List (UInt8 × Bool) × Bool × List UInt8

/-- the element's reader, from a state on ('q': inside quotes) -/
def rd : List UInt8 → Bool → Option Rd
  | [], q => if q then none else some ([], false, [])
  | [c], q =>
    if c = 44 ∧ q = false then some ([], false, [c])
    else if c = 92 then none
    else if c = 34 then (if q then some ([], true, []) else none)
    else if c = 123 ∨ c = 125 then none
    else if q then none else some ([(c, q)], false, [])
  | c :: d :: u, q =>
    if c = 44 ∧ q = false then some ([], false, c :: d :: u)
    else if c = 92 then (rd u q).map fun y => ((d, true) :: y.1, true, y.2.2)
    else if c = 34 then (rd (d :: u) (!q)).map fun y => (y.1, true, y.2.2)
    else if c = 123 ∨ c = 125 then none
    else (rd (d :: u) q).map fun y => ((c, q) :: y.1, y.2.1, y.2.2)

theorem rd_nil (q : Bool) : rd [] q = if q then none else some ([], false, []) := by simp [rd]
theorem rd_comma (t : List UInt8) : rd (44 :: t) false = some ([], false, 44 :: t) := by
  cases t <;> simp [rd]
theorem rd_esc (d : UInt8) (u : List UInt8) (q : Bool) : rd (92 :: d :: u) q = (rd u q).map fun y => ((d, true) :: y.1, true, y.2.2) := by simp [rd]
theorem rd_esc_end (q : Bool) : rd [92] q = none := by simp [rd]
theorem rd_quote (t : List UInt8) (q : Bool) : rd (34 :: t) q = (rd t (!q)).map fun y => (y.1, true, y.2.2) := by
  cases t with
  | nil => cases q <;> simp [rd]
  | cons d u => simp [rd]
theorem rd_brace {c : UInt8} (h : c = 123 ∨ c = 125) (t : List UInt8) (q : Bool) : rd (c :: t) q = none := by
  rcases h with rfl | rfl <;> cases t <;> simp [rd]
theorem rd_plain {c : UInt8} {q : Bool} (h1 : ¬ (c = 44 ∧ q = false)) (h2 : c ≠ 92) (h3 : c ≠ 34) (h4 : c ≠ 123) (h5 : c ≠ 125) (t : List UInt8) :
    rd (c :: t) q = (rd t q).map fun y => ((c, q) :: y.1, y.2.1, y.2.2) := by
  cases t with
  | nil => cases q <;> simp [rd, h2, h3, h4, h5]; simpa using h1
  | cons d u => simp [rd, h1, h2, h3, h4, h5]

/-- the five kinds of a first byte -/
theorem kinds (c : UInt8) (q : Bool) : (c = 44 ∧ q = false) ∨ c = 92 ∨ c = 34 ∨ (c = 123 ∨ c = 125) ∨ (¬ (c = 44 ∧ q = false) ∧ c ≠ 92 ∧ c ≠ 34 ∧ c ≠ 123 ∧ c ≠ 125) := by
  by_cases h1 : c = 44 ∧ q = false
  · exact Or.inl h1
  · by_cases h2 : c = 92
    · exact Or.inr (Or.inl h2)
    · by_cases h3 : c = 34
      · exact Or.inr (Or.inr (Or.inl h3))
      · by_cases h4 : c = 123
        · exact Or.inr (Or.inr (Or.inr (Or.inl (Or.inl h4))))
        · by_cases h5 : c = 125
          · exact Or.inr (Or.inr (Or.inr (Or.inl (Or.inr h5))))
          · exact Or.inr (Or.inr (Or.inr (Or.inr ⟨h1, h2, h3, h4, h5⟩)))

def isQB (c : UInt8) : Bool := c == 34 || c == 92

/-- the rest is a tail; spelled says whether what was read bears a quote or a backslash; nothing is decoded of nothing -/
theorem rd_split : ∀ (n : Nat) (l : List UInt8) (q : Bool) (y : Rd), l.length ≤ n → rd l q = some y → ∃ p, l = p ++ y.2.2 ∧ y.2.1 = p.any isQB ∧ (p = [] → y.1 = []) ∧ y.1.length ≤ p.length
  | _, [], q, y, _, h => by
    rw [rd_nil] at h
    cases q with
    | true => simp at h
    | false => simp at h; subst h; exact ⟨[], rfl, rfl, fun _ => rfl, Nat.le_refl _⟩
  | n + 1, c :: t, q, y, hn, h => by
    have hn' : t.length ≤ n := by simpa using hn
    rcases kinds c q with ⟨rfl, rfl⟩ | rfl | rfl | hb | ⟨h1, h2, h3, h4, h5⟩
    · rw [rd_comma] at h
      simp at h; subst h
      exact ⟨[], rfl, rfl, fun _ => rfl, Nat.le_refl _⟩
    · cases t with
      | nil => rw [rd_esc_end] at h; cases h
      | cons d u =>
        rw [rd_esc] at h
        obtain ⟨z, hz, rfl⟩ := Option.map_eq_some_iff.1 h
        obtain ⟨p, e1, e2, e3, e4⟩ := rd_split n u q z (by simp at hn'; omega) hz
        exact ⟨92 :: d :: p, by simp [e1], by simp [isQB], by simp, by simp; omega⟩
    · rw [rd_quote] at h
      obtain ⟨z, hz, rfl⟩ := Option.map_eq_some_iff.1 h
      obtain ⟨p, e1, e2, e3, e4⟩ := rd_split n t (!q) z hn' hz
      exact ⟨34 :: p, by simp [e1], by simp [isQB], by simp, by simp; omega⟩
    · rw [rd_brace hb] at h; cases h
    · rw [rd_plain h1 h2 h3 h4 h5] at h
      obtain ⟨z, hz, rfl⟩ := Option.map_eq_some_iff.1 h
      obtain ⟨p, e1, e2, e3, e4⟩ := rd_split n t q z hn' hz
      refine ⟨c :: p, by simp [e1], ?_, by simp, by simp; omega⟩
      have : isQB c = false := by simp [isQB, h2, h3]
      simp [this, e2]

/-- white space, as both texts have it -/
def spB (c : UInt8) : Bool := c == 32 || c == 9 || c == 10 || c == 13 || c == 11 || c == 12
/-- a decoded byte that is not kept and white -/
def blank (y : UInt8 × Bool) : Bool := !y.2 && spB y.1

/-- f, l: the span that is left when blanks are taken off both ends -/
structure Trim (x : List (UInt8 × Bool)) (f l : Nat) : Prop where
  fl : f ≤ l
  ln : l ≤ x.length
  before : ∀ j y, j < f → x[j]? = some y → blank y = true
  behind : ∀ j y, l ≤ j → x[j]? = some y → blank y = true
  atF : ∀ y, x[f]? = some y → blank y = false
  atL : ∀ y, f < l → x[l - 1]? = some y → blank y = false

theorem Trim.uniq {x : List (UInt8 × Bool)} {f l f' l' : Nat} (h : Trim x f l) (h' : Trim x f' l') : f = f' ∧ l = l' := by
  have key : ∀ {f l f' l' : Nat}, Trim x f l → Trim x f' l' → ¬ f < f' := by
    intro f l f' l' h h' hlt
    have hx : f < x.length := by have := h'.fl; have := h'.ln; omega
    have a := h.atF x[f] (List.getElem?_eq_getElem hx)
    have b := h'.before f x[f] hlt (List.getElem?_eq_getElem hx)
    rw [a] at b; cases b
  have ef : f = f' := by have := key h h'; have := key h' h; omega
  subst ef
  have key2 : ∀ {l l' : Nat}, Trim x f l → Trim x f l' → ¬ l < l' := by
    intro l l' h h' hlt
    have hx : l' - 1 < x.length := by have := h'.ln; omega
    have a := h'.atL x[l' - 1] (by have := h.fl; omega) (List.getElem?_eq_getElem hx)
    have b := h.behind (l' - 1) x[l' - 1] (by omega) (List.getElem?_eq_getElem hx)
    rw [a] at b; cases b
  exact ⟨rfl, by have := key2 h h'; have := key2 h' h; omega⟩

/-- the text of the span -/
def span (x : List (UInt8 × Bool)) (f l : Nat) : List UInt8 := ((x.map Prod.fst).take l).drop f

/-- the reader's loop: what is decoded so far, and what is to come -/
def Inv (S : List UInt8) (k : Nat) (q : Bool) (pre : List (UInt8 × Bool)) (sp : Bool) : Prop := rd S false = (rd (S.drop k) q).map fun y => (pre ++ y.1, sp || y.2.1, y.2.2)

theorem drop_at {Q : List UInt8} {k : Nat} {x : UInt8} (hx : Q[k]? = some x) : Q.drop k = x :: Q.drop (k + 1) := by
  obtain ⟨h, e⟩ := List.getElem?_eq_some_iff.1 hx
  rw [List.drop_eq_getElem_cons h, e]

theorem Inv.zero (S : List UInt8) : Inv S 0 false [] false := by simp [Inv]
theorem Inv.plain {S : List UInt8} {k : Nat} {q sp : Bool} {pre : List (UInt8 × Bool)} {c : UInt8} (h : Inv S k q pre sp) (hx : S[k]? = some c) (h1 : ¬ (c = 44 ∧ q = false)) (h2 : c ≠ 92) (h3 : c ≠ 34) (h4 : c ≠ 123) (h5 : c ≠ 125) : Inv S (k + 1) q (pre ++ [(c, q)]) sp := by
  unfold Inv at *
  rw [h, drop_at hx, rd_plain h1 h2 h3 h4 h5, Option.map_map]
  congr 1
  funext y
  simp
theorem Inv.quote {S : List UInt8} {k : Nat} {q sp : Bool} {pre : List (UInt8 × Bool)} (h : Inv S k q pre sp) (hx : S[k]? = some 34) : Inv S (k + 1) (!q) pre true := by
  unfold Inv at *
  rw [h, drop_at hx, rd_quote, Option.map_map]
  congr 1
  funext y
  simp
theorem Inv.esc {S : List UInt8} {k : Nat} {q sp : Bool} {pre : List (UInt8 × Bool)} {d : UInt8} (h : Inv S k q pre sp) (hx : S[k]? = some 92) (hd : S[k + 1]? = some d) : Inv S (k + 2) q (pre ++ [(d, true)]) true := by
  unfold Inv at *
  rw [h, drop_at hx, drop_at hd, rd_esc, Option.map_map]
  congr 1
  funext y
  simp
theorem Inv.esc_end {S : List UInt8} {k : Nat} {q sp : Bool} {pre : List (UInt8 × Bool)} (h : Inv S k q pre sp) (hx : S[k]? = some 92) (hd : S.length ≤ k + 1) : rd S false = none := by
  unfold Inv at h
  rw [h, drop_at hx, List.drop_of_length_le hd, rd_esc_end]
  rfl
theorem Inv.brace {S : List UInt8} {k : Nat} {q sp : Bool} {pre : List (UInt8 × Bool)} {c : UInt8} (h : Inv S k q pre sp) (hx : S[k]? = some c) (hb : c = 123 ∨ c = 125) : rd S false = none := by
  unfold Inv at h
  rw [h, drop_at hx, rd_brace hb]
  rfl
theorem Inv.comma {S : List UInt8} {k : Nat} {sp : Bool} {pre : List (UInt8 × Bool)} (h : Inv S k false pre sp) (hx : S[k]? = some 44) : rd S false = some (pre, sp, S.drop k) := by
  unfold Inv at h
  rw [h, drop_at hx, rd_comma]
  simp
theorem Inv.done {S : List UInt8} {k : Nat} {sp : Bool} {pre : List (UInt8 × Bool)} (h : Inv S k false pre sp) (hk : S.length ≤ k) : rd S false = some (pre, sp, S.drop k) := by
  unfold Inv at h
  rw [h, List.drop_of_length_le hk, rd_nil]
  simp
theorem Inv.open {S : List UInt8} {k : Nat} {sp : Bool} {pre : List (UInt8 × Bool)} (h : Inv S k true pre sp) (hk : S.length ≤ k) : rd S false = none := by
  unfold Inv at h
  rw [h, List.drop_of_length_le hk, rd_nil]
  rfl

/-- the first f are blank; those from l on are blank -/
def AllB (x : List (UInt8 × Bool)) (f : Nat) : Prop := ∀ j y, j < f → x[j]? = some y → blank y = true
def AllA (x : List (UInt8 × Bool)) (l : Nat) : Prop := ∀ j y, l ≤ j → x[j]? = some y → blank y = true
theorem AllB.zero (x : List (UInt8 × Bool)) : AllB x 0 := fun _ _ h => absurd h (Nat.not_lt_zero _)
theorem AllB.succ {x : List (UInt8 × Bool)} {f : Nat} {y : UInt8 × Bool} (h : AllB x f) (hy : x[f]? = some y) (hb : blank y = true) : AllB x (f + 1) := fun j z hj hz => by
  by_cases e : j = f
  · subst e; rw [hy] at hz; cases hz; exact hb
  · exact h j z (by omega) hz
theorem AllA.start (x : List (UInt8 × Bool)) : AllA x x.length := fun j y hj hy => by
  have := (List.getElem?_eq_some_iff.1 hy).1
  omega
theorem AllA.pred {x : List (UInt8 × Bool)} {l : Nat} {y : UInt8 × Bool} (h : AllA x l) (hy : x[l - 1]? = some y) (hb : blank y = true) : AllA x (l - 1) := fun j z hj hz => by
  by_cases e : j = l - 1
  · subst e; rw [hy] at hz; cases hz; exact hb
  · exact h j z (by omega) hz
/-- the span is found -/
theorem trim_mk {x : List (UInt8 × Bool)} {f l : Nat} (h1 : f ≤ l) (h2 : l ≤ x.length) (hb : AllB x f) (ha : AllA x l) (hF : ∀ y, x[f]? = some y → blank y = false) (hL : ∀ y, f < l → x[l - 1]? = some y → blank y = false) : Trim x f l :=
  ⟨h1, h2, hb, ha, hF, hL⟩
theorem blank_kept (c : UInt8) : blank (c, true) = false := by simp [blank]
theorem blank_sp {c : UInt8} (h : spB c = true) : blank (c, false) = true := by simp [blank, h]
theorem blank_no {c : UInt8} (h : spB c = false) : blank (c, false) = false := by simp [blank, h]
theorem only {x : List (UInt8 × Bool)} {f : Nat} {y : UInt8 × Bool} (hy : x[f]? = some y) (hb : blank y = false) : ∀ z, x[f]? = some z → blank z = false := fun z hz => by
  rw [hy] at hz; cases hz; exact hb
theorem none_at {x : List (UInt8 × Bool)} {f : Nat} (h : x.length ≤ f) : ∀ z, x[f]? = some z → blank z = false := fun z hz => by
  have := (List.getElem?_eq_some_iff.1 hz).1
  omega
end Go.Proofs.Qxb6602631a
