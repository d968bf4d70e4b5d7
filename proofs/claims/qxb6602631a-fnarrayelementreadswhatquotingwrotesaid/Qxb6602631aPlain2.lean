import Derived.Test.Qxb6602631aPlain
namespace Go.Proofs.Qxb6602631a
open Go.Lib

/-- the model's second pass: it reads again what the first has let by -/
def Second (S : List UInt8) (E : Nat) (pre : List (UInt8 × Bool)) (j : Nat) (q : Bool) (acc : List (UInt8 × Bool)) : Prop :=
  j ≤ E ∧ E ≤ S.length ∧ ∃ x sp, rd (S.drop j) q = some (x, sp, S.drop E) ∧ pre = acc ++ x

theorem rest_le {l : List UInt8} {q : Bool} {y : Rd} (h : rd l q = some y) : y.2.2.length ≤ l.length := by
  obtain ⟨p, e, _⟩ := rd_split l.length l q y (Nat.le_refl _) h
  rw [e]; simp

theorem Second.start {S : List UInt8} {E : Nat} {pre : List (UInt8 × Bool)} {sp : Bool} (h : rd S false = some (pre, sp, S.drop E)) (hE : E ≤ S.length) : Second S E pre 0 false [] :=
  ⟨Nat.zero_le _, hE, pre, sp, by simpa using h, by simp⟩
theorem Second.esc {S : List UInt8} {E : Nat} {pre acc : List (UInt8 × Bool)} {j : Nat} {q : Bool} (h : Second S E pre j q acc) (hx : S[j]? = some 92) (hj : j < E) : ∃ d, S[j + 1]? = some d ∧ Second S E pre (j + 2) q (acc ++ [(d, true)]) := by
  obtain ⟨_, hE, x, sp, hr, hp⟩ := h
  rw [drop_at hx] at hr
  cases hd : S[j + 1]? with
  | none =>
    have : S.drop (j + 1) = [] := List.drop_of_length_le (by have := List.getElem?_eq_none_iff.1 hd; omega)
    rw [this, rd_esc_end] at hr
    cases hr
  | some d =>
    rw [drop_at hd, rd_esc] at hr
    obtain ⟨z, hz, e⟩ := Option.map_eq_some_iff.1 hr
    have hl := rest_le hz
    simp at e
    obtain ⟨e1, e2, e3⟩ := e
    rw [e3] at hl
    have hjs : j + 1 < S.length := (List.getElem?_eq_some_iff.1 hd).1
    simp at hl
    refine ⟨d, rfl, by omega, hE, z.1, z.2.1, ?_, ?_⟩
    · rw [hz, ← e3]
    · rw [hp, ← e1]; simp
theorem Second.quote {S : List UInt8} {E : Nat} {pre acc : List (UInt8 × Bool)} {j : Nat} {q : Bool} (h : Second S E pre j q acc) (hx : S[j]? = some 34) (hj : j < E) : Second S E pre (j + 1) (!q) acc := by
  obtain ⟨_, hE, x, sp, hr, hp⟩ := h
  rw [drop_at hx, rd_quote] at hr
  obtain ⟨z, hz, e⟩ := Option.map_eq_some_iff.1 hr
  simp at e
  obtain ⟨e1, e2, e3⟩ := e
  refine ⟨by omega, hE, z.1, z.2.1, ?_, ?_⟩
  · rw [hz, ← e3]
  · rw [hp, ← e1]
theorem Second.plain {S : List UInt8} {E : Nat} {pre acc : List (UInt8 × Bool)} {j : Nat} {q : Bool} {c : UInt8} (h : Second S E pre j q acc) (hx : S[j]? = some c) (hj : j < E) (h2 : c ≠ 92) (h3 : c ≠ 34) : Second S E pre (j + 1) q (acc ++ [(c, q)]) := by
  obtain ⟨_, hE, x, sp, hr, hp⟩ := h
  have hjs : j < S.length := (List.getElem?_eq_some_iff.1 hx).1
  rw [drop_at hx] at hr
  rcases kinds c q with ⟨h1, hq⟩ | h1 | h1 | h1 | ⟨h1, _, _, h4, h5⟩
  · subst h1 hq
    rw [rd_comma] at hr
    simp at hr
    have := congrArg List.length hr.2.2
    simp at this
    omega
  · exact absurd h1 h2
  · exact absurd h1 h3
  · rw [rd_brace h1] at hr; cases hr
  · rw [rd_plain h1 h2 h3 h4 h5] at hr
    obtain ⟨z, hz, e⟩ := Option.map_eq_some_iff.1 hr
    simp at e
    obtain ⟨e1, e2, e3⟩ := e
    refine ⟨by omega, hE, z.1, z.2.1, ?_, ?_⟩
    · rw [hz, ← e3]
    · rw [hp, ← e1]; simp
theorem Second.done {S : List UInt8} {E : Nat} {pre acc : List (UInt8 × Bool)} {q : Bool} (h : Second S E pre E q acc) : pre = acc := by
  obtain ⟨_, hE, x, sp, hr, hp⟩ := h
  obtain ⟨p, e, _, e3, _⟩ := rd_split _ _ _ _ (Nat.le_refl _) hr
  have h0 : p = [] := by
    have hlen := congrArg List.length e
    simp only [List.length_append] at hlen
    exact List.length_eq_zero_iff.1 (by omega)
  have hx : x = [] := e3 h0
  rw [hp, hx]; simp

/-- spelled: a quote or a backslash in what was read -/
theorem spelled_eq {S : List UInt8} {E : Nat} {pre : List (UInt8 × Bool)} {sp : Bool} (h : rd S false = some (pre, sp, S.drop E)) : sp = (S.take E).any isQB := by
  obtain ⟨p, e, e2, _, _⟩ := rd_split _ _ _ _ (Nat.le_refl _) h
  have hp : p = S.take E := by
    have h1 : p ++ S.drop E = S.take E ++ S.drop E := by rw [List.take_append_drop]; exact e.symm
    exact List.append_cancel_right h1
  rw [← hp]; exact e2
theorem any_snoc {S : List UInt8} {j : Nat} {c : UInt8} (hx : S[j]? = some c) : (S.take (j + 1)).any isQB = ((S.take j).any isQB || isQB c) := by
  rw [List.take_add_one, hx]
  simp

/-- the least and the greatest place that is not blank -/
structure FL (x : List (UInt8 × Bool)) (f l : Nat) : Prop where
  fl : f ≤ l
  ln : l < x.length
  before : AllB x f
  behind : AllA x (l + 1)
  atF : ∀ y, x[f]? = some y → blank y = false
  atL : ∀ y, x[l]? = some y → blank y = false

theorem get_snoc {x : List (UInt8 × Bool)} {y z : UInt8 × Bool} {j : Nat} (h : (x ++ [y])[j]? = some z) : (j < x.length ∧ x[j]? = some z) ∨ (j = x.length ∧ z = y) := by
  rcases Nat.lt_or_ge j x.length with hj | hj
  · left; rw [List.getElem?_append_left hj] at h; exact ⟨hj, h⟩
  · right
    rw [List.getElem?_append_right hj] at h
    have hlt := (List.getElem?_eq_some_iff.1 h).1
    simp at hlt
    have : j = x.length := by omega
    subst this
    simp at h
    exact ⟨rfl, h.symm⟩
theorem allB_snoc {x : List (UInt8 × Bool)} {y : UInt8 × Bool} (h : AllB x x.length) (hb : blank y = true) : AllB (x ++ [y]) (x ++ [y]).length := fun j z _ hz => by
  rcases get_snoc hz with ⟨hj, h1⟩ | ⟨_, rfl⟩
  · exact h j z hj h1
  · exact hb
theorem FL.first {x : List (UInt8 × Bool)} {y : UInt8 × Bool} (h : AllB x x.length) (hb : blank y = false) : FL (x ++ [y]) x.length x.length := by
  refine ⟨Nat.le_refl _, by simp, fun j z hj hz => ?_, fun j z hj hz => ?_, fun z hz => ?_, fun z hz => ?_⟩
  · rcases get_snoc hz with ⟨_, h1⟩ | ⟨e, _⟩
    · exact h j z hj h1
    · omega
  · have := (List.getElem?_eq_some_iff.1 hz).1; simp at this; omega
  · rcases get_snoc hz with ⟨hj, _⟩ | ⟨_, rfl⟩
    · omega
    · exact hb
  · rcases get_snoc hz with ⟨hj, _⟩ | ⟨_, rfl⟩
    · omega
    · exact hb
theorem FL.sig {x : List (UInt8 × Bool)} {y : UInt8 × Bool} {f l : Nat} (h : FL x f l) (hb : blank y = false) : FL (x ++ [y]) f x.length := by
  have := h.fl; have := h.ln
  refine ⟨by omega, by simp, fun j z hj hz => ?_, fun j z hj hz => ?_, fun z hz => ?_, fun z hz => ?_⟩
  · rcases get_snoc hz with ⟨_, h1⟩ | ⟨e, _⟩
    · exact h.before j z hj h1
    · omega
  · have := (List.getElem?_eq_some_iff.1 hz).1; simp at this; omega
  · rcases get_snoc hz with ⟨_, h1⟩ | ⟨_, rfl⟩
    · exact h.atF z h1
    · exact hb
  · rcases get_snoc hz with ⟨hj, _⟩ | ⟨_, rfl⟩
    · omega
    · exact hb
theorem FL.white {x : List (UInt8 × Bool)} {y : UInt8 × Bool} {f l : Nat} (h : FL x f l) (hb : blank y = true) : FL (x ++ [y]) f l := by
  have := h.fl; have := h.ln
  refine ⟨h.fl, by simp; omega, fun j z hj hz => ?_, fun j z hj hz => ?_, fun z hz => ?_, fun z hz => ?_⟩
  · rcases get_snoc hz with ⟨_, h1⟩ | ⟨e, _⟩
    · exact h.before j z hj h1
    · omega
  · rcases get_snoc hz with ⟨_, h1⟩ | ⟨_, rfl⟩
    · exact h.behind j z hj h1
    · exact hb
  · rcases get_snoc hz with ⟨_, h1⟩ | ⟨e, _⟩
    · exact h.atF z h1
    · omega
  · rcases get_snoc hz with ⟨_, h1⟩ | ⟨e, _⟩
    · exact h.atL z h1
    · omega
theorem FL.trim {x : List (UInt8 × Bool)} {f l : Nat} (h : FL x f l) : Trim x f (l + 1) :=
  ⟨by have := h.fl; omega, by have := h.ln; omega, h.before, h.behind, h.atF, fun y _ hy => h.atL y (by simpa using hy)⟩
theorem trim_blank {x : List (UInt8 × Bool)} (h : AllB x x.length) : Trim x x.length x.length :=
  ⟨Nat.le_refl _, Nat.le_refl _, h, AllA.start x, none_at (Nat.le_refl _), fun _ h => absurd h (Nat.lt_irrefl _)⟩
theorem span_empty (x : List (UInt8 × Bool)) : span x x.length x.length = [] := by simp [span]
end Go.Proofs.Qxb6602631a
