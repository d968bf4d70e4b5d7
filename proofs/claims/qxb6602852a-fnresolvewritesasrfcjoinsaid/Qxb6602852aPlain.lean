import Derived.Lib.Bytealg
import Derived.Lib.Strings
import Derived.Lib.IndexBytes
namespace Go.Proofs.Qxb6602852a
open Go.Lib

def isLet (c : UInt8) : Bool := decide ((97 ≤ c.toNat ∧ c.toNat ≤ 122) ∨ (65 ≤ c.toNat ∧ c.toNat ≤ 90))
def isDig (c : UInt8) : Bool := decide (48 ≤ c.toNat ∧ c.toNat ≤ 57)
def isMark (c : UInt8) : Bool := c == 43 || c == 45 || c == 46
/-- a scheme's byte at its place -/
def okAt (i : Nat) (c : UInt8) : Bool := isLet c || (decide (0 < i) && (isDig c || isMark c))
def okFrom : List UInt8 → Nat → Bool
  | [], _ => true
  | c :: t, i => okAt i c && okFrom t (i + 1)

theorem okAt_58 (i : Nat) : okAt i 58 = false := by simp [okAt, isLet, isDig, isMark]
theorem okAt_47 (i : Nat) : okAt i 47 = false := by simp [okAt, isLet, isDig, isMark]

/-- the index of the colon that closes a scheme at the start, or -1; from a place on -/
def schGo : List UInt8 → Nat → Int
  | [], _ => -1
  | c :: t, i => if c = 58 then (if i = 0 then -1 else (i : Int)) else if okAt i c then schGo t (i + 1) else -1
def schE (S : List UInt8) : Int := schGo S 0

theorem schGo_run : ∀ (p rest : List UInt8) (i : Nat), (∀ c ∈ p, c ≠ 58) → schGo (p ++ rest) i = if okFrom p i = true then schGo rest (i + p.length) else -1
  | [], rest, i, _ => by simp [okFrom]
  | c :: p, rest, i, h => by
    have hc : c ≠ 58 := h c (List.mem_cons_self ..)
    have ih := schGo_run p rest (i + 1) fun x hx => h x (List.mem_cons_of_mem _ hx)
    rw [List.cons_append, schGo, if_neg hc, ih]
    cases ho : okAt i c with
    | true =>
      simp only [okFrom, ho, Bool.true_and, if_true]
      have : i + 1 + p.length = i + (c :: p).length := by simp; omega
      rw [this]
    | false => simp [okFrom, ho]
theorem schGo_slash (t : List UInt8) (i : Nat) : schGo (47 :: t) i = -1 := by simp [schGo, okAt_47]

/-- a text whose first colon stands behind p -/
theorem schE_colon {p t : List UInt8} (h : ∀ c ∈ p, c ≠ 58) : schE (p ++ 58 :: t) = if okFrom p 0 = true ∧ p ≠ [] then (p.length : Int) else -1 := by
  unfold schE
  rw [schGo_run p _ 0 h]
  by_cases ho : okFrom p 0 = true
  · rw [if_pos ho]
    cases p with
    | nil => simp [schGo]
    | cons a l =>
      rw [if_pos ⟨ho, by simp⟩]
      simp [schGo]
  · rw [if_neg ho, if_neg (fun hh => ho hh.1)]
/-- a first segment without a colon -/
theorem schE_none {p t : List UInt8} (h : ∀ c ∈ p, c ≠ 58) (ht : t = [] ∨ ∃ u, t = 47 :: u) : schE (p ++ t) = -1 := by
  unfold schE
  rw [schGo_run p _ 0 h]
  by_cases ho : okFrom p 0 = true
  · rw [if_pos ho]
    rcases ht with rfl | ⟨u, rfl⟩
    · rfl
    · exact schGo_slash _ _
  · rw [if_neg ho]
theorem schE_cases (S : List UInt8) : schE S = -1 ∨ ∃ (p t : List UInt8), S = p ++ 58 :: t ∧ (∀ c ∈ p, c ≠ 58) ∧ okFrom p 0 = true ∧ p ≠ [] ∧ schE S = p.length := by
  have key : ∀ (S : List UInt8), (∀ c ∈ S, c ≠ 58) ∨ ∃ p t, S = p ++ 58 :: t ∧ ∀ c ∈ p, c ≠ 58 := by
    intro S
    induction S with
    | nil => left; simp
    | cons c S ih =>
      by_cases hc : c = 58
      · subst hc; exact Or.inr ⟨[], S, rfl, by simp⟩
      · rcases ih with h | ⟨p, t, rfl, h⟩
        · left; intro x hx; rcases List.mem_cons.1 hx with rfl | hx
          · exact hc
          · exact h x hx
        · right; exact ⟨c :: p, t, rfl, fun x hx => by rcases List.mem_cons.1 hx with rfl | hx; exact hc; exact h x hx⟩
  rcases key S with h | ⟨p, t, rfl, h⟩
  · left
    have := schE_none (p := S) (t := []) h (Or.inl rfl)
    rwa [List.append_nil] at this
  · rw [schE_colon h]
    by_cases ho : okFrom p 0 = true ∧ p ≠ []
    · right; exact ⟨p, t, rfl, h, ho.1, ho.2, by rw [if_pos ho]⟩
    · left; rw [if_neg ho]

/-- the loops' states -/
def St (S : List UInt8) (i : Nat) : Prop := schE S = schGo (S.drop i) i
theorem drop_at {Q : List UInt8} {k : Nat} {x : UInt8} (hx : Q[k]? = some x) : Q.drop k = x :: Q.drop (k + 1) := by
  obtain ⟨h, e⟩ := List.getElem?_eq_some_iff.1 hx
  rw [List.drop_eq_getElem_cons h, e]
theorem St.zero (S : List UInt8) : St S 0 := by simp [St, schE]
theorem St.colon {S : List UInt8} {i : Nat} (h : St S i) (hx : S[i]? = some 58) : schE S = if i = 0 then -1 else (i : Int) := by
  unfold St at h
  rw [h, drop_at hx]; simp [schGo]
theorem St.ok {S : List UInt8} {i : Nat} {c : UInt8} (h : St S i) (hx : S[i]? = some c) (hc : c ≠ 58) (ho : okAt i c = true) : St S (i + 1) := by
  unfold St at *
  rw [h, drop_at hx, schGo, if_neg hc, if_pos ho]
theorem St.bad {S : List UInt8} {i : Nat} {c : UInt8} (h : St S i) (hx : S[i]? = some c) (hc : c ≠ 58) (ho : okAt i c = false) : schE S = -1 := by
  unfold St at h
  rw [h, drop_at hx, schGo, if_neg hc, if_neg (by rw [ho]; decide)]
theorem St.done {S : List UInt8} {i : Nat} (h : St S i) (hi : S.length ≤ i) : schE S = -1 := by
  unfold St at h
  rw [h, List.drop_of_length_le hi]; rfl

theorem okFrom_split : ∀ (P : List UInt8) (i k : Nat), okFrom P i = (okFrom (P.take k) i && okFrom (P.drop k) (i + k))
  | [], i, k => by simp [okFrom]
  | c :: P, i, 0 => by simp [okFrom]
  | c :: P, i, k + 1 => by
    have := okFrom_split P (i + 1) k
    simp only [okFrom, List.take_succ_cons, List.drop_succ_cons, this, Bool.and_assoc]
    have e : i + 1 + k = i + (k + 1) := by omega
    rw [e]
/-- IsURI's loop -/
def Ok2 (P : List UInt8) (i : Nat) : Prop := okFrom (P.take i) 0 = true
theorem Ok2.zero (P : List UInt8) : Ok2 P 0 := by simp [Ok2, okFrom]
theorem Ok2.succ {P : List UInt8} {i : Nat} {c : UInt8} (h : Ok2 P i) (hx : P[i]? = some c) (ho : okAt i c = true) : Ok2 P (i + 1) := by
  unfold Ok2 at *
  have := okFrom_split (P.take (i + 1)) 0 i
  rw [this, List.take_take, Nat.min_eq_left (by omega), h]
  rw [List.take_add_one, hx]
  have hl : i ≤ P.length := by have := (List.getElem?_eq_some_iff.1 hx).1; omega
  rw [List.drop_append_of_le_length (by simp; omega)]
  have hd : (P.take i).drop i = [] := List.drop_of_length_le (by simp; omega)
  simp [okFrom, ho, hd]
theorem Ok2.bad {P : List UInt8} {i : Nat} {c : UInt8} (hx : P[i]? = some c) (ho : okAt i c = false) : okFrom P 0 = false := by
  rw [okFrom_split P 0 i, drop_at hx]
  simp [okFrom, ho]
theorem Ok2.done {P : List UInt8} {i : Nat} (h : Ok2 P i) (hi : P.length ≤ i) : okFrom P 0 = true := by
  unfold Ok2 at h
  rwa [List.take_of_length_le hi] at h

/-- the hier-part -/
def hierB (R : ByteArray) : Bool := hasPrefix R.data.toList [47, 47]
def hierT (R : ByteArray) : ByteArray := R.extract 2 R.size
def hierE (R : ByteArray) : Nat := if 0 ≤ indexByte (hierT R).data.toList 47 then (indexByte (hierT R).data.toList 47).toNat else (hierT R).size
def hAuth (R : ByteArray) : ByteArray := if hierB R then (hierT R).extract 0 (hierE R) else ⟨#[]⟩
def hPath (R : ByteArray) : ByteArray := if hierB R then (hierT R).extract (hierE R) (hierT R).size else R
end Go.Proofs.Qxb6602852a
