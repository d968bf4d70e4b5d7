import Derived.Lib.Bytealg
import Derived.Lib.Strings
import Derived.Lib.IndexBytes
namespace Go.Proofs.Qxb6602446a
open Go.Lib

/-- a letter or digit of a label, by its number -/
def alnum (c : UInt8) : Bool := decide ((97 ≤ c.toNat ∧ c.toNat ≤ 122) ∨ (48 ≤ c.toNat ∧ c.toNat ≤ 57))
/-- a byte of a label -/
def okc (c : UInt8) : Bool := alnum c || c == 45

/-- the one-pass scanner, from a state on -/
def scan : List UInt8 → Nat → UInt8 → Bool
  | [], n, prev => decide (0 < n) && (prev != 45)
  | c :: t, n, prev =>
    if c = 46 then (if n = 0 ∨ prev = 45 then false else scan t 0 c)
    else if alnum c then (if 63 < n + 1 then false else scan t (n + 1) c)
    else if c = 45 then (if n = 0 then false else if 63 < n + 1 then false else scan t (n + 1) c)
    else false

/-- what both functions answer -/
def subB (S : List UInt8) : Bool := decide (S.length ≤ 253) && scan S 0 46

/-- a label: not empty, at most 63 bytes, all of them good, no hyphen at either end -/
def lab (C : List UInt8) : Bool := !C.isEmpty && decide (C.length ≤ 63) && C.head? != some 45 && C.getLast? != some 45 && C.all okc

theorem alnum_45 : alnum 45 = false := by decide
theorem alnum_46 : alnum 46 = false := by decide

theorem scan_dot (t : List UInt8) (n : Nat) (prev : UInt8) : scan (46 :: t) n prev = (if n = 0 ∨ prev = 45 then false else scan t 0 46) := by simp [scan]
theorem scan_alnum {c : UInt8} (h : alnum c = true) (t : List UInt8) (n : Nat) (prev : UInt8) : scan (c :: t) n prev = (if 63 < n + 1 then false else scan t (n + 1) c) := by
  have h1 : c ≠ 46 := fun e => by rw [e, alnum_46] at h; cases h
  simp [scan, h1, h]
theorem scan_hyphen (t : List UInt8) (n : Nat) (prev : UInt8) : scan (45 :: t) n prev = (if n = 0 then false else if 63 < n + 1 then false else scan t (n + 1) 45) := by
  simp [scan, alnum_45]
theorem scan_bad {c : UInt8} (h1 : c ≠ 46) (h2 : okc c = false) (t : List UInt8) (n : Nat) (prev : UInt8) : scan (c :: t) n prev = false := by
  simp only [okc, Bool.or_eq_false_iff] at h2
  have h3 : c ≠ 45 := by simpa using h2.2
  simp [scan, h1, h2.1, h3]

/-- a run of bytes without a dot, from n on -/
theorem scan_run : ∀ (C T : List UInt8) (n : Nat) (prev : UInt8), (∀ c ∈ C, c ≠ 46) →
    scan (C ++ T) n prev = if C.all okc = true ∧ (C ≠ [] → n + C.length ≤ 63) ∧ (n = 0 → C.head? ≠ some 45) then scan T (n + C.length) (C.getLast?.getD prev) else false
  | [], T, n, prev, _ => by simp
  | c :: C, T, n, prev, h => by
    have hc : c ≠ 46 := h c (List.mem_cons_self ..)
    have ih := fun m p => scan_run C T m p fun x hx => h x (List.mem_cons_of_mem _ hx)
    have hlast : ((c :: C).getLast?.getD prev) = C.getLast?.getD c := by
      cases C with
      | nil => simp
      | cons d D => rw [List.getLast?_cons_cons, List.getLast?_eq_some_getLast (by simp)]; rfl
    rw [List.cons_append, hlast]
    cases hk : okc c with
    | false =>
      rw [scan_bad hc hk, if_neg]
      simp [hk]
    | true =>
      cases ha : alnum c with
      | true =>
        have hne : c ≠ 45 := fun e => by rw [e, alnum_45] at ha; cases ha
        rw [scan_alnum ha, ih]
        by_cases h63 : 63 < n + 1
        · rw [if_pos h63, if_neg]
          intro hh
          have := hh.2.1 (by simp)
          simp at this
          omega
        · rw [if_neg h63]
          by_cases hC : C = []
          · subst hC
            simp [hk, hne]
            intro h'
            omega
          · have e1 : (n + 1 + C.length) = n + (c :: C).length := by simp; omega
            rw [e1]
            simp only [List.all_cons, hk, Bool.true_and, List.head?_cons]
            congr 1
            simp [hne, hC]
      | false =>
        have h45 : c = 45 := by
          simp only [okc, ha, Bool.false_or] at hk
          simpa using hk
        subst h45
        rw [scan_hyphen, ih]
        by_cases h0 : n = 0
        · rw [if_pos h0, if_neg]
          simp [h0]
        · rw [if_neg h0]
          by_cases h63 : 63 < n + 1
          · rw [if_pos h63, if_neg]
            intro hh
            have := hh.2.1 (by simp)
            simp at this
            omega
          · rw [if_neg h63]
            by_cases hC : C = []
            · subst hC
              simp [hk, h0]
              intro h'
              omega
            · have e1 : (n + 1 + C.length) = n + ((45 : UInt8) :: C).length := by simp; omega
              rw [e1]
              simp only [List.all_cons, hk, Bool.true_and, List.head?_cons]
              congr 1
              simp [h0, hC]

/-- the last label -/
theorem scan_last (C : List UInt8) (h : ∀ c ∈ C, c ≠ 46) (p : UInt8) : scan C 0 p = lab C := by
  have := scan_run C [] 0 p h
  rw [List.append_nil] at this
  rw [this]
  cases C with
  | nil => simp [lab, scan]
  | cons c C =>
    simp only [lab, scan, Nat.zero_add]
    have hl : ((c :: C).getLast?.getD p != 45) = ((c :: C).getLast? != some 45) := by
      rw [List.getLast?_eq_some_getLast (by simp)]
      simp [bne]
    rw [hl]
    by_cases h1 : (c :: C).all okc = true
    · by_cases h2 : (c :: C).length ≤ 63
      · by_cases h3 : (c :: C).head? = some 45
        · rw [if_neg (fun hh => absurd h3 (by simpa using hh.2.2))]; simp [h3]
        · rw [if_pos ⟨h1, fun _ => h2, by simpa using h3⟩]
          have h3' : ((c :: C).head? != some 45) = true := by simpa using h3
          rw [h1, h3', decide_eq_true h2]
          simp
      · rw [if_neg (fun hh => h2 (hh.2.1 (by simp)))]
        rw [decide_eq_false h2]; simp
    · rw [if_neg (fun hh => h1 hh.1)]
      have : (c :: C).all okc = false := by simpa using h1
      rw [this]; simp

/-- a label with a dot behind it -/
theorem scan_more (C T : List UInt8) (h : ∀ c ∈ C, c ≠ 46) (p : UInt8) : scan (C ++ 46 :: T) 0 p = (lab C && scan T 0 46) := by
  rw [scan_run C (46 :: T) 0 p h, scan_dot]
  cases C with
  | nil => simp [lab]
  | cons c C =>
    simp only [lab, Nat.zero_add]
    have hl : ((c :: C).getLast?.getD p = 45) ↔ ((c :: C).getLast? = some 45) := by
      rw [List.getLast?_eq_some_getLast (by simp)]
      simp
    by_cases h1 : (c :: C).all okc = true
    · by_cases h2 : (c :: C).length ≤ 63
      · by_cases h3 : (c :: C).head? = some 45
        · rw [if_neg (fun hh => absurd h3 (by simpa using hh.2.2))]; simp [h3]
        · rw [if_pos ⟨h1, fun _ => h2, by simpa using h3⟩]
          have h3' : ((c :: C).head? != some 45) = true := by simpa using h3
          by_cases h4 : (c :: C).getLast? = some 45
          · rw [if_pos (Or.inr (hl.2 h4))]; simp [h4]
          · rw [if_neg (fun hh => by rcases hh with hh | hh <;> first | exact h4 (hl.1 hh) | simp at hh)]
            have h4' : ((c :: C).getLast? != some 45) = true := by simpa using h4
            rw [h1, h3', h4', decide_eq_true h2]
            simp
      · rw [if_neg (fun hh => h2 (hh.2.1 (by simp)))]
        rw [decide_eq_false h2]; simp
    · rw [if_neg (fun hh => h1 hh.1)]
      have : (c :: C).all okc = false := by simpa using h1
      rw [this]; simp
end Go.Proofs.Qxb6602446a
