import Derived.Test.Qxb6602631aShelf
import Derived.Test.Qxb6602631aPlain
import Derived.Lib.IndexAny
import Derived.WalkKit
import Derived.WalkSpells
import Derived.WalkLawsBesides
import Derived.Deep.LoopGhost
namespace Go.Proofs.Qxb6602631a
open Go.RowKit

theorem Hid.mk' {p : Prop} (h : p) : Hid p := h
theorem data_at (s : ByteArray) (k : Nat) (h : k < s.size) : s.data.toList[k]? = some (s[k]'h) := Lib.data_getElem? s k h
theorem u8_eq {x : UInt8} {n : Nat} (hn : n < 256) (h : (x.toNat : Int) = n) : x = n.toUInt8 := by
  apply UInt8.toNat_inj.1
  simp
  omega
/-- the walk's test of a byte against a number -/
theorem u8_beq (x : UInt8) (n : UInt8) : ((x.toNat : Int) == (n.toNat : Int)) = (x == n) := by
  cases h : (x == n) with
  | true => have := beq_iff_eq.1 h; subst this; exact beq_self_eq_true _
  | false =>
    refine beq_eq_false_iff_ne.2 fun e => ?_
    have : x = n := UInt8.toNat_inj.1 (by omega)
    subst this; simp at h
/-- a string out of its bytes -/
theorem mk_eq {s : ByteArray} {l : List UInt8} (h : s.data.toList = l) : s = ⟨l.toArray⟩ := by
  obtain ⟨d⟩ := s
  rw [← h]

theorem sp_index (c : UInt8) : decide (0 ≤ Lib.indexByte [32, 9, 10, 13, 11, 12] c) = spB c := by
  rw [← Lib.contains_iff_indexByte]
  simp only [spB, List.contains_cons, List.contains_nil, Bool.or_false, Bool.or_assoc]

set_option maxHeartbeats 400000 in
theorem isSpace15 (c : UInt8) (w : World) :
    Calls Try.prog 15 #[.int .u8 c.toNat] w fun e w' => e = .returned (.bool (spB c)) ∧ w' = w := by
  have hb : ((c.toNat : Int)).toNat.toUInt8 = c := by simp
  have HS : Hid (decide (0 ≤ Lib.indexByte [32, 9, 10, 13, 11, 12] c) = spB c) := sp_index c
  go_enter Try.func15, Try.ntmps15
  go_wp2_with (go_at_call 16; refine (Try.strings_IndexByte _ _ _).mono ?_; rintro e w' ⟨rfl, hw⟩; rw [hw, hb])
  go_ret
  rw [← HS.out]
  exact ⟨rfl, rfl⟩

theorem sp_nat (c : UInt8) : spB c = decide (c.toNat = 32 ∨ c.toNat = 9 ∨ c.toNat = 10 ∨ c.toNat = 13 ∨ c.toNat = 11 ∨ c.toNat = 12) := by
  have e : ∀ n : UInt8, (c == n) = decide (c.toNat = n.toNat) := fun n => by
    cases h : (c == n) with
    | true => have := beq_iff_eq.1 h; subst this; simp
    | false => exact (decide_eq_false fun e => by have : c = n := UInt8.toNat_inj.1 e; subst this; simp at h).symm
  simp only [spB, e, UInt8.reduceToNat, Bool.decide_or, Bool.or_assoc]
theorem sp_t {c : UInt8} (h : c.toNat = 32 ∨ c.toNat = 9 ∨ c.toNat = 10 ∨ c.toNat = 13 ∨ c.toNat = 11 ∨ c.toNat = 12) : spB c = true := by rw [sp_nat]; exact decide_eq_true h
theorem sp_f {c : UInt8} (h : ¬ (c.toNat = 32 ∨ c.toNat = 9 ∨ c.toNat = 10 ∨ c.toNat = 13 ∨ c.toNat = 11 ∨ c.toNat = 12)) : spB c = false := by rw [sp_nat]; exact decide_eq_false h

set_option maxHeartbeats 400000 in
theorem space13 (c : UInt8) (w : World) :
    Calls Try.prog 13 #[.int .u8 c.toNat] w fun e w' => e = .returned (.bool (spB c)) ∧ w' = w := by
  cases h : spB c with
  | true =>
    have h' : c.toNat = 32 ∨ c.toNat = 9 ∨ c.toNat = 10 ∨ c.toNat = 13 ∨ c.toNat = 11 ∨ c.toNat = 12 := by rw [sp_nat] at h; exact of_decide_eq_true h
    clear h
    go_enter Try.func13, Try.ntmps13
    rcases h' with h | h | h | h | h | h
    all_goals
      rw [h]
      clear h
      go_wp2
      go_ret
      exact ⟨rfl, rfl⟩
  | false =>
    have h' : ¬ (c.toNat = 32 ∨ c.toNat = 9 ∨ c.toNat = 10 ∨ c.toNat = 13 ∨ c.toNat = 11 ∨ c.toNat = 12) := by rw [sp_nat] at h; exact of_decide_eq_false h
    have b1 : ((c.toNat : Int) == 32) = false := beq_eq_false_iff_ne.2 (by omega)
    have b2 : ((c.toNat : Int) == 9) = false := beq_eq_false_iff_ne.2 (by omega)
    have b3 : ((c.toNat : Int) == 10) = false := beq_eq_false_iff_ne.2 (by omega)
    have b4 : ((c.toNat : Int) == 13) = false := beq_eq_false_iff_ne.2 (by omega)
    have b5 : ((c.toNat : Int) == 11) = false := beq_eq_false_iff_ne.2 (by omega)
    have b6 : ((c.toNat : Int) == 12) = false := beq_eq_false_iff_ne.2 (by omega)
    clear h h'
    go_enter Try.func13, Try.ntmps13
    go_wp2
    go_ret
    exact ⟨rfl, rfl⟩

/-- the bounds on length -/
def okLen (n : Nat) : Bool := decide (n ≤ 1048576)
set_option maxHeartbeats 400000 in
theorem bytes6 (s : ByteArray) (w : World) (hs : s.size ≤ maxLen) :
    Calls Try.prog 6 #[.string s] w fun e w' => e = .returned (.bool (okLen s.size)) ∧ w' = w := by
  unfold maxLen at hs
  by_cases h1 : s.size ≤ 1048576
  · rw [show okLen s.size = true from decide_eq_true h1]
    go_enter Try.func6, Try.ntmps6
    go_wp2
    go_ret
    exact ⟨rfl, rfl⟩
  · rw [show okLen s.size = false from decide_eq_false h1]
    go_enter Try.func6, Try.ntmps6
    go_wp2
    go_ret
    exact ⟨rfl, rfl⟩

set_option maxHeartbeats 400000 in
theorem bytes9 (s t : ByteArray) (w : World) (hs : s.size ≤ maxLen) (ht : t.size ≤ maxLen) :
    Calls Try.prog 9 #[.string s, .string t] w fun e w' => e = .returned (.bool (okLen (s.size + t.size))) ∧ w' = w := by
  unfold maxLen at hs ht
  by_cases h3 : s.size + t.size ≤ 1048576
  · rw [show okLen (s.size + t.size) = true from decide_eq_true h3]
    go_enter Try.func9, Try.ntmps9
    go_wp2
    go_ret
    exact ⟨rfl, rfl⟩
  · rw [show okLen (s.size + t.size) = false from decide_eq_false h3]
    by_cases h1 : s.size ≤ 1048576
    · by_cases h2 : t.size ≤ 1048576
      · go_enter Try.func9, Try.ntmps9
        go_wp2
        go_ret
        exact ⟨rfl, rfl⟩
      · go_enter Try.func9, Try.ntmps9
        go_wp2
        go_ret
        exact ⟨rfl, rfl⟩
    · go_enter Try.func9, Try.ntmps9
      go_wp2
      go_ret
      exact ⟨rfl, rfl⟩
end Go.Proofs.Qxb6602631a
