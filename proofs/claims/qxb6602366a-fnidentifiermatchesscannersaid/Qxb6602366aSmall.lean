import Derived.Test.Qxb6602366aProg
import Derived.Test.Qxb6602366aPlain
import Derived.WalkKit
import Derived.WalkSpells
import Derived.WalkLawsBesides
import Derived.Deep.LoopGhost
namespace Go.Proofs.Qxb6602366a
open Go.RowKit

set_option maxHeartbeats 400000 in
theorem bytes18 (s t : ByteArray) (w : World) (hs : s.size ≤ maxLen) (ht : t.size ≤ maxLen) :
    Calls Try.prog 18 #[.string s, .string t] w fun e w' => e = .returned (.bool (okLen s.size t.size)) ∧ w' = w := by
  unfold maxLen at hs ht
  by_cases h1 : s.size ≤ 1048576
  · by_cases h2 : t.size ≤ 1048576
    · by_cases h3 : s.size + t.size ≤ 1048576
      · have e : okLen s.size t.size = true := by simp [okLen, h3]
        rw [e]; clear e
        go_enter Try.func18, Try.ntmps18
        go_wp2
        go_ret
        exact ⟨rfl, rfl⟩
      · have e : okLen s.size t.size = false := by simp [okLen, h3]
        rw [e]; clear e
        go_enter Try.func18, Try.ntmps18
        go_wp2
        go_ret
        exact ⟨rfl, rfl⟩
    · have e : okLen s.size t.size = false := by simp [okLen]; omega
      rw [e]; clear e
      go_enter Try.func18, Try.ntmps18
      go_wp2
      go_ret
      exact ⟨rfl, rfl⟩
  · have e : okLen s.size t.size = false := by simp [okLen]; omega
    rw [e]; clear e
    go_enter Try.func18, Try.ntmps18
    go_wp2
    go_ret
    exact ⟨rfl, rfl⟩

set_option maxHeartbeats 400000 in
theorem bytes14 (s t : ByteArray) (w : World) (hs : s.size ≤ maxLen) (ht : t.size ≤ maxLen) :
    Calls Try.prog 14 #[.string s, .string t] w fun e w' => e = .returned (.bool (okLen s.size t.size)) ∧ w' = w := by
  unfold maxLen at hs ht
  by_cases h1 : s.size ≤ 1048576
  · by_cases h2 : t.size ≤ 1048576
    · by_cases h3 : s.size + t.size ≤ 1048576
      · have e : okLen s.size t.size = true := by simp [okLen, h3]
        rw [e]; clear e
        go_enter Try.func14, Try.ntmps14
        go_wp2
        go_ret
        exact ⟨rfl, rfl⟩
      · have e : okLen s.size t.size = false := by simp [okLen, h3]
        rw [e]; clear e
        go_enter Try.func14, Try.ntmps14
        go_wp2
        go_ret
        exact ⟨rfl, rfl⟩
    · have e : okLen s.size t.size = false := by simp [okLen]; omega
      rw [e]; clear e
      go_enter Try.func14, Try.ntmps14
      go_wp2
      go_ret
      exact ⟨rfl, rfl⟩
  · have e : okLen s.size t.size = false := by simp [okLen]; omega
    rw [e]; clear e
    go_enter Try.func14, Try.ntmps14
    go_wp2
    go_ret
    exact ⟨rfl, rfl⟩

/-- the first k bytes are ASCII -/
def AscTo (l : List UInt8) (k : Nat) : Prop := ∀ (j : Nat) b, j < k → l[j]? = some b → b.toNat < 128

theorem AscTo.succ {l : List UInt8} {k : Nat} {x : UInt8} (h : AscTo l k) (hx : l[k]? = some x) (hb : x.toNat < 128) : AscTo l (k + 1) := fun j b hj hb' => by
  by_cases e : j = k
  · subst e; rw [hx] at hb'; cases hb'; exact hb
  · exact h j b (by omega) hb'

theorem data_at (s : ByteArray) (k : Nat) (h : k < s.size) : s.data.toList[k]? = some (s[k]'h) := Lib.data_getElem? s k h

set_option maxHeartbeats 400000 in
theorem ascii15 (s : ByteArray) (w : World) (hs : s.size ≤ maxLen) :
    Calls Try.prog 15 #[.string s] w fun e w' => e = .returned (.bool (ascii s.data.toList)) ∧ w' = w := by
  unfold maxLen at hs
  go_enter Try.func15, Try.ntmps15
  go_wp2
  go_loop [3] (fun i => ∃ k : Nat, k ≤ s.size ∧ i = .int .i64 k ∧ AscTo s.data.toList k) (fun i => s.size - (intOf i).toNat)
  case atStart => exact ⟨0, Nat.zero_le _, rfl, fun _ _ h => absurd h (Nat.not_lt_zero _)⟩
  case round =>
    obtain ⟨k, hk, rfl, ha⟩ := hrel
    by_cases hlt : k < s.size
    · have hx : Hid (s.data.toList[k]? = some (s[k]'hlt)) := data_at s k hlt
      by_cases hb : (128 : Int) ≤ ((s[k]'hlt).toNat : Int)
      · go_wp2
        go_ret
        rw [ascii_not hx.out (by omega)]
        exact ⟨rfl, rfl⟩
      · go_wp2
        go_round
        case rel => exact ⟨k + 1, by omega, by go_num, ha.succ hx.out (by omega)⟩
        case measure => simp [intOf]; omega
    · go_wp2
      go_ret
      rw [ascii_of (fun j b hj => ha j b (by have := (List.getElem?_eq_some_iff.1 hj).1; have e : s.data.toList.length = s.size := (Lib.size_eq s).symm; omega) hj)]
      exact ⟨rfl, rfl⟩
end Go.Proofs.Qxb6602366a
