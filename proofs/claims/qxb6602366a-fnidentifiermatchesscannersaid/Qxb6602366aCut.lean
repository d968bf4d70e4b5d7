import Derived.Test.Qxb6602366aShelf
import Derived.WalkKit
import Derived.WalkSpells
import Derived.WalkLawsBesides
import Derived.Deep.QuietTactic
import Derived.BigQuiet
namespace Go.Proofs.Qxb6602366a
open Go.RowKit

theorem indexByte_lt (c : UInt8) : ∀ l : List UInt8, Lib.indexByte l c < l.length
  | [] => by simp [Lib.indexByte]
  | b :: l => by
    have ih := indexByte_lt c l
    unfold Lib.indexByte
    split
    · simp
    · split
      · simp; omega
      · simp; omega

set_option maxHeartbeats 400000 in
theorem cut36_hit (s : ByteArray) (c : UInt8) (w : World) (k : Nat) (hs : s.size ≤ 1048576) (hk : Hid (Lib.indexByte s.data.toList c = k)) (hlt : k < s.size) :
    Calls Try.prog 36 #[.string s, .string ⟨#[c]⟩] w fun e w' => e = .returned (.tuple #[.string (s.extract 0 k), .string (s.extract (k + 1) s.size), .bool true]) ∧ ∃ n, w' = w.drewN n := by
  go_enter Try.func36, Try.ntmps36
  go_wp2_with (go_at_call 43; refine (Try.stringslite_Index_one s c _).mono ?_; rintro e w' ⟨rfl, hw⟩; rw [hw, hk.out])
  go_quiet (fail)
  go_wp2
  go_ret3
  exact ⟨rfl, _, rfl⟩

set_option maxHeartbeats 400000 in
theorem cut36_miss (s : ByteArray) (c : UInt8) (w : World) (hk : Hid (Lib.indexByte s.data.toList c = -1)) :
    Calls Try.prog 36 #[.string s, .string ⟨#[c]⟩] w fun e w' => e = .returned (.tuple #[.string s, .string ⟨#[]⟩, .bool false]) ∧ w' = w := by
  go_enter Try.func36, Try.ntmps36
  go_wp2_with (go_at_call 43; refine (Try.stringslite_Index_one s c _).mono ?_; rintro e w' ⟨rfl, hw⟩; rw [hw, hk.out])
  go_ret3
  exact ⟨rfl, rfl⟩

set_option maxHeartbeats 400000 in
theorem cut26_hit (s : ByteArray) (c : UInt8) (w : World) (k : Nat) (hs : s.size ≤ 1048576) (hk : Hid (Lib.indexByte s.data.toList c = k)) (hlt : k < s.size) :
    Calls Try.prog 26 #[.string s, .string ⟨#[c]⟩] w fun e w' => e = .returned (.tuple #[.string (s.extract 0 k), .string (s.extract (k + 1) s.size), .bool true]) ∧ ∃ n, w' = w.drewN n := by
  go_enter Try.func26, Try.ntmps26
  go_wp2_with (go_at_call 36; refine (cut36_hit s c _ k hs hk hlt).mono ?_; rintro e w' ⟨rfl, n, rfl⟩)
  go_ret3
  exact ⟨rfl, _, rfl⟩

set_option maxHeartbeats 400000 in
theorem cut26_miss (s : ByteArray) (c : UInt8) (w : World) (hk : Hid (Lib.indexByte s.data.toList c = -1)) :
    Calls Try.prog 26 #[.string s, .string ⟨#[c]⟩] w fun e w' => e = .returned (.tuple #[.string s, .string ⟨#[]⟩, .bool false]) ∧ w' = w := by
  go_enter Try.func26, Try.ntmps26
  go_wp2_with (go_at_call 36; refine (cut36_miss s c _ hk).mono ?_; rintro e w' ⟨rfl, rfl⟩)
  go_ret3
  exact ⟨rfl, rfl⟩
end Go.Proofs.Qxb6602366a
