import Derived.Test.Qxb6602852aShelf
import Derived.WalkKit
import Derived.WalkSpells
import Derived.WalkLawsBesides
import Derived.Deep.QuietTactic
import Derived.BigQuiet
namespace Go.Proofs.Qxb6602852a
open Go.RowKit

theorem indexByte_parts (c : UInt8) : ∀ l : List UInt8, Lib.indexByte l c = -1 ∧ (∀ b ∈ l, b ≠ c) ∨ ∃ k : Nat, Lib.indexByte l c = k ∧ k < l.length ∧ (∀ b ∈ l.take k, b ≠ c) ∧ l.drop k = c :: l.drop (k + 1)
  | [] => Or.inl ⟨rfl, by simp⟩
  | b :: l => by
    by_cases hb : b = c
    · subst hb
      refine Or.inr ⟨0, ?_, by simp, by simp, by simp⟩
      simp [Lib.indexByte]
    · have hb' : (b == c) = false := by simpa using hb
      rcases indexByte_parts c l with ⟨h1, h2⟩ | ⟨k, h1, h2, h3, h4⟩
      · refine Or.inl ⟨by rw [Lib.indexByte, hb', h1]; simp, fun x hx => ?_⟩
        rcases List.mem_cons.1 hx with rfl | hx
        · exact hb
        · exact h2 x hx
      · refine Or.inr ⟨k + 1, ?_, by simp; omega, fun x hx => ?_, by simpa using h4⟩
        · rw [Lib.indexByte, hb', h1]
          simp
        · rw [List.take_succ_cons] at hx
          rcases List.mem_cons.1 hx with rfl | hx
          · exact hb
          · exact h3 x hx

set_option maxHeartbeats 400000 in
theorem cut32_hit (s : ByteArray) (c : UInt8) (w : World) (k : Nat) (hs : s.size ≤ 1048576) (hk : Hid (Lib.indexByte s.data.toList c = k)) (hlt : k < s.size) :
    Calls Try.prog 32 #[.string s, .string ⟨#[c]⟩] w fun e w' => e = .returned (.tuple #[.string (s.extract 0 k), .string (s.extract (k + 1) s.size), .bool true]) ∧ ∃ n, w' = w.drewN n := by
  go_enter Try.func32, Try.ntmps32
  go_wp2_with (go_at_call 35; refine (Try.stringslite_Index_one s c _).mono ?_; rintro e w' ⟨rfl, hw⟩; rw [hw, hk.out])
  go_quiet (fail)
  go_wp2
  go_ret3
  exact ⟨rfl, _, rfl⟩

set_option maxHeartbeats 400000 in
theorem cut32_miss (s : ByteArray) (c : UInt8) (w : World) (hk : Hid (Lib.indexByte s.data.toList c = -1)) :
    Calls Try.prog 32 #[.string s, .string ⟨#[c]⟩] w fun e w' => e = .returned (.tuple #[.string s, .string ⟨#[]⟩, .bool false]) ∧ w' = w := by
  go_enter Try.func32, Try.ntmps32
  go_wp2_with (go_at_call 35; refine (Try.stringslite_Index_one s c _).mono ?_; rintro e w' ⟨rfl, hw⟩; rw [hw, hk.out])
  go_ret3
  exact ⟨rfl, rfl⟩

set_option maxHeartbeats 400000 in
theorem cut28_hit (s : ByteArray) (c : UInt8) (w : World) (k : Nat) (hs : s.size ≤ 1048576) (hk : Hid (Lib.indexByte s.data.toList c = k)) (hlt : k < s.size) :
    Calls Try.prog 28 #[.string s, .string ⟨#[c]⟩] w fun e w' => e = .returned (.tuple #[.string (s.extract 0 k), .string (s.extract (k + 1) s.size), .bool true]) ∧ ∃ n, w' = w.drewN n := by
  go_enter Try.func28, Try.ntmps28
  go_wp2_with (go_at_call 32; refine (cut32_hit s c _ k hs hk hlt).mono ?_; rintro e w' ⟨rfl, n, rfl⟩)
  go_ret3
  exact ⟨rfl, _, rfl⟩

set_option maxHeartbeats 400000 in
theorem cut28_miss (s : ByteArray) (c : UInt8) (w : World) (hk : Hid (Lib.indexByte s.data.toList c = -1)) :
    Calls Try.prog 28 #[.string s, .string ⟨#[c]⟩] w fun e w' => e = .returned (.tuple #[.string s, .string ⟨#[]⟩, .bool false]) ∧ w' = w := by
  go_enter Try.func28, Try.ntmps28
  go_wp2_with (go_at_call 32; refine (cut32_miss s c _ hk).mono ?_; rintro e w' ⟨rfl, rfl⟩)
  go_ret3
  exact ⟨rfl, rfl⟩
end Go.Proofs.Qxb6602852a
