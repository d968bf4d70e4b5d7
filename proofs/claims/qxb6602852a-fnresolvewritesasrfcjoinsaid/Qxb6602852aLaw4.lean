import Derived.Test.Qxb6602852aRes2
import Derived.Lib.Builder
namespace Go.Proofs.Qxb6602852a
open Go.RowKit

set_option maxRecDepth 1000000 in
set_option maxHeartbeats 1000000 in
theorem zz10 (a0 : Bool) (a1 a2 : ByteArray) (a3 : Bool) (a4 : ByteArray) (a5 : Bool) (a6 a7 : ByteArray) (w : World) :
    Calls Try.prog 10 #[.bool a0, .string a1, .string a2, .bool a3, .string a4, .bool a5, .string a6, .string a7] w fun e w' => ∃ bo, e = .returned (.bool bo) ∧ w' = w := by
  go_enter Try.func10, Try.ntmps10
  go_wp2
  all_goals go_ret
  all_goals exact ⟨_, rfl, rfl⟩

theorem zz12 (dir : Option Addr) (s : ByteArray) (w : World) (Q : Option Addr → World → Prop)
    (H : Hid (Calls Try.prog 19 #[.pointer dir, .string s] w fun e w' => ∃ v, e = .returned (.pointer v) ∧ Q v w')) :
    Calls Try.prog 12 #[.pointer dir, .string s] w fun e w' => ∃ v, e = .returned (.pointer v) ∧ Q v w' := by
  go_enter Try.func12, Try.ntmps12
  go_wp2_with fail
  refine H.out.mono ?_
  rintro e w' ⟨v, rfl, hq⟩
  have HQ : Hid (Q v w') := hq
  clear hq
  go_wp2
  go_ret
  exact ⟨v, rfl, HQ.out⟩

theorem pre1_t {s : ByteArray} (h : Lib.hasPrefix s.data.toList [47] = true) : ∃ h0 : 0 < s.size, s[0]'h0 = 47 := by
  have hl := Lib.size_eq s
  cases hd : s.data.toList with
  | nil => rw [hd] at h; simp [Lib.hasPrefix, List.isPrefixOf] at h
  | cons a l =>
    rw [hd] at h
    simp [Lib.hasPrefix, List.isPrefixOf] at h
    have h0 : 0 < s.size := by rw [hl, hd]; exact Nat.succ_pos _
    refine ⟨h0, ?_⟩
    have := data_at s 0 h0
    rw [hd] at this; simp at this; rw [← this]; exact h.symm
theorem pre1_f {s : ByteArray} (h : Lib.hasPrefix s.data.toList [47] = false) : s.size = 0 ∨ ∃ h0 : 0 < s.size, s[0]'h0 ≠ 47 := by
  have hl := Lib.size_eq s
  cases hd : s.data.toList with
  | nil => left; rw [hl, hd]; rfl
  | cons a l =>
    right
    rw [hd] at h
    simp [Lib.hasPrefix, List.isPrefixOf] at h
    have h0 : 0 < s.size := by rw [hl, hd]; exact Nat.succ_pos _
    refine ⟨h0, ?_⟩
    have := data_at s 0 h0
    rw [hd] at this; simp at this; rw [← this]; exact fun e => h e.symm

/-- the resolved node -/
def Made (w : World) (sc au : ByteArray) (ha : Bool) (pa : ByteArray) (un : Option Addr) (v : Option Addr) (w' : World) : Prop :=
  ∃ b, v = some ⟨b, 0, none⟩ ∧ w.heap.size ≤ b ∧ Below w.heap.size w w' ∧ Node w' b sc au ha pa un
theorem made_of {d : Option Addr} {s : ByteArray} {w : World} {sc au ha pa un}
    (h : Calls Try.prog 19 #[.pointer d, .string s] w fun e w' => ∃ b, e = .returned (.pointer (some ⟨b, 0, none⟩)) ∧ w.heap.size ≤ b ∧ Below w.heap.size w w' ∧ Node w' b sc au ha pa un) :
    Calls Try.prog 12 #[.pointer d, .string s] w fun e w' => ∃ v, e = .returned (.pointer v) ∧ Made w sc au ha pa un v w' :=
  zz12 d s w _ (h.mono fun _ _ ⟨b, he, h1, h2, h3⟩ => ⟨_, he, b, rfl, h1, h2, h3⟩)

/-- the directory -/
def Dir (w : World) (a0 : Bool) (sc au : ByteArray) (ha : Bool) (pa : ByteArray) (hu : Bool) (up : ByteArray) (v : Option Addr) (w' : World) : Prop :=
  Below w.heap.size w w' ∧ ((a0 = true ∧ v = none) ∨ (a0 = false ∧ ∃ b un, v = some ⟨b, 0, none⟩ ∧ Node w' b sc au ha pa un ∧ Under w' un hu up))
theorem dir_any (a0 : Bool) (sc au pa up : ByteArray) (ha hu : Bool) (w : World) :
    Calls Try.prog 11 #[.bool a0, .string sc, .string au, .bool ha, .string pa, .bool hu, .string up] w fun e w' => ∃ v, e = .returned (.pointer v) ∧ Dir w a0 sc au ha pa hu up v w' := by
  cases a0 with
  | true => exact (dir11_nil sc au pa up ha hu w).mono fun _ _ ⟨he, hw⟩ => ⟨none, he, by subst hw; exact Below.refl _ _, Or.inl ⟨rfl, rfl⟩⟩
  | false => exact (dir11 sc au pa up ha hu w).mono fun _ _ ⟨b, un, he, _, h2, h3, h4⟩ => ⟨_, he, h2, Or.inr ⟨rfl, b, un, rfl, h3, h4⟩⟩

set_option maxRecDepth 1000000 in
set_option maxHeartbeats 2000000 in
theorem law_uri (a0 : Bool) (a1 a2 : ByteArray) (a3 : Bool) (a4 : ByteArray) (a5 : Bool) (a6 s : ByteArray) (w : World) (k : Nat)
    (h1 : a1.size ≤ 131072) (h2 : a2.size ≤ 131072) (h4 : a4.size ≤ 131072) (h6 : a6.size ≤ 131072) (h7 : s.size ≤ 131072) (hk : k < s.size) (hk0 : 0 < k)
    (HS : Hid (schE s.data.toList = k))
    (HC : Hid (∀ w, Calls Try.prog 28 #[.string s, .string ⟨#[58]⟩] w fun e w' => e = .returned (.tuple #[.string (s.extract 0 k), .string (s.extract (k + 1) s.size), .bool true]) ∧ ∃ n, w' = w.drewN n))
    (HU : Hid (∀ w, Calls Try.prog 23 #[.string s] w fun e w' => e = .returned (.bool true) ∧ ∃ n, w' = w.drewN n)) :
    Calls Try.prog 4 #[.bool a0, .string a1, .string a2, .bool a3, .string a4, .bool a5, .string a6, .string s] w fun e w' => e = .returned (.bool true) ∧ Below w.heap.size w w' := by
  go_enter Try.func4, Try.ntmps4
  go_wp2_with (go_at_call 10; refine (zz10 _ _ _ _ _ _ _ _ _).mono ?_; rintro e w1 ⟨bo, rfl, hw1⟩; rw [hw1]; cases bo)
  · go_ret
    exact ⟨rfl, Below.refl _ _⟩
  refine (dir_any _ _ _ _ _ _ _ _).mono ?_
  rintro e w1 ⟨d, rfl, hd⟩
  have HD : Hid (Dir w a0 a1 a2 a3 a4 a5 a6 d w1) := hd
  clear hd
  go_wp2_with fail
  refine (made_of (res_uri d s _ _ _ (by simp; omega) HC HU)).mono ?_
  rintro e w2 ⟨v, rfl, b, rfl, hb, hbel, hn⟩
  have HB : Hid (Below w1.heap.size w1 w2) := hbel
  have HN : Hid (Node w2 b (s.extract 0 k) (hAuth (s.extract (k + 1) s.size)) (hierB (s.extract (k + 1) s.size)) (hPath (s.extract (k + 1) s.size)) none) := hn
  clear hb hbel hn
  go_wp2_with (go_at_call 13; refine (scheme13 s _ (by omega)).mono ?_; rintro e w' ⟨rfl, hw⟩; rw [hw, HS.out])
  refine (split14 (s.extract (k + 1) s.size) _ (by simp; omega)).mono ?_
  rintro e w3 ⟨rfl, n3, hw3⟩
  have HW3 : Hid (w3 = w2.drewN n3) := hw3
  have HN3 : Hid (Node w3 b (s.extract 0 k) (hAuth (s.extract (k + 1) s.size)) (hierB (s.extract (k + 1) s.size)) (hPath (s.extract (k + 1) s.size)) none) := by
    show Node ..; rw [hw3]; exact HN.out.drewN n3
  clear hw3
  go_wp2_with fail
  refine (parts15 b _ _ _ _ _ _ HN3.out).mono ?_
  rintro e w4 ⟨rfl, n4, hw4⟩
  have HW4 : Hid (w4 = w3.drewN n4) := hw4
  clear hw4
  go_wp2
  go_ret
  refine ⟨rfl, ?_⟩
  rw [HW4.out, HW3.out]
  exact below_drewN (below_drewN (HD.out.1.trans (HB.out.mono HD.out.1.size)) _) _
end Go.Proofs.Qxb6602852a
