import Derived.Test.Qxb6602852aLaw4
namespace Go.Proofs.Qxb6602852a
open Go.RowKit

theorem info40_some : ∃ j, Try.prog.info? 40 = some j := by
  have h : (Try.prog.info? 40).isSome = true := by kernel_rfl
  exact Option.isSome_iff_exists.1 h

set_option maxRecDepth 1000000 in
set_option maxHeartbeats 2000000 in
theorem law_rel_a (a1 a2 : ByteArray) (a3 : Bool) (a4 : ByteArray) (a5 : Bool) (a6 s : ByteArray) (w : World)
    (h1 : a1.size ≤ 131072) (h2 : a2.size ≤ 131072) (h4 : a4.size ≤ 131072) (h6 : a6.size ≤ 131072) (_h7 : s.size ≤ 131072) (HP : Hid (Lib.hasPrefix s.data.toList [47] = false)) (HP2 : Hid (Lib.hasPrefix s.data.toList [47, 47] = false)) (hz : s.size = 0)
    (HS : Hid (schE s.data.toList = -1))
    (HU : Hid (∀ w, Calls Try.prog 23 #[.string s] w fun e w' => e = .returned (.bool false) ∧ ∃ n, w' = w.drewN n)) :
    Calls Try.prog 4 #[.bool false, .string a1, .string a2, .bool a3, .string a4, .bool a5, .string a6, .string s] w fun e w' => e = .returned (.bool true) ∧ Below w.heap.size w w' := by
  go_enter Try.func4, Try.ntmps4
  go_wp2_with (go_at_call 10; refine (zz10 _ _ _ _ _ _ _ _ _).mono ?_; rintro e w1 ⟨bo, rfl, hw1⟩; rw [hw1]; cases bo)
  · go_ret
    exact ⟨rfl, Below.refl _ _⟩
  refine (dir_any _ _ _ _ _ _ _ _).mono ?_
  rintro e w1 ⟨d, rfl, hd⟩
  obtain ⟨hd0, ⟨hd1, _⟩ | ⟨_, b0, un, rfl, hd2, _⟩⟩ := hd
  · cases hd1
  have HD : Hid (Below w.heap.size w w1) := hd0
  have HDN : Hid (Node w1 b0 a1 a2 a3 a4 un) := hd2
  clear hd0 hd2
  go_wp2_with fail
  refine (made_of (res_rel b0 a1 a2 a3 a4 un s _ HDN.out HP HP2 HU)).mono ?_
  rintro e w2 ⟨v, rfl, b, rfl, hb, hbel, hn⟩
  have HB : Hid (Below w1.heap.size w1 w2) := hbel
  have HN : Hid (Node w2 b a1 a2 a3 s (some ⟨b0, 0, none⟩)) := hn
  clear hb hbel hn
  go_wp2_with (go_at_call 13; refine (scheme13 s _ (by omega)).mono ?_; rintro e w' ⟨rfl, hw⟩; rw [hw, HS.out])
  refine (parts15 b _ _ _ _ _ _ HN.out).mono ?_
  rintro e w4 ⟨rfl, n4, hw4⟩
  have HW4 : Hid (w4 = w2.drewN n4) := hw4
  clear hw4
  have hne : ∀ w, (binOp .neq 25 (.pointer (some ⟨b0, 0, none⟩)) (.pointer (some ⟨b0, 0, none⟩))).run Try.prog w = .ok (.bool false) w := fun w => by
    obtain ⟨j, hj⟩ := info40_some
    exact Lib.run_neq_ptr_same w _ Try.underlying25 hj
  go_wp2
  go_ret
  refine ⟨rfl, ?_⟩
  rw [HW4.out]
  exact below_drewN (HD.out.trans (HB.out.mono HD.out.size)) _
set_option maxRecDepth 1000000 in
set_option maxHeartbeats 2000000 in
theorem law_rel_b (a1 a2 : ByteArray) (a3 : Bool) (a4 : ByteArray) (a5 : Bool) (a6 s : ByteArray) (w : World)
    (h1 : a1.size ≤ 131072) (h2 : a2.size ≤ 131072) (h4 : a4.size ≤ 131072) (h6 : a6.size ≤ 131072) (h7 : s.size ≤ 131072) (HP : Hid (Lib.hasPrefix s.data.toList [47] = false)) (HP2 : Hid (Lib.hasPrefix s.data.toList [47, 47] = false)) (h0 : 0 < s.size) (n0 : (((s[0]'h0).toNat : Int) == 47) = false)
    (HS : Hid (schE s.data.toList = -1))
    (HU : Hid (∀ w, Calls Try.prog 23 #[.string s] w fun e w' => e = .returned (.bool false) ∧ ∃ n, w' = w.drewN n)) :
    Calls Try.prog 4 #[.bool false, .string a1, .string a2, .bool a3, .string a4, .bool a5, .string a6, .string s] w fun e w' => e = .returned (.bool true) ∧ Below w.heap.size w w' := by
  go_enter Try.func4, Try.ntmps4
  go_wp2_with (go_at_call 10; refine (zz10 _ _ _ _ _ _ _ _ _).mono ?_; rintro e w1 ⟨bo, rfl, hw1⟩; rw [hw1]; cases bo)
  · go_ret
    exact ⟨rfl, Below.refl _ _⟩
  refine (dir_any _ _ _ _ _ _ _ _).mono ?_
  rintro e w1 ⟨d, rfl, hd⟩
  obtain ⟨hd0, ⟨hd1, _⟩ | ⟨_, b0, un, rfl, hd2, _⟩⟩ := hd
  · cases hd1
  have HD : Hid (Below w.heap.size w w1) := hd0
  have HDN : Hid (Node w1 b0 a1 a2 a3 a4 un) := hd2
  clear hd0 hd2
  go_wp2_with fail
  refine (made_of (res_rel b0 a1 a2 a3 a4 un s _ HDN.out HP HP2 HU)).mono ?_
  rintro e w2 ⟨v, rfl, b, rfl, hb, hbel, hn⟩
  have HB : Hid (Below w1.heap.size w1 w2) := hbel
  have HN : Hid (Node w2 b a1 a2 a3 s (some ⟨b0, 0, none⟩)) := hn
  clear hb hbel hn
  go_wp2_with (go_at_call 13; refine (scheme13 s _ (by omega)).mono ?_; rintro e w' ⟨rfl, hw⟩; rw [hw, HS.out])
  refine (parts15 b _ _ _ _ _ _ HN.out).mono ?_
  rintro e w4 ⟨rfl, n4, hw4⟩
  have HW4 : Hid (w4 = w2.drewN n4) := hw4
  clear hw4
  have hne : ∀ w, (binOp .neq 25 (.pointer (some ⟨b0, 0, none⟩)) (.pointer (some ⟨b0, 0, none⟩))).run Try.prog w = .ok (.bool false) w := fun w => by
    obtain ⟨j, hj⟩ := info40_some
    exact Lib.run_neq_ptr_same w _ Try.underlying25 hj
  go_wp2
  go_ret
  refine ⟨rfl, ?_⟩
  rw [HW4.out]
  exact below_drewN (HD.out.trans (HB.out.mono HD.out.size)) _

end Go.Proofs.Qxb6602852a
