import Derived.Test.Qxb6602852aLaw4
namespace Go.Proofs.Qxb6602852a
open Go.RowKit

set_option maxRecDepth 1000000 in
set_option maxHeartbeats 2000000 in
theorem law_nil0 (a1 a2 : ByteArray) (a3 : Bool) (a4 : ByteArray) (a5 : Bool) (a6 s : ByteArray) (w : World)
    (h1 : a1.size ≤ 131072) (h2 : a2.size ≤ 131072) (h4 : a4.size ≤ 131072) (h6 : a6.size ≤ 131072) (h7 : s.size ≤ 131072) (he : s.toList.isEmpty = true)
    (HS : Hid (schE s.data.toList = -1))
    (HU : Hid (∀ w, Calls Try.prog 23 #[.string s] w fun e w' => e = .returned (.bool false) ∧ ∃ n, w' = w.drewN n)) :
    Calls Try.prog 4 #[.bool true, .string a1, .string a2, .bool a3, .string a4, .bool a5, .string a6, .string s] w fun e w' => e = .returned (.bool true) ∧ Below w.heap.size w w' := by
  go_enter Try.func4, Try.ntmps4
  go_wp2_with (go_at_call 10; refine (zz10 _ _ _ _ _ _ _ _ _).mono ?_; rintro e w1 ⟨bo, rfl, hw1⟩; rw [hw1]; cases bo)
  · go_ret
    exact ⟨rfl, Below.refl _ _⟩
  refine (dir_any _ _ _ _ _ _ _ _).mono ?_
  rintro e w1 ⟨d, rfl, hd⟩
  obtain ⟨hd0, hd1⟩ := hd
  obtain rfl : d = none := by
    rcases hd1 with ⟨_, h⟩ | ⟨h, _⟩
    · exact h
    · cases h
  clear hd1
  have HD : Hid (Below w.heap.size w w1) := hd0
  clear hd0
  go_wp2_with fail
  refine (zz12 none s _ (fun v w' => v = none ∧ Below w1.heap.size w1 w') ((res_nil0 s _ he HU).mono fun _ _ ⟨h1, h2⟩ => ⟨none, h1, rfl, h2⟩)).mono ?_
  rintro e w2 ⟨v, rfl, rfl, hbel⟩
  have HB : Hid (Below w1.heap.size w1 w2) := hbel
  clear hbel
  go_wp2_with (go_at_call 13; refine (scheme13 s _ (by omega)).mono ?_; rintro e w' ⟨rfl, hw⟩; rw [hw, HS.out])
  go_ret
  exact ⟨rfl, HD.out.trans (HB.out.mono HD.out.size)⟩
set_option maxRecDepth 1000000 in
set_option maxHeartbeats 2000000 in
theorem law_nil1 (a1 a2 : ByteArray) (a3 : Bool) (a4 : ByteArray) (a5 : Bool) (a6 s : ByteArray) (w : World)
    (h1 : a1.size ≤ 131072) (h2 : a2.size ≤ 131072) (h4 : a4.size ≤ 131072) (h6 : a6.size ≤ 131072) (h7 : s.size ≤ 131072) (he : s.toList.isEmpty = false)
    (HS : Hid (schE s.data.toList = -1))
    (HU : Hid (∀ w, Calls Try.prog 23 #[.string s] w fun e w' => e = .returned (.bool false) ∧ ∃ n, w' = w.drewN n)) :
    Calls Try.prog 4 #[.bool true, .string a1, .string a2, .bool a3, .string a4, .bool a5, .string a6, .string s] w fun e w' => e = .returned (.bool true) ∧ Below w.heap.size w w' := by
  go_enter Try.func4, Try.ntmps4
  go_wp2_with (go_at_call 10; refine (zz10 _ _ _ _ _ _ _ _ _).mono ?_; rintro e w1 ⟨bo, rfl, hw1⟩; rw [hw1]; cases bo)
  · go_ret
    exact ⟨rfl, Below.refl _ _⟩
  refine (dir_any _ _ _ _ _ _ _ _).mono ?_
  rintro e w1 ⟨d, rfl, hd⟩
  obtain ⟨hd0, hd1⟩ := hd
  obtain rfl : d = none := by
    rcases hd1 with ⟨_, h⟩ | ⟨h, _⟩
    · exact h
    · cases h
  clear hd1
  have HD : Hid (Below w.heap.size w w1) := hd0
  clear hd0
  go_wp2_with fail
  refine (made_of (res_nil1 s _ he HU)).mono ?_
  rintro e w2 ⟨v, rfl, b, rfl, hb, hbel, hn⟩
  have HB : Hid (Below w1.heap.size w1 w2) := hbel
  have HN : Hid (Node w2 b ⟨#[]⟩ ⟨#[]⟩ false s none) := hn
  clear hb hbel hn
  go_wp2_with (go_at_call 13; refine (scheme13 s _ (by omega)).mono ?_; rintro e w' ⟨rfl, hw⟩; rw [hw, HS.out])
  refine (parts15 b _ _ _ _ _ _ HN.out).mono ?_
  rintro e w4 ⟨rfl, n4, hw4⟩
  have HW4 : Hid (w4 = w2.drewN n4) := hw4
  clear hw4
  go_wp2
  go_ret
  refine ⟨rfl, ?_⟩
  rw [HW4.out]
  exact below_drewN (HD.out.trans (HB.out.mono HD.out.size)) _
set_option maxRecDepth 1000000 in
set_option maxHeartbeats 2000000 in
theorem law_path (a1 a2 : ByteArray) (a3 : Bool) (a4 : ByteArray) (a5 : Bool) (a6 s : ByteArray) (w : World)
    (h1 : a1.size ≤ 131072) (h2 : a2.size ≤ 131072) (h4 : a4.size ≤ 131072) (h6 : a6.size ≤ 131072) (h7 : s.size ≤ 131072) (he : a1.toList.isEmpty = true) (h0 : 0 < s.size) (n0 : (((s[0]'h0).toNat : Int) == 47) = true) (HP : Hid (Lib.hasPrefix s.data.toList [47] = true))
    (HS : Hid (schE s.data.toList = -1))
    (HU : Hid (∀ w, Calls Try.prog 23 #[.string s] w fun e w' => e = .returned (.bool false) ∧ ∃ n, w' = w.drewN n)) :
    Calls Try.prog 4 #[.bool false, .string a1, .string a2, .bool a3, .string a4, .bool a5, .string a6, .string s] w fun e w' => e = .returned (.bool true) ∧ Below w.heap.size w w' := by
  go_enter Try.func4, Try.ntmps4
  go_wp2_with (go_at_call 10; refine (zz10 _ _ _ _ _ _ _ _ _).mono ?_; rintro e w1 ⟨bo, rfl, hw1⟩; rw [hw1]; cases bo)
  · go_ret
    exact ⟨rfl, Below.refl _ _⟩
  refine (dir_any _ _ _ _ _ _ _ _).mono ?_
  rintro e w1 ⟨d, rfl, hd⟩
  obtain ⟨hd0, ⟨hd1, _⟩ | ⟨_, b0, un, rfl, hd2, _⟩⟩ := hd
  · cases hd1
  have HD : Hid (Below w.heap.size w w1) := hd0
  have HDN : Hid (Node w1 b0 a1 a2 a3 a4 un) := hd2
  clear hd0 hd2
  go_wp2_with fail
  refine (made_of (res_path b0 a1 a2 a3 a4 un s _ HDN.out he HP HU)).mono ?_
  rintro e w2 ⟨v, rfl, b, rfl, hb, hbel, hn⟩
  have HB : Hid (Below w1.heap.size w1 w2) := hbel
  have HN : Hid (Node w2 b ⟨#[]⟩ ⟨#[]⟩ false s none) := hn
  clear hb hbel hn
  go_wp2_with (go_at_call 13; refine (scheme13 s _ (by omega)).mono ?_; rintro e w' ⟨rfl, hw⟩; rw [hw, HS.out])
  refine (parts15 b _ _ _ _ _ _ HN.out).mono ?_
  rintro e w4 ⟨rfl, n4, hw4⟩
  have HW4 : Hid (w4 = w2.drewN n4) := hw4
  clear hw4
  go_wp2
  go_ret
  refine ⟨rfl, ?_⟩
  rw [HW4.out]
  exact below_drewN (HD.out.trans (HB.out.mono HD.out.size)) _
set_option maxRecDepth 1000000 in
set_option maxHeartbeats 2000000 in
theorem law_two (a1 a2 : ByteArray) (a3 : Bool) (a4 : ByteArray) (a5 : Bool) (a6 s : ByteArray) (w : World)
    (h1 : a1.size ≤ 131072) (h2 : a2.size ≤ 131072) (h4 : a4.size ≤ 131072) (h6 : a6.size ≤ 131072) (h7 : s.size ≤ 131072) (he : a1.toList.isEmpty = false) (h0 : 0 < s.size) (n0 : (((s[0]'h0).toNat : Int) == 47) = true) (h01 : 1 < s.size) (n1 : (((s[1]'h01).toNat : Int) == 47) = true) (HP : Hid (Lib.hasPrefix s.data.toList [47, 47] = true))
    (HS : Hid (schE s.data.toList = -1))
    (HU : Hid (∀ w, Calls Try.prog 23 #[.string s] w fun e w' => e = .returned (.bool false) ∧ ∃ n, w' = w.drewN n)) :
    Calls Try.prog 4 #[.bool false, .string a1, .string a2, .bool a3, .string a4, .bool a5, .string a6, .string s] w fun e w' => e = .returned (.bool true) ∧ Below w.heap.size w w' := by
  go_enter Try.func4, Try.ntmps4
  go_wp2_with (go_at_call 10; refine (zz10 _ _ _ _ _ _ _ _ _).mono ?_; rintro e w1 ⟨bo, rfl, hw1⟩; rw [hw1]; cases bo)
  · go_ret
    exact ⟨rfl, Below.refl _ _⟩
  refine (dir_any _ _ _ _ _ _ _ _).mono ?_
  rintro e w1 ⟨d, rfl, hd⟩
  obtain ⟨hd0, ⟨hd1, _⟩ | ⟨_, b0, un, rfl, hd2, _⟩⟩ := hd
  · cases hd1
  have HD : Hid (Below w.heap.size w w1) := hd0
  have HDN : Hid (Node w1 b0 a1 a2 a3 a4 un) := hd2
  clear hd0 hd2
  go_wp2_with fail
  refine (made_of (res_two b0 a1 a2 a3 a4 un s _ HDN.out he (by omega) HP HU)).mono ?_
  rintro e w2 ⟨v, rfl, b, rfl, hb, hbel, hn⟩
  have HB : Hid (Below w1.heap.size w1 w2) := hbel
  have HN : Hid (Node w2 b a1 (hAuth s) (hierB s) (hPath s) none) := hn
  clear hb hbel hn
  go_wp2_with (go_at_call 13; refine (scheme13 s _ (by omega)).mono ?_; rintro e w' ⟨rfl, hw⟩; rw [hw, HS.out])
  refine (split14 s _ (by omega)).mono ?_
  rintro e w3 ⟨rfl, n3, hw3⟩
  have HW3 : Hid (w3 = w2.drewN n3) := hw3
  have HN3 : Hid (Node w3 b a1 (hAuth s) (hierB s) (hPath s) none) := by
    show Node ..; rw [hw3]; exact HN.out.drewN n3
  clear hw3
  go_wp2_with fail
  refine (parts15 b _ _ _ _ _ _ HN3.out).mono ?_
  rintro e w4 ⟨rfl, n4, hw4⟩
  have HW4 : Hid (w4 = w3.drewN n4) := hw4
  clear hw4
  go_wp2
  go_ret
  refine ⟨rfl, ?_⟩
  rw [HW4.out, HW3.out]
  exact below_drewN (below_drewN (HD.out.trans (HB.out.mono HD.out.size)) _) _
set_option maxRecDepth 1000000 in
set_option maxHeartbeats 2000000 in
theorem law_one_a (a1 a2 : ByteArray) (a3 : Bool) (a4 : ByteArray) (a5 : Bool) (a6 s : ByteArray) (w : World)
    (h1 : a1.size ≤ 131072) (h2 : a2.size ≤ 131072) (h4 : a4.size ≤ 131072) (h6 : a6.size ≤ 131072) (h7 : s.size ≤ 131072) (he : a1.toList.isEmpty = false) (h0 : 0 < s.size) (n0 : (((s[0]'h0).toNat : Int) == 47) = true) (HP : Hid (Lib.hasPrefix s.data.toList [47] = true)) (HP2 : Hid (Lib.hasPrefix s.data.toList [47, 47] = false)) (hz : s.size < 2)
    (HS : Hid (schE s.data.toList = -1))
    (HU : Hid (∀ w, Calls Try.prog 23 #[.string s] w fun e w' => e = .returned (.bool false) ∧ ∃ n, w' = w.drewN n)) :
    Calls Try.prog 4 #[.bool false, .string a1, .string a2, .bool a3, .string a4, .bool a5, .string a6, .string s] w fun e w' => e = .returned (.bool true) ∧ Below w.heap.size w w' := by
  go_enter Try.func4, Try.ntmps4
  go_wp2_with (go_at_call 10; refine (zz10 _ _ _ _ _ _ _ _ _).mono ?_; rintro e w1 ⟨bo, rfl, hw1⟩; rw [hw1]; cases bo)
  · go_ret
    exact ⟨rfl, Below.refl _ _⟩
  refine (dir_any _ _ _ _ _ _ _ _).mono ?_
  rintro e w1 ⟨d, rfl, hd⟩
  obtain ⟨hd0, ⟨hd1, _⟩ | ⟨_, b0, un, rfl, hd2, _⟩⟩ := hd
  · cases hd1
  have HD : Hid (Below w.heap.size w w1) := hd0
  have HDN : Hid (Node w1 b0 a1 a2 a3 a4 un) := hd2
  clear hd0 hd2
  go_wp2_with fail
  refine (made_of (res_one b0 a1 a2 a3 a4 un s _ HDN.out he HP HP2 HU)).mono ?_
  rintro e w2 ⟨v, rfl, b, rfl, hb, hbel, hn⟩
  have HB : Hid (Below w1.heap.size w1 w2) := hbel
  have HN : Hid (Node w2 b a1 a2 a3 s none) := hn
  clear hb hbel hn
  go_wp2_with (go_at_call 13; refine (scheme13 s _ (by omega)).mono ?_; rintro e w' ⟨rfl, hw⟩; rw [hw, HS.out])
  refine (parts15 b _ _ _ _ _ _ HN.out).mono ?_
  rintro e w4 ⟨rfl, n4, hw4⟩
  have HW4 : Hid (w4 = w2.drewN n4) := hw4
  clear hw4
  go_wp2
  go_ret
  refine ⟨rfl, ?_⟩
  rw [HW4.out]
  exact below_drewN (HD.out.trans (HB.out.mono HD.out.size)) _
set_option maxRecDepth 1000000 in
set_option maxHeartbeats 2000000 in
theorem law_one_b (a1 a2 : ByteArray) (a3 : Bool) (a4 : ByteArray) (a5 : Bool) (a6 s : ByteArray) (w : World)
    (h1 : a1.size ≤ 131072) (h2 : a2.size ≤ 131072) (h4 : a4.size ≤ 131072) (h6 : a6.size ≤ 131072) (h7 : s.size ≤ 131072) (he : a1.toList.isEmpty = false) (h0 : 0 < s.size) (n0 : (((s[0]'h0).toNat : Int) == 47) = true) (HP : Hid (Lib.hasPrefix s.data.toList [47] = true)) (HP2 : Hid (Lib.hasPrefix s.data.toList [47, 47] = false)) (h01 : 1 < s.size) (n1 : (((s[1]'h01).toNat : Int) == 47) = false)
    (HS : Hid (schE s.data.toList = -1))
    (HU : Hid (∀ w, Calls Try.prog 23 #[.string s] w fun e w' => e = .returned (.bool false) ∧ ∃ n, w' = w.drewN n)) :
    Calls Try.prog 4 #[.bool false, .string a1, .string a2, .bool a3, .string a4, .bool a5, .string a6, .string s] w fun e w' => e = .returned (.bool true) ∧ Below w.heap.size w w' := by
  go_enter Try.func4, Try.ntmps4
  go_wp2_with (go_at_call 10; refine (zz10 _ _ _ _ _ _ _ _ _).mono ?_; rintro e w1 ⟨bo, rfl, hw1⟩; rw [hw1]; cases bo)
  · go_ret
    exact ⟨rfl, Below.refl _ _⟩
  refine (dir_any _ _ _ _ _ _ _ _).mono ?_
  rintro e w1 ⟨d, rfl, hd⟩
  obtain ⟨hd0, ⟨hd1, _⟩ | ⟨_, b0, un, rfl, hd2, _⟩⟩ := hd
  · cases hd1
  have HD : Hid (Below w.heap.size w w1) := hd0
  have HDN : Hid (Node w1 b0 a1 a2 a3 a4 un) := hd2
  clear hd0 hd2
  go_wp2_with fail
  refine (made_of (res_one b0 a1 a2 a3 a4 un s _ HDN.out he HP HP2 HU)).mono ?_
  rintro e w2 ⟨v, rfl, b, rfl, hb, hbel, hn⟩
  have HB : Hid (Below w1.heap.size w1 w2) := hbel
  have HN : Hid (Node w2 b a1 a2 a3 s none) := hn
  clear hb hbel hn
  go_wp2_with (go_at_call 13; refine (scheme13 s _ (by omega)).mono ?_; rintro e w' ⟨rfl, hw⟩; rw [hw, HS.out])
  refine (parts15 b _ _ _ _ _ _ HN.out).mono ?_
  rintro e w4 ⟨rfl, n4, hw4⟩
  have HW4 : Hid (w4 = w2.drewN n4) := hw4
  clear hw4
  go_wp2
  go_ret
  refine ⟨rfl, ?_⟩
  rw [HW4.out]
  exact below_drewN (HD.out.trans (HB.out.mono HD.out.size)) _
end Go.Proofs.Qxb6602852a
