import Derived.Test.Qxb6602852aLaw4
namespace Go.Proofs.Qxb6602852a
open Go.RowKit

set_option maxRecDepth 1000000 in
set_option maxHeartbeats 1000000 in
theorem zz16 (a0 : Bool) (a1 a2 : ByteArray) (a3 : Bool) (a4 : ByteArray) (a5 : Bool) (a6 a7 : ByteArray) (w : World) :
    Calls Try.prog 16 #[.bool a0, .string a1, .string a2, .bool a3, .string a4, .bool a5, .string a6, .string a7] w fun e w' => ∃ bo, e = .returned (.bool bo) ∧ w' = w := by
  go_enter Try.func16, Try.ntmps16
  go_wp2
  all_goals go_ret
  all_goals exact ⟨_, rfl, rfl⟩

set_option maxHeartbeats 1000000 in
theorem text18_nil (w : World) : Calls Try.prog 18 #[.pointer none] w fun e w' => e = .returned (.string ⟨#[]⟩) ∧ w' = w := by
  go_enter Try.func18, Try.ntmps18
  go_wp2
  go_ret
  exact ⟨rfl, rfl⟩

theorem zz7 (d : Option Addr) (T : ByteArray) (w : World) (Q : World → Prop) (H : Hid (Calls Try.prog 18 #[.pointer d] w fun e w' => e = .returned (.string T) ∧ Q w')) :
    Calls Try.prog 7 #[.pointer d] w fun e w' => e = .returned (.string T) ∧ Q w' := by
  go_enter Try.func7, Try.ntmps7
  go_wp2_with fail
  refine H.out.mono ?_
  rintro e w' ⟨rfl, hq⟩
  have HQ : Hid (Q w') := hq
  clear hq
  go_wp2
  go_ret
  exact ⟨rfl, HQ.out⟩

set_option maxHeartbeats 1000000 in
theorem join_uri (a0 a3 : Bool) (sc au dt s : ByteArray) (w : World) (k : Nat) (hk0 : 0 < k) (h7 : s.size ≤ 131072) (HS : Hid (schE s.data.toList = k)) :
    Calls Try.prog 17 #[.bool a0, .string sc, .string au, .bool a3, .string dt, .string s] w fun e w' => e = .returned (.string s) ∧ w' = w := by
  go_enter Try.func17, Try.ntmps17
  go_wp2_with (go_at_call 13; refine (scheme13 s _ (by omega)).mono ?_; rintro e w' ⟨rfl, hw⟩; rw [hw, HS.out])
  go_ret
  exact ⟨rfl, rfl⟩
set_option maxHeartbeats 1000000 in
theorem join_nil (a3 : Bool) (sc au dt s : ByteArray) (w : World) (h7 : s.size ≤ 131072) (HS : Hid (schE s.data.toList = -1)) :
    Calls Try.prog 17 #[.bool true, .string sc, .string au, .bool a3, .string dt, .string s] w fun e w' => e = .returned (.string s) ∧ w' = w := by
  go_enter Try.func17, Try.ntmps17
  go_wp2_with (go_at_call 13; refine (scheme13 s _ (by omega)).mono ?_; rintro e w' ⟨rfl, hw⟩; rw [hw, HS.out])
  go_ret
  exact ⟨rfl, rfl⟩
set_option maxHeartbeats 1000000 in
theorem join_path (a3 : Bool) (sc au dt s : ByteArray) (w : World) (h7 : s.size ≤ 131072) (HS : Hid (schE s.data.toList = -1)) (he : sc.toList.isEmpty = true) (h0 : 0 < s.size) (n0 : (((s[0]'h0).toNat : Int) == 47) = true) :
    Calls Try.prog 17 #[.bool false, .string sc, .string au, .bool a3, .string dt, .string s] w fun e w' => e = .returned (.string s) ∧ w' = w := by
  go_enter Try.func17, Try.ntmps17
  go_wp2_with (go_at_call 13; refine (scheme13 s _ (by omega)).mono ?_; rintro e w' ⟨rfl, hw⟩; rw [hw, HS.out])
  go_ret
  exact ⟨rfl, rfl⟩
set_option maxHeartbeats 1000000 in
theorem join_two (a3 : Bool) (sc au dt s : ByteArray) (w : World) (h1 : sc.size ≤ 131072) (h7 : s.size ≤ 131072) (HS : Hid (schE s.data.toList = -1)) (he : sc.toList.isEmpty = false) (h0 : 0 < s.size) (n0 : (((s[0]'h0).toNat : Int) == 47) = true) (h01 : 1 < s.size) (n1 : (((s[1]'h01).toNat : Int) == 47) = true) :
    Calls Try.prog 17 #[.bool false, .string sc, .string au, .bool a3, .string dt, .string s] w fun e w' => e = .returned (.string (sc ++ ⟨#[58]⟩ ++ s)) ∧ w' = w := by
  go_enter Try.func17, Try.ntmps17
  go_wp2_with (go_at_call 13; refine (scheme13 s _ (by omega)).mono ?_; rintro e w' ⟨rfl, hw⟩; rw [hw, HS.out])
  go_ret
  exact ⟨rfl, rfl⟩
set_option maxHeartbeats 1000000 in
theorem join_one (a3 : Bool) (sc au dt s : ByteArray) (w : World) (h1 : sc.size ≤ 131072) (h2 : au.size ≤ 131072) (h7 : s.size ≤ 131072) (HS : Hid (schE s.data.toList = -1)) (he : sc.toList.isEmpty = false) (h0 : 0 < s.size) (n0 : (((s[0]'h0).toNat : Int) == 47) = true) (hz : s.size < 2 ∨ ∃ h01 : 1 < s.size, (((s[1]'h01).toNat : Int) == 47) = false) :
    Calls Try.prog 17 #[.bool false, .string sc, .string au, .bool a3, .string dt, .string s] w fun e w' => e = .returned (.string (if a3 then sc ++ ⟨#[58, 47, 47]⟩ ++ au ++ s else sc ++ ⟨#[58]⟩ ++ s)) ∧ w' = w := by
  rcases hz with hz | ⟨h01, hz⟩ <;> cases a3
  all_goals
    go_enter Try.func17, Try.ntmps17
    go_wp2_with (go_at_call 13; refine (scheme13 s _ (by omega)).mono ?_; rintro e w' ⟨rfl, hw⟩; rw [hw, HS.out])
    go_ret
    exact ⟨rfl, rfl⟩

/-- the header's length as joinedText counts it -/
def ppL (sc au : ByteArray) (ha : Bool) : Nat := if sc.toList.isEmpty then 0 else if ha then sc.size + 1 + (2 + au.size) else sc.size + 1

set_option maxHeartbeats 4000000 in
theorem join_rel (a3 : Bool) (sc au dt s : ByteArray) (w : World) (h1 : sc.size ≤ 131072) (h2 : au.size ≤ 131072) (hd : dt.size ≤ 16777216) (h7 : s.size ≤ 131072) (HS : Hid (schE s.data.toList = -1))
    (hz : s.size = 0 ∨ ∃ h0 : 0 < s.size, (((s[0]'h0).toNat : Int) == 47) = false) (D : ByteArray)
    (hD : (dt.size ≤ ppL sc au a3 ∧ D = dt) ∨ ∃ (n : Nat) (hn : dt.size = n + 1) (c : UInt8), ppL sc au a3 ≤ n ∧ dt[n]'(by omega) = c ∧ ((((c.toNat : Int) == 47) = false ∧ D = dt) ∨ (((c.toNat : Int) == 47) = true ∧ D = dt.extract 0 n))) :
    Calls Try.prog 17 #[.bool false, .string sc, .string au, .bool a3, .string dt, .string s] w fun e w' => e = .returned (.string (D ++ ⟨#[47]⟩ ++ s)) ∧ w' = w := by
  obtain ⟨z, hz2⟩ : ∃ z, sc.toList.isEmpty = z := ⟨_, rfl⟩
  unfold ppL at hD
  rw [hz2] at hD
  rcases hz with hz | ⟨h0, hz⟩
  · cases z <;> cases a3 <;> simp only [if_true, Bool.false_eq_true, if_false] at hD <;> (rcases hD with ⟨hD, rfl⟩ | ⟨n, hn, c, hpn, hc, ⟨hc2, rfl⟩ | ⟨hc2, rfl⟩⟩)
    all_goals
      go_enter Try.func17, Try.ntmps17
      go_wp2_with (go_at_call 13; refine (scheme13 s _ (by omega)).mono ?_; rintro e w' ⟨rfl, hw⟩; rw [hw, HS.out])
      go_ret
      exact ⟨rfl, rfl⟩
  · cases z <;> cases a3 <;> simp only [if_true, Bool.false_eq_true, if_false] at hD <;> (rcases hD with ⟨hD, rfl⟩ | ⟨n, hn, c, hpn, hc, ⟨hc2, rfl⟩ | ⟨hc2, rfl⟩⟩)
    all_goals
      go_enter Try.func17, Try.ntmps17
      go_wp2_with (go_at_call 13; refine (scheme13 s _ (by omega)).mono ?_; rintro e w' ⟨rfl, hw⟩; rw [hw, HS.out])
      go_ret
      exact ⟨rfl, rfl⟩
end Go.Proofs.Qxb6602852a
