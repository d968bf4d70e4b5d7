import Derived.Test.Qxb6602852aCut
import Derived.Test.Qxb6602852aPlain
import Derived.Deep.LoopGhost
namespace Go.Proofs.Qxb6602852a
open Go.RowKit

theorem Hid.mk' {p : Prop} (h : p) : Hid p := h
theorem data_at (s : ByteArray) (k : Nat) (h : k < s.size) : s.data.toList[k]? = some (s[k]'h) := Lib.data_getElem? s k h
theorem mk_eq {s : ByteArray} {l : List UInt8} (h : s.data.toList = l) : s = ⟨l.toArray⟩ := by
  obtain ⟨d⟩ := s
  rw [← h]
theorem b_t {x : UInt8} (n : UInt8) (h : x = n) : ((x.toNat : Int) == (n.toNat : Int)) = true := by rw [h]; exact beq_self_eq_true _
theorem b_f {x : UInt8} (n : UInt8) (h : x ≠ n) : ((x.toNat : Int) == (n.toNat : Int)) = false := beq_eq_false_iff_ne.2 fun e => h (UInt8.toNat_inj.1 (by omega))
theorem bn_f {x : UInt8} (n : UInt8) (h : x = n) : ((x.toNat : Int) != (n.toNat : Int)) = false := by rw [bne, b_t n h]; rfl
theorem bn_t {x : UInt8} (n : UInt8) (h : x ≠ n) : ((x.toNat : Int) != (n.toNat : Int)) = true := by rw [bne, b_f n h]; rfl

/-- where a byte lies -/
theorem ranges (x : UInt8) : (97 ≤ x.toNat ∧ x.toNat ≤ 122) ∨ (122 < x.toNat) ∨ (91 ≤ x.toNat ∧ x.toNat ≤ 96) ∨ (65 ≤ x.toNat ∧ x.toNat ≤ 90) ∨ (58 ≤ x.toNat ∧ x.toNat ≤ 64) ∨ (48 ≤ x.toNat ∧ x.toNat ≤ 57) ∨ (x.toNat = 47) ∨ (x.toNat = 46) ∨ (x.toNat = 45) ∨ (x.toNat = 44) ∨ (x.toNat = 43) ∨ (x.toNat < 43) := by omega
theorem let_t {x : UInt8} (h : (97 ≤ x.toNat ∧ x.toNat ≤ 122) ∨ (65 ≤ x.toNat ∧ x.toNat ≤ 90)) : isLet x = true := decide_eq_true h
theorem let_f {x : UInt8} (h : ¬ ((97 ≤ x.toNat ∧ x.toNat ≤ 122) ∨ (65 ≤ x.toNat ∧ x.toNat ≤ 90))) : isLet x = false := decide_eq_false h
theorem dig_t {x : UInt8} (h : 48 ≤ x.toNat ∧ x.toNat ≤ 57) : isDig x = true := decide_eq_true h
theorem dig_f {x : UInt8} (h : ¬ (48 ≤ x.toNat ∧ x.toNat ≤ 57)) : isDig x = false := decide_eq_false h
theorem mark_t {x : UInt8} (h : x.toNat = 43 ∨ x.toNat = 45 ∨ x.toNat = 46) : isMark x = true := by
  have e : ∀ n : UInt8, x.toNat = n.toNat → x = n := fun n h => UInt8.toNat_inj.1 h
  rcases h with h | h | h
  · rw [e 43 h]; rfl
  · rw [e 45 h]; rfl
  · rw [e 46 h]; rfl
theorem okAt_let {x : UInt8} (i : Nat) (h : isLet x = true) : okAt i x = true := by simp [okAt, h]
theorem okAt_dig {x : UInt8} {i : Nat} (hi : 0 < i) (h : isDig x = true) : okAt i x = true := by simp [okAt, hi, h]
theorem okAt_mark {x : UInt8} {i : Nat} (hi : 0 < i) (h : isMark x = true) : okAt i x = true := by simp [okAt, hi, h]
theorem okAt_f0 {x : UInt8} {i : Nat} (hi : i = 0) (h : isLet x = false) : okAt i x = false := by simp [okAt, hi, h]
theorem okAt_f {x : UInt8} (i : Nat) (h1 : isLet x = false) (h2 : isDig x = false) (h3 : isMark x = false) : okAt i x = false := by simp [okAt, h1, h2, h3]
theorem mark_f {x : UInt8} (h : ¬ (x.toNat = 43 ∨ x.toNat = 45 ∨ x.toNat = 46)) : isMark x = false := by
  have h1 : x ≠ 43 := fun e => h (by rw [e]; decide)
  have h2 : x ≠ 45 := fun e => h (by rw [e]; decide)
  have h3 : x ≠ 46 := fun e => h (by rw [e]; decide)
  simp [isMark, h1, h2, h3]

set_option maxHeartbeats 1000000 in
theorem letter20 (x : UInt8) (w : World) :
    Calls Try.prog 20 #[.int .u8 x.toNat] w fun e w' => e = .returned (.bool (isLet x)) ∧ w' = w := by
  rcases ranges x with h | h | h | h | h | h | h | h | h | h | h | h
  · rw [let_t (by omega)]
    have d97 : decide ((97 : Int) ≤ (x.toNat : Int)) = true := decide_eq_true (by omega)
    have d122 : decide ((x.toNat : Int) ≤ 122) = true := decide_eq_true (by omega)
    have d65 : decide ((65 : Int) ≤ (x.toNat : Int)) = true := decide_eq_true (by omega)
    have d90 : decide ((x.toNat : Int) ≤ 90) = false := decide_eq_false (by omega)
    clear h
    go_enter Try.func20, Try.ntmps20
    go_wp2
    go_ret
    exact ⟨rfl, rfl⟩
  · rw [let_f (by omega)]
    have d97 : decide ((97 : Int) ≤ (x.toNat : Int)) = true := decide_eq_true (by omega)
    have d122 : decide ((x.toNat : Int) ≤ 122) = false := decide_eq_false (by omega)
    have d65 : decide ((65 : Int) ≤ (x.toNat : Int)) = true := decide_eq_true (by omega)
    have d90 : decide ((x.toNat : Int) ≤ 90) = false := decide_eq_false (by omega)
    clear h
    go_enter Try.func20, Try.ntmps20
    go_wp2
    go_ret
    exact ⟨rfl, rfl⟩
  · rw [let_f (by omega)]
    have d97 : decide ((97 : Int) ≤ (x.toNat : Int)) = false := decide_eq_false (by omega)
    have d122 : decide ((x.toNat : Int) ≤ 122) = true := decide_eq_true (by omega)
    have d65 : decide ((65 : Int) ≤ (x.toNat : Int)) = true := decide_eq_true (by omega)
    have d90 : decide ((x.toNat : Int) ≤ 90) = false := decide_eq_false (by omega)
    clear h
    go_enter Try.func20, Try.ntmps20
    go_wp2
    go_ret
    exact ⟨rfl, rfl⟩
  · rw [let_t (by omega)]
    have d97 : decide ((97 : Int) ≤ (x.toNat : Int)) = false := decide_eq_false (by omega)
    have d122 : decide ((x.toNat : Int) ≤ 122) = true := decide_eq_true (by omega)
    have d65 : decide ((65 : Int) ≤ (x.toNat : Int)) = true := decide_eq_true (by omega)
    have d90 : decide ((x.toNat : Int) ≤ 90) = true := decide_eq_true (by omega)
    clear h
    go_enter Try.func20, Try.ntmps20
    go_wp2
    go_ret
    exact ⟨rfl, rfl⟩
  · rw [let_f (by omega)]
    have d97 : decide ((97 : Int) ≤ (x.toNat : Int)) = false := decide_eq_false (by omega)
    have d122 : decide ((x.toNat : Int) ≤ 122) = true := decide_eq_true (by omega)
    have d65 : decide ((65 : Int) ≤ (x.toNat : Int)) = false := decide_eq_false (by omega)
    have d90 : decide ((x.toNat : Int) ≤ 90) = true := decide_eq_true (by omega)
    clear h
    go_enter Try.func20, Try.ntmps20
    go_wp2
    go_ret
    exact ⟨rfl, rfl⟩
  · rw [let_f (by omega)]
    have d97 : decide ((97 : Int) ≤ (x.toNat : Int)) = false := decide_eq_false (by omega)
    have d122 : decide ((x.toNat : Int) ≤ 122) = true := decide_eq_true (by omega)
    have d65 : decide ((65 : Int) ≤ (x.toNat : Int)) = false := decide_eq_false (by omega)
    have d90 : decide ((x.toNat : Int) ≤ 90) = true := decide_eq_true (by omega)
    clear h
    go_enter Try.func20, Try.ntmps20
    go_wp2
    go_ret
    exact ⟨rfl, rfl⟩
  · rw [let_f (by omega)]
    have d97 : decide ((97 : Int) ≤ (x.toNat : Int)) = false := decide_eq_false (by omega)
    have d122 : decide ((x.toNat : Int) ≤ 122) = true := decide_eq_true (by omega)
    have d65 : decide ((65 : Int) ≤ (x.toNat : Int)) = false := decide_eq_false (by omega)
    have d90 : decide ((x.toNat : Int) ≤ 90) = true := decide_eq_true (by omega)
    clear h
    go_enter Try.func20, Try.ntmps20
    go_wp2
    go_ret
    exact ⟨rfl, rfl⟩
  · rw [let_f (by omega)]
    have d97 : decide ((97 : Int) ≤ (x.toNat : Int)) = false := decide_eq_false (by omega)
    have d122 : decide ((x.toNat : Int) ≤ 122) = true := decide_eq_true (by omega)
    have d65 : decide ((65 : Int) ≤ (x.toNat : Int)) = false := decide_eq_false (by omega)
    have d90 : decide ((x.toNat : Int) ≤ 90) = true := decide_eq_true (by omega)
    clear h
    go_enter Try.func20, Try.ntmps20
    go_wp2
    go_ret
    exact ⟨rfl, rfl⟩
  · rw [let_f (by omega)]
    have d97 : decide ((97 : Int) ≤ (x.toNat : Int)) = false := decide_eq_false (by omega)
    have d122 : decide ((x.toNat : Int) ≤ 122) = true := decide_eq_true (by omega)
    have d65 : decide ((65 : Int) ≤ (x.toNat : Int)) = false := decide_eq_false (by omega)
    have d90 : decide ((x.toNat : Int) ≤ 90) = true := decide_eq_true (by omega)
    clear h
    go_enter Try.func20, Try.ntmps20
    go_wp2
    go_ret
    exact ⟨rfl, rfl⟩
  · rw [let_f (by omega)]
    have d97 : decide ((97 : Int) ≤ (x.toNat : Int)) = false := decide_eq_false (by omega)
    have d122 : decide ((x.toNat : Int) ≤ 122) = true := decide_eq_true (by omega)
    have d65 : decide ((65 : Int) ≤ (x.toNat : Int)) = false := decide_eq_false (by omega)
    have d90 : decide ((x.toNat : Int) ≤ 90) = true := decide_eq_true (by omega)
    clear h
    go_enter Try.func20, Try.ntmps20
    go_wp2
    go_ret
    exact ⟨rfl, rfl⟩
  · rw [let_f (by omega)]
    have d97 : decide ((97 : Int) ≤ (x.toNat : Int)) = false := decide_eq_false (by omega)
    have d122 : decide ((x.toNat : Int) ≤ 122) = true := decide_eq_true (by omega)
    have d65 : decide ((65 : Int) ≤ (x.toNat : Int)) = false := decide_eq_false (by omega)
    have d90 : decide ((x.toNat : Int) ≤ 90) = true := decide_eq_true (by omega)
    clear h
    go_enter Try.func20, Try.ntmps20
    go_wp2
    go_ret
    exact ⟨rfl, rfl⟩
  · rw [let_f (by omega)]
    have d97 : decide ((97 : Int) ≤ (x.toNat : Int)) = false := decide_eq_false (by omega)
    have d122 : decide ((x.toNat : Int) ≤ 122) = true := decide_eq_true (by omega)
    have d65 : decide ((65 : Int) ≤ (x.toNat : Int)) = false := decide_eq_false (by omega)
    have d90 : decide ((x.toNat : Int) ≤ 90) = true := decide_eq_true (by omega)
    clear h
    go_enter Try.func20, Try.ntmps20
    go_wp2
    go_ret
    exact ⟨rfl, rfl⟩
set_option maxHeartbeats 1000000 in
theorem digit21 (x : UInt8) (w : World) :
    Calls Try.prog 21 #[.int .u8 x.toNat] w fun e w' => e = .returned (.bool (isDig x)) ∧ w' = w := by
  rcases ranges x with h | h | h | h | h | h | h | h | h | h | h | h
  · rw [dig_f (by omega)]
    have d48 : decide ((48 : Int) ≤ (x.toNat : Int)) = true := decide_eq_true (by omega)
    have d57 : decide ((x.toNat : Int) ≤ 57) = false := decide_eq_false (by omega)
    clear h
    go_enter Try.func21, Try.ntmps21
    go_wp2
    go_ret
    exact ⟨rfl, rfl⟩
  · rw [dig_f (by omega)]
    have d48 : decide ((48 : Int) ≤ (x.toNat : Int)) = true := decide_eq_true (by omega)
    have d57 : decide ((x.toNat : Int) ≤ 57) = false := decide_eq_false (by omega)
    clear h
    go_enter Try.func21, Try.ntmps21
    go_wp2
    go_ret
    exact ⟨rfl, rfl⟩
  · rw [dig_f (by omega)]
    have d48 : decide ((48 : Int) ≤ (x.toNat : Int)) = true := decide_eq_true (by omega)
    have d57 : decide ((x.toNat : Int) ≤ 57) = false := decide_eq_false (by omega)
    clear h
    go_enter Try.func21, Try.ntmps21
    go_wp2
    go_ret
    exact ⟨rfl, rfl⟩
  · rw [dig_f (by omega)]
    have d48 : decide ((48 : Int) ≤ (x.toNat : Int)) = true := decide_eq_true (by omega)
    have d57 : decide ((x.toNat : Int) ≤ 57) = false := decide_eq_false (by omega)
    clear h
    go_enter Try.func21, Try.ntmps21
    go_wp2
    go_ret
    exact ⟨rfl, rfl⟩
  · rw [dig_f (by omega)]
    have d48 : decide ((48 : Int) ≤ (x.toNat : Int)) = true := decide_eq_true (by omega)
    have d57 : decide ((x.toNat : Int) ≤ 57) = false := decide_eq_false (by omega)
    clear h
    go_enter Try.func21, Try.ntmps21
    go_wp2
    go_ret
    exact ⟨rfl, rfl⟩
  · rw [dig_t (by omega)]
    have d48 : decide ((48 : Int) ≤ (x.toNat : Int)) = true := decide_eq_true (by omega)
    have d57 : decide ((x.toNat : Int) ≤ 57) = true := decide_eq_true (by omega)
    clear h
    go_enter Try.func21, Try.ntmps21
    go_wp2
    go_ret
    exact ⟨rfl, rfl⟩
  · rw [dig_f (by omega)]
    have d48 : decide ((48 : Int) ≤ (x.toNat : Int)) = false := decide_eq_false (by omega)
    have d57 : decide ((x.toNat : Int) ≤ 57) = true := decide_eq_true (by omega)
    clear h
    go_enter Try.func21, Try.ntmps21
    go_wp2
    go_ret
    exact ⟨rfl, rfl⟩
  · rw [dig_f (by omega)]
    have d48 : decide ((48 : Int) ≤ (x.toNat : Int)) = false := decide_eq_false (by omega)
    have d57 : decide ((x.toNat : Int) ≤ 57) = true := decide_eq_true (by omega)
    clear h
    go_enter Try.func21, Try.ntmps21
    go_wp2
    go_ret
    exact ⟨rfl, rfl⟩
  · rw [dig_f (by omega)]
    have d48 : decide ((48 : Int) ≤ (x.toNat : Int)) = false := decide_eq_false (by omega)
    have d57 : decide ((x.toNat : Int) ≤ 57) = true := decide_eq_true (by omega)
    clear h
    go_enter Try.func21, Try.ntmps21
    go_wp2
    go_ret
    exact ⟨rfl, rfl⟩
  · rw [dig_f (by omega)]
    have d48 : decide ((48 : Int) ≤ (x.toNat : Int)) = false := decide_eq_false (by omega)
    have d57 : decide ((x.toNat : Int) ≤ 57) = true := decide_eq_true (by omega)
    clear h
    go_enter Try.func21, Try.ntmps21
    go_wp2
    go_ret
    exact ⟨rfl, rfl⟩
  · rw [dig_f (by omega)]
    have d48 : decide ((48 : Int) ≤ (x.toNat : Int)) = false := decide_eq_false (by omega)
    have d57 : decide ((x.toNat : Int) ≤ 57) = true := decide_eq_true (by omega)
    clear h
    go_enter Try.func21, Try.ntmps21
    go_wp2
    go_ret
    exact ⟨rfl, rfl⟩
  · rw [dig_f (by omega)]
    have d48 : decide ((48 : Int) ≤ (x.toNat : Int)) = false := decide_eq_false (by omega)
    have d57 : decide ((x.toNat : Int) ≤ 57) = true := decide_eq_true (by omega)
    clear h
    go_enter Try.func21, Try.ntmps21
    go_wp2
    go_ret
    exact ⟨rfl, rfl⟩

set_option maxHeartbeats 1000000 in
theorem scheme13 (s : ByteArray) (w : World) (hs : s.size ≤ 1048576) :
    Calls Try.prog 13 #[.string s] w fun e w' => e = .returned (.int .i64 (schE s.data.toList)) ∧ w' = w := by
  go_enter Try.func13, Try.ntmps13
  go_wp2
  go_loop [3] (fun v => ∃ k : Nat, k ≤ s.size ∧ v = .int .i64 k ∧ St s.data.toList k) (fun v => s.size - (intOf v).toNat)
  case atStart => exact ⟨0, Nat.zero_le _, rfl, St.zero _⟩
  case round =>
    obtain ⟨k, hk, rfl, hst⟩ := hrel
    have HS : Hid (St s.data.toList k) := hst
    clear hst
    by_cases hlt : k < s.size
    · obtain ⟨x, hx⟩ : ∃ x : UInt8, s[k]'hlt = x := ⟨_, rfl⟩
      have hxl : Hid (s.data.toList[k]? = some x) := by show _ = _; rw [← hx]; exact data_at s k hlt
      by_cases h58 : x = 58
      · have e58 : ((x.toNat : Int) == 58) = true := b_t 58 h58
        have HC : Hid (schE s.data.toList = if k = 0 then -1 else (k : Int)) := HS.out.colon (by rw [hxl.out, h58])
        clear h58
        cases h0 : ((k : Int) == 0) with
        | true =>
          have hk0 : Hid (k = 0) := by show _ = _; have : (k : Int) = 0 := by simpa using h0
                                       omega
          go_wp2
          go_ret
          rw [HC.out, if_pos hk0.out]
          exact ⟨rfl, rfl⟩
        | false =>
          have hk0 : Hid (¬ k = 0) := by show ¬ _; intro e; subst e; simp at h0
          go_wp2
          go_ret
          rw [HC.out, if_neg hk0.out]
          exact ⟨rfl, rfl⟩
      · have e58 : ((x.toNat : Int) == 58) = false := b_f 58 h58
        cases hL : isLet x with
        | true =>
          have HN : Hid (St s.data.toList (k + 1)) := HS.out.ok hxl.out h58 (by simp [okAt, hL])
          clear h58
          go_wp2_with (go_at_call 20; refine (letter20 _ _).mono ?_; rintro e w' ⟨rfl, hw⟩; rw [hw, hL])
          go_round
          case rel => exact ⟨k + 1, by omega, by go_num, HN.out⟩
          case measure => simp [intOf]; omega
        | false =>
          by_cases hk0 : 0 < k
          · cases hD : isDig x with
            | true =>
              have HN : Hid (St s.data.toList (k + 1)) := HS.out.ok hxl.out h58 (by simp [okAt, hD, hk0])
              clear h58
              go_wp2_with (first | (go_at_call 20; refine (letter20 _ _).mono ?_; rintro e w' ⟨rfl, hw⟩; rw [hw, hL]) | (go_at_call 21; refine (digit21 _ _).mono ?_; rintro e w' ⟨rfl, hw⟩; rw [hw, hD]))
              go_round
              case rel => exact ⟨k + 1, by omega, by go_num, HN.out⟩
              case measure => simp [intOf]; omega
            | false =>
              cases hM : isMark x with
              | true =>
                have HN : Hid (St s.data.toList (k + 1)) := HS.out.ok hxl.out h58 (by simp [okAt, hM, hk0])
                have hm3 : x = 43 ∨ x = 45 ∨ x = 46 := by simpa [isMark, or_assoc] using hM
                clear h58 hM
                rcases hm3 with h | h | h
                · have e43 : ((x.toNat : Int) == 43) = true := b_t 43 h
                  clear h
                  go_wp2_with (first | (go_at_call 20; refine (letter20 _ _).mono ?_; rintro e w' ⟨rfl, hw⟩; rw [hw, hL]) | (go_at_call 21; refine (digit21 _ _).mono ?_; rintro e w' ⟨rfl, hw⟩; rw [hw, hD]))
                  go_round
                  case rel => exact ⟨k + 1, by omega, by go_num, HN.out⟩
                  case measure => simp [intOf]; omega
                · have e43 : ((x.toNat : Int) == 43) = false := b_f 43 (by rw [h]; decide)
                  have e45 : ((x.toNat : Int) == 45) = true := b_t 45 h
                  clear h
                  go_wp2_with (first | (go_at_call 20; refine (letter20 _ _).mono ?_; rintro e w' ⟨rfl, hw⟩; rw [hw, hL]) | (go_at_call 21; refine (digit21 _ _).mono ?_; rintro e w' ⟨rfl, hw⟩; rw [hw, hD]))
                  go_round
                  case rel => exact ⟨k + 1, by omega, by go_num, HN.out⟩
                  case measure => simp [intOf]; omega
                · have e43 : ((x.toNat : Int) == 43) = false := b_f 43 (by rw [h]; decide)
                  have e45 : ((x.toNat : Int) == 45) = false := b_f 45 (by rw [h]; decide)
                  have e46 : ((x.toNat : Int) == 46) = true := b_t 46 h
                  clear h
                  go_wp2_with (first | (go_at_call 20; refine (letter20 _ _).mono ?_; rintro e w' ⟨rfl, hw⟩; rw [hw, hL]) | (go_at_call 21; refine (digit21 _ _).mono ?_; rintro e w' ⟨rfl, hw⟩; rw [hw, hD]))
                  go_round
                  case rel => exact ⟨k + 1, by omega, by go_num, HN.out⟩
                  case measure => simp [intOf]; omega
              | false =>
                have HB : Hid (schE s.data.toList = -1) := HS.out.bad hxl.out h58 (by simp [okAt, hL, hD, hM])
                have hm3 : x ≠ 43 ∧ x ≠ 45 ∧ x ≠ 46 := by simpa [isMark, and_assoc] using hM
                have e43 : ((x.toNat : Int) == 43) = false := b_f 43 hm3.1
                have e45 : ((x.toNat : Int) == 45) = false := b_f 45 hm3.2.1
                have e46 : ((x.toNat : Int) == 46) = false := b_f 46 hm3.2.2
                clear h58 hM hm3
                go_wp2_with (first | (go_at_call 20; refine (letter20 _ _).mono ?_; rintro e w' ⟨rfl, hw⟩; rw [hw, hL]) | (go_at_call 21; refine (digit21 _ _).mono ?_; rintro e w' ⟨rfl, hw⟩; rw [hw, hD]))
                go_ret
                rw [HB.out]
                exact ⟨rfl, rfl⟩
          · have HB : Hid (schE s.data.toList = -1) := HS.out.bad hxl.out h58 (by simp [okAt, hL, hk0])
            clear h58
            go_wp2_with (go_at_call 20; refine (letter20 _ _).mono ?_; rintro e w' ⟨rfl, hw⟩; rw [hw, hL])
            go_ret
            rw [HB.out]
            exact ⟨rfl, rfl⟩
    · have HB : Hid (schE s.data.toList = -1) := HS.out.done (by rw [← Lib.size_eq]; omega)
      go_wp2
      go_ret
      rw [HB.out]
      exact ⟨rfl, rfl⟩
end Go.Proofs.Qxb6602852a
