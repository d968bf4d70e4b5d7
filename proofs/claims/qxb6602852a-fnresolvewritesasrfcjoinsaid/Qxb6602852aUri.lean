import Derived.Test.Qxb6602852aScheme
namespace Go.Proofs.Qxb6602852a
open Go.RowKit

set_option maxRecDepth 1000000 in
set_option maxHeartbeats 2000000 in
/-- IsURI behind its two cuts: the loop over the scheme p -/
theorem uri23 (s F p r1 r2 : ByteArray) (m1 : Bool) (w : World) (hps : p.size ≤ 1048576) (hp0 : p.toList.isEmpty = false)
    (H1 : Hid (∀ w, Calls Try.prog 28 #[.string s, .string ⟨#[47]⟩] w fun e w' => e = .returned (.tuple #[.string F, .string r1, .bool m1]) ∧ ∃ n, w' = w.drewN n))
    (H2 : Hid (∀ w, Calls Try.prog 28 #[.string F, .string ⟨#[58]⟩] w fun e w' => e = .returned (.tuple #[.string p, .string r2, .bool true]) ∧ ∃ n, w' = w.drewN n)) :
    Calls Try.prog 23 #[.string s] w fun e w' => e = .returned (.bool (okFrom p.data.toList 0)) ∧ ∃ n, w' = w.drewN n := by
  go_enter Try.func23, Try.ntmps23
  go_wp2_with fail
  refine (H1.out _).mono ?_
  rintro e w1 ⟨rfl, n1, rfl⟩
  go_wp2_with fail
  refine (H2.out _).mono ?_
  rintro e w2 ⟨rfl, n2, rfl⟩
  go_wp2
  go_loop [9] (fun v => ∃ k : Nat, k ≤ p.size ∧ v = .int .i64 k ∧ Ok2 p.data.toList k) (fun v => p.size - (intOf v).toNat)
  case atStart => exact ⟨0, Nat.zero_le _, rfl, Ok2.zero _⟩
  case round =>
    obtain ⟨k, hk, rfl, hst⟩ := hrel
    have HS : Hid (Ok2 p.data.toList k) := hst
    clear hst
    by_cases hlt : k < p.size
    · obtain ⟨x, hx⟩ : ∃ x : UInt8, p[k]'hlt = x := ⟨_, rfl⟩
      have hxl : Hid (p.data.toList[k]? = some x) := by show _ = _; rw [← hx]; exact data_at p k hlt
      cases h0 : ((k : Int) == 0) with
      | true =>
        have hk0 : Hid (k = 0) := by show _ = _; have : (k : Int) = 0 := by simpa using h0
                                     omega
        rcases ranges x with h | h | h | h | h | h | h | h | h | h | h | h
        · have HN : Hid (Ok2 p.data.toList (k + 1)) := HS.out.succ hxl.out (okAt_let _ (let_t (by omega)))
          have d97 : decide ((97 : Int) ≤ (x.toNat : Int)) = true := decide_eq_true (by omega)
          have d122 : decide ((x.toNat : Int) ≤ 122) = true := decide_eq_true (by omega)
          have d65 : decide ((65 : Int) ≤ (x.toNat : Int)) = true := decide_eq_true (by omega)
          have d90 : decide ((x.toNat : Int) ≤ 90) = false := decide_eq_false (by omega)
          have d48 : decide ((48 : Int) ≤ (x.toNat : Int)) = true := decide_eq_true (by omega)
          have d57 : decide ((x.toNat : Int) ≤ 57) = false := decide_eq_false (by omega)
          have e43 : ((x.toNat : Int) == 43) = false := beq_eq_false_iff_ne.2 (by omega)
          have e45 : ((x.toNat : Int) == 45) = false := beq_eq_false_iff_ne.2 (by omega)
          have e46 : ((x.toNat : Int) == 46) = false := beq_eq_false_iff_ne.2 (by omega)
          clear h
          go_wp2
          go_round
          case rel => exact ⟨k + 1, by omega, by go_num, HN.out⟩
          case measure => simp [intOf]; omega
        · have HB : Hid (okFrom p.data.toList 0 = false) := Ok2.bad hxl.out (okAt_f0 hk0.out (let_f (by omega)))
          have d97 : decide ((97 : Int) ≤ (x.toNat : Int)) = true := decide_eq_true (by omega)
          have d122 : decide ((x.toNat : Int) ≤ 122) = false := decide_eq_false (by omega)
          have d65 : decide ((65 : Int) ≤ (x.toNat : Int)) = true := decide_eq_true (by omega)
          have d90 : decide ((x.toNat : Int) ≤ 90) = false := decide_eq_false (by omega)
          have d48 : decide ((48 : Int) ≤ (x.toNat : Int)) = true := decide_eq_true (by omega)
          have d57 : decide ((x.toNat : Int) ≤ 57) = false := decide_eq_false (by omega)
          have e43 : ((x.toNat : Int) == 43) = false := beq_eq_false_iff_ne.2 (by omega)
          have e45 : ((x.toNat : Int) == 45) = false := beq_eq_false_iff_ne.2 (by omega)
          have e46 : ((x.toNat : Int) == 46) = false := beq_eq_false_iff_ne.2 (by omega)
          clear h
          go_wp2
          go_ret
          rw [HB.out]
          exact ⟨rfl, _, rfl⟩
        · have HB : Hid (okFrom p.data.toList 0 = false) := Ok2.bad hxl.out (okAt_f0 hk0.out (let_f (by omega)))
          have d97 : decide ((97 : Int) ≤ (x.toNat : Int)) = false := decide_eq_false (by omega)
          have d122 : decide ((x.toNat : Int) ≤ 122) = true := decide_eq_true (by omega)
          have d65 : decide ((65 : Int) ≤ (x.toNat : Int)) = true := decide_eq_true (by omega)
          have d90 : decide ((x.toNat : Int) ≤ 90) = false := decide_eq_false (by omega)
          have d48 : decide ((48 : Int) ≤ (x.toNat : Int)) = true := decide_eq_true (by omega)
          have d57 : decide ((x.toNat : Int) ≤ 57) = false := decide_eq_false (by omega)
          have e43 : ((x.toNat : Int) == 43) = false := beq_eq_false_iff_ne.2 (by omega)
          have e45 : ((x.toNat : Int) == 45) = false := beq_eq_false_iff_ne.2 (by omega)
          have e46 : ((x.toNat : Int) == 46) = false := beq_eq_false_iff_ne.2 (by omega)
          clear h
          go_wp2
          go_ret
          rw [HB.out]
          exact ⟨rfl, _, rfl⟩
        · have HN : Hid (Ok2 p.data.toList (k + 1)) := HS.out.succ hxl.out (okAt_let _ (let_t (by omega)))
          have d97 : decide ((97 : Int) ≤ (x.toNat : Int)) = false := decide_eq_false (by omega)
          have d122 : decide ((x.toNat : Int) ≤ 122) = true := decide_eq_true (by omega)
          have d65 : decide ((65 : Int) ≤ (x.toNat : Int)) = true := decide_eq_true (by omega)
          have d90 : decide ((x.toNat : Int) ≤ 90) = true := decide_eq_true (by omega)
          have d48 : decide ((48 : Int) ≤ (x.toNat : Int)) = true := decide_eq_true (by omega)
          have d57 : decide ((x.toNat : Int) ≤ 57) = false := decide_eq_false (by omega)
          have e43 : ((x.toNat : Int) == 43) = false := beq_eq_false_iff_ne.2 (by omega)
          have e45 : ((x.toNat : Int) == 45) = false := beq_eq_false_iff_ne.2 (by omega)
          have e46 : ((x.toNat : Int) == 46) = false := beq_eq_false_iff_ne.2 (by omega)
          clear h
          go_wp2
          go_round
          case rel => exact ⟨k + 1, by omega, by go_num, HN.out⟩
          case measure => simp [intOf]; omega
        · have HB : Hid (okFrom p.data.toList 0 = false) := Ok2.bad hxl.out (okAt_f0 hk0.out (let_f (by omega)))
          have d97 : decide ((97 : Int) ≤ (x.toNat : Int)) = false := decide_eq_false (by omega)
          have d122 : decide ((x.toNat : Int) ≤ 122) = true := decide_eq_true (by omega)
          have d65 : decide ((65 : Int) ≤ (x.toNat : Int)) = false := decide_eq_false (by omega)
          have d90 : decide ((x.toNat : Int) ≤ 90) = true := decide_eq_true (by omega)
          have d48 : decide ((48 : Int) ≤ (x.toNat : Int)) = true := decide_eq_true (by omega)
          have d57 : decide ((x.toNat : Int) ≤ 57) = false := decide_eq_false (by omega)
          have e43 : ((x.toNat : Int) == 43) = false := beq_eq_false_iff_ne.2 (by omega)
          have e45 : ((x.toNat : Int) == 45) = false := beq_eq_false_iff_ne.2 (by omega)
          have e46 : ((x.toNat : Int) == 46) = false := beq_eq_false_iff_ne.2 (by omega)
          clear h
          go_wp2
          go_ret
          rw [HB.out]
          exact ⟨rfl, _, rfl⟩
        · have HB : Hid (okFrom p.data.toList 0 = false) := Ok2.bad hxl.out (okAt_f0 hk0.out (let_f (by omega)))
          have d97 : decide ((97 : Int) ≤ (x.toNat : Int)) = false := decide_eq_false (by omega)
          have d122 : decide ((x.toNat : Int) ≤ 122) = true := decide_eq_true (by omega)
          have d65 : decide ((65 : Int) ≤ (x.toNat : Int)) = false := decide_eq_false (by omega)
          have d90 : decide ((x.toNat : Int) ≤ 90) = true := decide_eq_true (by omega)
          have d48 : decide ((48 : Int) ≤ (x.toNat : Int)) = true := decide_eq_true (by omega)
          have d57 : decide ((x.toNat : Int) ≤ 57) = true := decide_eq_true (by omega)
          have e43 : ((x.toNat : Int) == 43) = false := beq_eq_false_iff_ne.2 (by omega)
          have e45 : ((x.toNat : Int) == 45) = false := beq_eq_false_iff_ne.2 (by omega)
          have e46 : ((x.toNat : Int) == 46) = false := beq_eq_false_iff_ne.2 (by omega)
          clear h
          go_wp2
          go_ret
          rw [HB.out]
          exact ⟨rfl, _, rfl⟩
        · have HB : Hid (okFrom p.data.toList 0 = false) := Ok2.bad hxl.out (okAt_f0 hk0.out (let_f (by omega)))
          have d97 : decide ((97 : Int) ≤ (x.toNat : Int)) = false := decide_eq_false (by omega)
          have d122 : decide ((x.toNat : Int) ≤ 122) = true := decide_eq_true (by omega)
          have d65 : decide ((65 : Int) ≤ (x.toNat : Int)) = false := decide_eq_false (by omega)
          have d90 : decide ((x.toNat : Int) ≤ 90) = true := decide_eq_true (by omega)
          have d48 : decide ((48 : Int) ≤ (x.toNat : Int)) = false := decide_eq_false (by omega)
          have d57 : decide ((x.toNat : Int) ≤ 57) = true := decide_eq_true (by omega)
          have e43 : ((x.toNat : Int) == 43) = false := beq_eq_false_iff_ne.2 (by omega)
          have e45 : ((x.toNat : Int) == 45) = false := beq_eq_false_iff_ne.2 (by omega)
          have e46 : ((x.toNat : Int) == 46) = false := beq_eq_false_iff_ne.2 (by omega)
          clear h
          go_wp2
          go_ret
          rw [HB.out]
          exact ⟨rfl, _, rfl⟩
        · have HB : Hid (okFrom p.data.toList 0 = false) := Ok2.bad hxl.out (okAt_f0 hk0.out (let_f (by omega)))
          have d97 : decide ((97 : Int) ≤ (x.toNat : Int)) = false := decide_eq_false (by omega)
          have d122 : decide ((x.toNat : Int) ≤ 122) = true := decide_eq_true (by omega)
          have d65 : decide ((65 : Int) ≤ (x.toNat : Int)) = false := decide_eq_false (by omega)
          have d90 : decide ((x.toNat : Int) ≤ 90) = true := decide_eq_true (by omega)
          have d48 : decide ((48 : Int) ≤ (x.toNat : Int)) = false := decide_eq_false (by omega)
          have d57 : decide ((x.toNat : Int) ≤ 57) = true := decide_eq_true (by omega)
          have e43 : ((x.toNat : Int) == 43) = false := beq_eq_false_iff_ne.2 (by omega)
          have e45 : ((x.toNat : Int) == 45) = false := beq_eq_false_iff_ne.2 (by omega)
          have e46 : ((x.toNat : Int) == 46) = true := beq_iff_eq.2 (by omega)
          clear h
          go_wp2
          go_ret
          rw [HB.out]
          exact ⟨rfl, _, rfl⟩
        · have HB : Hid (okFrom p.data.toList 0 = false) := Ok2.bad hxl.out (okAt_f0 hk0.out (let_f (by omega)))
          have d97 : decide ((97 : Int) ≤ (x.toNat : Int)) = false := decide_eq_false (by omega)
          have d122 : decide ((x.toNat : Int) ≤ 122) = true := decide_eq_true (by omega)
          have d65 : decide ((65 : Int) ≤ (x.toNat : Int)) = false := decide_eq_false (by omega)
          have d90 : decide ((x.toNat : Int) ≤ 90) = true := decide_eq_true (by omega)
          have d48 : decide ((48 : Int) ≤ (x.toNat : Int)) = false := decide_eq_false (by omega)
          have d57 : decide ((x.toNat : Int) ≤ 57) = true := decide_eq_true (by omega)
          have e43 : ((x.toNat : Int) == 43) = false := beq_eq_false_iff_ne.2 (by omega)
          have e45 : ((x.toNat : Int) == 45) = true := beq_iff_eq.2 (by omega)
          have e46 : ((x.toNat : Int) == 46) = false := beq_eq_false_iff_ne.2 (by omega)
          clear h
          go_wp2
          go_ret
          rw [HB.out]
          exact ⟨rfl, _, rfl⟩
        · have HB : Hid (okFrom p.data.toList 0 = false) := Ok2.bad hxl.out (okAt_f0 hk0.out (let_f (by omega)))
          have d97 : decide ((97 : Int) ≤ (x.toNat : Int)) = false := decide_eq_false (by omega)
          have d122 : decide ((x.toNat : Int) ≤ 122) = true := decide_eq_true (by omega)
          have d65 : decide ((65 : Int) ≤ (x.toNat : Int)) = false := decide_eq_false (by omega)
          have d90 : decide ((x.toNat : Int) ≤ 90) = true := decide_eq_true (by omega)
          have d48 : decide ((48 : Int) ≤ (x.toNat : Int)) = false := decide_eq_false (by omega)
          have d57 : decide ((x.toNat : Int) ≤ 57) = true := decide_eq_true (by omega)
          have e43 : ((x.toNat : Int) == 43) = false := beq_eq_false_iff_ne.2 (by omega)
          have e45 : ((x.toNat : Int) == 45) = false := beq_eq_false_iff_ne.2 (by omega)
          have e46 : ((x.toNat : Int) == 46) = false := beq_eq_false_iff_ne.2 (by omega)
          clear h
          go_wp2
          go_ret
          rw [HB.out]
          exact ⟨rfl, _, rfl⟩
        · have HB : Hid (okFrom p.data.toList 0 = false) := Ok2.bad hxl.out (okAt_f0 hk0.out (let_f (by omega)))
          have d97 : decide ((97 : Int) ≤ (x.toNat : Int)) = false := decide_eq_false (by omega)
          have d122 : decide ((x.toNat : Int) ≤ 122) = true := decide_eq_true (by omega)
          have d65 : decide ((65 : Int) ≤ (x.toNat : Int)) = false := decide_eq_false (by omega)
          have d90 : decide ((x.toNat : Int) ≤ 90) = true := decide_eq_true (by omega)
          have d48 : decide ((48 : Int) ≤ (x.toNat : Int)) = false := decide_eq_false (by omega)
          have d57 : decide ((x.toNat : Int) ≤ 57) = true := decide_eq_true (by omega)
          have e43 : ((x.toNat : Int) == 43) = true := beq_iff_eq.2 (by omega)
          have e45 : ((x.toNat : Int) == 45) = false := beq_eq_false_iff_ne.2 (by omega)
          have e46 : ((x.toNat : Int) == 46) = false := beq_eq_false_iff_ne.2 (by omega)
          clear h
          go_wp2
          go_ret
          rw [HB.out]
          exact ⟨rfl, _, rfl⟩
        · have HB : Hid (okFrom p.data.toList 0 = false) := Ok2.bad hxl.out (okAt_f0 hk0.out (let_f (by omega)))
          have d97 : decide ((97 : Int) ≤ (x.toNat : Int)) = false := decide_eq_false (by omega)
          have d122 : decide ((x.toNat : Int) ≤ 122) = true := decide_eq_true (by omega)
          have d65 : decide ((65 : Int) ≤ (x.toNat : Int)) = false := decide_eq_false (by omega)
          have d90 : decide ((x.toNat : Int) ≤ 90) = true := decide_eq_true (by omega)
          have d48 : decide ((48 : Int) ≤ (x.toNat : Int)) = false := decide_eq_false (by omega)
          have d57 : decide ((x.toNat : Int) ≤ 57) = true := decide_eq_true (by omega)
          have e43 : ((x.toNat : Int) == 43) = false := beq_eq_false_iff_ne.2 (by omega)
          have e45 : ((x.toNat : Int) == 45) = false := beq_eq_false_iff_ne.2 (by omega)
          have e46 : ((x.toNat : Int) == 46) = false := beq_eq_false_iff_ne.2 (by omega)
          clear h
          go_wp2
          go_ret
          rw [HB.out]
          exact ⟨rfl, _, rfl⟩
      | false =>
        have hk0 : 0 < k := by
          rcases Nat.eq_zero_or_pos k with e | e
          · subst e; simp at h0
          · exact e
        rcases ranges x with h | h | h | h | h | h | h | h | h | h | h | h
        · have HN : Hid (Ok2 p.data.toList (k + 1)) := HS.out.succ hxl.out (okAt_let _ (let_t (by omega)))
          have d97 : decide ((97 : Int) ≤ (x.toNat : Int)) = true := decide_eq_true (by omega)
          have d122 : decide ((x.toNat : Int) ≤ 122) = true := decide_eq_true (by omega)
          have d65 : decide ((65 : Int) ≤ (x.toNat : Int)) = true := decide_eq_true (by omega)
          have d90 : decide ((x.toNat : Int) ≤ 90) = false := decide_eq_false (by omega)
          have d48 : decide ((48 : Int) ≤ (x.toNat : Int)) = true := decide_eq_true (by omega)
          have d57 : decide ((x.toNat : Int) ≤ 57) = false := decide_eq_false (by omega)
          have e43 : ((x.toNat : Int) == 43) = false := beq_eq_false_iff_ne.2 (by omega)
          have e45 : ((x.toNat : Int) == 45) = false := beq_eq_false_iff_ne.2 (by omega)
          have e46 : ((x.toNat : Int) == 46) = false := beq_eq_false_iff_ne.2 (by omega)
          clear h
          go_wp2
          go_round
          case rel => exact ⟨k + 1, by omega, by go_num, HN.out⟩
          case measure => simp [intOf]; omega
        · have HB : Hid (okFrom p.data.toList 0 = false) := Ok2.bad hxl.out (okAt_f _ (let_f (by omega)) (dig_f (by omega)) (mark_f (by omega)))
          have d97 : decide ((97 : Int) ≤ (x.toNat : Int)) = true := decide_eq_true (by omega)
          have d122 : decide ((x.toNat : Int) ≤ 122) = false := decide_eq_false (by omega)
          have d65 : decide ((65 : Int) ≤ (x.toNat : Int)) = true := decide_eq_true (by omega)
          have d90 : decide ((x.toNat : Int) ≤ 90) = false := decide_eq_false (by omega)
          have d48 : decide ((48 : Int) ≤ (x.toNat : Int)) = true := decide_eq_true (by omega)
          have d57 : decide ((x.toNat : Int) ≤ 57) = false := decide_eq_false (by omega)
          have e43 : ((x.toNat : Int) == 43) = false := beq_eq_false_iff_ne.2 (by omega)
          have e45 : ((x.toNat : Int) == 45) = false := beq_eq_false_iff_ne.2 (by omega)
          have e46 : ((x.toNat : Int) == 46) = false := beq_eq_false_iff_ne.2 (by omega)
          clear h
          go_wp2
          go_ret
          rw [HB.out]
          exact ⟨rfl, _, rfl⟩
        · have HB : Hid (okFrom p.data.toList 0 = false) := Ok2.bad hxl.out (okAt_f _ (let_f (by omega)) (dig_f (by omega)) (mark_f (by omega)))
          have d97 : decide ((97 : Int) ≤ (x.toNat : Int)) = false := decide_eq_false (by omega)
          have d122 : decide ((x.toNat : Int) ≤ 122) = true := decide_eq_true (by omega)
          have d65 : decide ((65 : Int) ≤ (x.toNat : Int)) = true := decide_eq_true (by omega)
          have d90 : decide ((x.toNat : Int) ≤ 90) = false := decide_eq_false (by omega)
          have d48 : decide ((48 : Int) ≤ (x.toNat : Int)) = true := decide_eq_true (by omega)
          have d57 : decide ((x.toNat : Int) ≤ 57) = false := decide_eq_false (by omega)
          have e43 : ((x.toNat : Int) == 43) = false := beq_eq_false_iff_ne.2 (by omega)
          have e45 : ((x.toNat : Int) == 45) = false := beq_eq_false_iff_ne.2 (by omega)
          have e46 : ((x.toNat : Int) == 46) = false := beq_eq_false_iff_ne.2 (by omega)
          clear h
          go_wp2
          go_ret
          rw [HB.out]
          exact ⟨rfl, _, rfl⟩
        · have HN : Hid (Ok2 p.data.toList (k + 1)) := HS.out.succ hxl.out (okAt_let _ (let_t (by omega)))
          have d97 : decide ((97 : Int) ≤ (x.toNat : Int)) = false := decide_eq_false (by omega)
          have d122 : decide ((x.toNat : Int) ≤ 122) = true := decide_eq_true (by omega)
          have d65 : decide ((65 : Int) ≤ (x.toNat : Int)) = true := decide_eq_true (by omega)
          have d90 : decide ((x.toNat : Int) ≤ 90) = true := decide_eq_true (by omega)
          have d48 : decide ((48 : Int) ≤ (x.toNat : Int)) = true := decide_eq_true (by omega)
          have d57 : decide ((x.toNat : Int) ≤ 57) = false := decide_eq_false (by omega)
          have e43 : ((x.toNat : Int) == 43) = false := beq_eq_false_iff_ne.2 (by omega)
          have e45 : ((x.toNat : Int) == 45) = false := beq_eq_false_iff_ne.2 (by omega)
          have e46 : ((x.toNat : Int) == 46) = false := beq_eq_false_iff_ne.2 (by omega)
          clear h
          go_wp2
          go_round
          case rel => exact ⟨k + 1, by omega, by go_num, HN.out⟩
          case measure => simp [intOf]; omega
        · have HB : Hid (okFrom p.data.toList 0 = false) := Ok2.bad hxl.out (okAt_f _ (let_f (by omega)) (dig_f (by omega)) (mark_f (by omega)))
          have d97 : decide ((97 : Int) ≤ (x.toNat : Int)) = false := decide_eq_false (by omega)
          have d122 : decide ((x.toNat : Int) ≤ 122) = true := decide_eq_true (by omega)
          have d65 : decide ((65 : Int) ≤ (x.toNat : Int)) = false := decide_eq_false (by omega)
          have d90 : decide ((x.toNat : Int) ≤ 90) = true := decide_eq_true (by omega)
          have d48 : decide ((48 : Int) ≤ (x.toNat : Int)) = true := decide_eq_true (by omega)
          have d57 : decide ((x.toNat : Int) ≤ 57) = false := decide_eq_false (by omega)
          have e43 : ((x.toNat : Int) == 43) = false := beq_eq_false_iff_ne.2 (by omega)
          have e45 : ((x.toNat : Int) == 45) = false := beq_eq_false_iff_ne.2 (by omega)
          have e46 : ((x.toNat : Int) == 46) = false := beq_eq_false_iff_ne.2 (by omega)
          clear h
          go_wp2
          go_ret
          rw [HB.out]
          exact ⟨rfl, _, rfl⟩
        · have HN : Hid (Ok2 p.data.toList (k + 1)) := HS.out.succ hxl.out (okAt_dig hk0 (dig_t (by omega)))
          have d97 : decide ((97 : Int) ≤ (x.toNat : Int)) = false := decide_eq_false (by omega)
          have d122 : decide ((x.toNat : Int) ≤ 122) = true := decide_eq_true (by omega)
          have d65 : decide ((65 : Int) ≤ (x.toNat : Int)) = false := decide_eq_false (by omega)
          have d90 : decide ((x.toNat : Int) ≤ 90) = true := decide_eq_true (by omega)
          have d48 : decide ((48 : Int) ≤ (x.toNat : Int)) = true := decide_eq_true (by omega)
          have d57 : decide ((x.toNat : Int) ≤ 57) = true := decide_eq_true (by omega)
          have e43 : ((x.toNat : Int) == 43) = false := beq_eq_false_iff_ne.2 (by omega)
          have e45 : ((x.toNat : Int) == 45) = false := beq_eq_false_iff_ne.2 (by omega)
          have e46 : ((x.toNat : Int) == 46) = false := beq_eq_false_iff_ne.2 (by omega)
          clear h
          go_wp2
          go_round
          case rel => exact ⟨k + 1, by omega, by go_num, HN.out⟩
          case measure => simp [intOf]; omega
        · have HB : Hid (okFrom p.data.toList 0 = false) := Ok2.bad hxl.out (okAt_f _ (let_f (by omega)) (dig_f (by omega)) (mark_f (by omega)))
          have d97 : decide ((97 : Int) ≤ (x.toNat : Int)) = false := decide_eq_false (by omega)
          have d122 : decide ((x.toNat : Int) ≤ 122) = true := decide_eq_true (by omega)
          have d65 : decide ((65 : Int) ≤ (x.toNat : Int)) = false := decide_eq_false (by omega)
          have d90 : decide ((x.toNat : Int) ≤ 90) = true := decide_eq_true (by omega)
          have d48 : decide ((48 : Int) ≤ (x.toNat : Int)) = false := decide_eq_false (by omega)
          have d57 : decide ((x.toNat : Int) ≤ 57) = true := decide_eq_true (by omega)
          have e43 : ((x.toNat : Int) == 43) = false := beq_eq_false_iff_ne.2 (by omega)
          have e45 : ((x.toNat : Int) == 45) = false := beq_eq_false_iff_ne.2 (by omega)
          have e46 : ((x.toNat : Int) == 46) = false := beq_eq_false_iff_ne.2 (by omega)
          clear h
          go_wp2
          go_ret
          rw [HB.out]
          exact ⟨rfl, _, rfl⟩
        · have HN : Hid (Ok2 p.data.toList (k + 1)) := HS.out.succ hxl.out (okAt_mark hk0 (mark_t (by omega)))
          have d97 : decide ((97 : Int) ≤ (x.toNat : Int)) = false := decide_eq_false (by omega)
          have d122 : decide ((x.toNat : Int) ≤ 122) = true := decide_eq_true (by omega)
          have d65 : decide ((65 : Int) ≤ (x.toNat : Int)) = false := decide_eq_false (by omega)
          have d90 : decide ((x.toNat : Int) ≤ 90) = true := decide_eq_true (by omega)
          have d48 : decide ((48 : Int) ≤ (x.toNat : Int)) = false := decide_eq_false (by omega)
          have d57 : decide ((x.toNat : Int) ≤ 57) = true := decide_eq_true (by omega)
          have e43 : ((x.toNat : Int) == 43) = false := beq_eq_false_iff_ne.2 (by omega)
          have e45 : ((x.toNat : Int) == 45) = false := beq_eq_false_iff_ne.2 (by omega)
          have e46 : ((x.toNat : Int) == 46) = true := beq_iff_eq.2 (by omega)
          clear h
          go_wp2
          go_round
          case rel => exact ⟨k + 1, by omega, by go_num, HN.out⟩
          case measure => simp [intOf]; omega
        · have HN : Hid (Ok2 p.data.toList (k + 1)) := HS.out.succ hxl.out (okAt_mark hk0 (mark_t (by omega)))
          have d97 : decide ((97 : Int) ≤ (x.toNat : Int)) = false := decide_eq_false (by omega)
          have d122 : decide ((x.toNat : Int) ≤ 122) = true := decide_eq_true (by omega)
          have d65 : decide ((65 : Int) ≤ (x.toNat : Int)) = false := decide_eq_false (by omega)
          have d90 : decide ((x.toNat : Int) ≤ 90) = true := decide_eq_true (by omega)
          have d48 : decide ((48 : Int) ≤ (x.toNat : Int)) = false := decide_eq_false (by omega)
          have d57 : decide ((x.toNat : Int) ≤ 57) = true := decide_eq_true (by omega)
          have e43 : ((x.toNat : Int) == 43) = false := beq_eq_false_iff_ne.2 (by omega)
          have e45 : ((x.toNat : Int) == 45) = true := beq_iff_eq.2 (by omega)
          have e46 : ((x.toNat : Int) == 46) = false := beq_eq_false_iff_ne.2 (by omega)
          clear h
          go_wp2
          go_round
          case rel => exact ⟨k + 1, by omega, by go_num, HN.out⟩
          case measure => simp [intOf]; omega
        · have HB : Hid (okFrom p.data.toList 0 = false) := Ok2.bad hxl.out (okAt_f _ (let_f (by omega)) (dig_f (by omega)) (mark_f (by omega)))
          have d97 : decide ((97 : Int) ≤ (x.toNat : Int)) = false := decide_eq_false (by omega)
          have d122 : decide ((x.toNat : Int) ≤ 122) = true := decide_eq_true (by omega)
          have d65 : decide ((65 : Int) ≤ (x.toNat : Int)) = false := decide_eq_false (by omega)
          have d90 : decide ((x.toNat : Int) ≤ 90) = true := decide_eq_true (by omega)
          have d48 : decide ((48 : Int) ≤ (x.toNat : Int)) = false := decide_eq_false (by omega)
          have d57 : decide ((x.toNat : Int) ≤ 57) = true := decide_eq_true (by omega)
          have e43 : ((x.toNat : Int) == 43) = false := beq_eq_false_iff_ne.2 (by omega)
          have e45 : ((x.toNat : Int) == 45) = false := beq_eq_false_iff_ne.2 (by omega)
          have e46 : ((x.toNat : Int) == 46) = false := beq_eq_false_iff_ne.2 (by omega)
          clear h
          go_wp2
          go_ret
          rw [HB.out]
          exact ⟨rfl, _, rfl⟩
        · have HN : Hid (Ok2 p.data.toList (k + 1)) := HS.out.succ hxl.out (okAt_mark hk0 (mark_t (by omega)))
          have d97 : decide ((97 : Int) ≤ (x.toNat : Int)) = false := decide_eq_false (by omega)
          have d122 : decide ((x.toNat : Int) ≤ 122) = true := decide_eq_true (by omega)
          have d65 : decide ((65 : Int) ≤ (x.toNat : Int)) = false := decide_eq_false (by omega)
          have d90 : decide ((x.toNat : Int) ≤ 90) = true := decide_eq_true (by omega)
          have d48 : decide ((48 : Int) ≤ (x.toNat : Int)) = false := decide_eq_false (by omega)
          have d57 : decide ((x.toNat : Int) ≤ 57) = true := decide_eq_true (by omega)
          have e43 : ((x.toNat : Int) == 43) = true := beq_iff_eq.2 (by omega)
          have e45 : ((x.toNat : Int) == 45) = false := beq_eq_false_iff_ne.2 (by omega)
          have e46 : ((x.toNat : Int) == 46) = false := beq_eq_false_iff_ne.2 (by omega)
          clear h
          go_wp2
          go_round
          case rel => exact ⟨k + 1, by omega, by go_num, HN.out⟩
          case measure => simp [intOf]; omega
        · have HB : Hid (okFrom p.data.toList 0 = false) := Ok2.bad hxl.out (okAt_f _ (let_f (by omega)) (dig_f (by omega)) (mark_f (by omega)))
          have d97 : decide ((97 : Int) ≤ (x.toNat : Int)) = false := decide_eq_false (by omega)
          have d122 : decide ((x.toNat : Int) ≤ 122) = true := decide_eq_true (by omega)
          have d65 : decide ((65 : Int) ≤ (x.toNat : Int)) = false := decide_eq_false (by omega)
          have d90 : decide ((x.toNat : Int) ≤ 90) = true := decide_eq_true (by omega)
          have d48 : decide ((48 : Int) ≤ (x.toNat : Int)) = false := decide_eq_false (by omega)
          have d57 : decide ((x.toNat : Int) ≤ 57) = true := decide_eq_true (by omega)
          have e43 : ((x.toNat : Int) == 43) = false := beq_eq_false_iff_ne.2 (by omega)
          have e45 : ((x.toNat : Int) == 45) = false := beq_eq_false_iff_ne.2 (by omega)
          have e46 : ((x.toNat : Int) == 46) = false := beq_eq_false_iff_ne.2 (by omega)
          clear h
          go_wp2
          go_ret
          rw [HB.out]
          exact ⟨rfl, _, rfl⟩
    · have HB : Hid (okFrom p.data.toList 0 = true) := HS.out.done (by rw [← Lib.size_eq]; omega)
      go_wp2
      go_ret
      rw [HB.out]
      exact ⟨rfl, _, rfl⟩
end Go.Proofs.Qxb6602852a
