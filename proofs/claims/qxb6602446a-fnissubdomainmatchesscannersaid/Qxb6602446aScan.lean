import Derived.Test.Qxb6602446aProg
import Derived.Test.Qxb6602446aPlain
import Derived.WalkKit
import Derived.WalkSpells
import Derived.WalkLawsBesides
import Derived.Deep.LoopGhost
namespace Go.Proofs.Qxb6602446a
open Go.RowKit

theorem data_at (s : ByteArray) (k : Nat) (h : k < s.size) : s.data.toList[k]? = some (s[k]'h) := Lib.data_getElem? s k h
theorem drop_at {Q : List UInt8} {k : Nat} {x : UInt8} (hx : Q[k]? = some x) : Q.drop k = x :: Q.drop (k + 1) := by
  obtain ⟨h, e⟩ := List.getElem?_eq_some_iff.1 hx
  rw [List.drop_eq_getElem_cons h, e]
theorem u8_eq {x : UInt8} {n : Nat} (hn : n < 256) (h : (x.toNat : Int) = n) : x = n.toUInt8 := by
  apply UInt8.toNat_inj.1
  simp
  omega

/-- the scanner's state: what is to come gives what the whole gives -/
def St (S : List UInt8) (k n : Nat) (p : UInt8) : Prop := scan S 0 46 = scan (S.drop k) n p

theorem St.dot0 {S : List UInt8} {k n : Nat} {p x : UInt8} (h : St S k n p) (hx : S[k]? = some x) (e : x = 46) (h0 : n = 0 ∨ p = 45) : scan S 0 46 = false := by
  rw [h, drop_at hx, e, scan_dot, if_pos h0]
theorem St.dot {S : List UInt8} {k n : Nat} {p x : UInt8} (h : St S k n p) (hx : S[k]? = some x) (e : x = 46) (h0 : ¬ (n = 0 ∨ p = 45)) : St S (k + 1) 0 46 := by
  unfold St at *
  rw [h, drop_at hx, e, scan_dot, if_neg h0]
theorem St.al {S : List UInt8} {k n : Nat} {p x : UInt8} (h : St S k n p) (hx : S[k]? = some x) (ha : alnum x = true) (hn : n + 1 ≤ 63) : St S (k + 1) (n + 1) x := by
  unfold St at *
  rw [h, drop_at hx, scan_alnum ha, if_neg (by omega)]
theorem St.alx {S : List UInt8} {k n : Nat} {p x : UInt8} (h : St S k n p) (hx : S[k]? = some x) (ha : alnum x = true) (hn : 63 < n + 1) : scan S 0 46 = false := by
  rw [h, drop_at hx, scan_alnum ha, if_pos (by omega)]
theorem St.hy {S : List UInt8} {k n : Nat} {p x : UInt8} (h : St S k n p) (hx : S[k]? = some x) (e : x = 45) (h0 : n ≠ 0) (hn : n + 1 ≤ 63) : St S (k + 1) (n + 1) 45 := by
  unfold St at *
  rw [h, drop_at hx, e, scan_hyphen, if_neg h0, if_neg (by omega)]
theorem St.hyx {S : List UInt8} {k n : Nat} {p x : UInt8} (h : St S k n p) (hx : S[k]? = some x) (e : x = 45) (h0 : n = 0 ∨ 63 < n + 1) : scan S 0 46 = false := by
  rw [h, drop_at hx, e, scan_hyphen]
  rcases h0 with h0 | h0
  · rw [if_pos h0]
  · rw [if_pos h0]; simp
theorem St.bad {S : List UInt8} {k n : Nat} {p x : UInt8} (h : St S k n p) (hx : S[k]? = some x) (h1 : x ≠ 46) (h2 : okc x = false) : scan S 0 46 = false := by
  rw [h, drop_at hx, scan_bad h1 h2]
theorem St.done {S : List UInt8} {k n : Nat} {p : UInt8} (h : St S k n p) (hk : S.length ≤ k) : scan S 0 46 = (decide (0 < n) && (p != 45)) := by
  rw [h, List.drop_of_length_le hk, scan]

set_option maxHeartbeats 1000000 in
theorem scan18_loop (s : ByteArray) (w : World) (h0 : 0 < s.size) (h1 : s.size ≤ 253) :
    Calls Try.prog 18 #[.string s] w fun e w' => e = .returned (.bool (scan s.data.toList 0 46)) ∧ w' = w := by
  have hz : ((s.size : Int) == 0) = false := beq_eq_false_iff_ne.2 (by omega)
  go_enter Try.func18, Try.ntmps18
  go_wp2
  go_loop [3, 4, 5] (fun vn vp vi => ∃ (k n : Nat) (p : UInt8), k ≤ s.size ∧ n ≤ 63 ∧ vn = .int .i64 n ∧ vp = .int .u8 p.toNat ∧ vi = .int .i64 k ∧ St s.data.toList k n p) (fun _ _ vi => s.size - (intOf vi).toNat)
  case atStart => exact ⟨0, 0, 46, Nat.zero_le _, by omega, rfl, rfl, rfl, rfl⟩
  case round =>
    obtain ⟨k, n, p, hk, hn, rfl, rfl, rfl, hst⟩ := hrel
    have HS : Hid (St s.data.toList k n p) := hst
    clear hst
    by_cases hlt : k < s.size
    · obtain ⟨x, hx⟩ : ∃ x : UInt8, s[k]'hlt = x := ⟨_, rfl⟩
      have hxl : Hid (s.data.toList[k]? = some x) := by rw [← hx]; exact data_at s k hlt
      cases hd : ((x.toNat : Int) == 46) with
      | true =>
        have HX : Hid (x = 46) := u8_eq (n := 46) (by omega) (by simpa using hd)
        cases hn0 : ((n : Int) == 0) with
        | true =>
          go_wp2
          go_ret
          rw [HS.out.dot0 hxl.out HX.out (Or.inl (by simpa using hn0))]
          exact ⟨rfl, rfl⟩
        | false =>
          cases hp : ((p.toNat : Int) == 45) with
          | true =>
            go_wp2
            go_ret
            rw [HS.out.dot0 hxl.out HX.out (Or.inr (u8_eq (n := 45) (by omega) (by simpa using hp)))]
            exact ⟨rfl, rfl⟩
          | false =>
            have HN : Hid (St s.data.toList (k + 1) 0 46) := HS.out.dot hxl.out HX.out (fun h => by rcases h with h | h <;> subst h <;> simp at hn0 hp)
            go_wp2
            go_round
            case rel => exact ⟨k + 1, 0, 46, by omega, by omega, rfl, by rw [HX.out], by go_num, HN.out⟩
            case measure => simp [intOf]; omega
      | false =>
        have hx46 : ¬ x = 46 := by intro e; subst e; simp at hd
        by_cases hA : 97 ≤ x.toNat ∧ x.toNat ≤ 122
        · obtain ⟨hA1, hA2⟩ := hA
          have HA : Hid (alnum x = true) := by show _ = _; unfold alnum; exact decide_eq_true (Or.inl ⟨hA1, hA2⟩)
          by_cases h63 : n + 1 ≤ 63
          · go_wp2
            go_round
            case rel => exact ⟨k + 1, n + 1, x, by omega, by omega, by go_num, rfl, by go_num, HS.out.al hxl.out HA.out h63⟩
            case measure => simp [intOf]; omega
          · go_wp2
            go_ret
            rw [HS.out.alx hxl.out HA.out (by omega)]
            exact ⟨rfl, rfl⟩
        · by_cases hB : 48 ≤ x.toNat ∧ x.toNat ≤ 57
          · obtain ⟨hB1, hB2⟩ := hB
            have HA : Hid (alnum x = true) := by show _ = _; unfold alnum; exact decide_eq_true (Or.inr ⟨hB1, hB2⟩)
            clear hA
            by_cases h63 : n + 1 ≤ 63
            · go_wp2
              go_round
              case rel => exact ⟨k + 1, n + 1, x, by omega, by omega, by go_num, rfl, by go_num, HS.out.al hxl.out HA.out h63⟩
              case measure => simp [intOf]; omega
            · go_wp2
              go_ret
              rw [HS.out.alx hxl.out HA.out (by omega)]
              exact ⟨rfl, rfl⟩
          · cases hh : ((x.toNat : Int) == 45) with
            | true =>
              have HX : Hid (x = 45) := u8_eq (n := 45) (by omega) (by simpa using hh)
              have hx45 : x.toNat = 45 := by have : (x.toNat : Int) = 45 := by simpa using hh
                                             omega
              clear hA hB
              have hx1 : ¬ ((97 : Int) ≤ x.toNat) := by omega
              have hx2 : ¬ ((48 : Int) ≤ x.toNat) := by omega
              have HX45 : Hid (x.toNat = 45) := hx45
              clear hx45
              cases hn0 : ((n : Int) == 0) with
              | true =>
                go_wp2
                go_ret
                rw [HS.out.hyx hxl.out HX.out (Or.inl (by simpa using hn0))]
                exact ⟨rfl, rfl⟩
              | false =>
                by_cases h63 : n + 1 ≤ 63
                · go_wp2
                  go_round
                  case rel => exact ⟨k + 1, n + 1, 45, by omega, by omega, by go_num, by rw [HX.out], by go_num, HS.out.hy hxl.out HX.out (by intro e; subst e; simp at hn0) h63⟩
                  case measure => simp [intOf]; omega
                · go_wp2
                  go_ret
                  rw [HS.out.hyx hxl.out HX.out (Or.inr (by omega))]
                  exact ⟨rfl, rfl⟩
            | false =>
              have HK : Hid (okc x = false) := by
                show _ = _
                unfold okc alnum
                rw [decide_eq_false (fun h => h.elim hA hB)]
                have : x ≠ 45 := by intro e; subst e; simp at hh
                simpa using this
              have HF : Hid (scan s.data.toList 0 46 = false) := HS.out.bad hxl.out hx46 HK.out
              by_cases c1 : 97 ≤ x.toNat
              · have c2 : 122 < x.toNat := by omega
                clear hA hB
                go_wp2
                go_ret
                rw [HF.out]
                exact ⟨rfl, rfl⟩
              · by_cases c3 : 48 ≤ x.toNat
                · have c4 : 57 < x.toNat := by omega
                  clear hA hB
                  go_wp2
                  go_ret
                  rw [HF.out]
                  exact ⟨rfl, rfl⟩
                · clear hA hB
                  go_wp2
                  go_ret
                  rw [HF.out]
                  exact ⟨rfl, rfl⟩
    · have hD := HS.out.done (by rw [← Lib.size_eq]; omega)
      have HD : Hid (scan s.data.toList 0 46 = (decide (0 < n) && (p != 45))) := hD
      clear hD
      have hpz : ((p.toNat : Int) != 45) = (p != 45) := by
        cases h : (p != 45) with
        | true => exact bne_iff_ne.2 fun e => by have := u8_eq (n := 45) (by omega) e; subst this; simp at h
        | false => have : p = 45 := by simpa using h
                   subst this; rfl
      have HPz : Hid (((p.toNat : Int) != 45) = (p != 45)) := hpz
      clear hpz
      by_cases hn0 : 0 < n
      · go_wp2
        go_ret
        rw [HD.out, decide_eq_true hn0, ← HPz.out]
        exact ⟨rfl, rfl⟩
      · go_wp2
        go_ret
        rw [HD.out, decide_eq_false hn0]
        exact ⟨rfl, rfl⟩

theorem subB_len {S : List UInt8} (h : S.length ≤ 253) : subB S = scan S 0 46 := by simp [subB, h]
theorem subB_long {S : List UInt8} (h : ¬ S.length ≤ 253) : subB S = false := by simp [subB, h]

set_option maxHeartbeats 400000 in
theorem scan18 (s : ByteArray) (w : World) (hs : s.size ≤ 1048576) :
    Calls Try.prog 18 #[.string s] w fun e w' => e = .returned (.bool (subB s.data.toList)) ∧ w' = w := by
  by_cases h0 : 0 < s.size
  · by_cases h1 : s.size ≤ 253
    · rw [subB_len (by rw [← Lib.size_eq]; exact h1)]
      exact scan18_loop s w h0 h1
    · rw [subB_long (by rw [← Lib.size_eq]; exact h1)]
      have hz : ((s.size : Int) == 0) = false := beq_eq_false_iff_ne.2 (by omega)
      go_enter Try.func18, Try.ntmps18
      go_wp2
      go_ret
      exact ⟨rfl, rfl⟩
  · have e : s.data.toList = [] := List.length_eq_zero_iff.1 (by rw [← Lib.size_eq]; omega)
    have e2 : subB s.data.toList = false := by rw [e]; decide
    rw [e2]
    have hz : ((s.size : Int) == 0) = true := beq_iff_eq.2 (by omega)
    clear e e2
    go_enter Try.func18, Try.ntmps18
    go_wp2
    go_ret
    exact ⟨rfl, rfl⟩

/-- the bound on length -/
def okLen (n : Nat) : Bool := decide (n ≤ 1048576)
set_option maxHeartbeats 400000 in
theorem bytes16 (s : ByteArray) (w : World) (hs : s.size ≤ maxLen) :
    Calls Try.prog 16 #[.string s] w fun e w' => e = .returned (.bool (okLen s.size)) ∧ w' = w := by
  unfold maxLen at hs
  by_cases h1 : s.size ≤ 1048576
  · rw [show okLen s.size = true from decide_eq_true h1]
    go_enter Try.func16, Try.ntmps16
    go_wp2
    go_ret
    exact ⟨rfl, rfl⟩
  · rw [show okLen s.size = false from decide_eq_false h1]
    go_enter Try.func16, Try.ntmps16
    go_wp2
    go_ret
    exact ⟨rfl, rfl⟩
end Go.Proofs.Qxb6602446a
