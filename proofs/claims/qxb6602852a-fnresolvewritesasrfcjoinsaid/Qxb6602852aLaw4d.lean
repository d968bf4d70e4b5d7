import Derived.Test.Qxb6602852aLaw4b
import Derived.Test.Qxb6602852aLaw4c
namespace Go.Proofs.Qxb6602852a
open Go.RowKit

set_option maxRecDepth 1000000 in
set_option maxHeartbeats 2000000 in
theorem law_big (a0 : Bool) (a1 a2 : ByteArray) (a3 : Bool) (a4 : ByteArray) (a5 : Bool) (a6 s : ByteArray) (w : World)
    (hb : 131072 < a1.size ∨ 131072 < a2.size ∨ 131072 < a4.size ∨ 131072 < a6.size ∨ 131072 < s.size) :
    Calls Try.prog 4 #[.bool a0, .string a1, .string a2, .bool a3, .string a4, .bool a5, .string a6, .string s] w fun e w' => e = .returned (.bool true) ∧ Below w.heap.size w w' := by
  go_enter Try.func4, Try.ntmps4
  go_wp2_with (go_at_call 10; refine (zz10 _ _ _ _ _ _ _ _ _).mono ?_; rintro e w1 ⟨bo, rfl, hw1⟩; rw [hw1]; cases bo)
  all_goals first | (go_ret; exact ⟨rfl, Below.refl _ _⟩) | (exfalso; omega)

/-- the text's forms -/
theorem empty_of {s : ByteArray} (h : s.size = 0) : s.toList.isEmpty = true := by
  rw [Lib.toList_data]
  have := Lib.size_eq s
  rw [h] at this
  rw [List.length_eq_zero_iff.1 this.symm]; rfl
theorem nonempty_size {s : ByteArray} (h : 0 < s.size) : s.toList.isEmpty = false := nonempty_of (by
  have := Lib.size_eq s
  intro e
  rw [e] at this
  simp only [List.length_nil] at this
  omega)
theorem hier_pre {s : ByteArray} (h : Lib.hasPrefix s.data.toList [47] = false) : Lib.hasPrefix s.data.toList [47, 47] = false := by
  cases hh : Lib.hasPrefix s.data.toList [47, 47] with
  | false => rfl
  | true =>
    obtain ⟨h0, _, hx, _⟩ := hier_t hh
    rcases pre1_f h with hz | ⟨_, hx'⟩
    · omega
    · exact absurd hx hx'

theorem law4_any (a0 : Bool) (a1 a2 : ByteArray) (a3 : Bool) (a4 : ByteArray) (a5 : Bool) (a6 s : ByteArray) (w : World) :
    Calls Try.prog 4 #[.bool a0, .string a1, .string a2, .bool a3, .string a4, .bool a5, .string a6, .string s] w fun e w' => e = .returned (.bool true) ∧ Below w.heap.size w w' := by
  by_cases hb : 131072 < a1.size ∨ 131072 < a2.size ∨ 131072 < a4.size ∨ 131072 < a6.size ∨ 131072 < s.size
  · exact law_big a0 a1 a2 a3 a4 a5 a6 s w hb
  have h1 : a1.size ≤ 131072 := by omega
  have h2 : a2.size ≤ 131072 := by omega
  have h4 : a4.size ≤ 131072 := by omega
  have h6 : a6.size ≤ 131072 := by omega
  have h7 : s.size ≤ 131072 := by omega
  have hU : ∀ w, Calls Try.prog 23 #[.string s] w fun e w' => e = .returned (.bool (decide (0 < schE s.data.toList))) ∧ ∃ n, w' = w.drewN n := fun w => uri_any s w (by omega)
  have key : schE s.data.toList = -1 ∨ ∃ k : Nat, 0 < k ∧ k < s.size ∧ schE s.data.toList = k ∧ ∀ w, Calls Try.prog 28 #[.string s, .string ⟨#[58]⟩] w fun e w' => e = .returned (.tuple #[.string (s.extract 0 k), .string (s.extract (k + 1) s.size), .bool true]) ∧ ∃ n, w' = w.drewN n := by
    rcases cut_two 58 s (by omega) with ⟨m, h, rfl, _⟩ | ⟨p, r, e1, e2, e3, e4, e5, e6⟩
    · left
      have := schE_none (p := m.data.toList) (t := []) h (Or.inl rfl)
      rwa [List.append_nil] at this
    · have hs := schE_colon (p := p.data.toList) (t := r.data.toList) e2
      rw [← e1] at hs
      by_cases hc : okFrom p.data.toList 0 = true ∧ p.data.toList ≠ []
      · right
        rw [if_pos hc] at hs
        have hp : 0 < p.data.toList.length := List.length_pos_iff.2 hc.2
        have hps := Lib.size_eq p
        refine ⟨p.size, by omega, e5, by rw [hs, hps], ?_⟩
        rw [← e3, ← e4]; exact e6
      · left; rw [hs, if_neg hc]
  rcases key with hS | ⟨k, hk0, hk, hS, hC⟩
  · rw [hS] at hU
    have HU : Hid (∀ w, Calls Try.prog 23 #[.string s] w fun e w' => e = .returned (.bool false) ∧ ∃ n, w' = w.drewN n) := hU
    cases a0 with
    | true =>
      by_cases hz : s.size = 0
      · exact law_nil0 a1 a2 a3 a4 a5 a6 s w h1 h2 h4 h6 h7 (empty_of hz) hS HU
      · exact law_nil1 a1 a2 a3 a4 a5 a6 s w h1 h2 h4 h6 h7 (nonempty_size (by omega)) hS HU
    | false =>
      cases hp : Lib.hasPrefix s.data.toList [47] with
      | false =>
        rcases pre1_f hp with hz | ⟨h0, hx⟩
        · exact law_rel_a a1 a2 a3 a4 a5 a6 s w h1 h2 h4 h6 h7 hp (hier_pre hp) hz hS HU
        · exact law_rel_b a1 a2 a3 a4 a5 a6 s w h1 h2 h4 h6 h7 hp (hier_pre hp) h0 (b_f 47 hx) hS HU
      | true =>
        obtain ⟨h0, hx⟩ := pre1_t hp
        cases he : a1.toList.isEmpty with
        | true => exact law_path a1 a2 a3 a4 a5 a6 s w h1 h2 h4 h6 h7 he h0 (b_t 47 hx) hp hS HU
        | false =>
          cases hp2 : Lib.hasPrefix s.data.toList [47, 47] with
          | true =>
            obtain ⟨_, h01, _, hx1⟩ := hier_t hp2
            exact law_two a1 a2 a3 a4 a5 a6 s w h1 h2 h4 h6 h7 he h0 (b_t 47 hx) h01 (b_t 47 hx1) hp2 hS HU
          | false =>
            rcases hier_f hp2 with hz | ⟨_, h01, hn | ⟨_, hn⟩⟩
            · exact law_one_a a1 a2 a3 a4 a5 a6 s w h1 h2 h4 h6 h7 he h0 (b_t 47 hx) hp hp2 hz hS HU
            · exact absurd hx hn
            · exact law_one_b a1 a2 a3 a4 a5 a6 s w h1 h2 h4 h6 h7 he h0 (b_t 47 hx) hp hp2 h01 (b_f 47 hn) hS HU
  · rw [hS] at hU
    have hd : decide (0 < (k : Int)) = true := decide_eq_true (by omega)
    rw [hd] at hU
    exact law_uri a0 a1 a2 a3 a4 a5 a6 s w k h1 h2 h4 h6 h7 hk hk0 hS hC hU
end Go.Proofs.Qxb6602852a
