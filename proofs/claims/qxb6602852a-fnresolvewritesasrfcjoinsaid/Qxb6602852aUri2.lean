import Derived.Test.Qxb6602852aUri
namespace Go.Proofs.Qxb6602852a
open Go.RowKit

set_option maxRecDepth 1000000 in
set_option maxHeartbeats 1000000 in
theorem uri23_no (s F p r1 r2 : ByteArray) (m1 m2 : Bool) (w : World) (h : m2 = false ∨ p.toList.isEmpty = true)
    (H1 : Hid (∀ w, Calls Try.prog 28 #[.string s, .string ⟨#[47]⟩] w fun e w' => e = .returned (.tuple #[.string F, .string r1, .bool m1]) ∧ ∃ n, w' = w.drewN n))
    (H2 : Hid (∀ w, Calls Try.prog 28 #[.string F, .string ⟨#[58]⟩] w fun e w' => e = .returned (.tuple #[.string p, .string r2, .bool m2]) ∧ ∃ n, w' = w.drewN n)) :
    Calls Try.prog 23 #[.string s] w fun e w' => e = .returned (.bool false) ∧ ∃ n, w' = w.drewN n := by
  cases m2 with
  | false =>
    clear h
    go_enter Try.func23, Try.ntmps23
    go_wp2_with fail
    refine (H1.out _).mono ?_
    rintro e w1 ⟨rfl, n1, rfl⟩
    go_wp2_with fail
    refine (H2.out _).mono ?_
    rintro e w2 ⟨rfl, n2, rfl⟩
    go_wp2
    go_ret
    exact ⟨rfl, _, rfl⟩
  | true =>
    have he : p.toList.isEmpty = true := by simpa using h
    clear h
    go_enter Try.func23, Try.ntmps23
    go_wp2_with fail
    refine (H1.out _).mono ?_
    rintro e w1 ⟨rfl, n1, rfl⟩
    go_wp2_with fail
    refine (H2.out _).mono ?_
    rintro e w2 ⟨rfl, n2, rfl⟩
    go_wp2
    go_ret
    exact ⟨rfl, _, rfl⟩

/-- strings.Cut at one byte, in one word -/
theorem cut_two (c : UInt8) (s : ByteArray) (hs : s.size ≤ 1048576) :
    (∃ m : ByteArray, (∀ b ∈ s.data.toList, b ≠ c) ∧ m = s ∧ ∀ w, Calls Try.prog 28 #[.string s, .string ⟨#[c]⟩] w fun e w' => e = .returned (.tuple #[.string m, .string ⟨#[]⟩, .bool false]) ∧ ∃ n, w' = w.drewN n) ∨
    (∃ p r : ByteArray, s.data.toList = p.data.toList ++ c :: r.data.toList ∧ (∀ b ∈ p.data.toList, b ≠ c) ∧ p = s.extract 0 p.size ∧ r = s.extract (p.size + 1) s.size ∧ p.size < s.size ∧ ∀ w, Calls Try.prog 28 #[.string s, .string ⟨#[c]⟩] w fun e w' => e = .returned (.tuple #[.string p, .string r, .bool true]) ∧ ∃ n, w' = w.drewN n) := by
  rcases indexByte_parts c s.data.toList with ⟨h1, h2⟩ | ⟨k, h1, h2, h3, h4⟩
  · left
    refine ⟨s, h2, rfl, fun w => ?_⟩
    refine (cut28_miss s c w h1).mono ?_
    rintro e w' ⟨rfl, rfl⟩
    exact ⟨rfl, 0, rfl⟩
  · right
    have hk : k < s.size := by rw [Lib.size_eq]; exact h2
    have e1 : (s.extract 0 k).data.toList = s.data.toList.take k := by rw [Lib.extract_data]; simp
    have e2 : (s.extract (k + 1) s.size).data.toList = s.data.toList.drop (k + 1) := Lib.extract_to_end s (k + 1)
    have es : (s.extract 0 k).size = k := by simp; omega
    refine ⟨s.extract 0 k, s.extract (k + 1) s.size, ?_, by rw [e1]; exact h3, by rw [es], by rw [es], by rw [es]; exact hk, fun w => cut28_hit s c w k hs h1 hk⟩
    rw [e1, e2, ← h4, List.take_append_drop]

theorem nonempty_of {p : ByteArray} (h : p.data.toList ≠ []) : p.toList.isEmpty = false := by
  rw [Lib.toList_data]
  cases h' : p.data.toList with
  | nil => exact absurd h' h
  | cons _ _ => rfl

theorem uri_any (s : ByteArray) (w : World) (hs : s.size ≤ 1048576) :
    Calls Try.prog 23 #[.string s] w fun e w' => e = .returned (.bool (decide (0 < schE s.data.toList))) ∧ ∃ n, w' = w.drewN n := by
  -- the first segment
  obtain ⟨F, r1, m1, tl, hF, hn47, htl, hFs, H1⟩ : ∃ (F r1 : ByteArray) (m1 : Bool) (tl : List UInt8), s.data.toList = F.data.toList ++ tl ∧ (∀ b ∈ F.data.toList, b ≠ 47) ∧ (tl = [] ∨ ∃ u, tl = 47 :: u) ∧ F.size ≤ s.size ∧
      ∀ w, Calls Try.prog 28 #[.string s, .string ⟨#[47]⟩] w fun e w' => e = .returned (.tuple #[.string F, .string r1, .bool m1]) ∧ ∃ n, w' = w.drewN n := by
    rcases cut_two 47 s hs with ⟨m, h1, rfl, h2⟩ | ⟨p, r, h1, h2, _, _, h3, h4⟩
    · exact ⟨m, _, _, [], by simp, h1, Or.inl rfl, Nat.le_refl _, h2⟩
    · exact ⟨p, r, true, 47 :: r.data.toList, h1, h2, Or.inr ⟨_, rfl⟩, by omega, h4⟩
  rcases cut_two 58 F (by omega) with ⟨m, h1, rfl, h2⟩ | ⟨p, r, h1, h2, _, _, h3, h4⟩
  · have e : schE s.data.toList = -1 := by rw [hF]; exact schE_none h1 htl
    rw [e]
    exact uri23_no s m m r1 ⟨#[]⟩ m1 false w (Or.inl rfl) H1 h2
  · have e : schE s.data.toList = if okFrom p.data.toList 0 = true ∧ p.data.toList ≠ [] then (p.data.toList.length : Int) else -1 := by
      rw [hF, h1, List.append_assoc, List.cons_append]
      exact schE_colon h2
    by_cases hp : p.data.toList = []
    · rw [e, if_neg (fun hh => hh.2 hp)]
      exact uri23_no s F p r1 r m1 true w (Or.inr (by rw [Lib.toList_data, hp]; rfl)) H1 h4
    · have hl : 0 < p.data.toList.length := List.length_pos_iff.2 hp
      have ed : decide (0 < schE s.data.toList) = okFrom p.data.toList 0 := by
        rw [e]
        cases ho : okFrom p.data.toList 0 with
        | true => rw [if_pos ⟨rfl, hp⟩]; exact decide_eq_true (by omega)
        | false => rw [if_neg (fun hh => by cases hh.1)]; rfl
      rw [ed]
      exact uri23 s F p r1 r m1 w (by omega) (nonempty_of hp) H1 h4
end Go.Proofs.Qxb6602852a
