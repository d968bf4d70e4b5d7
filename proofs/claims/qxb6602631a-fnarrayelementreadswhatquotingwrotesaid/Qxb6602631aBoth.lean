import Derived.Test.Qxb6602631aModel
namespace Go.Proofs.Qxb6602631a
open Go.RowKit

theorem fl_exists (x : List (UInt8 × Bool)) : ∀ n, n ≤ x.length → AllB (x.take n) (x.take n).length ∨ ∃ f l, FL (x.take n) f l
  | 0, _ => Or.inl (by simp; exact AllB.zero _)
  | n + 1, h => by
    have e : x.take (n + 1) = x.take n ++ [x[n]'(by omega)] := List.take_succ_eq_append_getElem (by omega)
    rw [e]
    rcases fl_exists x n (by omega) with ha | ⟨f, l, hf⟩
    · cases hb : blank (x[n]'(by omega)) with
      | true => exact Or.inl (allB_snoc ha hb)
      | false => exact Or.inr ⟨_, _, FL.first ha hb⟩
    · cases hb : blank (x[n]'(by omega)) with
      | true => exact Or.inr ⟨_, _, hf.white hb⟩
      | false => exact Or.inr ⟨_, _, hf.sig hb⟩
theorem trim_exists (x : List (UInt8 × Bool)) : ∃ f l, Trim x f l := by
  rcases fl_exists x x.length (Nat.le_refl _) with h | ⟨f, l, h⟩
  · rw [List.take_of_length_le (Nat.le_refl _)] at h
    exact ⟨_, _, trim_blank h⟩
  · rw [List.take_of_length_le (Nat.le_refl _)] at h
    exact ⟨_, _, h.trim⟩

/-- one answer -/
theorem ans_one (s : ByteArray) : ∃ (t r : ByteArray) (sp ok : Bool), ∀ e, Ans s e → e = .returned (.tuple #[.string t, .bool sp, .string r, .bool ok]) := by
  cases h : rd s.data.toList false with
  | none =>
    refine ⟨⟨#[]⟩, ⟨#[]⟩, false, false, fun e he => ?_⟩
    unfold Ans at he
    rw [h] at he
    exact he
  | some y =>
    obtain ⟨f, l, ht⟩ := trim_exists y.1
    refine ⟨⟨(span y.1 f l).toArray⟩, ⟨y.2.2.toArray⟩, y.2.1, true, fun e he => ?_⟩
    unfold Ans at he
    rw [h] at he
    obtain ⟨f', l', ht', rfl⟩ := he
    obtain ⟨rfl, rfl⟩ := ht.uniq ht'
    rfl

theorem both (s : ByteArray) (hs : s.size ≤ 1048576) : ∃ (t r : ByteArray) (sp ok : Bool),
    (∀ w, Calls Try.prog 14 #[.string s] w fun e w' => e = .returned (.tuple #[.string t, .bool sp, .string r, .bool ok]) ∧ Below w.heap.size w w') ∧
    (∀ w, Calls Try.prog 8 #[.string s] w fun e w' => e = .returned (.tuple #[.string t, .bool sp, .string r, .bool ok]) ∧ Below w.heap.size w w') := by
  obtain ⟨t, r, sp, ok, h⟩ := ans_one s
  exact ⟨t, r, sp, ok, fun w => (elem14 s w hs).mono fun e w' ⟨he, hb⟩ => ⟨h e he, hb⟩, fun w => (model8 s w hs).mono fun e w' ⟨he, hb⟩ => ⟨h e he, hb⟩⟩

set_option maxHeartbeats 400000 in
/-- the shim: four results handed on -/
theorem zz7 (s t r : ByteArray) (sp ok : Bool) (H : Hid (∀ w, Calls Try.prog 14 #[.string s] w fun e w' => e = .returned (.tuple #[.string t, .bool sp, .string r, .bool ok]) ∧ Below w.heap.size w w')) (w : World) :
    Calls Try.prog 7 #[.string s] w fun e w' => e = .returned (.tuple #[.string t, .bool sp, .string r, .bool ok]) ∧ Below w.heap.size w w' := by
  go_enter Try.func7, Try.ntmps7
  go_wp2_with (go_at_call 14; refine (H.out _).mono ?_; rintro e w1 ⟨rfl, hb⟩)
  refine bodyPost_ret (results4 rfl _ _ _) rfl ?_
  exact ⟨rfl, by assumption⟩
end Go.Proofs.Qxb6602631a
