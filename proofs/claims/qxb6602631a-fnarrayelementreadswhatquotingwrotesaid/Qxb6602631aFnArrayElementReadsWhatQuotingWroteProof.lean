/-
  THE PROOF OF 'Rows.FnArrayElementReadsWhatQuotingWroteSaid': the walk out of the contracts, the frame off the seat's shell.
-/
import Derived.Test.Qxb6602631aRows
import Derived.Test.Qxb6602631aQuote2
import Derived.WalkKit
import Derived.ProofKit
import Derived.OpenShut
import Derived.ShutString
namespace Go.Proofs.Qxb6602631a.fnArrayElementReadsWhatQuotingWrote
open Go.ChangeShapes Go.WideShapes Go.ChangeAt Go.RowKit
open Go.ChangeMaps (open_string shut_string)
set_option linter.unusedVariables false      -- a walk need not use every 'w<i>' (that an integer argument fits its kind)

theorem own : ownKnob Try.prog.godebug = none := by kernel_rfl

theorem data_app (a b : ByteArray) : (a ++ b).data.toList = a.data.toList ++ b.data.toList := by simp
theorem comma_tail (tail : ByteArray) : (⟨(44 :: tail.data.toList).toArray⟩ : ByteArray) = ⟨#[44]⟩ ++ tail :=
  (mk_eq (s := (⟨#[44]⟩ ++ tail : ByteArray)) (by rw [data_app]; rfl)).symm

/-- the two answers at what the quoting wrote -/
theorem at_brace (t tail Q s : ByteArray) (ht : t.size ≤ 65536) (hl : tail.size ≤ 65536) (hs : s = Q ++ ⟨#[44]⟩ ++ tail) (HQ : Hid (Q = ⟨(34 :: (esc t.data.toList ++ [34])).toArray⟩)) (hb : braceB t.data.toList = true) :
    ∀ w, Calls Try.prog 14 #[.string s] w fun e w' => e = .returned (.tuple #[.string ⟨#[]⟩, .bool false, .string ⟨#[]⟩, .bool false]) ∧ Below w.heap.size w w' := by
  have hqs : Q.size ≤ 131074 := by
    have := esc_le t.data.toList
    rw [← Lib.size_eq] at this
    rw [HQ.out, Lib.size_eq]; simp; omega
  intro w
  have h1 : (⟨#[44]⟩ : ByteArray).size = 1 := rfl
  have hsz : s.size ≤ 1048576 := by rw [hs, ByteArray.size_append, ByteArray.size_append, h1]; omega
  have hdt : s.data.toList = quoted t.data.toList tail.data.toList := by rw [hs, data_app, data_app, HQ.out]; simp [quoted]
  have := elem_quoted s t tail hsz hdt w
  rw [if_pos hb] at this
  exact this
theorem at_plain (t tail Q s : ByteArray) (ht : t.size ≤ 65536) (hl : tail.size ≤ 65536) (hs : s = Q ++ ⟨#[44]⟩ ++ tail) (HQ : Hid (Q = ⟨(34 :: (esc t.data.toList ++ [34])).toArray⟩)) (hb : braceB t.data.toList = false) :
    ∀ w, Calls Try.prog 14 #[.string s] w fun e w' => e = .returned (.tuple #[.string t, .bool true, .string (⟨#[44]⟩ ++ tail), .bool true]) ∧ Below w.heap.size w w' := by
  have hqs : Q.size ≤ 131074 := by
    have := esc_le t.data.toList
    rw [← Lib.size_eq] at this
    rw [HQ.out, Lib.size_eq]; simp; omega
  intro w
  have h1 : (⟨#[44]⟩ : ByteArray).size = 1 := rfl
  have hsz : s.size ≤ 1048576 := by rw [hs, ByteArray.size_append, ByteArray.size_append, h1]; omega
  have hdt : s.data.toList = quoted t.data.toList tail.data.toList := by rw [hs, data_app, data_app, HQ.out]; simp [quoted]
  have := elem_quoted s t tail hsz hdt w
  rw [if_neg (by rw [hb]; decide), comma_tail] at this
  exact this

set_option maxRecDepth 1000000 in
set_option maxHeartbeats 1000000 in
theorem walk (a0 : ByteArray) (a1 : ByteArray) (w0 : a0.size ≤ maxLen) (w1 : a1.size ≤ maxLen) (w : World) :
    Calls Try.prog 4 #[.string a0, .string a1] w fun e w' => e = .returned (.bool true) ∧ Below w.heap.size w w' := by
  unfold maxLen at w0 w1
  by_cases hl : okLen (a0.size + a1.size) = true
  · by_cases h0 : a0.size ≤ 65536
    · by_cases h1 : a1.size ≤ 65536
      · obtain ⟨Q, hQ⟩ : ∃ Q : ByteArray, Q = ⟨(34 :: (esc a0.data.toList ++ [34])).toArray⟩ := ⟨_, rfl⟩
        have HQ := Hid.mk' hQ
        have hqs : Q.size ≤ 131074 := by
          have := esc_le a0.data.toList
          rw [← Lib.size_eq] at this
          rw [hQ, Lib.size_eq]; simp; omega
        clear hQ
        cases hb : braceB a0.data.toList with
        | true =>
          have HI := Hid.mk' (at_brace a0 a1 Q (Q ++ ⟨#[44]⟩ ++ a1) h0 h1 rfl HQ hb)
          go_enter Try.func4, Try.ntmps4
          go_wp2_with (first | (go_at_call 9; refine (bytes9 a0 a1 _ (by unfold maxLen; omega) (by unfold maxLen; omega)).mono ?_; rintro e w' ⟨rfl, hw⟩; rw [hw, hl]) | (go_at_call 10; refine (quote10 a0 _ h0).mono ?_; rintro e w2 ⟨rfl, hb2⟩; rw [← HQ.out]; have HB2 := Hid.mk' hb2; clear hb2) | (go_at_call 7; refine (zz7 _ _ _ _ _ HI _).mono ?_; rintro e w3 ⟨rfl, hb3⟩; have HB3 := Hid.mk' hb3; clear hb3) | (go_at_call 11; refine (brace11 a0 _ (by omega)).mono ?_; rintro e w4 ⟨rfl, hw4⟩; rw [hw4, hb]))
          go_ret
          exact ⟨rfl, HB2.out.trans (HB3.out.mono HB2.out.size)⟩
        | false =>
          have HI := Hid.mk' (at_plain a0 a1 Q (Q ++ ⟨#[44]⟩ ++ a1) h0 h1 rfl HQ hb)
          go_enter Try.func4, Try.ntmps4
          go_wp2_with (first | (go_at_call 9; refine (bytes9 a0 a1 _ (by unfold maxLen; omega) (by unfold maxLen; omega)).mono ?_; rintro e w' ⟨rfl, hw⟩; rw [hw, hl]) | (go_at_call 10; refine (quote10 a0 _ h0).mono ?_; rintro e w2 ⟨rfl, hb2⟩; rw [← HQ.out]; have HB2 := Hid.mk' hb2; clear hb2) | (go_at_call 7; refine (zz7 _ _ _ _ _ HI _).mono ?_; rintro e w3 ⟨rfl, hb3⟩; have HB3 := Hid.mk' hb3; clear hb3) | (go_at_call 11; refine (brace11 a0 _ (by omega)).mono ?_; rintro e w4 ⟨rfl, hw4⟩; rw [hw4, hb]))
          go_ret
          exact ⟨rfl, HB2.out.trans (HB3.out.mono HB2.out.size)⟩
      · go_enter Try.func4, Try.ntmps4
        go_wp2_with (go_at_call 9; refine (bytes9 a0 a1 _ (by unfold maxLen; omega) (by unfold maxLen; omega)).mono ?_; rintro e w' ⟨rfl, hw⟩; rw [hw, hl])
        go_ret
        exact ⟨rfl, Below.refl _ _⟩
    · go_enter Try.func4, Try.ntmps4
      go_wp2_with (go_at_call 9; refine (bytes9 a0 a1 _ (by unfold maxLen; omega) (by unfold maxLen; omega)).mono ?_; rintro e w' ⟨rfl, hw⟩; rw [hw, hl])
      go_ret
      exact ⟨rfl, Below.refl _ _⟩
  · have hl' : okLen (a0.size + a1.size) = false := by simpa using hl
    clear hl
    go_enter Try.func4, Try.ntmps4
    go_wp2_with (go_at_call 9; refine (bytes9 a0 a1 _ (by unfold maxLen; omega) (by unfold maxLen; omega)).mono ?_; rintro e w' ⟨rfl, hw⟩; rw [hw, hl'])
    go_ret
    exact ⟨rfl, Below.refl _ _⟩

set_option maxRecDepth 100000 in
theorem lifted (os : Os) (started : os.Started) (H : Type) (enc : TypeId × Value → H) :
    ReturnsInHanded {} Try.checked os 4 .any (Rows.fnArrayElementReadsWhatQuotingWroteSpec.pre6 enc Try.prog Try.f4 Rows.fnArrayElementReadsWhatQuotingWroteRow.domain false) (Rows.fnArrayElementReadsWhatQuotingWroteSpec.post enc Try.prog Try.f4 false true false false) := by
  refine returnsInHanded_of_change (C := Try.checked) own started (by kernel_rfl) Try.func4
    (ChangeSpec.witness6 (enc := enc) (C := Try.checked) false ⟨#[], #[.string ByteArray.empty, .string ByteArray.empty], []⟩ 8 (by kernel_rfl) (by kernel_rfl) (by kernel_rfl) (by kernel_rfl)) ?_
  intro W base args ds gs before hval0 hW hcnd _
  have hval : ∀ (j : Nat) t v, Try.f4.params[j]? = some t → args[j]? = some v → Value.okWide Try.prog W .any base t v := hval0
  have hW' := hW
  obtain ⟨p, q, hA0, hV, rfl, hfz, hnd⟩ := hW
  have hA : DataW.TrodAll enc Try.prog W 0 (fun _ => true) true Try.f4.params.toList args.toList ds p := hA0
  rw [Try.params4] at hA hval
  obtain ⟨v0, vs0, d0, ds0, p0, q0, hargs, rfl, rfl, h0, r0⟩ := trodAll_cons hA
  obtain ⟨v1, vs1, d1, ds1, p1, q1, rfl, rfl, rfl, h1, r1⟩ := trodAll_cons r0
  obtain ⟨rfl, rfl, rfl⟩ := trodAll_nil r1
  obtain rfl : args = #[v0, v1] := by cases args; simp_all
  obtain ⟨rfl, rfl⟩ := trodVars_none hV
  obtain ⟨a0, rfl, rfl, rfl, w0⟩ := open_string Try.underlying9 (hval 0 9 v0 rfl rfl) h0
  obtain ⟨a1, rfl, rfl, rfl, w1⟩ := open_string Try.underlying9 (hval 1 9 v1 rfl rfl) h1
  clear hA0 hval0
  simp only [List.append_nil] at hW'
  refine (walk a0 a1 w0 w1 W).mono fun e W' ⟨he, hg⟩ => ?_
  subst he
  exact ⟨_, rfl, _, _, _, [], [], [], hW', (trodAll_cons_mk (shut_bool Try.underlying4 _) trodAll_mk0), (trodAll_cons_mk (shut_string Try.underlying9 w0) (trodAll_cons_mk (shut_string Try.underlying9 w1) trodAll_mk0)), rfl, hg.frame _, fun h => by cases h⟩

theorem over : Rows.fnArrayElementReadsWhatQuotingWroteRow.holds Try.pinned (OpenSpec.ofChange Rows.fnArrayElementReadsWhatQuotingWroteSpec) :=
  OpenClaim.holds_of_wide 4 Try.f4 rfl rfl rfl rfl rfl rfl rfl ⟨rfl, rfl, rfl, rfl, rfl⟩ rfl rfl rfl rfl rfl (by kernel_rfl) Try.func4 (by kernel_rfl)
    (of_decide_eq_true (by kernel_rfl)) (by unfold Func.isWrapper; first | (rw [if_pos (by decide +kernel)]; kernel_rfl) | (rw [if_neg (by decide +kernel)]; exact ⟨rfl, rfl⟩))
    (fun os started H enc _ => lifted os started H enc)

theorem proved : Rows.FnArrayElementReadsWhatQuotingWroteSaid :=
  over
end Go.Proofs.Qxb6602631a.fnArrayElementReadsWhatQuotingWrote
