/-
  THE PROOF OF 'Rows.FnIdentifierMatchesScannerSaid': the walk out of the contracts (Ident, Quoted, Model), the frame off the seat's shell (with 'Below' for 'Grown': the builder's String freezes a new block).
-/
import Derived.Test.Qxb6602366aRows
import Derived.Test.Qxb6602366aIdent
import Derived.WalkKit
import Derived.ProofKit
import Derived.OpenShut
import Derived.ShutString
namespace Go.Proofs.Qxb6602366a.fnIdentifierMatchesScanner
open Go.ChangeShapes Go.WideShapes Go.ChangeAt Go.RowKit
open Go.ChangeMaps (open_string shut_string)
set_option linter.unusedVariables false      -- a walk need not use every 'w<i>' (that an integer argument fits its kind)

theorem own : ownKnob Try.prog.godebug = none := by kernel_rfl

theorem both (s ends : ByteArray) (hs : s.size ≤ 1048576) (he : ends.size ≤ 1048576) (ha : ascii ends.data.toList = true) :
    ∃ N R : ByteArray, (∀ w, Calls Try.prog 22 #[.string s, .string ends] w fun e w' => e = .returned (.tuple #[.string N, .string R]) ∧ Below w.heap.size w w') ∧
      (∀ w, Calls Try.prog 17 #[.string s, .string ends] w fun e w' => e = .returned (.tuple #[.string N, .string R]) ∧ Below w.heap.size w w') := by
  by_cases hq : s.data.toList.head? = some 96
  · exact ⟨_, _, fun w => ident_quoted s ends (s.extract 1 s.size) w hs hq rfl, fun w => model_quoted s ends (s.extract 1 s.size) w hs hq rfl⟩
  · exact ⟨_, _, fun w => ident_plain s ends w hs he ha hq, fun w => model_plain s ends w hs he ha hq⟩

set_option maxHeartbeats 1000000 in
theorem walk (a0 : ByteArray) (a1 : ByteArray) (w0 : a0.size ≤ maxLen) (w1 : a1.size ≤ maxLen) (w : World) :
    Calls Try.prog 5 #[.string a0, .string a1] w fun e w' => e = .returned (.bool true) ∧ Below w.heap.size w w' := by
  unfold maxLen at w0 w1
  by_cases hl : okLen a0.size a1.size = true
  · by_cases h0 : a0.size ≤ 524288
    · by_cases h1 : a1.size ≤ 524288
      · cases ha : ascii a1.data.toList with
        | false =>
          go_enter Try.func5, Try.ntmps5
          go_wp2_with (first | (go_at_call 14; refine (bytes14 a0 a1 _ (by unfold maxLen; omega) (by unfold maxLen; omega)).mono ?_; rintro e w' ⟨rfl, hw⟩; rw [hw, hl]) | (go_at_call 15; refine (ascii15 a1 _ (by unfold maxLen; omega)).mono ?_; rintro e w' ⟨rfl, hw⟩; rw [hw, ha]))
          go_ret
          exact ⟨rfl, Below.refl _ _⟩
        | true =>
          obtain ⟨N, R, hi, hm⟩ := both a0 a1 (by omega) (by omega) ha
          have HI := Hid.mk' hi
          have HM := Hid.mk' hm
          clear hi hm
          go_enter Try.func5, Try.ntmps5
          go_wp2_with (first | (go_at_call 14; refine (bytes14 a0 a1 _ (by unfold maxLen; omega) (by unfold maxLen; omega)).mono ?_; rintro e w' ⟨rfl, hw⟩; rw [hw, hl]) | (go_at_call 15; refine (ascii15 a1 _ (by unfold maxLen; omega)).mono ?_; rintro e w' ⟨rfl, hw⟩; rw [hw, ha]) | (go_at_call 16; go_in) | (go_at_call 22; refine (HI.out _).mono ?_; rintro e w2 ⟨rfl, hb2⟩; have HB2 := Hid.mk' hb2; clear hb2) | (go_at_call 17; refine (HM.out _).mono ?_; rintro e w3 ⟨rfl, hb3⟩; have HB3 := Hid.mk' hb3; clear hb3))
          go_ret
          exact ⟨rfl, HB2.out.trans (HB3.out.mono HB2.out.size)⟩
      · go_enter Try.func5, Try.ntmps5
        go_wp2_with (go_at_call 14; refine (bytes14 a0 a1 _ (by unfold maxLen; omega) (by unfold maxLen; omega)).mono ?_; rintro e w' ⟨rfl, hw⟩; rw [hw, hl])
        go_ret
        exact ⟨rfl, Below.refl _ _⟩
    · go_enter Try.func5, Try.ntmps5
      go_wp2_with (go_at_call 14; refine (bytes14 a0 a1 _ (by unfold maxLen; omega) (by unfold maxLen; omega)).mono ?_; rintro e w' ⟨rfl, hw⟩; rw [hw, hl])
      go_ret
      exact ⟨rfl, Below.refl _ _⟩
  · have hl' : okLen a0.size a1.size = false := by simpa using hl
    clear hl
    go_enter Try.func5, Try.ntmps5
    go_wp2_with (go_at_call 14; refine (bytes14 a0 a1 _ (by unfold maxLen; omega) (by unfold maxLen; omega)).mono ?_; rintro e w' ⟨rfl, hw⟩; rw [hw, hl'])
    go_ret
    exact ⟨rfl, Below.refl _ _⟩

set_option maxRecDepth 100000 in
theorem lifted (os : Os) (started : os.Started) (H : Type) (enc : TypeId × Value → H) :
    ReturnsInHanded {} Try.checked os 5 .any (Rows.fnIdentifierMatchesScannerSpec.pre6 enc Try.prog Try.f5 Rows.fnIdentifierMatchesScannerRow.domain false) (Rows.fnIdentifierMatchesScannerSpec.post enc Try.prog Try.f5 false true false false) := by
  refine returnsInHanded_of_change (C := Try.checked) own started (by kernel_rfl) Try.func5
    (ChangeSpec.witness6 (enc := enc) (C := Try.checked) false ⟨#[], #[.string ByteArray.empty, .string ByteArray.empty], []⟩ 8 (by kernel_rfl) (by kernel_rfl) (by kernel_rfl) (by kernel_rfl)) ?_
  intro W base args ds gs before hval0 hW hcnd _
  have hval : ∀ (j : Nat) t v, Try.f5.params[j]? = some t → args[j]? = some v → Value.okWide Try.prog W .any base t v := hval0
  have hW' := hW
  obtain ⟨p, q, hA0, hV, rfl, hfz, hnd⟩ := hW
  have hA : DataW.TrodAll enc Try.prog W 0 (fun _ => true) true Try.f5.params.toList args.toList ds p := hA0
  rw [Try.params5] at hA hval
  obtain ⟨v0, vs0, d0, ds0, p0, q0, hargs, rfl, rfl, h0, r0⟩ := trodAll_cons hA
  obtain ⟨v1, vs1, d1, ds1, p1, q1, rfl, rfl, rfl, h1, r1⟩ := trodAll_cons r0
  obtain ⟨rfl, rfl, rfl⟩ := trodAll_nil r1
  obtain rfl : args = #[v0, v1] := by cases args; simp_all
  obtain ⟨rfl, rfl⟩ := trodVars_none hV
  obtain ⟨a0, rfl, rfl, rfl, w0⟩ := open_string Try.underlying9 (hval 0 9 v0 rfl rfl) h0
  obtain ⟨a1, rfl, rfl, rfl, w1⟩ := open_string Try.underlying9 (hval 1 9 v1 rfl rfl) h1
  clear hA0 hval0
  simp only [List.append_nil] at hW'
  refine (walk a0 a1 w0 w1 W).mono fun e W' ⟨he, hg⟩ => ?_
  subst he
  exact ⟨_, rfl, _, _, _, [], [], [], hW', (trodAll_cons_mk (shut_bool Try.underlying4 _) trodAll_mk0), (trodAll_cons_mk (shut_string Try.underlying9 w0) (trodAll_cons_mk (shut_string Try.underlying9 w1) trodAll_mk0)), rfl, hg.frame _, fun h => by cases h⟩

theorem over : Rows.fnIdentifierMatchesScannerRow.holds Try.pinned (OpenSpec.ofChange Rows.fnIdentifierMatchesScannerSpec) :=
  OpenClaim.holds_of_wide 5 Try.f5 rfl rfl rfl rfl rfl rfl rfl ⟨rfl, rfl, rfl, rfl, rfl⟩ rfl rfl rfl rfl rfl (by kernel_rfl) Try.func5 (by kernel_rfl)
    (of_decide_eq_true (by kernel_rfl)) (by unfold Func.isWrapper; first | (rw [if_pos (by decide +kernel)]; kernel_rfl) | (rw [if_neg (by decide +kernel)]; exact ⟨rfl, rfl⟩))
    (fun os started H enc _ => lifted os started H enc)

theorem proved : Rows.FnIdentifierMatchesScannerSaid :=
  over
end Go.Proofs.Qxb6602366a.fnIdentifierMatchesScanner
