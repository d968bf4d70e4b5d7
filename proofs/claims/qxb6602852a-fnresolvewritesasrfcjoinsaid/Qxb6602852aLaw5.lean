import Derived.Test.Qxb6602852aJoin
import Derived.Test.Qxb6602852aText
import Derived.Test.Qxb6602852aLaw4d
namespace Go.Proofs.Qxb6602852a
open Go.RowKit

/-- what law 5 asks of the directory's pointer: its text, the resolved pointer's, and joinedText's -/
def Asked (a0 : Bool) (a1 a2 : ByteArray) (a3 : Bool) (s : ByteArray) (v : Option Addr) (w1 : World) : Prop := ∃ dt T : ByteArray,
  (Calls Try.prog 7 #[.pointer v] w1 fun e w' => e = .returned (.string dt) ∧ Below w1.heap.size w1 w') ∧
  (∀ w2, Below w1.heap.size w1 w2 → Calls Try.prog 12 #[.pointer v, .string s] w2 fun e w3 => ∃ u, e = .returned (.pointer u) ∧ Below w2.heap.size w2 w3 ∧ Calls Try.prog 7 #[.pointer u] w3 fun e w4 => e = .returned (.string T) ∧ Below w3.heap.size w3 w4) ∧
  ∀ w4, Calls Try.prog 17 #[.bool a0, .string a1, .string a2, .bool a3, .string dt, .string s] w4 fun e w' => e = .returned (.string T) ∧ w' = w4

set_option maxRecDepth 1000000 in
set_option maxHeartbeats 2000000 in
theorem law5_walk (a0 : Bool) (a1 a2 : ByteArray) (a3 : Bool) (a4 : ByteArray) (a5 : Bool) (a6 s : ByteArray) (w : World)
    (h1 : a1.size ≤ 131072) (h2 : a2.size ≤ 131072) (h4 : a4.size ≤ 131072) (h6 : a6.size ≤ 131072) (h7 : s.size ≤ 131072)
    (H : Hid (∀ v w1, Dir w a0 a1 a2 a3 a4 a5 a6 v w1 → Asked a0 a1 a2 a3 s v w1)) :
    Calls Try.prog 5 #[.bool a0, .string a1, .string a2, .bool a3, .string a4, .bool a5, .string a6, .string s] w fun e w' => e = .returned (.bool true) ∧ Below w.heap.size w w' := by
  go_enter Try.func5, Try.ntmps5
  go_wp2_with (go_at_call 16; refine (zz16 _ _ _ _ _ _ _ _ _).mono ?_; rintro e w1 ⟨bo, rfl, hw1⟩; rw [hw1]; cases bo)
  · go_ret
    exact ⟨rfl, Below.refl _ _⟩
  refine (dir_any _ _ _ _ _ _ _ _).mono ?_
  rintro e w1 ⟨d, rfl, hd⟩
  obtain ⟨dt, T, hA, hB, hC⟩ := H.out d w1 hd
  have HD : Hid (Below w.heap.size w w1) := hd.1
  have HA := Hid.mk' hA
  have HB := Hid.mk' hB
  have HC := Hid.mk' hC
  clear hd hA hB hC
  go_wp2_with fail
  refine HA.out.mono ?_
  rintro e w2 ⟨rfl, hb2⟩
  have HB2 : Hid (Below w1.heap.size w1 w2) := hb2
  clear hb2
  go_wp2_with fail
  refine (HB.out w2 HB2.out).mono ?_
  rintro e w3 ⟨u, rfl, hb3, hu⟩
  have HB3 : Hid (Below w2.heap.size w2 w3) := hb3
  have HU := Hid.mk' hu
  clear hb3 hu
  go_wp2_with fail
  refine HU.out.mono ?_
  rintro e w4 ⟨rfl, hb4⟩
  have HB4 : Hid (Below w3.heap.size w3 w4) := hb4
  clear hb4
  go_wp2_with fail
  refine (HC.out w4).mono ?_
  rintro e w5 ⟨rfl, hw5⟩
  rw [hw5]
  clear hw5
  go_wp2
  go_ret
  have e1 := HD.out.trans (HB2.out.mono HD.out.size)
  have e2 := e1.trans (HB3.out.mono e1.size)
  exact ⟨rfl, e2.trans (HB4.out.mono e2.size)⟩

set_option maxRecDepth 1000000 in
set_option maxHeartbeats 2000000 in
theorem law5_big (a0 : Bool) (a1 a2 : ByteArray) (a3 : Bool) (a4 : ByteArray) (a5 : Bool) (a6 s : ByteArray) (w : World)
    (hb : 131072 < a1.size ∨ 131072 < a2.size ∨ 131072 < a4.size ∨ 131072 < a6.size ∨ 131072 < s.size) :
    Calls Try.prog 5 #[.bool a0, .string a1, .string a2, .bool a3, .string a4, .bool a5, .string a6, .string s] w fun e w' => e = .returned (.bool true) ∧ Below w.heap.size w w' := by
  go_enter Try.func5, Try.ntmps5
  go_wp2_with (go_at_call 16; refine (zz16 _ _ _ _ _ _ _ _ _).mono ?_; rintro e w1 ⟨bo, rfl, hw1⟩; rw [hw1]; cases bo)
  all_goals first | (go_ret; exact ⟨rfl, Below.refl _ _⟩) | (exfalso; omega)
end Go.Proofs.Qxb6602852a
