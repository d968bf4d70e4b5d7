import Derived.Test.Qxb6602852aRes
namespace Go.Proofs.Qxb6602852a
open Go.RowKit

/-- a fresh node's cells, and that they may be written -/
structure Fresh (w : World) (b : Nat) (v0 v1 v2 v3 v4 : Value) : Prop where
  c0 : w.cell? ⟨b, 0, none⟩ = some v0
  c1 : w.cell? ⟨b, 1, none⟩ = some v1
  c2 : w.cell? ⟨b, 2, none⟩ = some v2
  c3 : w.cell? ⟨b, 3, none⟩ = some v3
  c4 : w.cell? ⟨b, 4, none⟩ = some v4
  f0 : w.frozen? ⟨b, 0, none⟩ = false
  f1 : w.frozen? ⟨b, 1, none⟩ = false
  f2 : w.frozen? ⟨b, 2, none⟩ = false
  f3 : w.frozen? ⟨b, 3, none⟩ = false
  lt : b < w.heap.size
theorem Fresh.new (w : World) (n b : Nat) (hb : b = w.heap.size) (v0 v1 v2 v3 v4 : Value) : Fresh ((w.alloc (.cells #[v0, v1, v2, v3, v4] 40)).drewN n) b v0 v1 v2 v3 v4 := by
  subst hb
  have hB := below_drewN (Below.refl (w.heap.size + 1) (w.alloc (.cells #[v0, v1, v2, v3, v4] 40))) n
  refine ⟨?_, ?_, ?_, ?_, ?_, ?_, ?_, ?_, ?_, ?_⟩
  · rw [hB.cell (by simp)]; simp
  · rw [hB.cell (by simp)]; simp
  · rw [hB.cell (by simp)]; simp
  · rw [hB.cell (by simp)]; simp
  · rw [hB.cell (by simp)]; simp
  · rw [hB.frozen (by simp)]; simp
  · rw [hB.frozen (by simp)]; simp
  · rw [hB.frozen (by simp)]; simp
  · rw [hB.frozen (by simp)]; simp
  · have h2 : (w.alloc (.cells #[v0, v1, v2, v3, v4] 40)).heap.size = w.heap.size + 1 := by simp
    have := hB.size; rw [h2] at this; omega

theorem Fresh.set4 {w : World} {b : Nat} {v0 v1 v2 v3 : Value} {un : Option Addr} (h : Fresh w b v0 v1 v2 v3 (.pointer un)) (sc au : ByteArray) (ha : Bool) (pa : ByteArray) :
    Node ((((w.setCell ⟨b, 0, none⟩ (.string sc)).setCell ⟨b, 1, none⟩ (.string au)).setCell ⟨b, 2, none⟩ (.bool ha)).setCell ⟨b, 3, none⟩ (.string pa)) b sc au ha pa un := by
  have c0 := h.c0; have c1 := h.c1; have c2 := h.c2; have c3 := h.c3; have c4 := h.c4
  exact ⟨by simp [World.cell?_setCell_other, World.cell?_setCell_same', *], by simp [World.cell?_setCell_other, World.cell?_setCell_same', *], by simp [World.cell?_setCell_other, World.cell?_setCell_same', *], by simp [World.cell?_setCell_other, World.cell?_setCell_same', *], by simp [World.cell?_setCell_other, *], by have := h.lt; simpa using this⟩
theorem Fresh.set3 {w : World} {b : Nat} {sc : ByteArray} {v1 v2 v3 : Value} {un : Option Addr} (h : Fresh w b (.string sc) v1 v2 v3 (.pointer un)) (au : ByteArray) (ha : Bool) (pa : ByteArray) :
    Node (((w.setCell ⟨b, 1, none⟩ (.string au)).setCell ⟨b, 2, none⟩ (.bool ha)).setCell ⟨b, 3, none⟩ (.string pa)) b sc au ha pa un := by
  have c0 := h.c0; have c1 := h.c1; have c2 := h.c2; have c3 := h.c3; have c4 := h.c4
  exact ⟨by simp [World.cell?_setCell_other, *], by simp [World.cell?_setCell_other, World.cell?_setCell_same', *], by simp [World.cell?_setCell_other, World.cell?_setCell_same', *], by simp [World.cell?_setCell_other, World.cell?_setCell_same', *], by simp [World.cell?_setCell_other, *], by have := h.lt; simpa using this⟩

theorem Node.drew {w : World} {b sc au ha pa un} (h : Node w b sc au ha pa un) : Node w.drew b sc au ha pa un :=
  h.below (Below.refl w.heap.size w).drew h.lt

set_option maxRecDepth 1000000 in
set_option maxHeartbeats 1000000 in
theorem res_uri (dir : Option Addr) (s p r : ByteArray) (w : World) (hr : r.size ≤ 1048576)
    (H : Hid (∀ w, Calls Try.prog 28 #[.string s, .string ⟨#[58]⟩] w fun e w' => e = .returned (.tuple #[.string p, .string r, .bool true]) ∧ ∃ n, w' = w.drewN n))
    (HU : Hid (∀ w, Calls Try.prog 23 #[.string s] w fun e w' => e = .returned (.bool true) ∧ ∃ n, w' = w.drewN n)) :
    Calls Try.prog 19 #[.pointer dir, .string s] w fun e w' => ∃ b, e = .returned (.pointer (some ⟨b, 0, none⟩)) ∧ w.heap.size ≤ b ∧ Below w.heap.size w w' ∧ Node w' b p (hAuth r) (hierB r) (hPath r) none := by
  go_enter Try.func19, Try.ntmps19
  go_wp2_with fail
  refine (HU.out _).mono ?_
  rintro e w2 ⟨rfl, n1, hw2⟩
  have HW : Hid (w2 = w.drewN n1) := hw2
  clear hw2
  go_wp2_with fail
  refine (split24 s p r _ hr H).mono ?_
  rintro e w3 ⟨rfl, n2, hw3⟩
  have hf := Fresh.new w2 n2 _ rfl (.string ⟨#[]⟩) (.string ⟨#[]⟩) (.bool false) (.string ⟨#[]⟩) (.pointer none)
  rw [← hw3] at hf
  have HW3 : Hid (w3 = (w2.alloc (.cells #[.string ⟨#[]⟩, .string ⟨#[]⟩, .bool false, .string ⟨#[]⟩, .pointer none] 40)).drewN n2) := hw3
  obtain ⟨b, hb⟩ : ∃ b, w2.heap.size = b := ⟨_, rfl⟩
  rw [hb] at hf
  rw [hb]
  have HB : Hid (w2.heap.size = b) := hb
  have c0 := hf.c0; have c1 := hf.c1; have c2 := hf.c2; have c3 := hf.c3; have c4 := hf.c4; have f0 := hf.f0; have f1 := hf.f1; have f2 := hf.f2; have f3 := hf.f3
  have HF : Hid (Fresh w3 b (.string ⟨#[]⟩) (.string ⟨#[]⟩) (.bool false) (.string ⟨#[]⟩) (.pointer none)) := hf
  clear hf hw3 hb
  go_wp2
  go_ret
  have hle : w.heap.size ≤ b := by rw [← HB.out, HW.out]; exact Nat.le_refl _
  have hbel : Below w.heap.size w w3 := by
    rw [HW3.out, HW.out]
    exact below_drewN ((below_drewN (Below.refl _ _) _).alloc (Nat.le_refl _) _) _
  exact ⟨b, rfl, hle, (((hbel.setCell hle _).setCell hle _).setCell hle _).setCell hle _, HF.out.set4 _ _ _ _⟩

set_option maxRecDepth 1000000 in
set_option maxHeartbeats 1000000 in
theorem res_nil0 (s : ByteArray) (w : World) (he : s.toList.isEmpty = true)
    (HU : Hid (∀ w, Calls Try.prog 23 #[.string s] w fun e w' => e = .returned (.bool false) ∧ ∃ n, w' = w.drewN n)) :
    Calls Try.prog 19 #[.pointer none, .string s] w fun e w' => e = .returned (.pointer none) ∧ Below w.heap.size w w' := by
  go_enter Try.func19, Try.ntmps19
  go_wp2_with fail
  refine (HU.out _).mono ?_
  rintro e w2 ⟨rfl, n1, rfl⟩
  go_wp2
  go_ret
  exact ⟨rfl, below_drewN (Below.refl _ _) _⟩
set_option maxRecDepth 1000000 in
set_option maxHeartbeats 1000000 in
theorem res_nil1 (s : ByteArray) (w : World) (he : s.toList.isEmpty = false)
    (HU : Hid (∀ w, Calls Try.prog 23 #[.string s] w fun e w' => e = .returned (.bool false) ∧ ∃ n, w' = w.drewN n)) :
    Calls Try.prog 19 #[.pointer none, .string s] w fun e w' => ∃ b, e = .returned (.pointer (some ⟨b, 0, none⟩)) ∧ w.heap.size ≤ b ∧ Below w.heap.size w w' ∧ Node w' b ⟨#[]⟩ ⟨#[]⟩ false s none := by
  go_enter Try.func19, Try.ntmps19
  go_wp2_with fail
  refine (HU.out _).mono ?_
  rintro e w2 ⟨rfl, n1, hw2⟩
  have HW : Hid (w2 = w.drewN n1) := hw2
  clear hw2
  go_wp2
  go_ret
  refine ⟨_, rfl, by rw [HW.out]; exact Nat.le_refl _, ?_, Node.new ..⟩
  rw [HW.out]; exact (below_drewN (Below.refl _ _) _).alloc (Nat.le_refl _) _

set_option maxRecDepth 1000000 in
set_option maxHeartbeats 1000000 in
theorem res_path (b : Nat) (sc au : ByteArray) (ha : Bool) (pa : ByteArray) (un : Option Addr) (s : ByteArray) (w : World) (hn : Node w b sc au ha pa un) (he : sc.toList.isEmpty = true) (HP : Hid (Lib.hasPrefix s.data.toList [47] = true))
    (HU : Hid (∀ w, Calls Try.prog 23 #[.string s] w fun e w' => e = .returned (.bool false) ∧ ∃ n, w' = w.drewN n)) :
    Calls Try.prog 19 #[.pointer (some ⟨b, 0, none⟩), .string s] w fun e w' => ∃ b, e = .returned (.pointer (some ⟨b, 0, none⟩)) ∧ w.heap.size ≤ b ∧ Below w.heap.size w w' ∧ Node w' b ⟨#[]⟩ ⟨#[]⟩ false s none := by
  have HN : Hid (Node w b sc au ha pa un) := hn
  clear hn
  go_enter Try.func19, Try.ntmps19
  go_wp2_with fail
  refine (HU.out _).mono ?_
  rintro e w2 ⟨rfl, n1, hw2⟩
  have hf := HN.out.drewN n1
  rw [← hw2] at hf
  have c0 := hf.c0
  have HW : Hid (w2 = w.drewN n1) := hw2
  clear hw2 hf
  go_wp2_with (go_at_call 25; refine (Try.strings_HasPrefix s _ _).mono ?_; rintro e w' ⟨rfl, hw⟩; rw [hw, HP.out])
  go_ret
  refine ⟨_, rfl, by rw [HW.out]; exact Nat.le_refl _, ?_, Node.new ..⟩
  rw [HW.out]; exact (below_drewN (Below.refl _ _) _).alloc (Nat.le_refl _) _

set_option maxRecDepth 1000000 in
set_option maxHeartbeats 1000000 in
theorem res_two (b0 : Nat) (sc au : ByteArray) (ha : Bool) (pa : ByteArray) (un : Option Addr) (s : ByteArray) (w : World) (hn : Node w b0 sc au ha pa un) (he : sc.toList.isEmpty = false) (hs : s.size ≤ 1048576) (HP : Hid (Lib.hasPrefix s.data.toList [47, 47] = true))
    (HU : Hid (∀ w, Calls Try.prog 23 #[.string s] w fun e w' => e = .returned (.bool false) ∧ ∃ n, w' = w.drewN n)) :
    Calls Try.prog 19 #[.pointer (some ⟨b0, 0, none⟩), .string s] w fun e w' => ∃ b, e = .returned (.pointer (some ⟨b, 0, none⟩)) ∧ w.heap.size ≤ b ∧ Below w.heap.size w w' ∧ Node w' b sc (hAuth s) (hierB s) (hPath s) none := by
  have HN : Hid (Node w b0 sc au ha pa un) := hn
  clear hn
  go_enter Try.func19, Try.ntmps19
  go_wp2_with fail
  refine (HU.out _).mono ?_
  rintro e w2 ⟨rfl, n1, hw2⟩
  have hf := HN.out.drewN n1
  rw [← hw2] at hf
  have c0 := hf.c0
  have HW : Hid (w2 = w.drewN n1) := hw2
  clear hw2 hf
  go_wp2_with (go_at_call 25; refine (Try.strings_HasPrefix s _ _).mono ?_; rintro e w' ⟨rfl, hw⟩; rw [hw, HP.out])
  refine (part26 s _ hs).mono ?_
  rintro e w3 ⟨rfl, n2, hw3⟩
  have hf := Fresh.new w2 n2 _ rfl (.string sc) (.string ⟨#[]⟩) (.bool false) (.string ⟨#[]⟩) (.pointer none)
  rw [← hw3] at hf
  have HW3 : Hid (w3 = (w2.alloc (.cells #[.string sc, .string ⟨#[]⟩, .bool false, .string ⟨#[]⟩, .pointer none] 40)).drewN n2) := hw3
  obtain ⟨b, hb⟩ : ∃ b, w2.heap.size = b := ⟨_, rfl⟩
  rw [hb] at hf
  rw [hb]
  have HB : Hid (w2.heap.size = b) := hb
  clear c0
  have c0 := hf.c0; have c1 := hf.c1; have c2 := hf.c2; have c3 := hf.c3; have c4 := hf.c4; have f1 := hf.f1; have f2 := hf.f2; have f3 := hf.f3
  have HF : Hid (Fresh w3 b (.string sc) (.string ⟨#[]⟩) (.bool false) (.string ⟨#[]⟩) (.pointer none)) := hf
  clear hf hw3 hb
  go_wp2
  go_ret
  have hle : w.heap.size ≤ b := by rw [← HB.out, HW.out]; exact Nat.le_refl _
  have hbel : Below w.heap.size w w3 := by
    rw [HW3.out, HW.out]
    exact below_drewN ((below_drewN (Below.refl _ _) _).alloc (Nat.le_refl _) _) _
  exact ⟨b, rfl, hle, ((hbel.setCell hle _).setCell hle _).setCell hle _, HF.out.set3 _ _ _⟩

set_option maxRecDepth 1000000 in
set_option maxHeartbeats 1000000 in
theorem res_one (b0 : Nat) (sc au : ByteArray) (ha : Bool) (pa : ByteArray) (un : Option Addr) (s : ByteArray) (w : World) (hn : Node w b0 sc au ha pa un) (he : sc.toList.isEmpty = false) (HP : Hid (Lib.hasPrefix s.data.toList [47] = true)) (HP2 : Hid (Lib.hasPrefix s.data.toList [47, 47] = false))
    (HU : Hid (∀ w, Calls Try.prog 23 #[.string s] w fun e w' => e = .returned (.bool false) ∧ ∃ n, w' = w.drewN n)) :
    Calls Try.prog 19 #[.pointer (some ⟨b0, 0, none⟩), .string s] w fun e w' => ∃ b, e = .returned (.pointer (some ⟨b, 0, none⟩)) ∧ w.heap.size ≤ b ∧ Below w.heap.size w w' ∧ Node w' b sc au ha s none := by
  have HN : Hid (Node w b0 sc au ha pa un) := hn
  clear hn
  go_enter Try.func19, Try.ntmps19
  go_wp2_with fail
  refine (HU.out _).mono ?_
  rintro e w2 ⟨rfl, n1, hw2⟩
  have hf := HN.out.drewN n1
  rw [← hw2] at hf
  have c0 := hf.c0; have c1 := hf.c1; have c2 := hf.c2
  have HW : Hid (w2 = w.drewN n1) := hw2
  clear hw2 hf
  go_wp2_with (go_at_call 25; refine (Try.strings_HasPrefix s _ _).mono ?_; rintro e w' ⟨rfl, hw⟩; first | rw [hw, HP2.out] | rw [hw, HP.out])
  go_region
  go_wp2
  go_ret
  refine ⟨_, rfl, by rw [HW.out]; exact Nat.le_refl _, ?_, (Node.new ..).drew⟩
  rw [HW.out]; exact ((below_drewN (Below.refl _ _) _).alloc (Nat.le_refl _) _).drew

set_option maxRecDepth 1000000 in
set_option maxHeartbeats 1000000 in
theorem res_rel (b0 : Nat) (sc au : ByteArray) (ha : Bool) (pa : ByteArray) (un : Option Addr) (s : ByteArray) (w : World) (hn : Node w b0 sc au ha pa un) (HP : Hid (Lib.hasPrefix s.data.toList [47] = false)) (HP2 : Hid (Lib.hasPrefix s.data.toList [47, 47] = false))
    (HU : Hid (∀ w, Calls Try.prog 23 #[.string s] w fun e w' => e = .returned (.bool false) ∧ ∃ n, w' = w.drewN n)) :
    Calls Try.prog 19 #[.pointer (some ⟨b0, 0, none⟩), .string s] w fun e w' => ∃ b, e = .returned (.pointer (some ⟨b, 0, none⟩)) ∧ w.heap.size ≤ b ∧ Below w.heap.size w w' ∧ Node w' b sc au ha s (some ⟨b0, 0, none⟩) := by
  have HN : Hid (Node w b0 sc au ha pa un) := hn
  clear hn
  cases he : sc.toList.isEmpty with
  | true =>
    go_enter Try.func19, Try.ntmps19
    go_wp2_with fail
    refine (HU.out _).mono ?_
    rintro e w2 ⟨rfl, n1, hw2⟩
    have hf := HN.out.drewN n1
    rw [← hw2] at hf
    have c0 := hf.c0; have c1 := hf.c1; have c2 := hf.c2
    have HW : Hid (w2 = w.drewN n1) := hw2
    clear hw2 hf
    go_wp2_with (go_at_call 25; refine (Try.strings_HasPrefix s _ _).mono ?_; rintro e w' ⟨rfl, hw⟩; first | rw [hw, HP2.out] | rw [hw, HP.out])
    go_region
    go_wp2
    go_ret
    refine ⟨_, rfl, by rw [HW.out]; exact Nat.le_refl _, ?_, (Node.new ..).drew⟩
    rw [HW.out]; exact ((below_drewN (Below.refl _ _) _).alloc (Nat.le_refl _) _).drew
  | false =>
    go_enter Try.func19, Try.ntmps19
    go_wp2_with fail
    refine (HU.out _).mono ?_
    rintro e w2 ⟨rfl, n1, hw2⟩
    have hf := HN.out.drewN n1
    rw [← hw2] at hf
    have c0 := hf.c0; have c1 := hf.c1; have c2 := hf.c2
    have HW : Hid (w2 = w.drewN n1) := hw2
    clear hw2 hf
    go_wp2_with (go_at_call 25; refine (Try.strings_HasPrefix s _ _).mono ?_; rintro e w' ⟨rfl, hw⟩; first | rw [hw, HP2.out] | rw [hw, HP.out])
    go_region
    go_wp2
    go_ret
    refine ⟨_, rfl, by rw [HW.out]; exact Nat.le_refl _, ?_, (Node.new ..).drew⟩
    rw [HW.out]; exact ((below_drewN (Below.refl _ _) _).alloc (Nat.le_refl _) _).drew
end Go.Proofs.Qxb6602852a
