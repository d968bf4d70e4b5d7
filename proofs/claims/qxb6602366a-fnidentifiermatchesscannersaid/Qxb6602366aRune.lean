import Derived.Test.Qxb6602366aCut
import Derived.Test.Qxb6602366aPlain
import Derived.Laws.RangeAny
import Derived.Laws.Runes
import Derived.Deep.LoopGhost
namespace Go.Proofs.Qxb6602366a
open Go.RowKit

theorem data_at' (s : ByteArray) (k : Nat) (h : k < s.size) : s.data.toList[k]? = some (s[k]'h) := Lib.data_getElem? s k h

theorem valid_of {r : Int} (h : Lib.validRune r = true) : Utf8.valid r = true := by
  simp [Lib.validRune, Utf8.valid] at *
  omega

theorem indexByte_not (c : UInt8) : ∀ l : List UInt8, (∀ b ∈ l, b ≠ c) → Lib.indexByte l c = -1
  | [], _ => rfl
  | b :: l, h => by
    have ih := indexByte_not c l fun x hx => h x (List.mem_cons_of_mem _ hx)
    have hb : (b == c) = false := by simpa using h b (List.mem_cons_self ..)
    rw [Lib.indexByte, hb, ih]
    simp

theorem high_not {l : List UInt8} (ha : ascii l = true) {c : UInt8} (hc : 128 ≤ c.toNat) (k : Nat) : Lib.indexByte (l.drop k) c = -1 := by
  refine indexByte_not c _ fun b hb e => ?_
  subst e
  obtain ⟨j, hj⟩ := List.mem_iff_getElem?.1 (List.mem_of_mem_drop hb)
  have := ascii_at ha j b hj
  omega

set_option maxRecDepth 1000000 in
set_option maxHeartbeats 1000000 in
theorem rune_err (s : ByteArray) (w : World) (ha : ascii s.data.toList = true) :
    Calls Try.prog 32 #[.string s, .int .i32 65533] w fun e w' => e = .returned (.int .i64 (-1)) ∧ Below w.heap.size w w' := by
  have HA : Hid (ascii s.data.toList = true) := ha
  clear ha
  go_enter Try.func32, Try.ntmps32
  go_wp2
  go_loopg [5, 6] s.size (fun g _ _ wx => ∃ i : Nat, i + g = s.size ∧ wx = w.iter s i)
  case atStart => exact ⟨0, by omega, rfl⟩
  case round =>
    obtain ⟨i, hig, rfl⟩ := hrel
    cases gk with
    | zero =>
      obtain rfl : i = s.size := by omega
      have hnx := fun ty => run_next_end (P := Try.prog) w s s.size ty (by omega)
      go_wp2
      go_ret
      exact ⟨rfl, (Below.refl _ _).alloc (Nat.le_refl _) _⟩
    | succ g =>
      have hi : i < s.size := by omega
      obtain ⟨x, hx⟩ : ∃ x : UInt8, s[i]'hi = x := ⟨_, rfl⟩
      have hx128 : x.toNat < 128 := ascii_at HA.out i x (by rw [← hx]; exact data_at' s i hi)
      have hnx := fun ty => run_next_ascii (P := Try.prog) w s i ty hi (by rw [hx]; exact hx128)
      rw [hx] at hnx
      have hne : ((x.toNat : Int) == 65533) = false := beq_eq_false_iff_ne.2 (by omega)
      go_wp2
      go_roundg g
      case measure => omega
      case rel => exact ⟨i + 1, by omega, rfl⟩

set_option maxRecDepth 1000000 in
set_option maxHeartbeats 1000000 in
theorem rune_bad (s : ByteArray) (r : Int) (w : World) (h128 : 128 ≤ r) (hne : (r == 65533) = false) (hv : Lib.validRune r = false) :
    Calls Try.prog 32 #[.string s, .int .i32 r] w fun e w' => e = .returned (.int .i64 (-1)) ∧ Below w.heap.size w w' := by
  go_enter Try.func32, Try.ntmps32
  go_wp2_with (go_at_call 40; refine (Try.utf8_ValidRune r _).mono ?_; rintro e w' ⟨rfl, hw⟩; rw [hw, hv])
  go_ret
  exact ⟨rfl, Below.refl _ _⟩

theorem ib_neg (s : ByteArray) (y : UInt8) (k : Nat) (w : World) (ha : ascii s.data.toList = true) (hy : 128 ≤ y.toNat) :
    Calls Try.prog 39 #[.string (s.extract k s.size), .int .u8 y.toNat] w fun e w' => e = .returned (.int .i64 (-1)) ∧ w' = w := by
  refine (Try.strings_IndexByte _ _ w).mono ?_
  rintro e w' ⟨rfl, rfl⟩
  rw [Lib.extract_to_end]
  have hb : ((y.toNat : Int)).toNat.toUInt8 = y := by simp
  rw [hb, high_not ha hy]
  exact ⟨rfl, rfl⟩

theorem enc_parts (r : Int) (hv : Utf8.valid r = true) (h128 : 128 ≤ r) :
    ∃ rs, Hid (Utf8.encode r = rs) ∧ 2 ≤ rs.size ∧ rs.size ≤ 4 ∧ ∃ (y : UInt8) (h : rs.size - 1 < rs.size), rs[rs.size - 1]'h = y ∧ 128 ≤ y.toNat := by
  obtain ⟨f2, f4, fl⟩ := encode_facts r hv h128
  exact ⟨_, rfl, f2, f4, _, by omega, rfl, fl (by omega)⟩

set_option maxRecDepth 1000000 in
set_option maxHeartbeats 1000000 in
theorem rune_main (s : ByteArray) (r : Int) (w : World) (ha : ascii s.data.toList = true) (h128 : 128 ≤ r) (hne : (r == 65533) = false) (hv : Lib.validRune r = true) :
    Calls Try.prog 32 #[.string s, .int .i32 r] w fun e w' => e = .returned (.int .i64 (-1)) ∧ Below w.heap.size w w' := by
  have HV : Hid (Lib.validRune r = true) := hv
  clear hv
  obtain ⟨rs, HR, f2, f4, y, hl0, hy, hy128⟩ := enc_parts r (valid_of HV.out) h128
  have HA : Hid (ascii s.data.toList = true) := ha
  clear ha
  go_enter Try.func32, Try.ntmps32
  go_wp2_with (go_at_call 40; refine (Try.utf8_ValidRune r _).mono ?_; rintro e w' ⟨rfl, hw⟩; rw [hw, HV.out])
  have g2 : 2 ≤ (Utf8.encode r).size := by rw [HR.out]; exact f2
  have g4 : (Utf8.encode r).size ≤ 4 := by rw [HR.out]; exact f4
  go_step3
  go_wp2
  clear g2 g4
  rw [HR.out]
  clear HR
  go_loopg [9, 10] 0 (fun g i f wx => i = .int .i64 ((rs.size : Int) - 1) ∧ f = .int .i64 0 ∧ wx = w)
  case atStart => exact ⟨rfl, rfl, rfl⟩
  case round =>
    obtain ⟨rfl, rfl, rfl⟩ := hrel
    by_cases hlt : rs.size - 1 < s.size
    · have hlz : (rs.size : Int) - 1 < (s.size : Int) := by omega
      obtain ⟨x, hx⟩ : ∃ x : UInt8, s[rs.size - 1]'hlt = x := ⟨_, rfl⟩
      have hx128 : x.toNat < 128 := ascii_at HA.out (rs.size - 1) x (by rw [← hx]; exact data_at' s _ hlt)
      have hxy : ((x.toNat : Int) != (y.toNat : Int)) = true := bne_iff_ne.2 (by omega)
      have hyz : (rs.size : Int) - 1 < (rs.size : Int) := by omega
      go_wp2
      go_step3
      go_wp2
      go_quiet (fail)
      go_wp2
      have hsl : (rs.size : Int) ≤ (s.size : Int) := by omega
      go_quiet ((go_at_call 39; exact (ib_neg s y _ _ HA.out hy128).mono fun _ _ ⟨he, hm⟩ => ⟨he, _, hm⟩))
      go_wp2
      rw [Exit.noGoto_ret]
      simp only [Exit.inBlock, Exit.then]
      rw [Exit.noGoto_ret]
      simp only [Exit.inBlock]
      go_ret
      exact ⟨rfl, below_drewN (Below.refl _ _) _⟩
    · have hlz : ¬ ((rs.size : Int) - 1 < (s.size : Int)) := by omega
      go_wp2
      go_ret
      exact ⟨rfl, Below.refl _ _⟩

/-- strings.IndexRune at a rune beyond ASCII, in ASCII bytes: not there. -/
theorem rune_high (s : ByteArray) (r : Int) (w : World) (ha : ascii s.data.toList = true) (h128 : 128 ≤ r) :
    Calls Try.prog 32 #[.string s, .int .i32 r] w fun e w' => e = .returned (.int .i64 (-1)) ∧ Below w.heap.size w w' := by
  by_cases he : r = 65533
  · subst he; exact rune_err s w ha
  · have hne : (r == 65533) = false := beq_eq_false_iff_ne.2 he
    cases hv : Lib.validRune r with
    | false => exact rune_bad s r w h128 hne hv
    | true => exact rune_main s r w ha h128 hne hv
end Go.Proofs.Qxb6602366a
