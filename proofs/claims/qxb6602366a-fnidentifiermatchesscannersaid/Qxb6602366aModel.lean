import Derived.Test.Qxb6602366aSmall
import Derived.Laws.Strings3
import Derived.Laws.ResultCell
import Derived.Deep.WholeRow
import Derived.Deep.QuietTactic
import Derived.BigQuiet
namespace Go.Proofs.Qxb6602366a
open Go.RowKit

theorem head_cases (s : ByteArray) (hq : s.data.toList.head? ≠ some 96) : s.toList.isEmpty = true ∨ (s.toList.isEmpty = false ∧ ∃ h : 0 < s.size, (((s[0]'h).toNat : Int) != 96) = true) := by
  cases h : s.data.toList with
  | nil => left; rw [Lib.toList_data, h]; rfl
  | cons a l =>
    right
    have hsz : 0 < s.size := by rw [Lib.size_eq, h]; simp
    have h0 := data_at s 0 hsz
    refine ⟨by rw [Lib.toList_data, h]; rfl, hsz, ?_⟩
    rw [h] at h0 hq
    simp at h0 hq
    rw [← h0]
    refine bne_iff_ne.2 fun e => hq ?_
    have e2 : a.toNat = 96 := by omega
    exact UInt8.toNat_inj.1 e2

set_option maxHeartbeats 1000000 in
theorem model_plain (s ends : ByteArray) (w : World) (hs : s.size ≤ 1048576) (he : ends.size ≤ 1048576) (ha : ascii ends.data.toList = true)
    (hq : s.data.toList.head? ≠ some 96) :
    Calls Try.prog 17 #[.string s, .string ends] w fun e w' => e = .returned (.tuple #[.string (cutPlain s ends).1, .string (cutPlain s ends).2]) ∧ Below w.heap.size w w' := by
  have hv31 : ∀ w, (zeroValue 31).run Try.prog w = .ok (.agg (Array.replicate 128 (.bool false))) w := fun _ => by kernel_rfl
  have HA : Hid (ascii ends.data.toList = true) := ha
  clear ha
  rcases head_cases s hq with h0 | ⟨h0, h1, h2⟩
  all_goals
    clear hq
    go_enter Try.func17, Try.ntmps17
    go_wp2
    rw [← setC_nil]
    go_loopg [7] ends.size (fun g i wx => ∃ k : Nat, k + g = ends.size ∧ i = .int .i64 k ∧ wx = w.alloc (.cells (setC (ends.data.toList.take k)) 31))
    case atStart => exact ⟨0, by omega, rfl, rfl⟩
    case round =>
      obtain ⟨i, hig, rfl, rfl⟩ := hrel
      cases gk with
      | zero =>
        obtain rfl : i = ends.size := by omega
        have hiz : ¬ ((ends.size : Int) < (ends.size : Int)) := by omega
        rw [show ends.data.toList.take ends.size = ends.data.toList from List.take_of_length_le (by rw [← Lib.size_eq]; exact Nat.le_refl _)]
        go_wp2
        go_loopg [8] s.size (fun g i wx => ∃ k : Nat, k + g = s.size ∧ i = .int .i64 k ∧ wx = w.alloc (.cells (setC ends.data.toList) 31) ∧ Lib.NoAny s.data.toList ends.data.toList k)
        case atStart => exact ⟨0, by omega, rfl, rfl, Lib.NoAny.zero _ _⟩
        case round =>
          obtain ⟨k, hkg, rfl, rfl, hno⟩ := hrel
          have HN : Hid (Lib.NoAny s.data.toList ends.data.toList k) := hno
          clear hno
          cases gk with
          | zero =>
            obtain rfl : k = s.size := by omega
            go_wp2
            go_ret2
            rw [cutPlain_none HN.out]
            exact ⟨rfl, (Below.refl _ _).alloc (Nat.le_refl _) _⟩
          | succ g =>
            have hk : k < s.size := by omega
            obtain ⟨x, hx⟩ : ∃ x : UInt8, s[k]'hk = x := ⟨_, rfl⟩
            have hxl : Hid (s.data.toList[k]? = some x) := by rw [← hx]; exact data_at s k hk
            by_cases hb : (x.toNat : Int) < 128
            · have hcell := setC_at ends.data.toList x (by omega)
              cases hin : ends.data.toList.contains x with
              | true =>
                rw [hin] at hcell
                have Hin : Hid (ends.data.toList.contains x = true) := hin
                clear hin
                go_wp2
                go_quiet (fail)
                go_wp2
                go_ret2
                rw [cutPlain_hit HN.out hxl.out Hin.out]
                exact ⟨rfl, below_drewN ((Below.refl _ _).alloc (Nat.le_refl _) _) _⟩
              | false =>
                rw [hin] at hcell
                have Hin : Hid (ends.data.toList.contains x = false) := hin
                clear hin
                go_wp2
                go_roundg g
                case measure => omega
                case rel => exact ⟨k + 1, by omega, by go_num, rfl, HN.out.succ hxl.out Hin.out⟩
            · go_wp2
              go_roundg g
              case measure => omega
              case rel => exact ⟨k + 1, by omega, by go_num, rfl, HN.out.succ hxl.out (not_in_of_high HA.out (by omega))⟩
      | succ g =>
        have hi : i < ends.size := by omega
        have hiz : (i : Int) < (ends.size : Int) := by omega
        obtain ⟨x, hx⟩ : ∃ x : UInt8, ends[i]'hi = x := ⟨_, rfl⟩
        have hxl : Hid (ends.data.toList[i]? = some x) := by rw [← hx]; exact data_at ends i hi
        have hx128 : (x.toNat : Int) < 128 := by have := ascii_at HA.out i x hxl.out; omega
        have hcell := setC_at (ends.data.toList.take i) x (by omega)
        go_wp2
        go_roundg g
        case measure => omega
        case rel => exact ⟨i + 1, by omega, by go_num, by rw [List.take_add_one, hxl.out]; simp only [Option.toList]; rw [setC_snoc]⟩
end Go.Proofs.Qxb6602366a
