import Derived.Test.Qxb6602366aRune
import Derived.Lib.OthersKept
namespace Go.Proofs.Qxb6602366a
open Go.RowKit

theorem decode_span (s : ByteArray) (i : Nat) (h : i < s.size) (ha : 128 ≤ (s.get! (i + 0)).toNat) :
    1 ≤ (Utf8.decode s i).2 ∧ i + (Utf8.decode s i).2 ≤ s.size ∧ ∀ k, k < (Utf8.decode s i).2 → 128 ≤ (s.get! (i + k)).toNat := by
  have hn : ¬ (s.get! (i + 0)).toNat < 128 := by omega
  have one : ∀ k, k < 1 → 128 ≤ (s.get! (i + k)).toNat := fun k hk => by
    obtain rfl : k = 0 := by omega
    exact ha
  simp only [Utf8.decode, hn, if_false]
  split
  · rename_i h1
    simp only [Bool.and_eq_true, decide_eq_true_eq, beq_iff_eq] at h1
    split
    · refine ⟨by omega, by omega, fun k hk => ?_⟩
      match k, hk with
      | 0, _ => exact ha
      | 1, _ => omega
    · exact ⟨by omega, by omega, one⟩
  · split
    · rename_i h1
      simp only [Bool.and_eq_true, decide_eq_true_eq, beq_iff_eq] at h1
      split
      · refine ⟨by omega, by omega, fun k hk => ?_⟩
        match k, hk with
        | 0, _ => exact ha
        | 1, _ => omega
        | 2, _ => omega
      · exact ⟨by omega, by omega, one⟩
    · split
      · rename_i h1
        simp only [Bool.and_eq_true, decide_eq_true_eq, beq_iff_eq] at h1
        split
        · refine ⟨by omega, by omega, fun k hk => ?_⟩
          match k, hk with
          | 0, _ => exact ha
          | 1, _ => omega
          | 2, _ => omega
          | 3, _ => omega
        · exact ⟨by omega, by omega, one⟩
      · exact ⟨by omega, by omega, one⟩

theorem get_bang (s : ByteArray) (j : Nat) (h : j < s.size) : s.get! j = s[j]'h := get_at s j h

theorem noAny_span {s : ByteArray} {chars : List UInt8} {i wd : Nat} (hc : ascii chars = true) (hno : Lib.NoAny s.data.toList chars i) (hsp : ∀ k, k < wd → 128 ≤ (s.get! (i + k)).toNat) (hle : i + wd ≤ s.size) :
    Lib.NoAny s.data.toList chars (i + wd) := fun j b hj hb => by
  by_cases hlt : j < i
  · exact hno j b hlt hb
  · have hjs : j < s.size := by omega
    have h1 := hsp (j - i) (by omega)
    rw [show i + (j - i) = j from by omega, get_bang s j hjs] at h1
    rw [data_at' s j hjs] at hb
    cases hb
    exact not_in_of_high hc (by omega)

/-- the loop's world: the iterator lies in the block that the loop laid; below it nothing has turned -/
def IterW (w : World) (s : ByteArray) (i : Nat) (wx : World) : Prop := Below w.heap.size w wx ∧ wx.heap[w.heap.size]? = some (.stringIter s i)

theorem IterW.start (w : World) (s : ByteArray) : IterW w s 0 (w.iter s 0) := ⟨(Below.refl _ _).alloc (Nat.le_refl _) _, World.iter_heap w s 0⟩
theorem IterW.lt {w wx : World} {s : ByteArray} {i : Nat} (h : IterW w s i wx) : w.heap.size < wx.heap.size := by
  rcases Nat.lt_or_ge w.heap.size wx.heap.size with h' | h'
  · exact h'
  · have := h.2; simp [Array.getElem?_eq_none h'] at this
theorem IterW.step {w wx : World} {s : ByteArray} {i : Nat} (h : IterW w s i wx) (j : Nat) : IterW w s j (wx.iterAt w.heap.size s j) := by
  refine ⟨h.1.trans ⟨rfl, rfl, rfl, by simp [World.iterAt], fun k hk => ?_⟩, ?_⟩
  · simp only [World.iterAt]
    rw [Array.getElem?_setIfInBounds_ne (by omega)]
  · simp only [World.iterAt]
    rw [Array.getElem?_setIfInBounds_self_of_lt h.lt]
theorem IterW.call {w wx wy : World} {s : ByteArray} {i : Nat} (h : IterW w s i wx) (hb : Below wx.heap.size wx wy) : IterW w s i wy :=
  ⟨h.1.trans (hb.mono h.1.size), (hb.block _ h.lt).trans h.2⟩

theorem nonempty_of {s : ByteArray} (h : 0 < s.size) : s.toList.isEmpty = false := by
  rw [Lib.toList_data]
  cases h' : s.data.toList with
  | nil => have := Lib.size_eq s; rw [h', List.length_nil] at this; omega
  | cons _ _ => rfl

set_option maxRecDepth 1000000 in
set_option maxHeartbeats 1000000 in
theorem any_short (s chars : ByteArray) (w : World) (h2 : 2 ≤ chars.size) (h8 : s.size ≤ 8) (ha : ascii chars.data.toList = true) :
    Calls Try.prog 25 #[.string s, .string chars] w fun e w' => e = .returned (.int .i64 (Lib.indexAny s.data.toList chars.data.toList)) ∧ Below w.heap.size w w' := by
  have HA : Aside (ascii chars.data.toList = true) := ha
  clear ha
  have hemp := nonempty_of (s := chars) (by omega)
  have hn1 : ((chars.size : Int) == 1) = false := beq_eq_false_iff_ne.2 (by omega)
  have h8z : decide ((8 : Int) < (s.size : Int)) = false := decide_eq_false (by omega)
  go_enter Try.func25, Try.ntmps25
  go_wp2_with (go_at_call 33; refine (Try.strings_shouldUseASCIISet _ _).mono ?_; rintro e w' ⟨rfl, hw⟩; rw [hw, h8z])
  go_loopg [9, 10] s.size (fun g _ _ wx => ∃ i : Nat, i + g = s.size ∧ IterW w s i wx ∧ Lib.NoAny s.data.toList chars.data.toList i)
  case atStart => exact ⟨0, by omega, IterW.start w s, Lib.NoAny.zero _ _⟩
  case round =>
    obtain ⟨i, hig, hit, hno⟩ := hrel
    have HN : Aside (Lib.NoAny s.data.toList chars.data.toList i) := hno
    clear hno
    have HI : Aside (IterW w s i wr) := hit
    clear hit
    cases gk with
    | zero =>
      obtain rfl : i = s.size := by omega
      have hnx := fun ty => Lib.run_next_end_at (P := Try.prog) wr w.heap.size s s.size ty HI.out.2 (by omega)
      go_wp2
      go_ret
      exact ⟨by rw [Lib.indexAny_none (by rw [← Lib.size_eq]; exact HN.out)]; rfl, HI.out.1⟩
    | succ g =>
      have hi : i < s.size := by omega
      obtain ⟨x, hx⟩ : ∃ x : UInt8, s[i]'hi = x := ⟨_, rfl⟩
      have Hx : Aside (s.data.toList[i]? = some x) := by rw [← hx]; exact data_at' s i hi
      by_cases hx128 : x.toNat < 128
      · have hnx := fun ty => Lib.run_next_ascii_at (P := Try.prog) wr w.heap.size s i ty HI.out.2 hi (by rw [hx]; exact hx128)
        rw [hx] at hnx
        clear hx
        have hcon := Lib.contains_iff_indexByte chars.data.toList x
        have hback : ((x.toNat : Int)).toNat.toUInt8 = x := by simp
        cases hin : chars.data.toList.contains x
        · rw [hin] at hcon
          have hlt : ¬ ((0 : Int) ≤ Lib.indexByte chars.data.toList x) := of_decide_eq_false hcon.symm
          clear hcon
          go_wp2_with (go_at_call 32; refine (Try.strings_IndexRune_ascii _ _ _ (by omega) (by omega)).mono ?_; rintro e w' ⟨rfl, hw⟩; rw [hw, hback])
          go_roundg g
          case measure => omega
          case rel => exact ⟨i + 1, by omega, HI.out.step _, HN.out.succ Hx.out hin⟩
        · rw [hin] at hcon
          have hge : (0 : Int) ≤ Lib.indexByte chars.data.toList x := of_decide_eq_true hcon.symm
          clear hcon
          go_wp2_with (go_at_call 32; refine (Try.strings_IndexRune_ascii _ _ _ (by omega) (by omega)).mono ?_; rintro e w' ⟨rfl, hw⟩; rw [hw, hback])
          go_ret
          exact ⟨by rw [Lib.indexAny_hit HN.out Hx.out hin]; rfl, (HI.out.step _).1⟩
      · have hh := decode_high s i hi (by rw [hx]; omega)
        have hsp := decode_span s i hi (by rw [get_at s i hi, hx]; omega)
        have hnx := fun ty => Lib.run_next_any_at (P := Try.prog) wr w.heap.size s i ty HI.out.2 hi
        obtain ⟨r, hr⟩ : ∃ r, (Utf8.decode s i).1 = r := ⟨_, rfl⟩
        obtain ⟨wd, hwd⟩ : ∃ wd, (Utf8.decode s i).2 = wd := ⟨_, rfl⟩
        rw [hr, hwd] at hh
        rw [hwd] at hsp
        rw [hr, hwd] at hnx
        have HS : Aside (1 ≤ wd ∧ i + wd ≤ s.size ∧ ∀ k, k < wd → 128 ≤ (s.get! (i + k)).toNat) := hsp
        obtain ⟨hr128, _⟩ := hh
        clear hsp hr hwd hx
        go_wp2_with (go_at_call 32; refine (rune_high _ _ _ HA.out (by omega)).mono ?_; rintro e w' ⟨rfl, hw⟩)
        go_roundg (s.size - (i + wd))
        case measure => have := HS.out; omega
        case rel => exact ⟨i + wd, by have := HS.out; omega, (HI.out.step _).call (by assumption), noAny_span HA.out HN.out HS.out.2.2 HS.out.2.1⟩

/-- strings.IndexAny at ASCII chars, every s. -/
theorem any_all (s chars : ByteArray) (w : World) (hs : s.size ≤ 1048576) (hc : chars.size ≤ 1048576) (ha : ascii chars.data.toList = true) :
    Calls Try.prog 25 #[.string s, .string chars] w fun e w' => e = .returned (.int .i64 (Lib.indexAny s.data.toList chars.data.toList)) ∧ Below w.heap.size w w' := by
  by_cases h0 : chars.size = 0
  · exact (Try.strings_IndexAny_none s chars w h0).mono fun e w' ⟨he, hw⟩ => ⟨he, by rw [hw]; exact Below.refl _ _⟩
  · by_cases h1 : chars.size = 1
    · exact (Try.strings_IndexAny_one s chars w h1 (ascii_at ha)).mono fun e w' ⟨he, hw⟩ => ⟨he, by rw [hw]; exact Below.refl _ _⟩
    · by_cases h8 : s.size ≤ 8
      · exact any_short s chars w (by omega) h8 ha
      · refine (Try.strings_IndexAny_long (fun _ => by kernel_rfl) s chars w (by omega) (by omega) (by omega) (by omega) (ascii_at ha)).mono fun e w' ⟨he, hw⟩ => ⟨he, ?_⟩
        rw [hw]
        exact ((Below.refl _ _).alloc (Nat.le_refl _) _).alloc (by simp) _
end Go.Proofs.Qxb6602366a
