import Derived.Test.Qxb6602631aQuote
namespace Go.Proofs.Qxb6602631a
open Go.RowKit

/-- no brace among the first k -/
def NoBr (l : List UInt8) (k : Nat) : Prop := ∀ (j : Nat) b, j < k → l[j]? = some b → b ≠ 123 ∧ b ≠ 125
theorem NoBr.zero (l : List UInt8) : NoBr l 0 := fun _ _ h => absurd h (Nat.not_lt_zero _)
theorem NoBr.succ {l : List UInt8} {k : Nat} {x : UInt8} (h : NoBr l k) (hx : l[k]? = some x) (h1 : x ≠ 123) (h2 : x ≠ 125) : NoBr l (k + 1) := fun j b hj hb' => by
  by_cases e : j = k
  · subst e; rw [hx] at hb'; cases hb'; exact ⟨h1, h2⟩
  · exact h j b (by omega) hb'
theorem NoBr.all {l : List UInt8} {k : Nat} (h : NoBr l k) (hk : l.length ≤ k) : braceB l = false := by
  cases hb : braceB l with
  | false => rfl
  | true =>
    obtain ⟨c, hc, hc2⟩ := List.any_eq_true.1 hb
    obtain ⟨j, hj⟩ := List.mem_iff_getElem?.1 hc
    have := h j c (by have := (List.getElem?_eq_some_iff.1 hj).1; omega) hj
    simp [this.1, this.2] at hc2
theorem brace_hit {l : List UInt8} {k : Nat} {x : UInt8} (hx : l[k]? = some x) (h : x = 123 ∨ x = 125) : braceB l = true :=
  List.any_eq_true.2 ⟨x, List.mem_of_getElem? hx, by rcases h with rfl | rfl <;> simp⟩

set_option maxHeartbeats 400000 in
theorem brace11 (s : ByteArray) (w : World) (hs : s.size ≤ 1048576) :
    Calls Try.prog 11 #[.string s] w fun e w' => e = .returned (.bool (braceB s.data.toList)) ∧ w' = w := by
  go_enter Try.func11, Try.ntmps11
  go_wp2
  go_loop [3] (fun i => ∃ k : Nat, k ≤ s.size ∧ i = .int .i64 k ∧ NoBr s.data.toList k) (fun i => s.size - (intOf i).toNat)
  case atStart => exact ⟨0, Nat.zero_le _, rfl, NoBr.zero _⟩
  case round =>
    obtain ⟨k, hk, rfl, ha⟩ := hrel
    have HA : Hid (NoBr s.data.toList k) := ha
    clear ha
    by_cases hlt : k < s.size
    · obtain ⟨x, hx⟩ : ∃ x : UInt8, s[k]'hlt = x := ⟨_, rfl⟩
      have hxl : Hid (s.data.toList[k]? = some x) := by show _ = _; rw [← hx]; exact data_at s k hlt
      by_cases h1 : x = 123
      · have e1 : ((x.toNat : Int) == 123) = true := b_t 123 h1
        have HB : Hid (braceB s.data.toList = true) := brace_hit hxl.out (Or.inl h1)
        clear h1
        go_wp2
        go_ret
        rw [HB.out]
        exact ⟨rfl, rfl⟩
      · have e1 : ((x.toNat : Int) == 123) = false := b_f 123 h1
        by_cases h2 : x = 125
        · have e2 : ((x.toNat : Int) == 125) = true := b_t 125 h2
          have HB : Hid (braceB s.data.toList = true) := brace_hit hxl.out (Or.inr h2)
          clear h1 h2
          go_wp2
          go_ret
          rw [HB.out]
          exact ⟨rfl, rfl⟩
        · have e2 : ((x.toNat : Int) == 125) = false := b_f 125 h2
          have HN : Hid (NoBr s.data.toList (k + 1)) := HA.out.succ hxl.out h1 h2
          clear h1 h2
          go_wp2
          go_round
          case rel => exact ⟨k + 1, by omega, by go_num, HN.out⟩
          case measure => simp [intOf]; omega
    · have HB : Hid (braceB s.data.toList = false) := HA.out.all (by rw [← Lib.size_eq]; omega)
      go_wp2
      go_ret
      rw [HB.out]
      exact ⟨rfl, rfl⟩

/-- plain bytes as cells -/
def bv (l : List UInt8) : List Value := l.map fun b => Value.int .u8 (b.toNat : Int)
theorem bv_snoc (l : List UInt8) (x : UInt8) : bv (l ++ [x]) = bv l ++ [Value.int .u8 (x.toNat : Int)] := by simp [bv]
structure MemQ (w wx : World) (C : Nat) (acc : List UInt8) : Prop where
  b : wx.ownsRow w.heap.size 5 1 (.slice (some ⟨w.heap.size, 0, none⟩) acc.length C) acc.length (bv acc)
  below : Below w.heap.size w wx
theorem MemQ.made {w w0 : World} {C : Nat} (h : w0.ownsRow w.heap.size 5 1 (.slice (some ⟨w.heap.size, 0, none⟩) 0 C) 0 []) (hg : w.grownBy w0 none) : MemQ w w0 C [] :=
  ⟨h, (Below.refl _ _).grown hg (Nat.le_refl _) (fun k h => by cases h)⟩
theorem MemQ.push {w wr w3 : World} {C : Nat} {acc : List UInt8} (h : MemQ w wr C acc) (y : UInt8) (o : Obj)
    (h6 : w3.ownsRow w.heap.size 5 1 (.slice (some ⟨w.heap.size, 0, none⟩) (acc.length + 1) C) (acc.length + 1) (bv acc ++ [Value.int .u8 (y.toNat : Int)])) (g6 : (wr.alloc o).grownBy w3 (some w.heap.size)) : MemQ w w3 C (acc ++ [y]) := by
  have hs : w.heap.size ≤ wr.heap.size := h.below.size
  refine ⟨?_, (h.below.alloc hs o).grown g6 (by simp; omega) (fun r hr => by cases hr; exact Nat.le_refl _)⟩
  rw [bv_snoc, List.length_append]
  exact h6
theorem conv_bv {w wx : World} {C : Nat} {acc : List UInt8} (h : MemQ w wx C acc) : (convert 28 9 (.slice (some ⟨w.heap.size, 0, none⟩) acc.length C)).run Try.prog wx = .ok (.string ⟨acc.toArray⟩) wx := by
  refine run_convert_bytes_back wx 28 9 5 ⟨w.heap.size, 0, none⟩ C acc Try.underlying28 Try.underlying5 Try.underlying9 fun j hj => ?_
  exact h.b.cells (g := w.heap.size) rfl j _ (by simp [bv, hj])

set_option maxRecDepth 1000000 in
set_option maxHeartbeats 1000000 in
theorem quote10 (t : ByteArray) (w : World) (hs : t.size ≤ 65536) :
    Calls Try.prog 10 #[.string t] w fun e w' => e = .returned (.string ⟨(34 :: (esc t.data.toList ++ [34])).toArray⟩) ∧ Below w.heap.size w w' := by
  obtain ⟨i5, hi5, hz50, hz51, hz52⟩ := info_parts Try.info5
  go_enter Try.func10, Try.ntmps10
  go_wp2_with (first | (at_make; refine wpList_make_own _ rfl _ _ 28 rfl w.heap.size 5 i5 (.int .u8 0) 1 Try.underlying28 hi5 hz50 hz51 .i64 .i64 _ (2 * t.size + 2) rfl rfl (by omega) (by rw [hz52]; omega) (by unfold maxLen; omega) (Nat.le_refl _) ?_; intro w0 hown0 hgrow0; have HM0 := Hid.mk' (MemQ.made hown0 hgrow0); clear hown0 hgrow0) | (at_builtin; refine wpList_append_fits _ rfl (.tmp 11) (.tmp 12) 28 rfl w.heap.size 5 i5 1 Try.underlying28 hi5 hz51 w.heap.size 0 (2 * t.size + 2) [] rfl (HM0.out.b.alloc _) ⟨w0.heap.size, 0, none⟩ 1 1 [.int .u8 34] rfl rfl (cell_one_new _ _ _) (by intro u hu; simp at hu; subst hu; rfl) (by omega) ?_; intro w1 hown1 hgrow1; have HM1 := Hid.mk' (HM0.out.push 34 _ hown1 hgrow1); clear hown1 hgrow1))
  go_loopg [3, 4] t.size (fun g v3 v4 wx => ∃ (k : Nat) (acc : List UInt8), k + g = t.size ∧ v4 = .int .i64 k ∧ v3 = .slice (some ⟨w.heap.size, 0, none⟩) acc.length (2 * t.size + 2) ∧ MemQ w wx (2 * t.size + 2) acc ∧ acc = 34 :: esc (t.data.toList.take k))
  case atStart => exact ⟨0, [34], by omega, rfl, rfl, HM1.out, by simp [esc]⟩
  case round =>
    obtain ⟨k, acc, hkg, rfl, rfl, hmem, hacc⟩ := hrel
    have HM : Hid (MemQ w wr (2 * t.size + 2) acc) := hmem
    have HA : Hid (acc = 34 :: esc (t.data.toList.take k)) := hacc
    have hal : acc.length ≤ 2 * k + 1 := by
      rw [hacc]
      have := esc_le (t.data.toList.take k)
      have := List.length_take_le k t.data.toList
      simp
      omega
    clear hmem hacc HM0 HM1
    have hwz : w.heap.size ≤ wr.heap.size := HM.out.below.size
    cases gk with
    | zero =>
      obtain rfl : k = t.size := by omega
      go_wp2_with (at_builtin; refine wpList_append_fits _ rfl (.tmp 36) (.tmp 37) 28 rfl w.heap.size 5 i5 1 Try.underlying28 hi5 hz51 w.heap.size acc.length (2 * t.size + 2) (bv acc) rfl (HM.out.b.alloc _) ⟨wr.heap.size, 0, none⟩ 1 1 [.int .u8 34] rfl rfl (cell_one_new _ _ _) (by intro u hu; simp at hu; subst hu; rfl) (by omega) ?_; intro w3 hown3 hgrow3; have HM3 := Hid.mk' (HM.out.push 34 _ hown3 hgrow3); clear hown3 hgrow3; have hcv := conv_bv HM3.out; rw [List.length_append] at hcv; simp only [List.length_cons, List.length_nil, Nat.zero_add] at hcv)
      go_ret
      refine ⟨?_, HM3.out.below⟩
      rw [HA.out, List.take_of_length_le (by rw [← Lib.size_eq]; exact Nat.le_refl _)]
      rfl
    | succ g =>
      have hk : k < t.size := by omega
      obtain ⟨x, hx⟩ : ∃ x : UInt8, t[k]'hk = x := ⟨_, rfl⟩
      have hxl : Hid (t.data.toList[k]? = some x) := by show _ = _; rw [← hx]; exact data_at t k hk
      have htk : Hid (t.data.toList.take (k + 1) = t.data.toList.take k ++ [x]) := by show _ = _; rw [List.take_add_one, hxl.out]; rfl
      by_cases hsp : x = 34 ∨ x = 92
      · have HE : Hid (acc ++ [92] ++ [x] = 34 :: esc (t.data.toList.take (k + 1))) := by show _ = _; rw [htk.out, esc_append, if_pos hsp, HA.out]; simp
        by_cases h1 : x = 34
        · have e1 : ((x.toNat : Int) == 34) = true := b_t 34 h1
          clear h1 hsp
          go_wp2_with (first | (at_builtin; refine wpList_append_fits _ rfl (.tmp 29) (.tmp 30) 28 rfl w.heap.size 5 i5 1 Try.underlying28 hi5 hz51 w.heap.size acc.length (2 * t.size + 2) (bv acc) rfl (HM.out.b.alloc _) ⟨wr.heap.size, 0, none⟩ 1 1 [.int .u8 92] rfl rfl (cell_one_new _ _ _) (by intro u hu; simp at hu; subst hu; rfl) (by omega) ?_; intro w3 hown3 hgrow3; have HM3 := Hid.mk' (HM.out.push 92 _ hown3 hgrow3); have HO3 := Hid.mk' hown3; clear hown3 hgrow3) | (at_builtin; refine wpList_append_fits _ rfl (.tmp 32) (.tmp 34) 28 rfl w.heap.size 5 i5 1 Try.underlying28 hi5 hz51 w.heap.size (acc.length + 1) (2 * t.size + 2) (bv acc ++ [.int .u8 92]) rfl (HO3.out.alloc _) ⟨w3.heap.size, 0, none⟩ 1 1 [.int .u8 x.toNat] rfl rfl (cell_one_new _ _ _) (by intro u hu; simp at hu; subst hu; rfl) (by omega) ?_; intro w4 hown4 hgrow4; have HM4 := Hid.mk' (HM3.out.push x _ (by rw [bv_snoc, List.length_append]; exact hown4) hgrow4); clear hown4 hgrow4))
          go_roundg g
          case measure => omega
          case rel => exact ⟨k + 1, acc ++ [92] ++ [x], by omega, by go_num, by simp, HM4.out, HE.out⟩
        · have e1 : ((x.toNat : Int) == 34) = false := b_f 34 h1
          have e2 : ((x.toNat : Int) == 92) = true := b_t 92 (hsp.resolve_left h1)
          clear h1 hsp
          go_wp2_with (first | (at_builtin; refine wpList_append_fits _ rfl (.tmp 29) (.tmp 30) 28 rfl w.heap.size 5 i5 1 Try.underlying28 hi5 hz51 w.heap.size acc.length (2 * t.size + 2) (bv acc) rfl (HM.out.b.alloc _) ⟨wr.heap.size, 0, none⟩ 1 1 [.int .u8 92] rfl rfl (cell_one_new _ _ _) (by intro u hu; simp at hu; subst hu; rfl) (by omega) ?_; intro w3 hown3 hgrow3; have HM3 := Hid.mk' (HM.out.push 92 _ hown3 hgrow3); have HO3 := Hid.mk' hown3; clear hown3 hgrow3) | (at_builtin; refine wpList_append_fits _ rfl (.tmp 32) (.tmp 34) 28 rfl w.heap.size 5 i5 1 Try.underlying28 hi5 hz51 w.heap.size (acc.length + 1) (2 * t.size + 2) (bv acc ++ [.int .u8 92]) rfl (HO3.out.alloc _) ⟨w3.heap.size, 0, none⟩ 1 1 [.int .u8 x.toNat] rfl rfl (cell_one_new _ _ _) (by intro u hu; simp at hu; subst hu; rfl) (by omega) ?_; intro w4 hown4 hgrow4; have HM4 := Hid.mk' (HM3.out.push x _ (by rw [bv_snoc, List.length_append]; exact hown4) hgrow4); clear hown4 hgrow4))
          go_roundg g
          case measure => omega
          case rel => exact ⟨k + 1, acc ++ [92] ++ [x], by omega, by go_num, by simp, HM4.out, HE.out⟩
      · have e1 : ((x.toNat : Int) == 34) = false := b_f 34 (fun e => hsp (Or.inl e))
        have e2 : ((x.toNat : Int) == 92) = false := b_f 92 (fun e => hsp (Or.inr e))
        have HE : Hid (acc ++ [x] = 34 :: esc (t.data.toList.take (k + 1))) := by show _ = _; rw [htk.out, esc_append, if_neg hsp, HA.out]; simp
        clear hsp
        go_wp2_with (at_builtin; refine wpList_append_fits _ rfl (.tmp 32) (.tmp 34) 28 rfl w.heap.size 5 i5 1 Try.underlying28 hi5 hz51 w.heap.size acc.length (2 * t.size + 2) (bv acc) rfl (HM.out.b.alloc _) ⟨wr.heap.size, 0, none⟩ 1 1 [.int .u8 x.toNat] rfl rfl (cell_one_new _ _ _) (by intro u hu; simp at hu; subst hu; rfl) (by omega) ?_; intro w3 hown3 hgrow3; have HM3 := Hid.mk' (HM.out.push x _ hown3 hgrow3); clear hown3 hgrow3)
        go_roundg g
        case measure => omega
        case rel => exact ⟨k + 1, acc ++ [x], by omega, by go_num, by simp, HM3.out, HE.out⟩
end Go.Proofs.Qxb6602631a
