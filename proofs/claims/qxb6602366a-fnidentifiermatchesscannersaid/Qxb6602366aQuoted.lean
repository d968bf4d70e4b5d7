import Derived.Test.Qxb6602366aModel
import Derived.Lib.BufferRead
import Derived.Lib.SmallJoins
namespace Go.Proofs.Qxb6602366a
open Go.RowKit

/-- bytes as cells -/
def bvs (l : List UInt8) : List Value := l.map fun b => Value.int .u8 (b.toNat : Int)
theorem bvs_len (l : List UInt8) : (bvs l).length = l.length := by simp [bvs]
theorem bvs_snoc (l : List UInt8) (x : UInt8) : bvs (l ++ [x]) = bvs l ++ [Value.int .u8 (x.toNat : Int)] := by simp [bvs]

theorem Try.info5 : (Try.prog.info? 5).map (fun i => (i.zero, i.size, i.bytes)) = some (some (.int .u8 0), 1, 1) := by kernel_rfl

theorem conv_own {w : World} {B : Nat} {v : Value} {l : List UInt8} (h : w.ownsRow B 5 1 v l.length (bvs l)) :
    (convert 32 9 v).run Try.prog w = .ok (.string ⟨l.toArray⟩) w := by
  rcases Go.Joins.ownsRow_forms h with ⟨rfl, h0⟩ | ⟨g, cap, rfl⟩
  · have : l = [] := List.length_eq_zero_iff.1 h0
    subst this
    exact Lib.run_convert_nil_bytes w 32 9 5 0 Try.underlying32 Try.underlying5 Try.underlying9
  · refine run_convert_bytes_back w 32 9 5 ⟨g, 0, none⟩ cap l Try.underlying32 Try.underlying5 Try.underlying9 fun j hj => ?_
    exact h.cells (g := g) rfl j _ (by simp [bvs, hj])

theorem head_is {s : ByteArray} (hq : s.data.toList.head? = some 96) : s.toList.isEmpty = false ∧ ∃ h : 0 < s.size, (((s[0]'h).toNat : Int) != 96) = false := by
  cases h : s.data.toList with
  | nil => rw [h] at hq; simp at hq
  | cons a l =>
    have hsz : 0 < s.size := by rw [Lib.size_eq, h]; simp
    have h0 := data_at s 0 hsz
    refine ⟨by rw [Lib.toList_data, h]; rfl, hsz, ?_⟩
    rw [h] at h0 hq
    simp at h0 hq
    rw [← h0, hq]
    rfl

theorem ne96 {x : UInt8} (h : ((x.toNat : Int) != 96) = true) : x ≠ 96 := fun e => by subst e; simp at h
theorem is96 {x : UInt8} (h : ((x.toNat : Int) != 96) = false) : x = 96 := by
  have h2 : (x.toNat : Int) = 96 := by simpa using h
  have h3 : x.toNat = 96 := by omega
  exact UInt8.toNat_inj.1 h3

set_option maxHeartbeats 1000000 in
theorem model_quoted (s ends q : ByteArray) (w : World) (hs : s.size ≤ 1048576) (hq : s.data.toList.head? = some 96) (HQ : Hid (s.extract 1 s.size = q)) :
    Calls Try.prog 17 #[.string s, .string ends] w fun e w' =>
      e = .returned (.tuple #[.string ⟨(scanQ q.data.toList).1.toArray⟩, .string ⟨(scanQ q.data.toList).2.toArray⟩]) ∧ Below w.heap.size w w' := by
  obtain ⟨hne, h0, h1⟩ := head_is hq
  clear hq
  obtain ⟨i0, hi, hz0, hz1, hz2⟩ := info_parts Try.info5
  have hsz : Hid (q.size = s.size - 1) := by rw [← HQ.out]; show _ = _; simp
  have hqs : q.size ≤ 1048576 := by have := hsz.out; omega
  clear hsz
  go_enter Try.func17, Try.ntmps17
  go_wp2_with (at_make; refine wpList_make_own _ rfl _ _ 32 rfl w.heap.size 5 i0 (.int .u8 0) 1 Try.underlying32 hi hz0 hz1 .i64 .i64 _ (s.size - 1) rfl rfl (by omega) (by rw [hz2]; omega) (by unfold maxLen; omega) (Nat.le_refl _) ?_; intro w0 hown0 hgrow0)
  rw [HQ.out]
  clear HQ
  go_loopg [10, 11] q.size (fun g v i wx => ∃ (k : Nat) (acc : List UInt8), k + g = q.size ∧ i = .int .i64 k ∧ acc.length ≤ k ∧ wx.ownsRow w.heap.size 5 1 v acc.length (bvs acc) ∧ Below w.heap.size w wx ∧ Inv q.data.toList k acc)
  case atStart => exact ⟨0, [], by omega, rfl, Nat.le_refl _, hown0, (Below.refl _ _).grown hgrow0 (Nat.le_refl _) (fun k h => by cases h), Inv.zero _⟩
  case round =>
    obtain ⟨k, acc, hkg, rfl, hal, hown, hbel, hinv⟩ := hrel
    have HI : Hid (Inv q.data.toList k acc) := hinv
    clear hinv hown0 hgrow0
    have hwz : w.heap.size ≤ wr.heap.size := hbel.size
    cases gk with
    | zero =>
      obtain rfl : k = q.size := by omega
      have hcv := conv_own hown
      go_wp2
      go_ret2
      rw [HI.out.done (by rw [← Lib.size_eq]; exact Nat.le_refl _)]
      exact ⟨rfl, hbel⟩
    | succ g =>
      have hk : k < q.size := by omega
      obtain ⟨x, hx⟩ : ∃ x : UInt8, q[k]'hk = x := ⟨_, rfl⟩
      have hxl : Hid (q.data.toList[k]? = some x) := by rw [← hx]; exact data_at q k hk
      cases hb : ((x.toNat : Int) != 96) with
      | true =>
        have hne := ne96 hb
        go_wp2_with (at_builtin; refine wpList_append_own _ rfl _ _ 32 rfl w.heap.size 5 i0 (.int .u8 0) 1 1 Try.underlying32 hi hz0 hz1 hz2 rfl (by decide) _ _ _ rfl (hown.alloc _) ⟨wr.heap.size, 0, none⟩ 1 1 [.int .u8 x.toNat] rfl rfl (cell_one_new _ _ _) (by intro u hu; simp at hu; subst hu; rfl) (by unfold maxLen; omega) (by omega) (by simp; omega) ?_; intro v' w3 hown' hgrow3 _)
        go_roundg g
        case measure => omega
        case rel => exact ⟨k + 1, acc ++ [x], by omega, by go_num, by simp; omega, by rw [bvs_snoc, List.length_append]; exact hown', (hbel.alloc hwz _).grown hgrow3 (by simp; omega) (fun r hr => (hown.lt r hr).1), HI.out.ne hxl.out hne⟩
      | false =>
        have H96 : Hid (x = 96) := is96 hb
        by_cases hk1 : k + 1 < q.size
        · obtain ⟨y, hy⟩ : ∃ y : UInt8, q[k + 1]'hk1 = y := ⟨_, rfl⟩
          have hyl : Hid (q.data.toList[k + 1]? = some y) := by rw [← hy]; exact data_at q (k + 1) hk1
          cases hc : ((y.toNat : Int) == 96) with
          | true =>
            have Hy96 : Hid (y = 96) := is96 (by simpa [bne] using hc)
            go_wp2_with (at_builtin; refine wpList_append_own _ rfl _ _ 32 rfl w.heap.size 5 i0 (.int .u8 0) 1 1 Try.underlying32 hi hz0 hz1 hz2 rfl (by decide) _ _ _ rfl (hown.alloc _) ⟨wr.heap.size, 0, none⟩ 1 1 [.int .u8 96] rfl rfl (cell_one_new _ _ _) (by intro u hu; simp at hu; subst hu; rfl) (by unfold maxLen; omega) (by omega) (by simp; omega) ?_; intro v' w3 hown' hgrow3 _)
            go_roundg (g - 1)
            case measure => omega
            case rel => exact ⟨k + 2, acc ++ [96], by omega, by go_num, by simp; omega, by rw [bvs_snoc, List.length_append]; exact hown', (hbel.alloc hwz _).grown hgrow3 (by simp; omega) (fun r hr => (hown.lt r hr).1), HI.out.two (by rw [hxl.out, H96.out]) (by rw [hyl.out, Hy96.out])⟩
          | false =>
            have hcv := fun n => conv_own (w := wr.drewN n) hown
            go_wp2
            go_quiet (fail)
            go_wp2
            go_ret2
            rw [HI.out.stop (by rw [hxl.out, H96.out]) (by rw [hyl.out]; intro e; cases e; simp at hc)]
            refine ⟨?_, below_drewN hbel _⟩
            rw [mk_eq (Lib.extract_to_end q (k + 1))]; rfl
        · have hcv := fun n => conv_own (w := wr.drewN n) hown
          go_wp2
          go_quiet (fail)
          go_wp2
          go_ret2
          rw [HI.out.stop (by rw [hxl.out, H96.out]) (by rw [List.getElem?_eq_none (by rw [← Lib.size_eq]; omega)]; simp)]
          refine ⟨?_, below_drewN hbel _⟩
          rw [mk_eq (Lib.extract_to_end q (k + 1))]; rfl
end Go.Proofs.Qxb6602366a
