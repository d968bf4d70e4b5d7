import Derived.Test.Qxb6602631aElem
import Derived.Test.Qxb6602631aPlain2
namespace Go.Proofs.Qxb6602631a
open Go.RowKit

/-- a quote or a backslash among the first j -/
def anyQ (S : List UInt8) (j : Nat) : Bool := (S.take j).any isQB
theorem anyQ_zero (S : List UInt8) : anyQ S 0 = false := by simp [anyQ]
theorem anyQ_yes {S : List UInt8} {j : Nat} {c : UInt8} (hx : S[j]? = some c) (h : c = 34 ∨ c = 92) : anyQ S (j + 1) = true := by
  unfold anyQ
  rw [any_snoc hx]
  rcases h with rfl | rfl <;> simp [isQB]
theorem anyQ_no {S : List UInt8} {j : Nat} {c : UInt8} (hx : S[j]? = some c) (h1 : c ≠ 34) (h2 : c ≠ 92) : anyQ S (j + 1) = anyQ S j := by
  unfold anyQ
  rw [any_snoc hx]
  simp [isQB, h1, h2]

/-- the model's row in memory -/
structure Mem2 (w wx : World) (E : Nat) (acc : List (UInt8 × Bool)) : Prop where
  b : wx.ownsRow w.heap.size 5 1 (.slice (some ⟨w.heap.size, 0, none⟩) acc.length E) acc.length (bvs acc)
  below : Below w.heap.size w wx

theorem Mem2.push {w wr w3 : World} {E : Nat} {acc : List (UInt8 × Bool)} (h : Mem2 w wr E acc) (y : UInt8 × Bool) (o : Obj)
    (h6 : w3.ownsRow w.heap.size 5 1 (.slice (some ⟨w.heap.size, 0, none⟩) (acc.length + 1) E) (acc.length + 1) (bvs acc ++ [Value.int .u8 (y.1.toNat : Int)])) (g6 : (wr.alloc o).grownBy w3 (some w.heap.size)) : Mem2 w w3 E (acc ++ [y]) := by
  have hs : w.heap.size ≤ wr.heap.size := h.below.size
  refine ⟨?_, (h.below.alloc hs o).grown g6 (by simp; omega) (fun r hr => by cases hr; exact Nat.le_refl _)⟩
  rw [bvs_snoc, List.length_append]
  exact h6

set_option maxRecDepth 1000000 in
set_option maxHeartbeats 4000000 in
theorem model8 (s : ByteArray) (w : World) (hs : s.size ≤ 1048576) :
    Calls Try.prog 8 #[.string s] w fun e w' => Ans s e ∧ Below w.heap.size w w' := by
  obtain ⟨i5, hi5, hz50, hz51, hz52⟩ := info_parts Try.info5
  go_enter Try.func8, Try.ntmps8
  go_wp2
  go_loopg [7, 8] s.size (fun g v7 v8 wx => ∃ (k : Nat) (q sp : Bool) (pre : List (UInt8 × Bool)), k + g = s.size ∧ v8 = .bool q ∧ v7 = .int .i64 k ∧ w = wx ∧ Inv s.data.toList k q pre sp)
  case atStart => exact ⟨0, false, false, [], by omega, rfl, rfl, rfl, Inv.zero _⟩
  case round =>
    obtain ⟨k, q, sp, pre, hkg, rfl, rfl, rfl, hinv⟩ := hrel
    have HI : Hid (Inv s.data.toList k q pre sp) := hinv
    clear hinv
    cases gk with
    | zero =>
      obtain ⟨E, hE⟩ : ∃ E, E = s.size := ⟨_, rfl⟩
      obtain rfl : k = E := by omega
      cases q with
      | true =>
        have HN : Hid (rd s.data.toList false = none) := HI.out.open (by rw [← Lib.size_eq]; omega)
        go_wp2
        refine bodyPost_ret (results4 rfl _ _ _) rfl ?_
        exact ⟨Ans.none HN.out, Below.refl _ _⟩
      | false =>
        have HD : Hid (rd s.data.toList false = some (pre, sp, s.data.toList.drop k)) := HI.out.done (by rw [← Lib.size_eq]; omega)
        have hks : ¬ ((k : Int) < (s.size : Int)) := by omega
        have hkE : k ≤ s.size := by omega
        clear hE hkg
        have HSE : Hid (Second s.data.toList k pre 0 false []) := Second.start HD.out (by rw [← Lib.size_eq]; exact hkE)
        go_wp2
        go_loop [10, 11] (fun v10 v11 => ∃ j : Nat, j ≤ k ∧ v11 = .int .i64 j ∧ v10 = .bool (anyQ s.data.toList j)) (fun _ v11 => k - (intOf v11).toNat)
        case atStart => exact ⟨0, Nat.zero_le _, rfl, by rw [anyQ_zero]⟩
        case round =>
          obtain ⟨j, hj, rfl, rfl⟩ := hrel
          by_cases hjk : j < k
          · have hjs : j < s.size := by omega
            obtain ⟨y, hy⟩ : ∃ y : UInt8, s[j]'hjs = y := ⟨_, rfl⟩
            have hyl : Hid (s.data.toList[j]? = some y) := by show _ = _; rw [← hy]; exact data_at s j hjs
            by_cases y34 : y = 34
            · have b34 : ((y.toNat : Int) == 34) = true := b_t 34 y34
              have HY : Hid (anyQ s.data.toList (j + 1) = true) := anyQ_yes hyl.out (Or.inl y34)
              clear y34
              go_wp2
              go_round
              case rel => exact ⟨j + 1, by omega, by go_num, by rw [HY.out]⟩
              case measure => simp [intOf]; omega
            · have b34 : ((y.toNat : Int) == 34) = false := b_f 34 y34
              by_cases y92 : y = 92
              · have b92 : ((y.toNat : Int) == 92) = true := b_t 92 y92
                have HY : Hid (anyQ s.data.toList (j + 1) = true) := anyQ_yes hyl.out (Or.inr y92)
                clear y34 y92
                go_wp2
                go_round
                case rel => exact ⟨j + 1, by omega, by go_num, by rw [HY.out]⟩
                case measure => simp [intOf]; omega
              · have b92 : ((y.toNat : Int) == 92) = false := b_f 92 y92
                have HY : Hid (anyQ s.data.toList (j + 1) = anyQ s.data.toList j) := anyQ_no hyl.out y34 y92
                clear y34 y92
                go_wp2
                go_round
                case rel => exact ⟨j + 1, by omega, by go_num, by rw [HY.out]⟩
                case measure => simp [intOf]; omega
          · obtain rfl : j = k := by omega
            have HSP : Hid (anyQ s.data.toList j = sp) := (spelled_eq HD.out).symm
            go_wp2_with (at_make; refine wpList_make_own _ rfl _ _ 28 rfl w.heap.size 5 i5 (.int .u8 0) 1 Try.underlying28 hi5 hz50 hz51 .i64 .i64 _ j rfl rfl (by omega) (by rw [hz52]; omega) (by unfold maxLen; omega) (Nat.le_refl _) ?_; intro w0 hown0 hgrow0; have HM0 := Hid.mk' (show Mem2 w w0 j [] from ⟨hown0, (Below.refl _ _).grown hgrow0 (Nat.le_refl _) (fun k h => by cases h)⟩); clear hown0 hgrow0)
            go_loopg [12, 13, 14, 15, 16] j (fun g v12 v13 v14 v15 v16 wx => ∃ (i : Nat) (q : Bool) (acc : List (UInt8 × Bool)), i + g = j ∧ v16 = .int .i64 i ∧ v15 = .bool q ∧ v12 = .slice (some ⟨w.heap.size, 0, none⟩) acc.length j ∧ acc.length ≤ i ∧ Mem2 w wx j acc ∧ Second s.data.toList j pre i q acc ∧
              ((v13 = .int .i64 (-1) ∧ v14 = .int .i64 (-1) ∧ AllB acc acc.length) ∨ ∃ f l : Nat, v13 = .int .i64 f ∧ v14 = .int .i64 l ∧ FL acc f l))
            case atStart => exact ⟨0, false, [], by omega, rfl, rfl, rfl, Nat.le_refl _, HM0.out, HSE.out, Or.inl ⟨rfl, rfl, AllB.zero _⟩⟩
            case round =>
              obtain ⟨i, q, acc, hig, rfl, rfl, rfl, hai, hmem, hsec, hfl⟩ := hrel
              have HM : Hid (Mem2 w wr j acc) := hmem
              have HS2 : Hid (Second s.data.toList j pre i q acc) := hsec
              clear hmem hsec HM0 HSE
              have hwz : w.heap.size ≤ wr.heap.size := HM.out.below.size
              cases gk with
              | zero =>
                obtain rfl : i = j := by omega
                obtain rfl : pre = acc := HS2.out.done
                rcases hfl with ⟨rfl, rfl, hall⟩ | ⟨f, l, rfl, rfl, hFL⟩
                · have HT : Hid (Trim pre pre.length pre.length) := trim_blank hall
                  clear hall
                  go_wp2
                  go_quiet (fail)
                  go_wp2
                  refine bodyPost_ret (results4 rfl _ _ _) rfl ?_
                  refine ⟨?_, below_drewN HM.out.below _⟩
                  have := Ans.some HD.out HT.out
                  rw [← mk_eq (Lib.extract_to_end s i), span_empty] at this
                  rw [← HSP.out] at this
                  exact this
                · have HT : Hid (Trim pre f (l + 1)) := hFL.trim
                  have hl1 : f ≤ l + 1 := HT.out.fl
                  have hl2 : l + 1 ≤ pre.length := HT.out.ln
                  clear hFL
                  obtain ⟨V, hV1, hV2⟩ := span_any HM.out.b hl1 hl2
                  have hV1' := hV1
                  have hV2' := hV2 0
                  rw [World.drewN_zero] at hV2'
                  rw [show ((l + 1 : Nat) : Int) = (l : Int) + 1 from by omega] at hV1'
                  go_wp2
                  go_quiet (fail)
                  go_wp2
                  refine bodyPost_ret (results4 rfl _ _ _) rfl ?_
                  refine ⟨?_, below_drewN HM.out.below _⟩
                  have := Ans.some HD.out HT.out
                  rw [← mk_eq (Lib.extract_to_end s i)] at this
                  rw [← HSP.out] at this
                  exact this
              | succ g =>
                have hij : i < j := by omega
                have his : i < s.size := by omega
                obtain ⟨y, hy⟩ : ∃ y : UInt8, s[i]'his = y := ⟨_, rfl⟩
                have hyl : Hid (s.data.toList[i]? = some y) := by show _ = _; rw [← hy]; exact data_at s i his
                by_cases y92 : y = 92
                · have b92 : ((y.toNat : Int) == 92) = true := b_t 92 y92
                  obtain ⟨d, hd, hsec2⟩ := HS2.out.esc (by rw [hyl.out, y92]) hij
                  have HS3 : Hid (Second s.data.toList j pre (i + 2) q (acc ++ [(d, true)])) := hsec2
                  have hi1 : i + 1 < s.size := by have := (List.getElem?_eq_some_iff.1 hd).1; rw [← Lib.size_eq] at this; exact this
                  have hdd : s[i + 1]'hi1 = d := by have := data_at s (i + 1) hi1; rw [hd] at this; cases this; rfl
                  have hi2 : i + 2 ≤ j := hsec2.1
                  clear y92 hd hsec2
                  rcases hfl with ⟨rfl, rfl, hall⟩ | ⟨f, l, rfl, rfl, hFL⟩
                  · have HF : Hid (FL (acc ++ [(d, true)]) acc.length acc.length) := FL.first hall (blank_kept d)
                    clear hall
                    go_wp2_with (first | (at_builtin; refine wpList_append_fits _ rfl (.tmp 80) (.tmp 85) 28 rfl w.heap.size 5 i5 1 Try.underlying28 hi5 hz51 w.heap.size acc.length j (bvs acc) rfl (HM.out.b.alloc _) ⟨wr.heap.size, 0, none⟩ 1 1 [.int .u8 d.toNat] rfl rfl (cell_one_new _ _ _) (by intro u hu; simp at hu; subst hu; rfl) (by omega) ?_; intro w3 hown6' hgrow6; have H6 := Hid.mk' hown6'; have G6 := Hid.mk' hgrow6; clear hown6' hgrow6))
                    go_roundg (g - 1)
                    case measure => omega
                    case rel => exact ⟨i + 2, q, acc ++ [(d, true)], by omega, by go_num, rfl, by rw [List.length_append]; rfl, by simp; omega, HM.out.push (d, true) _ H6.out G6.out, HS3.out, Or.inr ⟨acc.length, acc.length, by go_num, by go_num, HF.out⟩⟩
                  · have HF : Hid (FL (acc ++ [(d, true)]) f acc.length) := hFL.sig (blank_kept d)
                    clear hFL
                    go_wp2_with (first | (at_builtin; refine wpList_append_fits _ rfl (.tmp 80) (.tmp 85) 28 rfl w.heap.size 5 i5 1 Try.underlying28 hi5 hz51 w.heap.size acc.length j (bvs acc) rfl (HM.out.b.alloc _) ⟨wr.heap.size, 0, none⟩ 1 1 [.int .u8 d.toNat] rfl rfl (cell_one_new _ _ _) (by intro u hu; simp at hu; subst hu; rfl) (by omega) ?_; intro w3 hown6' hgrow6; have H6 := Hid.mk' hown6'; have G6 := Hid.mk' hgrow6; clear hown6' hgrow6))
                    go_roundg (g - 1)
                    case measure => omega
                    case rel => exact ⟨i + 2, q, acc ++ [(d, true)], by omega, by go_num, rfl, by rw [List.length_append]; rfl, by simp; omega, HM.out.push (d, true) _ H6.out G6.out, HS3.out, Or.inr ⟨f, acc.length, by go_num, by go_num, HF.out⟩⟩
                · have b92 : ((y.toNat : Int) == 92) = false := b_f 92 y92
                  by_cases y34 : y = 34
                  · have b34 : ((y.toNat : Int) == 34) = true := b_t 34 y34
                    have HS3 : Hid (Second s.data.toList j pre (i + 1) (!q) acc) := HS2.out.quote (by rw [hyl.out, y34]) hij
                    clear y92 y34
                    have HFL := Hid.mk' hfl
                    clear hfl
                    go_wp2
                    go_roundg g
                    case measure => omega
                    case rel => exact ⟨i + 1, !q, acc, by omega, by go_num, rfl, rfl, by omega, HM.out, HS3.out, HFL.out⟩
                  · have b34 : ((y.toNat : Int) == 34) = false := b_f 34 y34
                    have HS3 : Hid (Second s.data.toList j pre (i + 1) q (acc ++ [(y, q)])) := HS2.out.plain hyl.out hij y92 y34
                    clear y92 y34
                    cases hbl : blank (y, q) with
                    | true =>
                      have hq : q = false := by cases q with | true => rw [blank_kept] at hbl; cases hbl | false => rfl
                      subst hq
                      have HSW : Hid (spB y = true) := by show _ = _; simpa [blank] using hbl
                      rcases hfl with ⟨rfl, rfl, hall⟩ | ⟨f, l, rfl, rfl, hFL⟩
                      · have HF : Hid (AllB (acc ++ [(y, false)]) (acc ++ [(y, false)]).length) := allB_snoc hall hbl
                        clear hall hbl
                        go_wp2_with (first | (at_builtin; refine wpList_append_fits _ rfl (.tmp 95) (.tmp 97) 28 rfl w.heap.size 5 i5 1 Try.underlying28 hi5 hz51 w.heap.size acc.length j (bvs acc) rfl (HM.out.b.alloc _) ⟨wr.heap.size, 0, none⟩ 1 1 [.int .u8 y.toNat] rfl rfl (cell_one_new _ _ _) (by intro u hu; simp at hu; subst hu; rfl) (by omega) ?_; intro w3 hown6' hgrow6; have H6 := Hid.mk' hown6'; have G6 := Hid.mk' hgrow6; clear hown6' hgrow6) | (go_at_call 13; refine (space13 _ _).mono ?_; rintro e w' ⟨rfl, hw⟩; rw [hw, HSW.out]))
                        go_roundg g
                        case measure => omega
                        case rel => exact ⟨i + 1, false, acc ++ [(y, false)], by omega, by go_num, rfl, by rw [List.length_append]; rfl, by simp; omega, HM.out.push (y, false) _ H6.out G6.out, HS3.out, Or.inl ⟨rfl, rfl, HF.out⟩⟩
                      · have HF : Hid (FL (acc ++ [(y, false)]) f l) := hFL.white hbl
                        clear hFL hbl
                        go_wp2_with (first | (at_builtin; refine wpList_append_fits _ rfl (.tmp 95) (.tmp 97) 28 rfl w.heap.size 5 i5 1 Try.underlying28 hi5 hz51 w.heap.size acc.length j (bvs acc) rfl (HM.out.b.alloc _) ⟨wr.heap.size, 0, none⟩ 1 1 [.int .u8 y.toNat] rfl rfl (cell_one_new _ _ _) (by intro u hu; simp at hu; subst hu; rfl) (by omega) ?_; intro w3 hown6' hgrow6; have H6 := Hid.mk' hown6'; have G6 := Hid.mk' hgrow6; clear hown6' hgrow6) | (go_at_call 13; refine (space13 _ _).mono ?_; rintro e w' ⟨rfl, hw⟩; rw [hw, HSW.out]))
                        go_roundg g
                        case measure => omega
                        case rel => exact ⟨i + 1, false, acc ++ [(y, false)], by omega, by go_num, rfl, by rw [List.length_append]; rfl, by simp; omega, HM.out.push (y, false) _ H6.out G6.out, HS3.out, Or.inr ⟨f, l, rfl, rfl, HF.out⟩⟩
                    | false =>
                      cases q with
                      | true =>
                        rcases hfl with ⟨rfl, rfl, hall⟩ | ⟨f, l, rfl, rfl, hFL⟩
                        · have HF : Hid (FL (acc ++ [(y, true)]) acc.length acc.length) := FL.first hall hbl
                          clear hall hbl
                          go_wp2_with (first | (at_builtin; refine wpList_append_fits _ rfl (.tmp 95) (.tmp 97) 28 rfl w.heap.size 5 i5 1 Try.underlying28 hi5 hz51 w.heap.size acc.length j (bvs acc) rfl (HM.out.b.alloc _) ⟨wr.heap.size, 0, none⟩ 1 1 [.int .u8 y.toNat] rfl rfl (cell_one_new _ _ _) (by intro u hu; simp at hu; subst hu; rfl) (by omega) ?_; intro w3 hown6' hgrow6; have H6 := Hid.mk' hown6'; have G6 := Hid.mk' hgrow6; clear hown6' hgrow6) | (go_at_call 13; refine (space13 _ _).mono ?_; rintro e w' ⟨rfl, hw⟩; rw [hw, HSW.out]))
                          go_roundg g
                          case measure => omega
                          case rel => exact ⟨i + 1, true, acc ++ [(y, true)], by omega, by go_num, rfl, by rw [List.length_append]; rfl, by simp; omega, HM.out.push (y, true) _ H6.out G6.out, HS3.out, Or.inr ⟨acc.length, acc.length, by go_num, by go_num, HF.out⟩⟩
                        · have HF : Hid (FL (acc ++ [(y, true)]) f acc.length) := hFL.sig hbl
                          clear hFL hbl
                          go_wp2_with (first | (at_builtin; refine wpList_append_fits _ rfl (.tmp 95) (.tmp 97) 28 rfl w.heap.size 5 i5 1 Try.underlying28 hi5 hz51 w.heap.size acc.length j (bvs acc) rfl (HM.out.b.alloc _) ⟨wr.heap.size, 0, none⟩ 1 1 [.int .u8 y.toNat] rfl rfl (cell_one_new _ _ _) (by intro u hu; simp at hu; subst hu; rfl) (by omega) ?_; intro w3 hown6' hgrow6; have H6 := Hid.mk' hown6'; have G6 := Hid.mk' hgrow6; clear hown6' hgrow6) | (go_at_call 13; refine (space13 _ _).mono ?_; rintro e w' ⟨rfl, hw⟩; rw [hw, HSW.out]))
                          go_roundg g
                          case measure => omega
                          case rel => exact ⟨i + 1, true, acc ++ [(y, true)], by omega, by go_num, rfl, by rw [List.length_append]; rfl, by simp; omega, HM.out.push (y, true) _ H6.out G6.out, HS3.out, Or.inr ⟨f, acc.length, by go_num, by go_num, HF.out⟩⟩
                      | false =>
                        have HSW : Hid (spB y = false) := by show _ = _; simpa [blank] using hbl
                        rcases hfl with ⟨rfl, rfl, hall⟩ | ⟨f, l, rfl, rfl, hFL⟩
                        · have HF : Hid (FL (acc ++ [(y, false)]) acc.length acc.length) := FL.first hall hbl
                          clear hall hbl
                          go_wp2_with (first | (at_builtin; refine wpList_append_fits _ rfl (.tmp 95) (.tmp 97) 28 rfl w.heap.size 5 i5 1 Try.underlying28 hi5 hz51 w.heap.size acc.length j (bvs acc) rfl (HM.out.b.alloc _) ⟨wr.heap.size, 0, none⟩ 1 1 [.int .u8 y.toNat] rfl rfl (cell_one_new _ _ _) (by intro u hu; simp at hu; subst hu; rfl) (by omega) ?_; intro w3 hown6' hgrow6; have H6 := Hid.mk' hown6'; have G6 := Hid.mk' hgrow6; clear hown6' hgrow6) | (go_at_call 13; refine (space13 _ _).mono ?_; rintro e w' ⟨rfl, hw⟩; rw [hw, HSW.out]))
                          go_roundg g
                          case measure => omega
                          case rel => exact ⟨i + 1, false, acc ++ [(y, false)], by omega, by go_num, rfl, by rw [List.length_append]; rfl, by simp; omega, HM.out.push (y, false) _ H6.out G6.out, HS3.out, Or.inr ⟨acc.length, acc.length, by go_num, by go_num, HF.out⟩⟩
                        · have HF : Hid (FL (acc ++ [(y, false)]) f acc.length) := hFL.sig hbl
                          clear hFL hbl
                          go_wp2_with (first | (at_builtin; refine wpList_append_fits _ rfl (.tmp 95) (.tmp 97) 28 rfl w.heap.size 5 i5 1 Try.underlying28 hi5 hz51 w.heap.size acc.length j (bvs acc) rfl (HM.out.b.alloc _) ⟨wr.heap.size, 0, none⟩ 1 1 [.int .u8 y.toNat] rfl rfl (cell_one_new _ _ _) (by intro u hu; simp at hu; subst hu; rfl) (by omega) ?_; intro w3 hown6' hgrow6; have H6 := Hid.mk' hown6'; have G6 := Hid.mk' hgrow6; clear hown6' hgrow6) | (go_at_call 13; refine (space13 _ _).mono ?_; rintro e w' ⟨rfl, hw⟩; rw [hw, HSW.out]))
                          go_roundg g
                          case measure => omega
                          case rel => exact ⟨i + 1, false, acc ++ [(y, false)], by omega, by go_num, rfl, by rw [List.length_append]; rfl, by simp; omega, HM.out.push (y, false) _ H6.out G6.out, HS3.out, Or.inr ⟨f, acc.length, by go_num, by go_num, HF.out⟩⟩
    | succ g =>
      have hk : k < s.size := by omega
      obtain ⟨x, hx⟩ : ∃ x : UInt8, s[k]'hk = x := ⟨_, rfl⟩
      have hxl : Hid (s.data.toList[k]? = some x) := by show _ = _; rw [← hx]; exact data_at s k hk
      rcases kinds x q with ⟨h1, h2⟩ | h1 | h1 | h1 | ⟨h1, h2, h3, h4, h5⟩
      · subst h2
        have e44 : ((x.toNat : Int) == 44) = true := b_t 44 h1
        have HD : Hid (rd s.data.toList false = some (pre, sp, s.data.toList.drop k)) := HI.out.comma (by rw [hxl.out, h1])
        have hkE : k ≤ s.size := by omega
        clear h1
        have HSE : Hid (Second s.data.toList k pre 0 false []) := Second.start HD.out (by rw [← Lib.size_eq]; exact hkE)
        go_wp2
        go_loop [10, 11] (fun v10 v11 => ∃ j : Nat, j ≤ k ∧ v11 = .int .i64 j ∧ v10 = .bool (anyQ s.data.toList j)) (fun _ v11 => k - (intOf v11).toNat)
        case atStart => exact ⟨0, Nat.zero_le _, rfl, by rw [anyQ_zero]⟩
        case round =>
          obtain ⟨j, hj, rfl, rfl⟩ := hrel
          by_cases hjk : j < k
          · have hjs : j < s.size := by omega
            obtain ⟨y, hy⟩ : ∃ y : UInt8, s[j]'hjs = y := ⟨_, rfl⟩
            have hyl : Hid (s.data.toList[j]? = some y) := by show _ = _; rw [← hy]; exact data_at s j hjs
            by_cases y34 : y = 34
            · have b34 : ((y.toNat : Int) == 34) = true := b_t 34 y34
              have HY : Hid (anyQ s.data.toList (j + 1) = true) := anyQ_yes hyl.out (Or.inl y34)
              clear y34
              go_wp2
              go_round
              case rel => exact ⟨j + 1, by omega, by go_num, by rw [HY.out]⟩
              case measure => simp [intOf]; omega
            · have b34 : ((y.toNat : Int) == 34) = false := b_f 34 y34
              by_cases y92 : y = 92
              · have b92 : ((y.toNat : Int) == 92) = true := b_t 92 y92
                have HY : Hid (anyQ s.data.toList (j + 1) = true) := anyQ_yes hyl.out (Or.inr y92)
                clear y34 y92
                go_wp2
                go_round
                case rel => exact ⟨j + 1, by omega, by go_num, by rw [HY.out]⟩
                case measure => simp [intOf]; omega
              · have b92 : ((y.toNat : Int) == 92) = false := b_f 92 y92
                have HY : Hid (anyQ s.data.toList (j + 1) = anyQ s.data.toList j) := anyQ_no hyl.out y34 y92
                clear y34 y92
                go_wp2
                go_round
                case rel => exact ⟨j + 1, by omega, by go_num, by rw [HY.out]⟩
                case measure => simp [intOf]; omega
          · obtain rfl : j = k := by omega
            have HSP : Hid (anyQ s.data.toList j = sp) := (spelled_eq HD.out).symm
            go_wp2_with (at_make; refine wpList_make_own _ rfl _ _ 28 rfl w.heap.size 5 i5 (.int .u8 0) 1 Try.underlying28 hi5 hz50 hz51 .i64 .i64 _ j rfl rfl (by omega) (by rw [hz52]; omega) (by unfold maxLen; omega) (Nat.le_refl _) ?_; intro w0 hown0 hgrow0; have HM0 := Hid.mk' (show Mem2 w w0 j [] from ⟨hown0, (Below.refl _ _).grown hgrow0 (Nat.le_refl _) (fun k h => by cases h)⟩); clear hown0 hgrow0)
            go_loopg [12, 13, 14, 15, 16] j (fun g v12 v13 v14 v15 v16 wx => ∃ (i : Nat) (q : Bool) (acc : List (UInt8 × Bool)), i + g = j ∧ v16 = .int .i64 i ∧ v15 = .bool q ∧ v12 = .slice (some ⟨w.heap.size, 0, none⟩) acc.length j ∧ acc.length ≤ i ∧ Mem2 w wx j acc ∧ Second s.data.toList j pre i q acc ∧
              ((v13 = .int .i64 (-1) ∧ v14 = .int .i64 (-1) ∧ AllB acc acc.length) ∨ ∃ f l : Nat, v13 = .int .i64 f ∧ v14 = .int .i64 l ∧ FL acc f l))
            case atStart => exact ⟨0, false, [], by omega, rfl, rfl, rfl, Nat.le_refl _, HM0.out, HSE.out, Or.inl ⟨rfl, rfl, AllB.zero _⟩⟩
            case round =>
              obtain ⟨i, q, acc, hig, rfl, rfl, rfl, hai, hmem, hsec, hfl⟩ := hrel
              have HM : Hid (Mem2 w wr j acc) := hmem
              have HS2 : Hid (Second s.data.toList j pre i q acc) := hsec
              clear hmem hsec HM0 HSE
              have hwz : w.heap.size ≤ wr.heap.size := HM.out.below.size
              cases gk with
              | zero =>
                obtain rfl : i = j := by omega
                obtain rfl : pre = acc := HS2.out.done
                rcases hfl with ⟨rfl, rfl, hall⟩ | ⟨f, l, rfl, rfl, hFL⟩
                · have HT : Hid (Trim pre pre.length pre.length) := trim_blank hall
                  clear hall
                  go_wp2
                  go_quiet (fail)
                  go_wp2
                  refine bodyPost_ret (results4 rfl _ _ _) rfl ?_
                  refine ⟨?_, below_drewN HM.out.below _⟩
                  have := Ans.some HD.out HT.out
                  rw [← mk_eq (Lib.extract_to_end s i), span_empty] at this
                  rw [← HSP.out] at this
                  exact this
                · have HT : Hid (Trim pre f (l + 1)) := hFL.trim
                  have hl1 : f ≤ l + 1 := HT.out.fl
                  have hl2 : l + 1 ≤ pre.length := HT.out.ln
                  clear hFL
                  obtain ⟨V, hV1, hV2⟩ := span_any HM.out.b hl1 hl2
                  have hV1' := hV1
                  have hV2' := hV2 0
                  rw [World.drewN_zero] at hV2'
                  rw [show ((l + 1 : Nat) : Int) = (l : Int) + 1 from by omega] at hV1'
                  go_wp2
                  go_quiet (fail)
                  go_wp2
                  refine bodyPost_ret (results4 rfl _ _ _) rfl ?_
                  refine ⟨?_, below_drewN HM.out.below _⟩
                  have := Ans.some HD.out HT.out
                  rw [← mk_eq (Lib.extract_to_end s i)] at this
                  rw [← HSP.out] at this
                  exact this
              | succ g =>
                have hij : i < j := by omega
                have his : i < s.size := by omega
                obtain ⟨y, hy⟩ : ∃ y : UInt8, s[i]'his = y := ⟨_, rfl⟩
                have hyl : Hid (s.data.toList[i]? = some y) := by show _ = _; rw [← hy]; exact data_at s i his
                by_cases y92 : y = 92
                · have b92 : ((y.toNat : Int) == 92) = true := b_t 92 y92
                  obtain ⟨d, hd, hsec2⟩ := HS2.out.esc (by rw [hyl.out, y92]) hij
                  have HS3 : Hid (Second s.data.toList j pre (i + 2) q (acc ++ [(d, true)])) := hsec2
                  have hi1 : i + 1 < s.size := by have := (List.getElem?_eq_some_iff.1 hd).1; rw [← Lib.size_eq] at this; exact this
                  have hdd : s[i + 1]'hi1 = d := by have := data_at s (i + 1) hi1; rw [hd] at this; cases this; rfl
                  have hi2 : i + 2 ≤ j := hsec2.1
                  clear y92 hd hsec2
                  rcases hfl with ⟨rfl, rfl, hall⟩ | ⟨f, l, rfl, rfl, hFL⟩
                  · have HF : Hid (FL (acc ++ [(d, true)]) acc.length acc.length) := FL.first hall (blank_kept d)
                    clear hall
                    go_wp2_with (first | (at_builtin; refine wpList_append_fits _ rfl (.tmp 80) (.tmp 85) 28 rfl w.heap.size 5 i5 1 Try.underlying28 hi5 hz51 w.heap.size acc.length j (bvs acc) rfl (HM.out.b.alloc _) ⟨wr.heap.size, 0, none⟩ 1 1 [.int .u8 d.toNat] rfl rfl (cell_one_new _ _ _) (by intro u hu; simp at hu; subst hu; rfl) (by omega) ?_; intro w3 hown6' hgrow6; have H6 := Hid.mk' hown6'; have G6 := Hid.mk' hgrow6; clear hown6' hgrow6))
                    go_roundg (g - 1)
                    case measure => omega
                    case rel => exact ⟨i + 2, q, acc ++ [(d, true)], by omega, by go_num, rfl, by rw [List.length_append]; rfl, by simp; omega, HM.out.push (d, true) _ H6.out G6.out, HS3.out, Or.inr ⟨acc.length, acc.length, by go_num, by go_num, HF.out⟩⟩
                  · have HF : Hid (FL (acc ++ [(d, true)]) f acc.length) := hFL.sig (blank_kept d)
                    clear hFL
                    go_wp2_with (first | (at_builtin; refine wpList_append_fits _ rfl (.tmp 80) (.tmp 85) 28 rfl w.heap.size 5 i5 1 Try.underlying28 hi5 hz51 w.heap.size acc.length j (bvs acc) rfl (HM.out.b.alloc _) ⟨wr.heap.size, 0, none⟩ 1 1 [.int .u8 d.toNat] rfl rfl (cell_one_new _ _ _) (by intro u hu; simp at hu; subst hu; rfl) (by omega) ?_; intro w3 hown6' hgrow6; have H6 := Hid.mk' hown6'; have G6 := Hid.mk' hgrow6; clear hown6' hgrow6))
                    go_roundg (g - 1)
                    case measure => omega
                    case rel => exact ⟨i + 2, q, acc ++ [(d, true)], by omega, by go_num, rfl, by rw [List.length_append]; rfl, by simp; omega, HM.out.push (d, true) _ H6.out G6.out, HS3.out, Or.inr ⟨f, acc.length, by go_num, by go_num, HF.out⟩⟩
                · have b92 : ((y.toNat : Int) == 92) = false := b_f 92 y92
                  by_cases y34 : y = 34
                  · have b34 : ((y.toNat : Int) == 34) = true := b_t 34 y34
                    have HS3 : Hid (Second s.data.toList j pre (i + 1) (!q) acc) := HS2.out.quote (by rw [hyl.out, y34]) hij
                    clear y92 y34
                    have HFL := Hid.mk' hfl
                    clear hfl
                    go_wp2
                    go_roundg g
                    case measure => omega
                    case rel => exact ⟨i + 1, !q, acc, by omega, by go_num, rfl, rfl, by omega, HM.out, HS3.out, HFL.out⟩
                  · have b34 : ((y.toNat : Int) == 34) = false := b_f 34 y34
                    have HS3 : Hid (Second s.data.toList j pre (i + 1) q (acc ++ [(y, q)])) := HS2.out.plain hyl.out hij y92 y34
                    clear y92 y34
                    cases hbl : blank (y, q) with
                    | true =>
                      have hq : q = false := by cases q with | true => rw [blank_kept] at hbl; cases hbl | false => rfl
                      subst hq
                      have HSW : Hid (spB y = true) := by show _ = _; simpa [blank] using hbl
                      rcases hfl with ⟨rfl, rfl, hall⟩ | ⟨f, l, rfl, rfl, hFL⟩
                      · have HF : Hid (AllB (acc ++ [(y, false)]) (acc ++ [(y, false)]).length) := allB_snoc hall hbl
                        clear hall hbl
                        go_wp2_with (first | (at_builtin; refine wpList_append_fits _ rfl (.tmp 95) (.tmp 97) 28 rfl w.heap.size 5 i5 1 Try.underlying28 hi5 hz51 w.heap.size acc.length j (bvs acc) rfl (HM.out.b.alloc _) ⟨wr.heap.size, 0, none⟩ 1 1 [.int .u8 y.toNat] rfl rfl (cell_one_new _ _ _) (by intro u hu; simp at hu; subst hu; rfl) (by omega) ?_; intro w3 hown6' hgrow6; have H6 := Hid.mk' hown6'; have G6 := Hid.mk' hgrow6; clear hown6' hgrow6) | (go_at_call 13; refine (space13 _ _).mono ?_; rintro e w' ⟨rfl, hw⟩; rw [hw, HSW.out]))
                        go_roundg g
                        case measure => omega
                        case rel => exact ⟨i + 1, false, acc ++ [(y, false)], by omega, by go_num, rfl, by rw [List.length_append]; rfl, by simp; omega, HM.out.push (y, false) _ H6.out G6.out, HS3.out, Or.inl ⟨rfl, rfl, HF.out⟩⟩
                      · have HF : Hid (FL (acc ++ [(y, false)]) f l) := hFL.white hbl
                        clear hFL hbl
                        go_wp2_with (first | (at_builtin; refine wpList_append_fits _ rfl (.tmp 95) (.tmp 97) 28 rfl w.heap.size 5 i5 1 Try.underlying28 hi5 hz51 w.heap.size acc.length j (bvs acc) rfl (HM.out.b.alloc _) ⟨wr.heap.size, 0, none⟩ 1 1 [.int .u8 y.toNat] rfl rfl (cell_one_new _ _ _) (by intro u hu; simp at hu; subst hu; rfl) (by omega) ?_; intro w3 hown6' hgrow6; have H6 := Hid.mk' hown6'; have G6 := Hid.mk' hgrow6; clear hown6' hgrow6) | (go_at_call 13; refine (space13 _ _).mono ?_; rintro e w' ⟨rfl, hw⟩; rw [hw, HSW.out]))
                        go_roundg g
                        case measure => omega
                        case rel => exact ⟨i + 1, false, acc ++ [(y, false)], by omega, by go_num, rfl, by rw [List.length_append]; rfl, by simp; omega, HM.out.push (y, false) _ H6.out G6.out, HS3.out, Or.inr ⟨f, l, rfl, rfl, HF.out⟩⟩
                    | false =>
                      cases q with
                      | true =>
                        rcases hfl with ⟨rfl, rfl, hall⟩ | ⟨f, l, rfl, rfl, hFL⟩
                        · have HF : Hid (FL (acc ++ [(y, true)]) acc.length acc.length) := FL.first hall hbl
                          clear hall hbl
                          go_wp2_with (first | (at_builtin; refine wpList_append_fits _ rfl (.tmp 95) (.tmp 97) 28 rfl w.heap.size 5 i5 1 Try.underlying28 hi5 hz51 w.heap.size acc.length j (bvs acc) rfl (HM.out.b.alloc _) ⟨wr.heap.size, 0, none⟩ 1 1 [.int .u8 y.toNat] rfl rfl (cell_one_new _ _ _) (by intro u hu; simp at hu; subst hu; rfl) (by omega) ?_; intro w3 hown6' hgrow6; have H6 := Hid.mk' hown6'; have G6 := Hid.mk' hgrow6; clear hown6' hgrow6) | (go_at_call 13; refine (space13 _ _).mono ?_; rintro e w' ⟨rfl, hw⟩; rw [hw, HSW.out]))
                          go_roundg g
                          case measure => omega
                          case rel => exact ⟨i + 1, true, acc ++ [(y, true)], by omega, by go_num, rfl, by rw [List.length_append]; rfl, by simp; omega, HM.out.push (y, true) _ H6.out G6.out, HS3.out, Or.inr ⟨acc.length, acc.length, by go_num, by go_num, HF.out⟩⟩
                        · have HF : Hid (FL (acc ++ [(y, true)]) f acc.length) := hFL.sig hbl
                          clear hFL hbl
                          go_wp2_with (first | (at_builtin; refine wpList_append_fits _ rfl (.tmp 95) (.tmp 97) 28 rfl w.heap.size 5 i5 1 Try.underlying28 hi5 hz51 w.heap.size acc.length j (bvs acc) rfl (HM.out.b.alloc _) ⟨wr.heap.size, 0, none⟩ 1 1 [.int .u8 y.toNat] rfl rfl (cell_one_new _ _ _) (by intro u hu; simp at hu; subst hu; rfl) (by omega) ?_; intro w3 hown6' hgrow6; have H6 := Hid.mk' hown6'; have G6 := Hid.mk' hgrow6; clear hown6' hgrow6) | (go_at_call 13; refine (space13 _ _).mono ?_; rintro e w' ⟨rfl, hw⟩; rw [hw, HSW.out]))
                          go_roundg g
                          case measure => omega
                          case rel => exact ⟨i + 1, true, acc ++ [(y, true)], by omega, by go_num, rfl, by rw [List.length_append]; rfl, by simp; omega, HM.out.push (y, true) _ H6.out G6.out, HS3.out, Or.inr ⟨f, acc.length, by go_num, by go_num, HF.out⟩⟩
                      | false =>
                        have HSW : Hid (spB y = false) := by show _ = _; simpa [blank] using hbl
                        rcases hfl with ⟨rfl, rfl, hall⟩ | ⟨f, l, rfl, rfl, hFL⟩
                        · have HF : Hid (FL (acc ++ [(y, false)]) acc.length acc.length) := FL.first hall hbl
                          clear hall hbl
                          go_wp2_with (first | (at_builtin; refine wpList_append_fits _ rfl (.tmp 95) (.tmp 97) 28 rfl w.heap.size 5 i5 1 Try.underlying28 hi5 hz51 w.heap.size acc.length j (bvs acc) rfl (HM.out.b.alloc _) ⟨wr.heap.size, 0, none⟩ 1 1 [.int .u8 y.toNat] rfl rfl (cell_one_new _ _ _) (by intro u hu; simp at hu; subst hu; rfl) (by omega) ?_; intro w3 hown6' hgrow6; have H6 := Hid.mk' hown6'; have G6 := Hid.mk' hgrow6; clear hown6' hgrow6) | (go_at_call 13; refine (space13 _ _).mono ?_; rintro e w' ⟨rfl, hw⟩; rw [hw, HSW.out]))
                          go_roundg g
                          case measure => omega
                          case rel => exact ⟨i + 1, false, acc ++ [(y, false)], by omega, by go_num, rfl, by rw [List.length_append]; rfl, by simp; omega, HM.out.push (y, false) _ H6.out G6.out, HS3.out, Or.inr ⟨acc.length, acc.length, by go_num, by go_num, HF.out⟩⟩
                        · have HF : Hid (FL (acc ++ [(y, false)]) f acc.length) := hFL.sig hbl
                          clear hFL hbl
                          go_wp2_with (first | (at_builtin; refine wpList_append_fits _ rfl (.tmp 95) (.tmp 97) 28 rfl w.heap.size 5 i5 1 Try.underlying28 hi5 hz51 w.heap.size acc.length j (bvs acc) rfl (HM.out.b.alloc _) ⟨wr.heap.size, 0, none⟩ 1 1 [.int .u8 y.toNat] rfl rfl (cell_one_new _ _ _) (by intro u hu; simp at hu; subst hu; rfl) (by omega) ?_; intro w3 hown6' hgrow6; have H6 := Hid.mk' hown6'; have G6 := Hid.mk' hgrow6; clear hown6' hgrow6) | (go_at_call 13; refine (space13 _ _).mono ?_; rintro e w' ⟨rfl, hw⟩; rw [hw, HSW.out]))
                          go_roundg g
                          case measure => omega
                          case rel => exact ⟨i + 1, false, acc ++ [(y, false)], by omega, by go_num, rfl, by rw [List.length_append]; rfl, by simp; omega, HM.out.push (y, false) _ H6.out G6.out, HS3.out, Or.inr ⟨f, acc.length, by go_num, by go_num, HF.out⟩⟩
      · have e44 : ((x.toNat : Int) == 44) = false := b_f 44 (by rw [h1]; decide)
        have e92 : ((x.toNat : Int) == 92) = true := b_t 92 h1
        have e123 : ((x.toNat : Int) == 123) = false := b_f 123 (by rw [h1]; decide)
        have e125 : ((x.toNat : Int) == 125) = false := b_f 125 (by rw [h1]; decide)
        have HX : Hid (s.data.toList[k]? = some 92) := by show _ = _; rw [hxl.out, h1]
        clear h1
        by_cases hk1 : k + 1 < s.size
        · have hks : (((k : Int) + 1) == (s.size : Int)) = false := beq_eq_false_iff_ne.2 (by omega)
          obtain ⟨d, hd⟩ : ∃ d : UInt8, s[k + 1]'hk1 = d := ⟨_, rfl⟩
          have HDl : Hid (s.data.toList[k + 1]? = some d) := by show _ = _; rw [← hd]; exact data_at s (k + 1) hk1
          go_wp2
          go_roundg (g - 1)
          case measure => omega
          case rel => exact ⟨k + 2, q, true, pre ++ [(d, true)], by omega, rfl, by go_num, rfl, HI.out.esc HX.out HDl.out⟩
        · have hks : (((k : Int) + 1) == (s.size : Int)) = true := beq_iff_eq.2 (by omega)
          have HN : Hid (rd s.data.toList false = none) := HI.out.esc_end HX.out (by rw [← Lib.size_eq]; omega)
          go_wp2
          refine bodyPost_ret (results4 rfl _ _ _) rfl ?_
          exact ⟨Ans.none HN.out, Below.refl _ _⟩
      · have e44 : ((x.toNat : Int) == 44) = false := b_f 44 (by rw [h1]; decide)
        have e92 : ((x.toNat : Int) == 92) = false := b_f 92 (by rw [h1]; decide)
        have e123 : ((x.toNat : Int) == 123) = false := b_f 123 (by rw [h1]; decide)
        have e125 : ((x.toNat : Int) == 125) = false := b_f 125 (by rw [h1]; decide)
        have e34 : ((x.toNat : Int) == 34) = true := b_t 34 h1
        have HX : Hid (s.data.toList[k]? = some 34) := by show _ = _; rw [hxl.out, h1]
        clear h1
        go_wp2
        go_roundg g
        case measure => omega
        case rel => exact ⟨k + 1, !q, true, pre, by omega, rfl, by go_num, rfl, HI.out.quote HX.out⟩
      · have e44 : ((x.toNat : Int) == 44) = false := b_f 44 (by rcases h1 with h1 | h1 <;> rw [h1] <;> decide)
        have HN : Hid (rd s.data.toList false = none) := HI.out.brace hxl.out h1
        rcases h1 with h1 | h1
        · have e123 : ((x.toNat : Int) == 123) = true := b_t 123 h1
          clear h1
          go_wp2
          refine bodyPost_ret (results4 rfl _ _ _) rfl ?_
          exact ⟨Ans.none HN.out, Below.refl _ _⟩
        · have e123 : ((x.toNat : Int) == 123) = false := b_f 123 (by rw [h1]; decide)
          have e125 : ((x.toNat : Int) == 125) = true := b_t 125 h1
          clear h1
          go_wp2
          refine bodyPost_ret (results4 rfl _ _ _) rfl ?_
          exact ⟨Ans.none HN.out, Below.refl _ _⟩
      · have e92 : ((x.toNat : Int) == 92) = false := b_f 92 h2
        have e34 : ((x.toNat : Int) == 34) = false := b_f 34 h3
        have e123 : ((x.toNat : Int) == 123) = false := b_f 123 h4
        have e125 : ((x.toNat : Int) == 125) = false := b_f 125 h5
        have HP : Hid (Inv s.data.toList (k + 1) q (pre ++ [(x, q)]) sp) := HI.out.plain hxl.out h1 h2 h3 h4 h5
        clear h2 h3 h4 h5
        cases q with
        | true =>
          clear h1
          go_wp2
          all_goals
            go_roundg g
            case measure => omega
            case rel => exact ⟨k + 1, true, sp, pre ++ [(x, true)], by omega, rfl, by go_num, rfl, HP.out⟩
        | false =>
          have e44 : ((x.toNat : Int) == 44) = false := b_f 44 (fun e => h1 ⟨e, rfl⟩)
          clear h1
          go_wp2
          go_roundg g
          case measure => omega
          case rel => exact ⟨k + 1, false, sp, pre ++ [(x, false)], by omega, rfl, by go_num, rfl, HP.out⟩
end Go.Proofs.Qxb6602631a
