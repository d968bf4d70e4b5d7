import Derived.Test.Qxb6602631aOwn
namespace Go.Proofs.Qxb6602631a
open Go.RowKit

/-- the loop's state in memory: the decoded bytes and their marks in two rows of the call's own -/
structure Mem (w wx : World) (v6 v7 : Value) (pre : List (UInt8 × Bool)) : Prop where
  b : wx.ownsRow w.heap.size 5 1 v6 pre.length (bvs pre)
  k : wx.ownsRow w.heap.size 4 1 v7 pre.length (kvs pre)
  below : Below w.heap.size w wx

theorem Mem.start (w : World) : Mem w w (.slice none 0 0) (.slice none 0 0) [] := ⟨World.ownsRow_nil _ _ _ _, World.ownsRow_nil _ _ _ _, Below.refl _ _⟩

/-- behind the two appends of a round -/
theorem Mem.push {w wr w3 w4 : World} {v6 v7 v6' v7' : Value} {pre : List (UInt8 × Bool)} (h : Mem w wr v6 v7 pre) (y : UInt8 × Bool) (o o' : Obj)
    (h6 : w3.ownsRow w.heap.size 5 1 v6' (pre.length + 1) (bvs pre ++ [Value.int .u8 (y.1.toNat : Int)])) (g6 : (wr.alloc o).grownBy w3 v6.ownBlock)
    (h7 : w4.ownsRow w.heap.size 4 1 v7' (pre.length + 1) (kvs pre ++ [Value.bool y.2])) (g7 : (w3.alloc o').grownBy w4 v7.ownBlock) : Mem w w4 v6' v7' (pre ++ [y]) := by
  have hk3 : w3.ownsRow w.heap.size 4 1 v7 pre.length (kvs pre) := (h.k.alloc o).kept g6 (own_ne (by decide) h.b h.k)
  have hs : w.heap.size ≤ wr.heap.size := h.below.size
  have b3 : Below w.heap.size w w3 := (h.below.alloc hs o).grown g6 (by simp; omega) (fun r hr => (h.b.lt r hr).1)
  refine ⟨?_, ?_, ?_⟩
  · rw [bvs_snoc, List.length_append]
    exact (h6.alloc o').kept g7 (own_ne (by decide) hk3 h6)
  · rw [kvs_snoc, List.length_append]
    exact h7
  · exact (b3.alloc b3.size o').grown g7 (by have := b3.size; simp; omega) (fun r hr => (hk3.lt r hr).1)
theorem Mem.mid {w wr w3 : World} {v6 v7 : Value} {pre : List (UInt8 × Bool)} (h : Mem w wr v6 v7 pre) (o : Obj) (g6 : (wr.alloc o).grownBy w3 v6.ownBlock) : w3.ownsRow w.heap.size 4 1 v7 pre.length (kvs pre) ∧ w.heap.size ≤ w3.heap.size :=
  ⟨(h.k.alloc o).kept g6 (own_ne (by decide) h.b h.k), by have := h.below.size; have := g6.size; simp at this; omega⟩

theorem b_t {x : UInt8} (n : UInt8) (h : x = n) : ((x.toNat : Int) == (n.toNat : Int)) = true := by rw [h]; exact beq_self_eq_true _
theorem b_f {x : UInt8} (n : UInt8) (h : x ≠ n) : ((x.toNat : Int) == (n.toNat : Int)) = false := beq_eq_false_iff_ne.2 fun e => h (UInt8.toNat_inj.1 (by omega))
theorem bn_f {x : UInt8} (n : UInt8) (h : x = n) : ((x.toNat : Int) != (n.toNat : Int)) = false := by rw [bne, b_t n h]; rfl
theorem bn_t {x : UInt8} (n : UInt8) (h : x ≠ n) : ((x.toNat : Int) != (n.toNat : Int)) = true := by rw [bne, b_f n h]; rfl
theorem rest_end (s : ByteArray) : ByteArray.empty = ⟨(s.data.toList.drop s.size).toArray⟩ := by
  rw [List.drop_of_length_le (by rw [← Lib.size_eq]; exact Nat.le_refl _)]; rfl

/-- what the function answers -/
def Ans (s : ByteArray) (e : Ending) : Prop :=
  match rd s.data.toList false with
  | none => e = .returned (.tuple #[.string ⟨#[]⟩, .bool false, .string ⟨#[]⟩, .bool false])
  | some y => ∃ f l, Trim y.1 f l ∧ e = .returned (.tuple #[.string ⟨(span y.1 f l).toArray⟩, .bool y.2.1, .string ⟨y.2.2.toArray⟩, .bool true])

theorem Ans.none {s : ByteArray} (h : rd s.data.toList false = none) : Ans s (.returned (.tuple #[.string ⟨#[]⟩, .bool false, .string ⟨#[]⟩, .bool false])) := by
  unfold Ans; rw [h]
theorem Ans.some {s : ByteArray} {y : Rd} (h : rd s.data.toList false = some y) {f l : Nat} (ht : Trim y.1 f l) : Ans s (.returned (.tuple #[.string ⟨(span y.1 f l).toArray⟩, .bool y.2.1, .string ⟨y.2.2.toArray⟩, .bool true])) := by
  unfold Ans; rw [h]; exact ⟨f, l, ht, rfl⟩

theorem results4 {fn : Func} {t u v x : Tmp} (h : fn.results = #[.tmp t, .tmp u, .tmp v, .tmp x]) (tmps : Array Value) (P : Program) (w : World) :
    (results fn tmps).run P w = .ok (.tuple #[tmps.getD t undef, tmps.getD u undef, tmps.getD v undef, tmps.getD x undef]) w := by
  simp [results, h]

set_option maxRecDepth 1000000 in
set_option maxHeartbeats 4000000 in
theorem elem14 (s : ByteArray) (w : World) (hs : s.size ≤ 1048576) :
    Calls Try.prog 14 #[.string s] w fun e w' => Ans s e ∧ Below w.heap.size w w' := by
  obtain ⟨i5, hi5, hz50, hz51, hz52⟩ := info_parts Try.info5
  obtain ⟨i4, hi4, hz40, hz41, hz42⟩ := info_parts Try.info4
  go_enter Try.func14, Try.ntmps14
  go_wp2
  go_loopg [3, 6, 7, 8, 9] s.size (fun g v3 v6 v7 v8 v9 wx => ∃ (k : Nat) (q sp : Bool) (pre : List (UInt8 × Bool)), k + g = s.size ∧ v3 = .bool sp ∧ v8 = .bool q ∧ v9 = .int .i64 k ∧ pre.length ≤ k ∧ Mem w wx v6 v7 pre ∧ Inv s.data.toList k q pre sp)
  case atStart => exact ⟨0, false, false, [], by omega, rfl, rfl, rfl, Nat.le_refl _, Mem.start w, Inv.zero _⟩
  case round =>
    obtain ⟨k, q, sp, pre, hkg, rfl, rfl, rfl, hpl, hmem, hinv⟩ := hrel
    have HI : Hid (Inv s.data.toList k q pre sp) := hinv
    have HM : Hid (Mem w wr u6 u7 pre) := hmem
    clear hinv hmem
    have hwz : w.heap.size ≤ wr.heap.size := HM.out.below.size
    cases gk with
    | zero =>
      obtain rfl : k = s.size := by omega
      cases q with
      | true =>
        have HN : Hid (rd s.data.toList false = none) := HI.out.open (by rw [← Lib.size_eq]; exact Nat.le_refl _)
        go_wp2
        refine bodyPost_ret (results4 rfl _ _ _) rfl ?_
        exact ⟨Ans.none HN.out, HM.out.below⟩
      | false =>
        have HD : Hid (rd s.data.toList false = some (pre, sp, s.data.toList.drop s.size)) := HI.out.done (by rw [← Lib.size_eq]; exact Nat.le_refl _)
        obtain ⟨a6, c6, h6v, h6a, h6c⟩ := own_form HM.out.b
        obtain ⟨a7, c7, h7v, h7a, h7c⟩ := own_form HM.out.k
        subst h6v h7v
        go_wp2
        go_loop [11] (fun v => ∃ f : Nat, f ≤ pre.length ∧ v = .int .i64 f ∧ AllB pre f) (fun v => pre.length - (intOf v).toNat)
        case atStart => exact ⟨0, Nat.zero_le _, rfl, AllB.zero _⟩
        case round =>
          obtain ⟨f, hf, rfl, hb⟩ := hrel
          have HB : Hid (AllB pre f) := hb
          clear hb
          by_cases hc : f < pre.length
          · obtain ⟨y, hy⟩ : ∃ y, pre[f]? = some y := ⟨_, List.getElem?_eq_getElem hc⟩
            obtain ⟨c, m⟩ := y
            have HY : Hid (pre[f]? = some (c, m)) := hy
            clear hy
            obtain ⟨gb0, eb0⟩ := h6a (by omega)
            obtain ⟨gk0, ek0⟩ := h7a (by omega)
            subst eb0 ek0
            have ck := k_cell HM.out.k f _ HY.out
            have cb := b_cell HM.out.b f _ HY.out
            cases m with
            | true =>
              have HF : Hid (∀ z, pre[f]? = some z → blank z = false) := only HY.out (blank_kept c)
              go_wp2
              clear ck cb
              go_loop [12] (fun v => ∃ l : Nat, f ≤ l ∧ l ≤ pre.length ∧ v = .int .i64 l ∧ AllA pre l) (fun v => (intOf v).toNat)
              case atStart => exact ⟨pre.length, hf, Nat.le_refl _, rfl, AllA.start _⟩
              case round =>
                obtain ⟨l, hfl, hln, rfl, ha⟩ := hrel
                have HA : Hid (AllA pre l) := ha
                clear ha
                by_cases hc3 : f < l
                · obtain ⟨y2, hy2⟩ : ∃ y, pre[l - 1]? = some y := ⟨_, List.getElem?_eq_getElem (by omega)⟩
                  obtain ⟨c2, m2⟩ := y2
                  have HY2 : Hid (pre[l - 1]? = some (c2, m2)) := hy2
                  clear hy2
                  have ck2 := k_cell HM.out.k (l - 1) _ HY2.out
                  have cb2 := b_cell HM.out.b (l - 1) _ HY2.out
                  cases m2 with
                  | true =>
                    have HL : Hid (∀ z, f < l → pre[l - 1]? = some z → blank z = false) := fun z _ => only HY2.out (blank_kept c2) z
                    have HT : Hid (Trim pre f l) := trim_mk hfl hln HB.out HA.out HF.out HL.out
                    obtain ⟨V, hV1, hV2⟩ := span_any HM.out.b hfl hln
                    go_wp2_with (go_at_call 15; refine (isSpace15 _ _).mono ?_; rintro e w' ⟨rfl, hw⟩; rw [hw, HSP.out])
                    go_quiet (fail)
                    go_wp2
                    refine bodyPost_ret (results4 rfl _ _ _) rfl ?_
                    refine ⟨?_, below_drewN HM.out.below _⟩
                    have := Ans.some HD.out HT.out
                    rw [← rest_end s] at this
                    exact this
                  | false =>
                    cases hsp : spB c2 with
                    | true =>
                      have HSP : Hid (spB c2 = true) := hsp
                      clear hsp
                      go_wp2_with (go_at_call 15; refine (isSpace15 _ _).mono ?_; rintro e w' ⟨rfl, hw⟩; rw [hw, HSP.out])
                      go_round
                      case rel => exact ⟨l - 1, by omega, by omega, by go_num, HA.out.pred HY2.out (blank_sp HSP.out)⟩
                      case measure => simp [intOf]; omega
                    | false =>
                      have HSP : Hid (spB c2 = false) := hsp
                      clear hsp
                      have HL : Hid (∀ z, f < l → pre[l - 1]? = some z → blank z = false) := fun z _ => only HY2.out (blank_no HSP.out) z
                      have HT : Hid (Trim pre f l) := trim_mk hfl hln HB.out HA.out HF.out HL.out
                      obtain ⟨V, hV1, hV2⟩ := span_any HM.out.b hfl hln
                      go_wp2_with (go_at_call 15; refine (isSpace15 _ _).mono ?_; rintro e w' ⟨rfl, hw⟩; rw [hw, HSP.out])
                      go_quiet (fail)
                      go_wp2
                      refine bodyPost_ret (results4 rfl _ _ _) rfl ?_
                      refine ⟨?_, below_drewN HM.out.below _⟩
                      have := Ans.some HD.out HT.out
                      rw [← rest_end s] at this
                      exact this
                · have HL : Hid (∀ z, f < l → pre[l - 1]? = some z → blank z = false) := fun z h => absurd h hc3
                  have HT : Hid (Trim pre f l) := trim_mk hfl hln HB.out HA.out HF.out HL.out
                  obtain ⟨V, hV1, hV2⟩ := span_any HM.out.b hfl hln
                  go_wp2_with (go_at_call 15; refine (isSpace15 _ _).mono ?_; rintro e w' ⟨rfl, hw⟩; rw [hw, HSP.out])
                  go_quiet (fail)
                  go_wp2
                  refine bodyPost_ret (results4 rfl _ _ _) rfl ?_
                  refine ⟨?_, below_drewN HM.out.below _⟩
                  have := Ans.some HD.out HT.out
                  rw [← rest_end s] at this
                  exact this
            | false =>
              cases hsp : spB c with
              | true =>
                have HSP : Hid (spB c = true) := hsp
                clear hsp
                go_wp2_with (go_at_call 15; refine (isSpace15 _ _).mono ?_; rintro e w' ⟨rfl, hw⟩; rw [hw, HSP.out])
                go_round
                case rel => exact ⟨f + 1, by omega, by go_num, HB.out.succ HY.out (blank_sp HSP.out)⟩
                case measure => simp [intOf]; omega
              | false =>
                have HSP : Hid (spB c = false) := hsp
                clear hsp
                have HF : Hid (∀ z, pre[f]? = some z → blank z = false) := only HY.out (blank_no HSP.out)
                go_wp2_with (go_at_call 15; refine (isSpace15 _ _).mono ?_; rintro e w' ⟨rfl, hw⟩; rw [hw, HSP.out])
                clear ck cb
                go_loop [12] (fun v => ∃ l : Nat, f ≤ l ∧ l ≤ pre.length ∧ v = .int .i64 l ∧ AllA pre l) (fun v => (intOf v).toNat)
                case atStart => exact ⟨pre.length, hf, Nat.le_refl _, rfl, AllA.start _⟩
                case round =>
                  obtain ⟨l, hfl, hln, rfl, ha⟩ := hrel
                  have HA : Hid (AllA pre l) := ha
                  clear ha
                  by_cases hc3 : f < l
                  · obtain ⟨y2, hy2⟩ : ∃ y, pre[l - 1]? = some y := ⟨_, List.getElem?_eq_getElem (by omega)⟩
                    obtain ⟨c2, m2⟩ := y2
                    have HY2 : Hid (pre[l - 1]? = some (c2, m2)) := hy2
                    clear hy2
                    have ck2 := k_cell HM.out.k (l - 1) _ HY2.out
                    have cb2 := b_cell HM.out.b (l - 1) _ HY2.out
                    cases m2 with
                    | true =>
                      have HL : Hid (∀ z, f < l → pre[l - 1]? = some z → blank z = false) := fun z _ => only HY2.out (blank_kept c2) z
                      have HT : Hid (Trim pre f l) := trim_mk hfl hln HB.out HA.out HF.out HL.out
                      obtain ⟨V, hV1, hV2⟩ := span_any HM.out.b hfl hln
                      go_wp2_with (go_at_call 15; refine (isSpace15 _ _).mono ?_; rintro e w' ⟨rfl, hw⟩; rw [hw, HSP.out])
                      go_quiet (fail)
                      go_wp2
                      refine bodyPost_ret (results4 rfl _ _ _) rfl ?_
                      refine ⟨?_, below_drewN HM.out.below _⟩
                      have := Ans.some HD.out HT.out
                      rw [← rest_end s] at this
                      exact this
                    | false =>
                      cases hsp : spB c2 with
                      | true =>
                        have HSP : Hid (spB c2 = true) := hsp
                        clear hsp
                        go_wp2_with (go_at_call 15; refine (isSpace15 _ _).mono ?_; rintro e w' ⟨rfl, hw⟩; rw [hw, HSP.out])
                        go_round
                        case rel => exact ⟨l - 1, by omega, by omega, by go_num, HA.out.pred HY2.out (blank_sp HSP.out)⟩
                        case measure => simp [intOf]; omega
                      | false =>
                        have HSP : Hid (spB c2 = false) := hsp
                        clear hsp
                        have HL : Hid (∀ z, f < l → pre[l - 1]? = some z → blank z = false) := fun z _ => only HY2.out (blank_no HSP.out) z
                        have HT : Hid (Trim pre f l) := trim_mk hfl hln HB.out HA.out HF.out HL.out
                        obtain ⟨V, hV1, hV2⟩ := span_any HM.out.b hfl hln
                        go_wp2_with (go_at_call 15; refine (isSpace15 _ _).mono ?_; rintro e w' ⟨rfl, hw⟩; rw [hw, HSP.out])
                        go_quiet (fail)
                        go_wp2
                        refine bodyPost_ret (results4 rfl _ _ _) rfl ?_
                        refine ⟨?_, below_drewN HM.out.below _⟩
                        have := Ans.some HD.out HT.out
                        rw [← rest_end s] at this
                        exact this
                  · have HL : Hid (∀ z, f < l → pre[l - 1]? = some z → blank z = false) := fun z h => absurd h hc3
                    have HT : Hid (Trim pre f l) := trim_mk hfl hln HB.out HA.out HF.out HL.out
                    obtain ⟨V, hV1, hV2⟩ := span_any HM.out.b hfl hln
                    go_wp2_with (go_at_call 15; refine (isSpace15 _ _).mono ?_; rintro e w' ⟨rfl, hw⟩; rw [hw, HSP.out])
                    go_quiet (fail)
                    go_wp2
                    refine bodyPost_ret (results4 rfl _ _ _) rfl ?_
                    refine ⟨?_, below_drewN HM.out.below _⟩
                    have := Ans.some HD.out HT.out
                    rw [← rest_end s] at this
                    exact this
          · have HF : Hid (∀ z, pre[f]? = some z → blank z = false) := none_at (by omega)
            go_wp2
            go_loop [12] (fun v => ∃ l : Nat, f ≤ l ∧ l ≤ pre.length ∧ v = .int .i64 l ∧ AllA pre l) (fun v => (intOf v).toNat)
            case atStart => exact ⟨pre.length, hf, Nat.le_refl _, rfl, AllA.start _⟩
            case round =>
              obtain ⟨l, hfl, hln, rfl, ha⟩ := hrel
              have HA : Hid (AllA pre l) := ha
              clear ha
              by_cases hc3 : f < l
              · exfalso; omega
              · have HL : Hid (∀ z, f < l → pre[l - 1]? = some z → blank z = false) := fun z h => absurd h hc3
                have HT : Hid (Trim pre f l) := trim_mk hfl hln HB.out HA.out HF.out HL.out
                obtain ⟨V, hV1, hV2⟩ := span_any HM.out.b hfl hln
                go_wp2_with (go_at_call 15; refine (isSpace15 _ _).mono ?_; rintro e w' ⟨rfl, hw⟩; rw [hw, HSP.out])
                go_quiet (fail)
                go_wp2
                refine bodyPost_ret (results4 rfl _ _ _) rfl ?_
                refine ⟨?_, below_drewN HM.out.below _⟩
                have := Ans.some HD.out HT.out
                rw [← rest_end s] at this
                exact this
    | succ g =>
      have hk : k < s.size := by omega
      obtain ⟨x, hx⟩ : ∃ x : UInt8, s[k]'hk = x := ⟨_, rfl⟩
      have hxl : Hid (s.data.toList[k]? = some x) := by show _ = _; rw [← hx]; exact data_at s k hk
      rcases kinds x q with ⟨h1, h2⟩ | h1 | h1 | h1 | ⟨h1, h2, h3, h4, h5⟩
      · subst h2
        have n44 : ((x.toNat : Int) != 44) = false := bn_f 44 h1
        have HD : Hid (rd s.data.toList false = some (pre, sp, s.data.toList.drop k)) := HI.out.comma (by rw [hxl.out, h1])
        clear h1
        obtain ⟨a6, c6, h6v, h6a, h6c⟩ := own_form HM.out.b
        obtain ⟨a7, c7, h7v, h7a, h7c⟩ := own_form HM.out.k
        subst h6v h7v
        go_wp2
        go_loop [11] (fun v => ∃ f : Nat, f ≤ pre.length ∧ v = .int .i64 f ∧ AllB pre f) (fun v => pre.length - (intOf v).toNat)
        case atStart => exact ⟨0, Nat.zero_le _, rfl, AllB.zero _⟩
        case round =>
          obtain ⟨f, hf, rfl, hb⟩ := hrel
          have HB : Hid (AllB pre f) := hb
          clear hb
          by_cases hc : f < pre.length
          · obtain ⟨y, hy⟩ : ∃ y, pre[f]? = some y := ⟨_, List.getElem?_eq_getElem hc⟩
            obtain ⟨c, m⟩ := y
            have HY : Hid (pre[f]? = some (c, m)) := hy
            clear hy
            obtain ⟨gb0, eb0⟩ := h6a (by omega)
            obtain ⟨gk0, ek0⟩ := h7a (by omega)
            subst eb0 ek0
            have ck := k_cell HM.out.k f _ HY.out
            have cb := b_cell HM.out.b f _ HY.out
            cases m with
            | true =>
              have HF : Hid (∀ z, pre[f]? = some z → blank z = false) := only HY.out (blank_kept c)
              go_wp2
              clear ck cb
              go_loop [12] (fun v => ∃ l : Nat, f ≤ l ∧ l ≤ pre.length ∧ v = .int .i64 l ∧ AllA pre l) (fun v => (intOf v).toNat)
              case atStart => exact ⟨pre.length, hf, Nat.le_refl _, rfl, AllA.start _⟩
              case round =>
                obtain ⟨l, hfl, hln, rfl, ha⟩ := hrel
                have HA : Hid (AllA pre l) := ha
                clear ha
                by_cases hc3 : f < l
                · obtain ⟨y2, hy2⟩ : ∃ y, pre[l - 1]? = some y := ⟨_, List.getElem?_eq_getElem (by omega)⟩
                  obtain ⟨c2, m2⟩ := y2
                  have HY2 : Hid (pre[l - 1]? = some (c2, m2)) := hy2
                  clear hy2
                  have ck2 := k_cell HM.out.k (l - 1) _ HY2.out
                  have cb2 := b_cell HM.out.b (l - 1) _ HY2.out
                  cases m2 with
                  | true =>
                    have HL : Hid (∀ z, f < l → pre[l - 1]? = some z → blank z = false) := fun z _ => only HY2.out (blank_kept c2) z
                    have HT : Hid (Trim pre f l) := trim_mk hfl hln HB.out HA.out HF.out HL.out
                    obtain ⟨V, hV1, hV2⟩ := span_any HM.out.b hfl hln
                    go_wp2_with (go_at_call 15; refine (isSpace15 _ _).mono ?_; rintro e w' ⟨rfl, hw⟩; rw [hw, HSP.out])
                    go_quiet (fail)
                    go_wp2
                    refine bodyPost_ret (results4 rfl _ _ _) rfl ?_
                    refine ⟨?_, below_drewN HM.out.below _⟩
                    have := Ans.some HD.out HT.out
                    rw [← mk_eq (Lib.extract_to_end s k)] at this
                    exact this
                  | false =>
                    cases hsp : spB c2 with
                    | true =>
                      have HSP : Hid (spB c2 = true) := hsp
                      clear hsp
                      go_wp2_with (go_at_call 15; refine (isSpace15 _ _).mono ?_; rintro e w' ⟨rfl, hw⟩; rw [hw, HSP.out])
                      go_round
                      case rel => exact ⟨l - 1, by omega, by omega, by go_num, HA.out.pred HY2.out (blank_sp HSP.out)⟩
                      case measure => simp [intOf]; omega
                    | false =>
                      have HSP : Hid (spB c2 = false) := hsp
                      clear hsp
                      have HL : Hid (∀ z, f < l → pre[l - 1]? = some z → blank z = false) := fun z _ => only HY2.out (blank_no HSP.out) z
                      have HT : Hid (Trim pre f l) := trim_mk hfl hln HB.out HA.out HF.out HL.out
                      obtain ⟨V, hV1, hV2⟩ := span_any HM.out.b hfl hln
                      go_wp2_with (go_at_call 15; refine (isSpace15 _ _).mono ?_; rintro e w' ⟨rfl, hw⟩; rw [hw, HSP.out])
                      go_quiet (fail)
                      go_wp2
                      refine bodyPost_ret (results4 rfl _ _ _) rfl ?_
                      refine ⟨?_, below_drewN HM.out.below _⟩
                      have := Ans.some HD.out HT.out
                      rw [← mk_eq (Lib.extract_to_end s k)] at this
                      exact this
                · have HL : Hid (∀ z, f < l → pre[l - 1]? = some z → blank z = false) := fun z h => absurd h hc3
                  have HT : Hid (Trim pre f l) := trim_mk hfl hln HB.out HA.out HF.out HL.out
                  obtain ⟨V, hV1, hV2⟩ := span_any HM.out.b hfl hln
                  go_wp2_with (go_at_call 15; refine (isSpace15 _ _).mono ?_; rintro e w' ⟨rfl, hw⟩; rw [hw, HSP.out])
                  go_quiet (fail)
                  go_wp2
                  refine bodyPost_ret (results4 rfl _ _ _) rfl ?_
                  refine ⟨?_, below_drewN HM.out.below _⟩
                  have := Ans.some HD.out HT.out
                  rw [← mk_eq (Lib.extract_to_end s k)] at this
                  exact this
            | false =>
              cases hsp : spB c with
              | true =>
                have HSP : Hid (spB c = true) := hsp
                clear hsp
                go_wp2_with (go_at_call 15; refine (isSpace15 _ _).mono ?_; rintro e w' ⟨rfl, hw⟩; rw [hw, HSP.out])
                go_round
                case rel => exact ⟨f + 1, by omega, by go_num, HB.out.succ HY.out (blank_sp HSP.out)⟩
                case measure => simp [intOf]; omega
              | false =>
                have HSP : Hid (spB c = false) := hsp
                clear hsp
                have HF : Hid (∀ z, pre[f]? = some z → blank z = false) := only HY.out (blank_no HSP.out)
                go_wp2_with (go_at_call 15; refine (isSpace15 _ _).mono ?_; rintro e w' ⟨rfl, hw⟩; rw [hw, HSP.out])
                clear ck cb
                go_loop [12] (fun v => ∃ l : Nat, f ≤ l ∧ l ≤ pre.length ∧ v = .int .i64 l ∧ AllA pre l) (fun v => (intOf v).toNat)
                case atStart => exact ⟨pre.length, hf, Nat.le_refl _, rfl, AllA.start _⟩
                case round =>
                  obtain ⟨l, hfl, hln, rfl, ha⟩ := hrel
                  have HA : Hid (AllA pre l) := ha
                  clear ha
                  by_cases hc3 : f < l
                  · obtain ⟨y2, hy2⟩ : ∃ y, pre[l - 1]? = some y := ⟨_, List.getElem?_eq_getElem (by omega)⟩
                    obtain ⟨c2, m2⟩ := y2
                    have HY2 : Hid (pre[l - 1]? = some (c2, m2)) := hy2
                    clear hy2
                    have ck2 := k_cell HM.out.k (l - 1) _ HY2.out
                    have cb2 := b_cell HM.out.b (l - 1) _ HY2.out
                    cases m2 with
                    | true =>
                      have HL : Hid (∀ z, f < l → pre[l - 1]? = some z → blank z = false) := fun z _ => only HY2.out (blank_kept c2) z
                      have HT : Hid (Trim pre f l) := trim_mk hfl hln HB.out HA.out HF.out HL.out
                      obtain ⟨V, hV1, hV2⟩ := span_any HM.out.b hfl hln
                      go_wp2_with (go_at_call 15; refine (isSpace15 _ _).mono ?_; rintro e w' ⟨rfl, hw⟩; rw [hw, HSP.out])
                      go_quiet (fail)
                      go_wp2
                      refine bodyPost_ret (results4 rfl _ _ _) rfl ?_
                      refine ⟨?_, below_drewN HM.out.below _⟩
                      have := Ans.some HD.out HT.out
                      rw [← mk_eq (Lib.extract_to_end s k)] at this
                      exact this
                    | false =>
                      cases hsp : spB c2 with
                      | true =>
                        have HSP : Hid (spB c2 = true) := hsp
                        clear hsp
                        go_wp2_with (go_at_call 15; refine (isSpace15 _ _).mono ?_; rintro e w' ⟨rfl, hw⟩; rw [hw, HSP.out])
                        go_round
                        case rel => exact ⟨l - 1, by omega, by omega, by go_num, HA.out.pred HY2.out (blank_sp HSP.out)⟩
                        case measure => simp [intOf]; omega
                      | false =>
                        have HSP : Hid (spB c2 = false) := hsp
                        clear hsp
                        have HL : Hid (∀ z, f < l → pre[l - 1]? = some z → blank z = false) := fun z _ => only HY2.out (blank_no HSP.out) z
                        have HT : Hid (Trim pre f l) := trim_mk hfl hln HB.out HA.out HF.out HL.out
                        obtain ⟨V, hV1, hV2⟩ := span_any HM.out.b hfl hln
                        go_wp2_with (go_at_call 15; refine (isSpace15 _ _).mono ?_; rintro e w' ⟨rfl, hw⟩; rw [hw, HSP.out])
                        go_quiet (fail)
                        go_wp2
                        refine bodyPost_ret (results4 rfl _ _ _) rfl ?_
                        refine ⟨?_, below_drewN HM.out.below _⟩
                        have := Ans.some HD.out HT.out
                        rw [← mk_eq (Lib.extract_to_end s k)] at this
                        exact this
                  · have HL : Hid (∀ z, f < l → pre[l - 1]? = some z → blank z = false) := fun z h => absurd h hc3
                    have HT : Hid (Trim pre f l) := trim_mk hfl hln HB.out HA.out HF.out HL.out
                    obtain ⟨V, hV1, hV2⟩ := span_any HM.out.b hfl hln
                    go_wp2_with (go_at_call 15; refine (isSpace15 _ _).mono ?_; rintro e w' ⟨rfl, hw⟩; rw [hw, HSP.out])
                    go_quiet (fail)
                    go_wp2
                    refine bodyPost_ret (results4 rfl _ _ _) rfl ?_
                    refine ⟨?_, below_drewN HM.out.below _⟩
                    have := Ans.some HD.out HT.out
                    rw [← mk_eq (Lib.extract_to_end s k)] at this
                    exact this
          · have HF : Hid (∀ z, pre[f]? = some z → blank z = false) := none_at (by omega)
            go_wp2
            go_loop [12] (fun v => ∃ l : Nat, f ≤ l ∧ l ≤ pre.length ∧ v = .int .i64 l ∧ AllA pre l) (fun v => (intOf v).toNat)
            case atStart => exact ⟨pre.length, hf, Nat.le_refl _, rfl, AllA.start _⟩
            case round =>
              obtain ⟨l, hfl, hln, rfl, ha⟩ := hrel
              have HA : Hid (AllA pre l) := ha
              clear ha
              by_cases hc3 : f < l
              · exfalso; omega
              · have HL : Hid (∀ z, f < l → pre[l - 1]? = some z → blank z = false) := fun z h => absurd h hc3
                have HT : Hid (Trim pre f l) := trim_mk hfl hln HB.out HA.out HF.out HL.out
                obtain ⟨V, hV1, hV2⟩ := span_any HM.out.b hfl hln
                go_wp2_with (go_at_call 15; refine (isSpace15 _ _).mono ?_; rintro e w' ⟨rfl, hw⟩; rw [hw, HSP.out])
                go_quiet (fail)
                go_wp2
                refine bodyPost_ret (results4 rfl _ _ _) rfl ?_
                refine ⟨?_, below_drewN HM.out.below _⟩
                have := Ans.some HD.out HT.out
                rw [← mk_eq (Lib.extract_to_end s k)] at this
                exact this
      · have n44 : ((x.toNat : Int) != 44) = true := bn_t 44 (by rw [h1]; decide)
        have e92 : ((x.toNat : Int) == 92) = true := b_t 92 h1
        have HX : Hid (s.data.toList[k]? = some 92) := by show _ = _; rw [hxl.out, h1]
        clear h1
        by_cases hk1 : k + 1 < s.size
        · have hks : (((k : Int) + 1) == (s.size : Int)) = false := beq_eq_false_iff_ne.2 (by omega)
          obtain ⟨d, hd⟩ : ∃ d : UInt8, s[k + 1]'hk1 = d := ⟨_, rfl⟩
          have HDl : Hid (s.data.toList[k + 1]? = some d) := by show _ = _; rw [← hd]; exact data_at s (k + 1) hk1
          cases q
          all_goals
            go_wp2_with (first | (at_builtin; refine wpList_append_own _ rfl (.tmp 49) (.tmp 53) 28 rfl w.heap.size 5 i5 (.int .u8 0) 1 1 Try.underlying28 hi5 hz50 hz51 hz52 rfl (by decide) _ _ _ rfl (HM.out.b.alloc _) ⟨wr.heap.size, 0, none⟩ 1 1 [.int .u8 d.toNat] rfl rfl (cell_one_new _ _ _) (by intro u hu; simp at hu; subst hu; rfl) (by unfold maxLen; omega) (by omega) (by simp; omega) ?_; intro v6' w3 hown6' hgrow6 _; have H6 := Hid.mk' hown6'; have G6 := Hid.mk' hgrow6; have hw3 := (HM.out.mid _ hgrow6).2; clear hown6' hgrow6) | (at_builtin; refine wpList_append_own _ rfl (.tmp 55) (.tmp 56) 29 rfl w.heap.size 4 i4 (.bool false) 1 1 Try.underlying29 hi4 hz40 hz41 hz42 rfl (by decide) _ _ _ rfl ((HM.out.mid _ G6.out).1.alloc _) ⟨w3.heap.size, 0, none⟩ 1 1 [.bool true] rfl rfl (cell_one_new _ _ _) (by intro u hu; simp at hu; subst hu; rfl) (by unfold maxLen; omega) (by omega) (by simp; omega) ?_; intro v7' w4 hown7' hgrow7 _; have H7 := Hid.mk' hown7'; have G7 := Hid.mk' hgrow7; clear hown7' hgrow7))
            go_roundg (g - 1)
            case measure => omega
            case rel => exact ⟨k + 2, _, true, pre ++ [(d, true)], by omega, rfl, rfl, by go_num, by simp; omega, HM.out.push (d, true) _ _ H6.out G6.out H7.out G7.out, HI.out.esc HX.out HDl.out⟩
        · have hks : (((k : Int) + 1) == (s.size : Int)) = true := beq_iff_eq.2 (by omega)
          have HN : Hid (rd s.data.toList false = none) := HI.out.esc_end HX.out (by rw [← Lib.size_eq]; omega)
          cases q
          all_goals
            go_wp2
            refine bodyPost_ret (results4 rfl _ _ _) rfl ?_
            exact ⟨Ans.none HN.out, HM.out.below⟩
      · have n44 : ((x.toNat : Int) != 44) = true := bn_t 44 (by rw [h1]; decide)
        have e92 : ((x.toNat : Int) == 92) = false := b_f 92 (by rw [h1]; decide)
        have e34 : ((x.toNat : Int) == 34) = true := b_t 34 h1
        have HX : Hid (s.data.toList[k]? = some 34) := by show _ = _; rw [hxl.out, h1]
        clear h1
        cases q
        all_goals
          go_wp2
          go_roundg g
          case measure => omega
          case rel => exact ⟨k + 1, _, true, pre, by omega, rfl, rfl, by go_num, by omega, HM.out, HI.out.quote HX.out⟩
      · have n44 : ((x.toNat : Int) != 44) = true := bn_t 44 (by rcases h1 with h1 | h1 <;> rw [h1] <;> decide)
        have e92 : ((x.toNat : Int) == 92) = false := b_f 92 (by rcases h1 with h1 | h1 <;> rw [h1] <;> decide)
        have e34 : ((x.toNat : Int) == 34) = false := b_f 34 (by rcases h1 with h1 | h1 <;> rw [h1] <;> decide)
        have HN : Hid (rd s.data.toList false = none) := HI.out.brace hxl.out h1
        rcases h1 with h1 | h1
        · have e123 : ((x.toNat : Int) == 123) = true := b_t 123 h1
          clear h1
          cases q
          all_goals
            go_wp2
            refine bodyPost_ret (results4 rfl _ _ _) rfl ?_
            exact ⟨Ans.none HN.out, HM.out.below⟩
        · have e123 : ((x.toNat : Int) == 123) = false := b_f 123 (by rw [h1]; decide)
          have e125 : ((x.toNat : Int) == 125) = true := b_t 125 h1
          clear h1
          cases q
          all_goals
            go_wp2
            refine bodyPost_ret (results4 rfl _ _ _) rfl ?_
            exact ⟨Ans.none HN.out, HM.out.below⟩
      · have e92 : ((x.toNat : Int) == 92) = false := b_f 92 h2
        have e34 : ((x.toNat : Int) == 34) = false := b_f 34 h3
        have e123 : ((x.toNat : Int) == 123) = false := b_f 123 h4
        have e125 : ((x.toNat : Int) == 125) = false := b_f 125 h5
        have HP : Hid (Inv s.data.toList (k + 1) q (pre ++ [(x, q)]) sp) := HI.out.plain hxl.out h1 h2 h3 h4 h5
        clear h2 h3 h4 h5
        cases q with
        | true =>
          clear h1
          go_wp2_with (first | (at_builtin; refine wpList_append_own _ rfl (.tmp 31) (.tmp 33) 28 rfl w.heap.size 5 i5 (.int .u8 0) 1 1 Try.underlying28 hi5 hz50 hz51 hz52 rfl (by decide) _ _ _ rfl (HM.out.b.alloc _) ⟨wr.heap.size, 0, none⟩ 1 1 [.int .u8 x.toNat] rfl rfl (cell_one_new _ _ _) (by intro u hu; simp at hu; subst hu; rfl) (by unfold maxLen; omega) (by omega) (by simp; omega) ?_; intro v6' w3 hown6' hgrow6 _; have H6 := Hid.mk' hown6'; have G6 := Hid.mk' hgrow6; have hw3 := (HM.out.mid _ hgrow6).2; clear hown6' hgrow6) | (at_builtin; refine wpList_append_own _ rfl (.tmp 35) (.tmp 37) 29 rfl w.heap.size 4 i4 (.bool false) 1 1 Try.underlying29 hi4 hz40 hz41 hz42 rfl (by decide) _ _ _ rfl ((HM.out.mid _ G6.out).1.alloc _) ⟨w3.heap.size, 0, none⟩ 1 1 [.bool true] rfl rfl (cell_one_new _ _ _) (by intro u hu; simp at hu; subst hu; rfl) (by unfold maxLen; omega) (by omega) (by simp; omega) ?_; intro v7' w4 hown7' hgrow7 _; have H7 := Hid.mk' hown7'; have G7 := Hid.mk' hgrow7; clear hown7' hgrow7))
          go_roundg g
          case measure => omega
          case rel => exact ⟨k + 1, true, sp, pre ++ [(x, true)], by omega, rfl, rfl, by go_num, by simp; omega, HM.out.push (x, true) _ _ H6.out G6.out H7.out G7.out, HP.out⟩
        | false =>
          have n44 : ((x.toNat : Int) != 44) = true := bn_t 44 (fun e => h1 ⟨e, rfl⟩)
          clear h1
          go_wp2_with (first | (at_builtin; refine wpList_append_own _ rfl (.tmp 31) (.tmp 33) 28 rfl w.heap.size 5 i5 (.int .u8 0) 1 1 Try.underlying28 hi5 hz50 hz51 hz52 rfl (by decide) _ _ _ rfl (HM.out.b.alloc _) ⟨wr.heap.size, 0, none⟩ 1 1 [.int .u8 x.toNat] rfl rfl (cell_one_new _ _ _) (by intro u hu; simp at hu; subst hu; rfl) (by unfold maxLen; omega) (by omega) (by simp; omega) ?_; intro v6' w3 hown6' hgrow6 _; have H6 := Hid.mk' hown6'; have G6 := Hid.mk' hgrow6; have hw3 := (HM.out.mid _ hgrow6).2; clear hown6' hgrow6) | (at_builtin; refine wpList_append_own _ rfl (.tmp 35) (.tmp 37) 29 rfl w.heap.size 4 i4 (.bool false) 1 1 Try.underlying29 hi4 hz40 hz41 hz42 rfl (by decide) _ _ _ rfl ((HM.out.mid _ G6.out).1.alloc _) ⟨w3.heap.size, 0, none⟩ 1 1 [.bool false] rfl rfl (cell_one_new _ _ _) (by intro u hu; simp at hu; subst hu; rfl) (by unfold maxLen; omega) (by omega) (by simp; omega) ?_; intro v7' w4 hown7' hgrow7 _; have H7 := Hid.mk' hown7'; have G7 := Hid.mk' hgrow7; clear hown7' hgrow7))
          go_roundg g
          case measure => omega
          case rel => exact ⟨k + 1, false, sp, pre ++ [(x, false)], by omega, rfl, rfl, by go_num, by simp; omega, HM.out.push (x, false) _ _ H6.out G6.out H7.out G7.out, HP.out⟩
end Go.Proofs.Qxb6602631a
