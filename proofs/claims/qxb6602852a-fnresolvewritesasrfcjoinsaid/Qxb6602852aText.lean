import Derived.Test.Qxb6602852aTextOwn
namespace Go.Proofs.Qxb6602852a
open Go.RowKit Go.Shelf
attribute [local go_sem] Oper.semAt_some

set_option maxRecDepth 1000000 in
set_option maxHeartbeats 4000000 in
theorem text18 (w : World) (b : Nat) (sc au : ByteArray) (ha : Bool) (pa : ByteArray) (un : Option Addr) (hn : Node w b sc au ha pa un) (ps : List (Nat × ByteArray))
    (hch : Chain w w.heap.size (some ⟨b, 0, none⟩) ps) (hsc : sc.size ≤ 262144) (hau : au.size ≤ 262144) (hps : tot ps ≤ 1048576) :
    Calls Try.prog 18 #[.pointer (some ⟨b, 0, none⟩)] w fun e w' => e = .returned (.string ⟨(hdr sc au ha ++ pathsT ps).toArray⟩) ∧ Below w.heap.size w w' := by
  obtain ⟨i25, hi25, hz250, hz251, hz252⟩ := info_parts info25
  obtain ⟨i5, hi5, hz50, hz51, hz52⟩ := info_parts info5
  have c0 := hn.c0; have c1 := hn.c1; have c2 := hn.c2
  have HN : Hid (Node w b sc au ha pa un) := hn
  have HC : Hid (Chain w w.heap.size (some ⟨b, 0, none⟩) ps) := hch
  clear hn hch
  refine callsIn_wide.1 (callsIn_of_wp_marks (n := 4) Try.func18 rfl trivial ?_)
  refine wpIn_wide.2 ?_
  simp only [Try.ntmps18, List.size_toArray, List.length_cons, List.length_nil, Nat.reduceAdd, Nat.reduceSub, Array.replicate_succ, Array.replicate_zero, List.push_toArray, List.append_toArray, List.nil_append, List.cons_append]
  go_wp2
  go_quiet (fail)
  go_wp2
  obtain ⟨p0, rest0, hps0⟩ : ∃ p0 rest0, ps = (b, p0) :: rest0 := by
    have := HC.out
    cases ps with
    | nil => exact this.elim
    | cons x r => obtain ⟨h1, _⟩ := this; cases h1; exact ⟨_, _, rfl⟩
  have HPS : Hid (ps = (b, p0) :: rest0) := hps0
  clear hps0
  go_loopg [3, 4, 5] ps.length (fun g v3 v4 v5 wx => ∃ (pre : List (Nat × ByteArray)) (bt : Nat) (pt : ByteArray) (rest : List (Nat × ByteArray)) (ao : Option Addr) (c3 : Nat), v3 = .slice ao pre.length c3 ∧ pre.length + g = ps.length ∧ ps = pre ++ (bt, pt) :: rest ∧ v4 = .int .i64 ((sc.size + 3 + au.size + tot pre : Nat) : Int) ∧ v5 = .pointer (some ⟨bt, 0, none⟩) ∧ wx.ownsRow w.heap.size 25 1 (.slice ao pre.length c3) pre.length (ptrs pre) ∧ Chain wx w.heap.size (some ⟨bt, 0, none⟩) ((bt, pt) :: rest) ∧ Below w.heap.size w wx)
  case atStart => exact ⟨[], b, p0, rest0, none, 0, rfl, by simp, HPS.out, by simp [tot]; omega, rfl, World.ownsRow_nil .., by rw [← HPS.out]; exact HC.out.below (below_drewN (Below.refl _ _) _), below_drewN (Below.refl _ _) _⟩
  case round =>
    obtain ⟨pre, bt, pt, rest, ao, c3, rfl, hg, hpp, rfl, rfl, hrow, hchn, hbel⟩ := hrel
    have hsz : tot pre + 1 + pt.size + tot rest = tot ps := by rw [hpp, tot_append]; simp [tot]; omega
    have hpl : pre.length ≤ tot pre := by
      clear hrow hg hpp hsz
      induction pre with
      | nil => exact Nat.zero_le _
      | cons x r ih => simp [tot]; omega
    have HR : Hid (wr.ownsRow w.heap.size 25 1 (.slice ao pre.length c3) pre.length (ptrs pre)) := hrow
    have HB : Hid (Below w.heap.size w wr) := hbel
    have HP : Hid (ps = pre ++ (bt, pt) :: rest) := hpp
    have hwle : w.heap.size ≤ wr.heap.size := hbel.size
    obtain ⟨hbt0, hbt, hc3, un2, hc4, hch2⟩ := hchn
    clear hrow hbel hpp hbt0
    dsimp only at hbt hc3 hc4
    cases rest with
    | cons x2 rest2 =>
      obtain ⟨b2, p2⟩ := x2
      cases un2 with
      | none => exact hch2.elim
      | some ad =>
        obtain ⟨rfl, hb2, _⟩ := (id hch2 : Chain wr w.heap.size (some ad) ((b2, p2) :: rest2))
        have HC2 : Hid (Chain wr w.heap.size (some ⟨b2, 0, none⟩) ((b2, p2) :: rest2)) := hch2
        clear hch2
        go_wp2_with (at_builtin; refine wpList_append_own _ rfl (.tmp 35) (.tmp 37) 42 rfl w.heap.size 25 i25 (.pointer none) 1 8 Try.underlying42 hi25 hz250 hz251 hz252 rfl (by decide) _ _ _ rfl (HR.out.alloc _) ⟨wr.heap.size, 0, none⟩ 1 1 [.pointer (some ⟨bt, 0, none⟩)] rfl rfl (cell_one_new _ _ _) (by intro u hu; simp at hu; subst hu; rfl) (by unfold maxLen; omega) (by omega) (by simp; omega) ?_; intro v3' w3 hown3 hgrow3 _; obtain ⟨g3, cap3, rfl⟩ := ownsRow_succ hown3; have H3 := Hid.mk' hown3; have hb3 := grown_below HB.out HR.out _ hgrow3; have HBR := Hid.mk' (((Below.refl w.heap.size wr).alloc HB.out.size _).grown hgrow3 (by simp; omega) (fun k hk => (HR.out.lt k hk).1)); have HB3 := Hid.mk' hb3; have hc33 : w3.cell? ⟨bt, 3, none⟩ = some (.string pt) := ((hb3.cell hbt).trans (HB.out.cell hbt).symm).trans hc3; have hc43 : w3.cell? ⟨bt, 4, none⟩ = some (.pointer (some ⟨b2, 0, none⟩)) := ((hb3.cell hbt).trans (HB.out.cell hbt).symm).trans hc4; clear hown3 hgrow3 hb3)
        have hlen : ps.length = pre.length + 2 + rest2.length := by rw [HP.out]; simp; omega
        go_roundg (gk - 1)
        case measure => omega
        case rel => exact ⟨pre ++ [(bt, pt)], b2, p2, rest2, some ⟨g3, 0, none⟩, cap3, by simp, by simp; omega, by rw [HP.out]; simp, by rw [tot_append]; simp [tot]; omega, rfl, by rw [List.length_append]; simpa [ptrs] using H3.out, HC2.out.below HBR.out, HB3.out⟩
    | nil =>
      cases un2 with
      | some ad => exact hch2.elim
      | none =>
        clear hch2
        have HCT : Hid (wr.cell? ⟨bt, 3, none⟩ = some (.string pt)) := hc3
        have hd0 : wr.cell? ⟨b, 0, none⟩ = some (.string sc) := (HB.out.cell HN.out.lt).trans c0
        have hd1 : wr.cell? ⟨b, 1, none⟩ = some (.string au) := (HB.out.cell HN.out.lt).trans c1
        have hd2 : wr.cell? ⟨b, 2, none⟩ = some (.bool ha) := (HB.out.cell HN.out.lt).trans c2
        clear c0 c1 c2
        have hblt : b < w.heap.size := HN.out.lt
        have hbltr : b < wr.heap.size := Nat.lt_of_lt_of_le hblt hwle
        have hbtr : bt < wr.heap.size := Nat.lt_of_lt_of_le hbt hwle
        go_upto_if 59 with (at_make; refine wpList_make_own _ rfl _ _ 27 rfl w.heap.size 5 i5 (.int .u8 0) 1 Try.underlying27 hi5 hz50 hz51 .i64 .i64 _ (sc.size + 3 + au.size + tot pre + pt.size) rfl rfl (by omega) (by rw [hz52]; omega) (by unfold maxLen; omega) (by omega) ?_; intro w0 hown0 hgrow0; have H0 := Hid.mk' hown0; have hb0 : Below w.heap.size wr w0 := (Below.refl _ _).grown hgrow0 (by omega) (fun k h => by cases h); have HB0 := Hid.mk' (HB.out.trans hb0); have HG0 := Hid.mk' hgrow0; have hd0' := (hb0.cell (p := ⟨b, 0, none⟩) hblt).trans hd0; have hd2' := (hb0.cell (p := ⟨b, 2, none⟩) hblt).trans hd2; have hblt0 : b < w0.heap.size := (Nat.lt_of_lt_of_le hblt (Nat.le_trans hwle hb0.size)); clear hown0 hgrow0 hb0)
        obtain ⟨W1, hW1⟩ : ∃ W1, w0.alloc (Obj.cells #[Value.slice (some ⟨wr.heap.size, 0, none⟩) 0 (sc.size + 3 + au.size + tot pre + pt.size)] 27) = W1 := ⟨_, rfl⟩
        obtain ⟨cap, hcap⟩ : ∃ cap, sc.size + 3 + au.size + tot pre + pt.size = cap := ⟨_, rfl⟩
        obtain ⟨Bx, hBx⟩ : ∃ Bx, w0.heap.size = Bx := ⟨_, rfl⟩
        obtain ⟨Bb, hBb⟩ : ∃ Bb, wr.heap.size = Bb := ⟨_, rfl⟩
        have hT0 := TB.first HB0.out ((Below.refl _ _).grown HG0.out (Nat.le_refl _) (fun k h => by cases h)) hwle (H0.out.lt _ rfl).2 H0.out
        rw [hW1, hBb, hcap, hBx] at hT0
        rw [hW1]
        rw [hBb, hcap, hBx]
        have HT0 : Hid (TB w wr W1 Bb Bx cap []) := hT0
        have HCAP : Hid (sc.size + 3 + au.size + tot pre + pt.size = cap) := hcap
        clear hT0 hW1 hBb hBx hcap hd0' hd2' hblt0 H0 HB0 HG0
        go_cut [] from 10 (fun wx => TB w wr wx Bb Bx cap (hdr sc au ha))
        case first =>
          cases hse : sc.toList.isEmpty with
          | true =>
            have hh : Hid (hdr sc au ha = []) := by show _ = _; simp [hdr, hse]
            go_wp2
            go_meet
            case rel => rw [hh.out]; exact HT0.out
          | false =>
            have e0 : W1.cell? ⟨b, 0, none⟩ = some (.string sc) := (HT0.out.bx.br.cell hbltr).trans hd0
            have eb := HT0.out.bx.c
            simp only [List.length_nil] at eb
            have ef := HT0.out.bx.f
            have el := HT0.out.bx.lt
            have eblt : b < W1.heap.size := Nat.lt_of_lt_of_le hblt HT0.out.bx.bw.size
            go_upto_region 12 with fail
            go_cut [] from 10 (fun wx => TB w wr wx Bb Bx cap (sc.data.toList ++ [58]))
            case first =>
              refine wp_strict ?_
              go_region_law (first | (refine step_fits_str rfl (.tmp 60) (.tmp 64) 27 9 rfl w.heap.size 5 i5 Try.underlying27 Try.underlying9 hi5 hz51 (some ⟨Bb, 0, none⟩) 0 cap [] rfl (by first | exact HT0.out.row.drew | exact (HT0.out.row.alloc _).drew) sc rfl (by have := HCAP.out; omega) (by have := HCAP.out; omega) ?_; intro w5 ho5 hg5; have HO5 : Hid (w5.ownsRow w.heap.size 5 1 (.slice (some ⟨Bb, 0, none⟩) sc.size cap) sc.size (Lib.strCells sc)) := (by rw [Nat.zero_add, List.nil_append] at ho5; exact ho5); have HG5 := Hid.mk' hg5; have HX5 : Hid (Bxs w wr w5 Bb Bx (.slice (some ⟨Bb, 0, none⟩) 0 cap)) := (by first | exact HT0.out.bx.drew.grown hg5 | exact ((HT0.out.bx.alloc _).drew).grown hg5); have hx5 := HX5.out.c; have hf5 := HX5.out.f; have hl5 := HX5.out.lt; clear ho5 hg5) | (refine step_fits rfl (.tmp 65) (.tmp 66) 27 rfl w.heap.size 5 i5 1 Try.underlying27 hi5 hz51 Bb sc.size cap _ rfl (by first | exact HO5.out | exact HO5.out.alloc _) _ 1 1 [.int .u8 58] rfl rfl (by first | exact cell_one_new _ _ _ | exact lit_kept_d _ _ HT0.out.bx.blt HG5.out) (by intro u hu; simp at hu; subst hu; rfl) (by have := HCAP.out; omega) ?_; intro w6 ho6 hg6; have HO6 := Hid.mk' ho6; have HX6 : Hid (Bxs w wr w6 Bb Bx (.slice (some ⟨Bb, 0, none⟩) 0 cap)) := (by first | exact HX5.out.grown hg6 | exact (HX5.out.alloc _).grown hg6); have hx6 := HX6.out.c; have hf6 := HX6.out.f; clear ho6 hg6))
              all_goals go_wp2_with fail
              all_goals go_meet
              all_goals exact TB.stored _ (len_sc1 sc) (bys_sc1 sc) HO6.out HX6.out
            case rest =>
              have HT1 : Hid (TB w wr wc Bb Bx cap (sc.data.toList ++ [58])) := hcut
              have e1 : wc.cell? ⟨b, 1, none⟩ = some (.string au) := (HT1.out.bx.br.cell hbltr).trans hd1
              have e2 : wc.cell? ⟨b, 2, none⟩ = some (.bool ha) := (HT1.out.bx.br.cell hbltr).trans hd2
              have eb1 := HT1.out.bx.c
              have ef1 := HT1.out.bx.f
              have hlq : (sc.data.toList ++ [58]).length = sc.size + 1 := len_sc1 sc
              rw [hlq] at eb1
              clear hcut eb ef el e0 eblt
              cases ha with
              | false =>
                have hh : Hid (hdr sc au false = sc.data.toList ++ [58]) := by show _ = _; simp [hdr, hse]
                go_wp2
                go_meet
                case rel => rw [hh.out]; exact HT1.out
              | true =>
                have hh : Hid (hdr sc au true = sc.data.toList ++ [58] ++ ([47, 47] ++ au.data.toList)) := by show _ = _; simp [hdr, hse]
                have HR1 : Hid (wc.ownsRow w.heap.size 5 1 (.slice (some ⟨Bb, 0, none⟩) (sc.size + 1) cap) (sc.size + 1) (bys (sc.data.toList ++ [58]))) := by
                  have := HT1.out.row
                  rw [hlq] at this
                  exact this
                have HX1 : Hid (Bxs w wr wc Bb Bx (.slice (some ⟨Bb, 0, none⟩) (sc.size + 1) cap)) := by
                  have := HT1.out.bx
                  rw [hlq] at this
                  exact this
                go_wp2_with fail
                refine wp_strict ?_
                go_region_law (first | (refine step_fits_str rfl (.tmp 72) (.const (.string ⟨#[47, 47]⟩)) 27 9 rfl w.heap.size 5 i5 Try.underlying27 Try.underlying9 hi5 hz51 (some ⟨Bb, 0, none⟩) (sc.size + 1) cap _ rfl HR1.out.drew ⟨#[47, 47]⟩ rfl (by have := HCAP.out; omega) (by have := HCAP.out; show sc.size + 1 + 2 ≤ cap; omega) ?_; intro w5 ho5 hg5; have HO5 : Hid (w5.ownsRow w.heap.size 5 1 (.slice (some ⟨Bb, 0, none⟩) (sc.size + 1 + 2) cap) (sc.size + 1 + 2) _) := ho5; have HX5 : Hid (Bxs w wr w5 Bb Bx (.slice (some ⟨Bb, 0, none⟩) (sc.size + 1) cap)) := HX1.out.drew.grown hg5; have e15 : w5.cell? ⟨b, 1, none⟩ = some (.string au) := (HX5.out.br.cell hbltr).trans hd1; have hx5 := HX5.out.c; have hf5 := HX5.out.f; clear ho5 hg5) | (refine step_fits_str rfl (.tmp 73) (.tmp 77) 27 9 rfl w.heap.size 5 i5 Try.underlying27 Try.underlying9 hi5 hz51 (some ⟨Bb, 0, none⟩) (sc.size + 1 + 2) cap _ rfl HO5.out au rfl (by have := HCAP.out; omega) (by have := HCAP.out; omega) ?_; intro w6 ho6 hg6; have HO6 := Hid.mk' ho6; have HX6 : Hid (Bxs w wr w6 Bb Bx (.slice (some ⟨Bb, 0, none⟩) (sc.size + 1) cap)) := HX5.out.grown hg6; have hx6 := HX6.out.c; have hf6 := HX6.out.f; clear ho6 hg6))
                all_goals go_wp2_with fail
                all_goals go_meet
                all_goals rw [hh.out]
                all_goals exact TB.stored _ (len_sc2 sc au) (bys_sc2 sc au) HO6.out HX6.out
        case rest =>
          obtain ⟨H, hH⟩ : ∃ H, hdr sc au ha = H := ⟨_, rfl⟩
          rw [hH] at hcut
          have hHl : H.length ≤ sc.size + 3 + au.size := hH ▸ hdr_le sc au ha
          have HH : Hid (hdr sc au ha = H) := hH
          have HT : Hid (TB w wr wc Bb Bx cap H) := hcut
          have eb := hcut.bx.c
          have ef := hcut.bx.f
          have el := hcut.bx.lt
          have e3 : wc.cell? ⟨bt, 3, none⟩ = some (.string pt) := (hcut.bx.br.cell hbtr).trans hc3
          have ebt : bt < wc.heap.size := Nat.lt_of_lt_of_le hbt hcut.bx.bw.size
          clear hcut hH hd0 hd1 hd2 HT0
          go_upto_region 16 with fail
          obtain ⟨W2, hW2⟩ : ∃ W2, wc.alloc (.cells #[.int .i64 (H.length : Int)] 3) = W2 := ⟨_, rfl⟩
          rw [hW2]
          have hT2 : Hid (TB w wr W2 Bb Bx cap H) := by show TB ..; rw [← hW2]; exact ⟨HT.out.row.alloc _, HT.out.bx.alloc _⟩
          have hs2 : Boxed W2 wc.heap.size 3 (.int .i64 (H.length : Int)) := by rw [← hW2]; exact Boxed.new _ _ _
          have hs2l : wc.heap.size < W2.heap.size := by rw [← hW2]; simp
          obtain ⟨Bs, hBs⟩ : ∃ Bs, wc.heap.size = Bs := ⟨_, rfl⟩
          rw [hBs] at hs2 hs2l el ebt
          rw [hBs]
          have HBs : Hid (Bs ≠ Bx ∧ Bs ≠ Bb ∧ w.heap.size ≤ Bs) := by
            have h1 := HT.out.bx.lt; have h2 := HT.out.bx.blt; have h3 := HT.out.bx.bw.size
            show _ ∧ _
            omega
          have HS2 : Hid (Boxed W2 Bs 3 (.int .i64 (H.length : Int)) ∧ Bs < W2.heap.size) := ⟨hs2, hs2l⟩
          clear hW2 hBs eb ef el e3 hs2 hs2l HT ebt
          have eb := hT2.out.bx.c
          have ef := hT2.out.bx.f
          have e3 : W2.cell? ⟨bt, 3, none⟩ = some (.string pt) := (hT2.out.bx.br.cell hbtr).trans hc3
          go_cut [] from 10 (fun wx => TB w wr wx Bb Bx cap (H ++ pt.data.toList) ∧ Boxed wx Bs 3 (.int .i64 (H.length : Int)) ∧ Bs < wx.heap.size)
          case first =>
            refine wp_strict ?_
            go_region_law (refine step_fits_str rfl (.tmp 81) (.tmp 85) 27 9 rfl w.heap.size 5 i5 Try.underlying27 Try.underlying9 hi5 hz51 (some ⟨Bb, 0, none⟩) H.length cap _ rfl hT2.out.row.drew pt rfl (by have := HCAP.out; omega) (by have := HCAP.out; omega) ?_; intro w5 ho5 hg5; have HO5 := Hid.mk' ho5; have HX5 : Hid (Bxs w wr w5 Bb Bx (.slice (some ⟨Bb, 0, none⟩) H.length cap)) := hT2.out.bx.drew.grown hg5; have HS5 : Hid (Boxed w5 Bs 3 (.int .i64 (H.length : Int)) ∧ Bs < w5.heap.size) := ⟨(show Boxed W2.drew Bs 3 _ from HS2.out.1).kept hg5 (fun e => HBs.out.2.1 (by simpa [Value.ownBlock] using e)), Nat.lt_of_lt_of_le HS2.out.2 hg5.size⟩; have hx5 := HX5.out.c; have hf5 := HX5.out.f; clear ho5 hg5)
            all_goals go_wp2_with fail
            all_goals go_meet
            all_goals exact ⟨TB.stored _ (len_app H pt) (bys_app2 H pt) HO5.out HX5.out, HS5.out.1.kept (grownBy_setCell' _ _ _) (fun e => HBs.out.1 (by simpa using e)), by simpa using HS5.out.2⟩
          case rest =>
            obtain ⟨hT3, hs3, hs3l⟩ := hcut
            have HT3 : Hid (TB w wr wc Bb Bx cap (H ++ pt.data.toList)) := hT3
            have HS3 : Hid (Boxed wc Bs 3 (.int .i64 (H.length : Int)) ∧ Bs < wc.heap.size) := ⟨hs3, hs3l⟩
            clear hT3 hs3 hs3l eb ef e3 hT2 HS2
            go_wp2_with (go_at_call 22; refine (callsIn_wide.1 (backward_in Fence.wide 4 trivial rfl ao pre.length c3 _)).mono ?_; rintro e w9 ⟨rfl, hw9⟩; rw [hw9])
            have HRc : Hid (wc.ownsRow w.heap.size 25 1 (.slice ao pre.length c3) pre.length (ptrs pre)) := HR.out.kept (w' := wc) (row := none) ⟨HT3.out.bx.br.os, HT3.out.bx.br.tape, HT3.out.bx.br.output, HT3.out.bx.br.size, fun k hk _ => HT3.out.bx.br.block k hk⟩ (by cases ao <;> simp [Value.ownBlock])
            obtain ⟨Bc, hBc⟩ : ∃ Bc, wc.heap.size = Bc := ⟨_, rfl⟩
            obtain ⟨W9, hW9⟩ : ∃ W9, wc.alloc (.cells #[.slice ao pre.length c3] 42) = W9 := ⟨_, rfl⟩
            rw [hW9, hBc]
            have hbx9 : Boxed W9 Bc 42 (.slice ao pre.length c3) := by rw [← hW9, ← hBc]; exact Boxed.new _ _ _
            obtain ⟨y, hy, hseq⟩ := seq_any 3 (by decide) w W9 Bc c3 ao pre (by omega) (by rw [← hW9]; exact HRc.out.alloc _) hbx9
            have HTO : Hid (TO w Bx Bs Bc y H.length (.slice ao pre.length c3) (H ++ pt.data.toList) W9) := by
              refine ⟨Bb, cap, ?_, ?_, ?_, hbx9, hy, HT3.out.bx.lx, ?_, KeepsOthers.refl _, KeepB.refl _ _ _⟩
              · rw [← hW9]; exact HT3.out.row.alloc _
              · rw [← hW9]; exact HT3.out.bx.bo.alloc _
              · rw [← hW9]; exact HS3.out.1.alloc _
              · rw [← hW9]; exact HT3.out.bx.bw.alloc HT3.out.bx.bw.size _
            have HW9 : Hid (w.heap.size ≤ W9.heap.size) := HTO.out.choose_spec.choose_spec.2.bw.size
            have HLT : Hid (Bc < W9.heap.size ∧ y < W9.heap.size) := by
              refine ⟨hbx9.lt, ?_⟩
              rcases hy with rfl | ⟨c, hc⟩
              · exact hbx9.lt
              · exact (Array.getElem?_eq_some_iff.1 hc).1
            refine (wpIn_wide (n := 4)).1 ?_
            refine wpIn_rangeFunc_ownF (F := Fence.wide) (n := 4) rfl (by decide) (gf := 27) (lb := #[.pointer (some ⟨Bc, 0, none⟩)]) rfl trivial (enters_of Try.func27 (by kernel_rfl) rfl) hseq (fun h k => h.trans k)
              (fun W l o o' hl _ _ _ => putObj_keeps HLT.out.1 HLT.out.2 hl) (Below.refl _ _) (fun _ => rfl)
              (fun (seen : List (Fin pre.length)) W => TO w Bx Bs Bc y H.length (.slice ao pre.length c3) (H ++ seen.foldl (fun (q : List UInt8) (j : Fin pre.length) => joinB q pre[j].2.data.toList) pt.data.toList) W) (fun _ _ _ => False)
              (fun s A B row hs hg hr => hs.abides hg hr HTO.out.choose_spec.choose_spec.2.bw.size) (fun _ _ _ _ _ hs _ _ => hs.elim) HTO.out ?a1 ?assign ?body ?done ?stop
            case assign =>
              intro l x W K hK
              gi_wp2
              exact hK
            case stop =>
              rintro D c q W _ _ h _
              exact h.elim
            case done =>
              rintro D ys W hD rfl hI hK
              obtain ⟨g, cap9, hrow, hmid⟩ := hI
              obtain ⟨T, hTd⟩ : ∃ T, H ++ (ord pre.length).foldl (fun (q : List UInt8) (j : Fin pre.length) => joinB q pre[j].2.data.toList) pt.data.toList = T := ⟨_, rfl⟩
              rw [hTd] at hrow hmid
              have hcv := conv_all hrow
              have hbx := hmid.bx.cell
              have HMD : Hid (Below w.heap.size w W) := hmid.bw
              have HK : Hid (W.heap[D]? = some (.deferred (some []))) := hK
              have HTD : Hid (H ++ (ord pre.length).foldl (fun (q : List UInt8) (j : Fin pre.length) => joinB q pre[j].2.data.toList) pt.data.toList = T) := hTd
              clear hrow hmid hK hTd hseq
              go_wp2
              refine ⟨by simp, .inl ⟨_, _, rfl, run_takeDeferred HK.out, ?_⟩⟩
              refine ⟨_, results_tmp rfl _ _ _, ?_, ?_⟩
              · rw [HP.out, ← fold_ord bt pt pre, HH.out, HTD.out]
                rfl
              · exact HMD.out.trans (belowK_b (w := W9) HW9.out W D _ _ hD HK.out rfl rfl)
            case body =>
              rintro l q x W hI hlt
              obtain ⟨g, cap9, hrow, hmid⟩ := hI
              obtain ⟨Pq, hPq⟩ : ∃ Pq, q.foldl (fun (q : List UInt8) (j : Fin pre.length) => joinB q pre[j].2.data.toList) pt.data.toList = Pq := ⟨_, rfl⟩
              have hfold : (q ++ [x]).foldl (fun (q : List UInt8) (j : Fin pre.length) => joinB q pre[j].2.data.toList) pt.data.toList = joinB Pq pre[x].2.data.toList := by rw [List.foldl_append, hPq]; rfl
              rw [hPq] at hrow hmid
              obtain ⟨px, hpx⟩ : ∃ px, pre[x] = px := ⟨_, rfl⟩
              have hxl : x.val < ps.length := by rw [HP.out, List.length_append]; have := x.2; omega
              have hcx : W.cell? ⟨px.1, 3, none⟩ = some (.string px.2) ∧ px.1 < w.heap.size := by
                obtain ⟨k1, k2⟩ := HC.out.at x.val hxl
                have hpe : ps[x.val] = px := by rw [← hpx]; simp [HP.out]
                rw [hpe] at k1 k2
                exact ⟨(hmid.bw.cell (p := ⟨px.1, 3, none⟩) k2).trans k1, k2⟩
              have hLp : (H ++ Pq).length = H.length + Pq.length := List.length_append
              have HLP : Hid ((H ++ Pq).length = H.length + Pq.length) := hLp
              rw [hLp] at hrow hmid
              have ebx := hmid.bx.cell
              have ebf := hmid.bx.frozen
              have ebs := hmid.bs.cell
              have HROW : Hid (W.ownsRow w.heap.size 5 1 (.slice (some ⟨g, 0, none⟩) (H.length + Pq.length) cap9) (H.length + Pq.length) (bys (H ++ Pq))) := hrow
              have HMID : Hid (Mid w Bx Bs Bc y H.length (.slice ao pre.length c3) (.slice (some ⟨g, 0, none⟩) (H.length + Pq.length) cap9) W W) := hmid
              have HFO := Hid.mk' hfold
              have hpq : Pq.length ≤ 1099513724928 := by
                have h1 := fold_len pre 1048576 (fun j => by have := tot_at pre j; omega) q pt.data.toList
                rw [hPq, ← Lib.size_eq] at h1
                have h2 : q.length ≤ 1048576 := by omega
                omega
              have hpxs : px.2.size ≤ 1048576 := by
                have := tot_at pre x
                rw [hpx] at this
                omega
              have HPX := Hid.mk' hpx
              have hpx1 : pre[x.val].1 = px.1 := by rw [← hpx]; rfl
              rw [hpx1]
              clear hrow hmid hfold hLp hseq hPq hpx
              have hwW : w.heap.size ≤ W.heap.size := HMID.out.bw.size
              have hpxl := hcx.2
              have hpp : px.1 ≠ Bx := by have := HMID.out.lx; omega
              rcases List.eq_nil_or_concat Pq with hq0 | ⟨P', c, hq0⟩
              · have h0 : Pq.length = 0 := by rw [hq0]; rfl
                have hn1 : H.length + Pq.length = H.length := by omega
                have HROW1 : Hid (W.ownsRow w.heap.size 5 1 (.slice (some ⟨g, 0, none⟩) H.length cap9) H.length (bys (H ++ Pq))) := by have := HROW.out; rwa [hn1] at this
                have HMID1 : Hid (Mid w Bx Bs Bc y H.length (.slice ao pre.length c3) (.slice (some ⟨g, 0, none⟩) H.length cap9) W W) := by have := HMID.out; rwa [hn1] at this
                rw [hn1] at ebx
                have HEND : Hid ((H ++ Pq ++ 47 :: px.2.data.toList) = H ++ joinB Pq px.2.data.toList) := by
                  show _ = _
                  rw [hq0, joinB_nil, List.append_nil]
                have hL : (H ++ Pq).length = H.length := HLP.out.trans hn1
                have hS1 := hcx.1
                clear HROW HMID hn1 h0 HLP hpq hq0
                gi_wp2
                refine region_in l _ (by kernel_rfl) (by kernel_rfl) (fun ⟨_, _, h⟩ => h) ?_
                refine wpAny_of_held (S := fun w' => w'.cell? ⟨px.1, 3, none⟩ = some (.string px.2)) _ _ _ _ ?_
                refine wpAnyH_take (i := 3) (v := .pointer (some ⟨px.1, 0, none⟩)) rfl (by kernel_rfl) (by kernel_rfl) (by kernel_rfl) (fun _ _ _ h => h) (Or.inl ⟨by rfl, by intro w hSw; go_simp⟩) hS1 ?_
                simp only [Act.put, List.setIfInBounds_toArray]
                refine wpAnyH_take (i := 4) (v := .pointer (some ⟨px.1, 0, none⟩)) rfl (by kernel_rfl) (by kernel_rfl) (by kernel_rfl) (fun _ _ _ h => h) (Or.inl ⟨by rfl, by intro w hSw; go_simp⟩) hS1 ?_
                simp only [Act.put]
                refine wpAnyH_take (i := 5) (v := .pointer (some ⟨px.1, 3, none⟩)) rfl (by kernel_rfl) (by kernel_rfl) (by kernel_rfl) (fun _ _ _ h => h) (Or.inl ⟨by rfl, by intro w hSw; go_simp⟩) hS1 ?_
                simp only [Act.put]
                refine wpAnyH_take (i := 6) (v := .string px.2) rfl (by kernel_rfl) (by kernel_rfl) (by kernel_rfl) (fun _ _ _ h => h) (Or.inl ⟨by rfl, by intro w hSw; go_simp⟩) hS1 ?_
                simp only [Act.put]
                have ebx2 := (HMID1.out.alloc (Obj.cells #[Value.int IntKind.u8 47] 5)).bx.cell
                have hS2 := hS1
                rw [← World.cell?_alloc_some _ _ (Obj.cells #[Value.int IntKind.u8 47] 5) (by rw [hS1]; rfl)] at hS2
                refine wpAnyH_ready (rs := [0, 1]) (by kernel_rfl) (by simp) ?_
                refine AllReadyH.cons rfl (fun K hK => ?_) (AllReadyH.cons rfl (fun K hK => ?_) AllReadyH.nil)
                · go_simp
                  refine hK.out _ _ hS1 (fun _ => ?_)
                  clear hK K
                  refine wpAnyH_ready (rs := [1]) (by kernel_rfl) (by simp) ?_
                  refine AllReadyH.cons rfl (fun K hK => ?_) AllReadyH.nil
                  go_simp
                  refine hK.out _ _ hS2 (fun _ => ?_)
                  clear hK K
                  refine wpAnyH_ready (rs := [2]) (by kernel_rfl) (by simp) ?_
                  refine AllReadyH.cons rfl (fun K hK => ?_) AllReadyH.nil
                  refine step_own rfl (.tmp 109) (.tmp 110) 27 rfl w.heap.size 5 i5 (.int .u8 0) 1 1 Try.underlying27 hi5 hz50 hz51 hz52 rfl (by decide) g (H.length) cap9 _ rfl (HROW1.out.alloc _).drew ⟨_, 0, none⟩ 1 1 [.int .u8 47] rfl rfl (cell_one_new _ _ _) (by intro u hu; simp at hu; subst hu; rfl) (by unfold maxLen; omega) (by omega) (by simp; omega) ?_
                  intro g2 cap2 w2 hown2 hg2
                  refine hK.out _ _ (by have := (hg2.block px.1 (by simp; omega) (by have h9 : w.heap.size ≤ g := (HROW1.out.lt g rfl).1; intro e; have e2 : px.1 = g := Option.some.inj e; omega)); exact (World.cell?_of_block (a := ⟨px.1, 3, none⟩) this).trans hS2) (fun hS3 => ?_)
                  clear hK K
                  have HM2 := Hid.mk' ((HMID1.out.alloc (Obj.cells #[Value.int IntKind.u8 47] 5)).drew.row (HROW1.out.alloc _).drew hg2)
                  have hsz2 : w.heap.size ≤ w2.heap.size := HM2.out.bw.size
                  refine wpAnyH_ready (rs := [7]) (by kernel_rfl) (by simp) ?_
                  refine AllReadyH.cons rfl (fun K hK => ?_) AllReadyH.nil
                  refine step_own_str rfl (.tmp 111) (.tmp 115) 27 9 rfl w.heap.size 5 i5 Try.underlying27 Try.underlying9 hi5 hz50 hz51 hz52 g2 (H.length + 1) cap2 _ rfl hown2 px.2 rfl (by unfold maxLen; omega) (by omega) hsz2 ?_
                  intro g3 cap3 w3 hown3 hg3
                  have HM3 := Hid.mk' (HM2.out.row hown2 hg3)
                  have HR3 := Hid.mk' hown3
                  have hb3 := HM3.out.bx.cell
                  have hf3 := HM3.out.bx.frozen
                  refine hK.out _ _ (by have := (hg3.block px.1 (by omega) (by have h9 : w.heap.size ≤ g2 := (hown2.lt g2 rfl).1; intro e; have e2 : px.1 = g2 := Option.some.inj e; omega)); exact (World.cell?_of_block (a := ⟨px.1, 3, none⟩) this).trans hS3) (fun hS4 => ?_)
                  clear hK K hown2 hg2 hown3 hg3 hS3 hS2 ebx2
                  refine wpAnyH_ready (rs := [8]) (by kernel_rfl) (by simp) ?_
                  refine AllReadyH.cons rfl (fun K hK => ?_) AllReadyH.nil
                  go_simp
                  refine hK.out _ _ (by rw [World.cell?_setCell_far _ _ _ _ (fun e => hpp e.symm)]; exact hS4) (fun _ => ?_)
                  clear hK K
                  refine wpAnyH_done (by kernel_rfl) ?_ _
                  gi_wp2
                  show KeepsOthers _ _ ∧ KeepB _ _ _ _ ∧ TO _ _ _ _ _ _ _ _ _
                  rw [HFO.out, HPX.out, ← HEND.out]
                  exact TO.behind _ HR3.out HM3.out (by rw [end_len, hL]) (end_bys _ _)
                · go_simp
                  refine hK.out _ _ hS2 (fun _ => ?_)
                  clear hK K
                  refine wpAnyH_ready (rs := [0]) (by kernel_rfl) (by simp) ?_
                  refine AllReadyH.cons rfl (fun K hK => ?_) AllReadyH.nil
                  go_simp
                  refine hK.out _ _ hS2 (fun _ => ?_)
                  clear hK K
                  refine wpAnyH_ready (rs := [2]) (by kernel_rfl) (by simp) ?_
                  refine AllReadyH.cons rfl (fun K hK => ?_) AllReadyH.nil
                  refine step_own rfl (.tmp 109) (.tmp 110) 27 rfl w.heap.size 5 i5 (.int .u8 0) 1 1 Try.underlying27 hi5 hz50 hz51 hz52 rfl (by decide) g (H.length) cap9 _ rfl (HROW1.out.alloc _).drew ⟨_, 0, none⟩ 1 1 [.int .u8 47] rfl rfl (cell_one_new _ _ _) (by intro u hu; simp at hu; subst hu; rfl) (by unfold maxLen; omega) (by omega) (by simp; omega) ?_
                  intro g2 cap2 w2 hown2 hg2
                  refine hK.out _ _ (by have := (hg2.block px.1 (by simp; omega) (by have h9 : w.heap.size ≤ g := (HROW1.out.lt g rfl).1; intro e; have e2 : px.1 = g := Option.some.inj e; omega)); exact (World.cell?_of_block (a := ⟨px.1, 3, none⟩) this).trans hS2) (fun hS3 => ?_)
                  clear hK K
                  have HM2 := Hid.mk' ((HMID1.out.alloc (Obj.cells #[Value.int IntKind.u8 47] 5)).drew.row (HROW1.out.alloc _).drew hg2)
                  have hsz2 : w.heap.size ≤ w2.heap.size := HM2.out.bw.size
                  refine wpAnyH_ready (rs := [7]) (by kernel_rfl) (by simp) ?_
                  refine AllReadyH.cons rfl (fun K hK => ?_) AllReadyH.nil
                  refine step_own_str rfl (.tmp 111) (.tmp 115) 27 9 rfl w.heap.size 5 i5 Try.underlying27 Try.underlying9 hi5 hz50 hz51 hz52 g2 (H.length + 1) cap2 _ rfl hown2 px.2 rfl (by unfold maxLen; omega) (by omega) hsz2 ?_
                  intro g3 cap3 w3 hown3 hg3
                  have HM3 := Hid.mk' (HM2.out.row hown2 hg3)
                  have HR3 := Hid.mk' hown3
                  have hb3 := HM3.out.bx.cell
                  have hf3 := HM3.out.bx.frozen
                  refine hK.out _ _ (by have := (hg3.block px.1 (by omega) (by have h9 : w.heap.size ≤ g2 := (hown2.lt g2 rfl).1; intro e; have e2 : px.1 = g2 := Option.some.inj e; omega)); exact (World.cell?_of_block (a := ⟨px.1, 3, none⟩) this).trans hS3) (fun hS4 => ?_)
                  clear hK K hown2 hg2 hown3 hg3 hS3 hS2 ebx2
                  refine wpAnyH_ready (rs := [8]) (by kernel_rfl) (by simp) ?_
                  refine AllReadyH.cons rfl (fun K hK => ?_) AllReadyH.nil
                  go_simp
                  refine hK.out _ _ (by rw [World.cell?_setCell_far _ _ _ _ (fun e => hpp e.symm)]; exact hS4) (fun _ => ?_)
                  clear hK K
                  refine wpAnyH_done (by kernel_rfl) ?_ _
                  gi_wp2
                  show KeepsOthers _ _ ∧ KeepB _ _ _ _ ∧ TO _ _ _ _ _ _ _ _ _
                  rw [HFO.out, HPX.out, ← HEND.out]
                  exact TO.behind _ HR3.out HM3.out (by rw [end_len, hL]) (end_bys _ _)
              · rw [List.concat_eq_append] at hq0
                obtain ⟨n, hn⟩ : ∃ n, H.length + P'.length = n := ⟨_, rfl⟩
                have hn1 : H.length + Pq.length = n + 1 := by rw [hq0]; simp; omega
                have hlast : W.cell? ⟨g, n, none⟩ = some (.int .u8 (c.toNat : Int)) := by
                  rw [HROW.out.cellAt n (by omega), hq0, ← hn]
                  simp [bys]
                have HROW1 : Hid (W.ownsRow w.heap.size 5 1 (.slice (some ⟨g, 0, none⟩) (n + 1) cap9) (n + 1) (bys (H ++ Pq))) := by have := HROW.out; rwa [hn1] at this
                have HMID1 : Hid (Mid w Bx Bs Bc y H.length (.slice ao pre.length c3) (.slice (some ⟨g, 0, none⟩) (n + 1) cap9) W W) := by have := HMID.out; rwa [hn1] at this
                rw [hn1] at ebx
                have hnb : n ≤ 1099515822080 := by omega
                have hnh : H.length ≤ n := by omega
                have hS1 := hcx.1
                have hcp := row_cap HROW1.out
                by_cases hc : c = 47
                · subst hc
                  have hcb : (((UInt8.toNat 47 : Nat) : Int) == 47) = true := rfl
                  have HEND : Hid ((H ++ P' ++ 47 :: px.2.data.toList) = H ++ joinB Pq px.2.data.toList) := by
                    show _ = _
                    rw [hq0, joinB_sl]; simp
                  have hL : (H ++ P').length = n := by rw [List.length_append]; exact hn
                  have HROW2 : Hid (W.ownsRow w.heap.size 5 1 (.slice (some ⟨g, 0, none⟩) n cap9) n (bys (H ++ P'))) := by
                    have h1 := HROW1.out
                    rw [hq0, ← List.append_assoc, bys_app] at h1
                    exact ownsRow_pop (by simp [bys]; omega) h1
                  clear HROW HMID hn1 hn HLP hpq hq0
                  gi_wp2
                  have HM1 := Hid.mk' (HMID1.out.store (.slice (some ⟨g, 0, none⟩) n cap9))
                  have HR1 : Hid ((W.setCell ⟨Bx, 0, none⟩ (.slice (some ⟨g, 0, none⟩) n cap9)).ownsRow w.heap.size 5 1 (.slice (some ⟨g, 0, none⟩) n cap9) n (bys (H ++ P'))) := ownsRow_setCell_other HROW2.out (fun e => HMID1.out.bx.not_row (by decide) HROW2.out e.symm) _
                  obtain ⟨W1, hW1⟩ : ∃ W1, W.setCell ⟨Bx, 0, none⟩ (.slice (some ⟨g, 0, none⟩) n cap9) = W1 := ⟨_, rfl⟩
                  rw [← World.cell?_setCell_far W ⟨Bx, 0, none⟩ _ (.slice (some ⟨g, 0, none⟩) n cap9) (fun e => hpp e.symm), hW1] at hS1
                  rw [hW1] at HM1 HR1
                  rw [hW1]
                  have HMID1 := HM1
                  have HROW1 := HR1
                  have ebx := HM1.out.bx.cell
                  have hwW : w.heap.size ≤ W1.heap.size := HM1.out.bw.size
                  refine region_in l _ (by kernel_rfl) (by kernel_rfl) (fun ⟨_, _, h⟩ => h) ?_
                  refine wpAny_of_held (S := fun w' => w'.cell? ⟨px.1, 3, none⟩ = some (.string px.2)) _ _ _ _ ?_
                  refine wpAnyH_take (i := 3) (v := .pointer (some ⟨px.1, 0, none⟩)) rfl (by kernel_rfl) (by kernel_rfl) (by kernel_rfl) (fun _ _ _ h => h) (Or.inl ⟨by rfl, by intro w hSw; go_simp⟩) hS1 ?_
                  simp only [Act.put, List.setIfInBounds_toArray]
                  refine wpAnyH_take (i := 4) (v := .pointer (some ⟨px.1, 0, none⟩)) rfl (by kernel_rfl) (by kernel_rfl) (by kernel_rfl) (fun _ _ _ h => h) (Or.inl ⟨by rfl, by intro w hSw; go_simp⟩) hS1 ?_
                  simp only [Act.put]
                  refine wpAnyH_take (i := 5) (v := .pointer (some ⟨px.1, 3, none⟩)) rfl (by kernel_rfl) (by kernel_rfl) (by kernel_rfl) (fun _ _ _ h => h) (Or.inl ⟨by rfl, by intro w hSw; go_simp⟩) hS1 ?_
                  simp only [Act.put]
                  refine wpAnyH_take (i := 6) (v := .string px.2) rfl (by kernel_rfl) (by kernel_rfl) (by kernel_rfl) (fun _ _ _ h => h) (Or.inl ⟨by rfl, by intro w hSw; go_simp⟩) hS1 ?_
                  simp only [Act.put]
                  have ebx2 := (HMID1.out.alloc (Obj.cells #[Value.int IntKind.u8 47] 5)).bx.cell
                  have hS2 := hS1
                  rw [← World.cell?_alloc_some _ _ (Obj.cells #[Value.int IntKind.u8 47] 5) (by rw [hS1]; rfl)] at hS2
                  refine wpAnyH_ready (rs := [0, 1]) (by kernel_rfl) (by simp) ?_
                  refine AllReadyH.cons rfl (fun K hK => ?_) (AllReadyH.cons rfl (fun K hK => ?_) AllReadyH.nil)
                  · go_simp
                    refine hK.out _ _ hS1 (fun _ => ?_)
                    clear hK K
                    refine wpAnyH_ready (rs := [1]) (by kernel_rfl) (by simp) ?_
                    refine AllReadyH.cons rfl (fun K hK => ?_) AllReadyH.nil
                    go_simp
                    refine hK.out _ _ hS2 (fun _ => ?_)
                    clear hK K
                    refine wpAnyH_ready (rs := [2]) (by kernel_rfl) (by simp) ?_
                    refine AllReadyH.cons rfl (fun K hK => ?_) AllReadyH.nil
                    refine step_own rfl (.tmp 109) (.tmp 110) 27 rfl w.heap.size 5 i5 (.int .u8 0) 1 1 Try.underlying27 hi5 hz50 hz51 hz52 rfl (by decide) g (n) cap9 _ rfl (HROW1.out.alloc _).drew ⟨_, 0, none⟩ 1 1 [.int .u8 47] rfl rfl (cell_one_new _ _ _) (by intro u hu; simp at hu; subst hu; rfl) (by unfold maxLen; omega) (by omega) (by simp; omega) ?_
                    intro g2 cap2 w2 hown2 hg2
                    refine hK.out _ _ (by have := (hg2.block px.1 (by simp; omega) (by have h9 : w.heap.size ≤ g := (HROW1.out.lt g rfl).1; intro e; have e2 : px.1 = g := Option.some.inj e; omega)); exact (World.cell?_of_block (a := ⟨px.1, 3, none⟩) this).trans hS2) (fun hS3 => ?_)
                    clear hK K
                    have HM2 := Hid.mk' ((HMID1.out.alloc (Obj.cells #[Value.int IntKind.u8 47] 5)).drew.row (HROW1.out.alloc _).drew hg2)
                    have hsz2 : w.heap.size ≤ w2.heap.size := HM2.out.bw.size
                    refine wpAnyH_ready (rs := [7]) (by kernel_rfl) (by simp) ?_
                    refine AllReadyH.cons rfl (fun K hK => ?_) AllReadyH.nil
                    refine step_own_str rfl (.tmp 111) (.tmp 115) 27 9 rfl w.heap.size 5 i5 Try.underlying27 Try.underlying9 hi5 hz50 hz51 hz52 g2 (n + 1) cap2 _ rfl hown2 px.2 rfl (by unfold maxLen; omega) (by omega) hsz2 ?_
                    intro g3 cap3 w3 hown3 hg3
                    have HM3 := Hid.mk' (HM2.out.row hown2 hg3)
                    have HR3 := Hid.mk' hown3
                    have hb3 := HM3.out.bx.cell
                    have hf3 := HM3.out.bx.frozen
                    refine hK.out _ _ (by have := (hg3.block px.1 (by omega) (by have h9 : w.heap.size ≤ g2 := (hown2.lt g2 rfl).1; intro e; have e2 : px.1 = g2 := Option.some.inj e; omega)); exact (World.cell?_of_block (a := ⟨px.1, 3, none⟩) this).trans hS3) (fun hS4 => ?_)
                    clear hK K hown2 hg2 hown3 hg3 hS3 hS2 ebx2
                    refine wpAnyH_ready (rs := [8]) (by kernel_rfl) (by simp) ?_
                    refine AllReadyH.cons rfl (fun K hK => ?_) AllReadyH.nil
                    go_simp
                    refine hK.out _ _ (by rw [World.cell?_setCell_far _ _ _ _ (fun e => hpp e.symm)]; exact hS4) (fun _ => ?_)
                    clear hK K
                    refine wpAnyH_done (by kernel_rfl) ?_ _
                    gi_wp2
                    show KeepsOthers _ _ ∧ KeepB _ _ _ _ ∧ TO _ _ _ _ _ _ _ _ _
                    rw [HFO.out, HPX.out, ← HEND.out]
                    exact TO.behind _ HR3.out HM3.out (by rw [end_len, hL]) (end_bys _ _)
                  · go_simp
                    refine hK.out _ _ hS2 (fun _ => ?_)
                    clear hK K
                    refine wpAnyH_ready (rs := [0]) (by kernel_rfl) (by simp) ?_
                    refine AllReadyH.cons rfl (fun K hK => ?_) AllReadyH.nil
                    go_simp
                    refine hK.out _ _ hS2 (fun _ => ?_)
                    clear hK K
                    refine wpAnyH_ready (rs := [2]) (by kernel_rfl) (by simp) ?_
                    refine AllReadyH.cons rfl (fun K hK => ?_) AllReadyH.nil
                    refine step_own rfl (.tmp 109) (.tmp 110) 27 rfl w.heap.size 5 i5 (.int .u8 0) 1 1 Try.underlying27 hi5 hz50 hz51 hz52 rfl (by decide) g (n) cap9 _ rfl (HROW1.out.alloc _).drew ⟨_, 0, none⟩ 1 1 [.int .u8 47] rfl rfl (cell_one_new _ _ _) (by intro u hu; simp at hu; subst hu; rfl) (by unfold maxLen; omega) (by omega) (by simp; omega) ?_
                    intro g2 cap2 w2 hown2 hg2
                    refine hK.out _ _ (by have := (hg2.block px.1 (by simp; omega) (by have h9 : w.heap.size ≤ g := (HROW1.out.lt g rfl).1; intro e; have e2 : px.1 = g := Option.some.inj e; omega)); exact (World.cell?_of_block (a := ⟨px.1, 3, none⟩) this).trans hS2) (fun hS3 => ?_)
                    clear hK K
                    have HM2 := Hid.mk' ((HMID1.out.alloc (Obj.cells #[Value.int IntKind.u8 47] 5)).drew.row (HROW1.out.alloc _).drew hg2)
                    have hsz2 : w.heap.size ≤ w2.heap.size := HM2.out.bw.size
                    refine wpAnyH_ready (rs := [7]) (by kernel_rfl) (by simp) ?_
                    refine AllReadyH.cons rfl (fun K hK => ?_) AllReadyH.nil
                    refine step_own_str rfl (.tmp 111) (.tmp 115) 27 9 rfl w.heap.size 5 i5 Try.underlying27 Try.underlying9 hi5 hz50 hz51 hz52 g2 (n + 1) cap2 _ rfl hown2 px.2 rfl (by unfold maxLen; omega) (by omega) hsz2 ?_
                    intro g3 cap3 w3 hown3 hg3
                    have HM3 := Hid.mk' (HM2.out.row hown2 hg3)
                    have HR3 := Hid.mk' hown3
                    have hb3 := HM3.out.bx.cell
                    have hf3 := HM3.out.bx.frozen
                    refine hK.out _ _ (by have := (hg3.block px.1 (by omega) (by have h9 : w.heap.size ≤ g2 := (hown2.lt g2 rfl).1; intro e; have e2 : px.1 = g2 := Option.some.inj e; omega)); exact (World.cell?_of_block (a := ⟨px.1, 3, none⟩) this).trans hS3) (fun hS4 => ?_)
                    clear hK K hown2 hg2 hown3 hg3 hS3 hS2 ebx2
                    refine wpAnyH_ready (rs := [8]) (by kernel_rfl) (by simp) ?_
                    refine AllReadyH.cons rfl (fun K hK => ?_) AllReadyH.nil
                    go_simp
                    refine hK.out _ _ (by rw [World.cell?_setCell_far _ _ _ _ (fun e => hpp e.symm)]; exact hS4) (fun _ => ?_)
                    clear hK K
                    refine wpAnyH_done (by kernel_rfl) ?_ _
                    gi_wp2
                    show KeepsOthers _ _ ∧ KeepB _ _ _ _ ∧ TO _ _ _ _ _ _ _ _ _
                    rw [HFO.out, HPX.out, ← HEND.out]
                    exact TO.behind _ HR3.out HM3.out (by rw [end_len, hL]) (end_bys _ _)
                · have hcb : (((c.toNat : Int)) == 47) = false := by
                    rw [beq_eq_false_iff_ne]; intro e; exact hc (UInt8.toNat_inj.1 (by have : c.toNat = 47 := by omega
                                                                                       simpa using this))
                  have HEND : Hid ((H ++ Pq ++ 47 :: px.2.data.toList) = H ++ joinB Pq px.2.data.toList) := by
                    show _ = _
                    rw [hq0, joinB_no _ hc]; simp
                  have hL : (H ++ Pq).length = n + 1 := HLP.out.trans hn1
                  clear HROW HMID hn1 hn HLP hpq hq0
                  gi_wp2
                  refine region_in l _ (by kernel_rfl) (by kernel_rfl) (fun ⟨_, _, h⟩ => h) ?_
                  refine wpAny_of_held (S := fun w' => w'.cell? ⟨px.1, 3, none⟩ = some (.string px.2)) _ _ _ _ ?_
                  refine wpAnyH_take (i := 3) (v := .pointer (some ⟨px.1, 0, none⟩)) rfl (by kernel_rfl) (by kernel_rfl) (by kernel_rfl) (fun _ _ _ h => h) (Or.inl ⟨by rfl, by intro w hSw; go_simp⟩) hS1 ?_
                  simp only [Act.put, List.setIfInBounds_toArray]
                  refine wpAnyH_take (i := 4) (v := .pointer (some ⟨px.1, 0, none⟩)) rfl (by kernel_rfl) (by kernel_rfl) (by kernel_rfl) (fun _ _ _ h => h) (Or.inl ⟨by rfl, by intro w hSw; go_simp⟩) hS1 ?_
                  simp only [Act.put]
                  refine wpAnyH_take (i := 5) (v := .pointer (some ⟨px.1, 3, none⟩)) rfl (by kernel_rfl) (by kernel_rfl) (by kernel_rfl) (fun _ _ _ h => h) (Or.inl ⟨by rfl, by intro w hSw; go_simp⟩) hS1 ?_
                  simp only [Act.put]
                  refine wpAnyH_take (i := 6) (v := .string px.2) rfl (by kernel_rfl) (by kernel_rfl) (by kernel_rfl) (fun _ _ _ h => h) (Or.inl ⟨by rfl, by intro w hSw; go_simp⟩) hS1 ?_
                  simp only [Act.put]
                  have ebx2 := (HMID1.out.alloc (Obj.cells #[Value.int IntKind.u8 47] 5)).bx.cell
                  have hS2 := hS1
                  rw [← World.cell?_alloc_some _ _ (Obj.cells #[Value.int IntKind.u8 47] 5) (by rw [hS1]; rfl)] at hS2
                  refine wpAnyH_ready (rs := [0, 1]) (by kernel_rfl) (by simp) ?_
                  refine AllReadyH.cons rfl (fun K hK => ?_) (AllReadyH.cons rfl (fun K hK => ?_) AllReadyH.nil)
                  · go_simp
                    refine hK.out _ _ hS1 (fun _ => ?_)
                    clear hK K
                    refine wpAnyH_ready (rs := [1]) (by kernel_rfl) (by simp) ?_
                    refine AllReadyH.cons rfl (fun K hK => ?_) AllReadyH.nil
                    go_simp
                    refine hK.out _ _ hS2 (fun _ => ?_)
                    clear hK K
                    refine wpAnyH_ready (rs := [2]) (by kernel_rfl) (by simp) ?_
                    refine AllReadyH.cons rfl (fun K hK => ?_) AllReadyH.nil
                    refine step_own rfl (.tmp 109) (.tmp 110) 27 rfl w.heap.size 5 i5 (.int .u8 0) 1 1 Try.underlying27 hi5 hz50 hz51 hz52 rfl (by decide) g (n + 1) cap9 _ rfl (HROW1.out.alloc _).drew ⟨_, 0, none⟩ 1 1 [.int .u8 47] rfl rfl (cell_one_new _ _ _) (by intro u hu; simp at hu; subst hu; rfl) (by unfold maxLen; omega) (by omega) (by simp; omega) ?_
                    intro g2 cap2 w2 hown2 hg2
                    refine hK.out _ _ (by have := (hg2.block px.1 (by simp; omega) (by have h9 : w.heap.size ≤ g := (HROW1.out.lt g rfl).1; intro e; have e2 : px.1 = g := Option.some.inj e; omega)); exact (World.cell?_of_block (a := ⟨px.1, 3, none⟩) this).trans hS2) (fun hS3 => ?_)
                    clear hK K
                    have HM2 := Hid.mk' ((HMID1.out.alloc (Obj.cells #[Value.int IntKind.u8 47] 5)).drew.row (HROW1.out.alloc _).drew hg2)
                    have hsz2 : w.heap.size ≤ w2.heap.size := HM2.out.bw.size
                    refine wpAnyH_ready (rs := [7]) (by kernel_rfl) (by simp) ?_
                    refine AllReadyH.cons rfl (fun K hK => ?_) AllReadyH.nil
                    refine step_own_str rfl (.tmp 111) (.tmp 115) 27 9 rfl w.heap.size 5 i5 Try.underlying27 Try.underlying9 hi5 hz50 hz51 hz52 g2 (n + 1 + 1) cap2 _ rfl hown2 px.2 rfl (by unfold maxLen; omega) (by omega) hsz2 ?_
                    intro g3 cap3 w3 hown3 hg3
                    have HM3 := Hid.mk' (HM2.out.row hown2 hg3)
                    have HR3 := Hid.mk' hown3
                    have hb3 := HM3.out.bx.cell
                    have hf3 := HM3.out.bx.frozen
                    refine hK.out _ _ (by have := (hg3.block px.1 (by omega) (by have h9 : w.heap.size ≤ g2 := (hown2.lt g2 rfl).1; intro e; have e2 : px.1 = g2 := Option.some.inj e; omega)); exact (World.cell?_of_block (a := ⟨px.1, 3, none⟩) this).trans hS3) (fun hS4 => ?_)
                    clear hK K hown2 hg2 hown3 hg3 hS3 hS2 ebx2
                    refine wpAnyH_ready (rs := [8]) (by kernel_rfl) (by simp) ?_
                    refine AllReadyH.cons rfl (fun K hK => ?_) AllReadyH.nil
                    go_simp
                    refine hK.out _ _ (by rw [World.cell?_setCell_far _ _ _ _ (fun e => hpp e.symm)]; exact hS4) (fun _ => ?_)
                    clear hK K
                    refine wpAnyH_done (by kernel_rfl) ?_ _
                    gi_wp2
                    show KeepsOthers _ _ ∧ KeepB _ _ _ _ ∧ TO _ _ _ _ _ _ _ _ _
                    rw [HFO.out, HPX.out, ← HEND.out]
                    exact TO.behind _ HR3.out HM3.out (by rw [end_len, hL]) (end_bys _ _)
                  · go_simp
                    refine hK.out _ _ hS2 (fun _ => ?_)
                    clear hK K
                    refine wpAnyH_ready (rs := [0]) (by kernel_rfl) (by simp) ?_
                    refine AllReadyH.cons rfl (fun K hK => ?_) AllReadyH.nil
                    go_simp
                    refine hK.out _ _ hS2 (fun _ => ?_)
                    clear hK K
                    refine wpAnyH_ready (rs := [2]) (by kernel_rfl) (by simp) ?_
                    refine AllReadyH.cons rfl (fun K hK => ?_) AllReadyH.nil
                    refine step_own rfl (.tmp 109) (.tmp 110) 27 rfl w.heap.size 5 i5 (.int .u8 0) 1 1 Try.underlying27 hi5 hz50 hz51 hz52 rfl (by decide) g (n + 1) cap9 _ rfl (HROW1.out.alloc _).drew ⟨_, 0, none⟩ 1 1 [.int .u8 47] rfl rfl (cell_one_new _ _ _) (by intro u hu; simp at hu; subst hu; rfl) (by unfold maxLen; omega) (by omega) (by simp; omega) ?_
                    intro g2 cap2 w2 hown2 hg2
                    refine hK.out _ _ (by have := (hg2.block px.1 (by simp; omega) (by have h9 : w.heap.size ≤ g := (HROW1.out.lt g rfl).1; intro e; have e2 : px.1 = g := Option.some.inj e; omega)); exact (World.cell?_of_block (a := ⟨px.1, 3, none⟩) this).trans hS2) (fun hS3 => ?_)
                    clear hK K
                    have HM2 := Hid.mk' ((HMID1.out.alloc (Obj.cells #[Value.int IntKind.u8 47] 5)).drew.row (HROW1.out.alloc _).drew hg2)
                    have hsz2 : w.heap.size ≤ w2.heap.size := HM2.out.bw.size
                    refine wpAnyH_ready (rs := [7]) (by kernel_rfl) (by simp) ?_
                    refine AllReadyH.cons rfl (fun K hK => ?_) AllReadyH.nil
                    refine step_own_str rfl (.tmp 111) (.tmp 115) 27 9 rfl w.heap.size 5 i5 Try.underlying27 Try.underlying9 hi5 hz50 hz51 hz52 g2 (n + 1 + 1) cap2 _ rfl hown2 px.2 rfl (by unfold maxLen; omega) (by omega) hsz2 ?_
                    intro g3 cap3 w3 hown3 hg3
                    have HM3 := Hid.mk' (HM2.out.row hown2 hg3)
                    have HR3 := Hid.mk' hown3
                    have hb3 := HM3.out.bx.cell
                    have hf3 := HM3.out.bx.frozen
                    refine hK.out _ _ (by have := (hg3.block px.1 (by omega) (by have h9 : w.heap.size ≤ g2 := (hown2.lt g2 rfl).1; intro e; have e2 : px.1 = g2 := Option.some.inj e; omega)); exact (World.cell?_of_block (a := ⟨px.1, 3, none⟩) this).trans hS3) (fun hS4 => ?_)
                    clear hK K hown2 hg2 hown3 hg3 hS3 hS2 ebx2
                    refine wpAnyH_ready (rs := [8]) (by kernel_rfl) (by simp) ?_
                    refine AllReadyH.cons rfl (fun K hK => ?_) AllReadyH.nil
                    go_simp
                    refine hK.out _ _ (by rw [World.cell?_setCell_far _ _ _ _ (fun e => hpp e.symm)]; exact hS4) (fun _ => ?_)
                    clear hK K
                    refine wpAnyH_done (by kernel_rfl) ?_ _
                    gi_wp2
                    show KeepsOthers _ _ ∧ KeepB _ _ _ _ ∧ TO _ _ _ _ _ _ _ _ _
                    rw [HFO.out, HPX.out, ← HEND.out]
                    exact TO.behind _ HR3.out HM3.out (by rw [end_len, hL]) (end_bys _ _)

end Go.Proofs.Qxb6602852a
