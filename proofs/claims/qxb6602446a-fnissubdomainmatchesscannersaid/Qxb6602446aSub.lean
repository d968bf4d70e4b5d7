import Derived.Test.Qxb6602446aCut
import Derived.Test.Qxb6602446aScan
namespace Go.Proofs.Qxb6602446a
open Go.RowKit

/-- what strings.Cut at a dot leaves: the label p, the rest r, whether there is more -/
structure Cuts (s p r : ByteArray) (m : Bool) : Prop where
  nodot : ∀ c ∈ p.data.toList, c ≠ 46
  eq : scan s.data.toList 0 46 = (lab p.data.toList && (!m || scan r.data.toList 0 46))
  less : m = true → r.size < s.size
  psize : p.size ≤ s.size
  rsize : r.size ≤ s.size

theorem cut_any (s : ByteArray) (w : World) (hs : s.size ≤ 1048576) :
    Calls Try.prog 29 #[.string s, .string ⟨#[46]⟩] w fun e w' => ∃ (p r : ByteArray) (m : Bool) (n : Nat), e = .returned (.tuple #[.string p, .string r, .bool m]) ∧ w' = w.drewN n ∧ Cuts s p r m := by
  rcases indexByte_parts 46 s.data.toList with ⟨h1, h2⟩ | ⟨k, h1, h2, h3, h4⟩
  · refine (cut29_miss s 46 w h1).mono ?_
    rintro e w' ⟨rfl, rfl⟩
    refine ⟨s, ⟨#[]⟩, false, 0, rfl, rfl, h2, ?_, by simp, Nat.le_refl _, Nat.zero_le _⟩
    rw [scan_last _ h2]; simp
  · have hk : k < s.size := by rw [Lib.size_eq]; exact h2
    refine (cut29_hit s 46 w k hs h1 hk).mono ?_
    rintro e w' ⟨rfl, n, rfl⟩
    have e1 : (s.extract 0 k).data.toList = s.data.toList.take k := by rw [Lib.extract_data]; simp
    have e2 : (s.extract (k + 1) s.size).data.toList = s.data.toList.drop (k + 1) := Lib.extract_to_end s (k + 1)
    refine ⟨_, _, true, n, rfl, rfl, by rw [e1]; exact h3, ?_, fun _ => by simp; omega, by simp; omega, by simp⟩
    rw [e1, e2]
    have := scan_more (s.data.toList.take k) (s.data.toList.drop (k + 1)) h3 46
    rw [← h4, List.take_append_drop] at this
    rw [this]; simp

/-- the first k bytes are good -/
def OkTo (l : List UInt8) (k : Nat) : Prop := ∀ (j : Nat) b, j < k → l[j]? = some b → okc b = true
theorem OkTo.zero (l : List UInt8) : OkTo l 0 := fun _ _ h => absurd h (Nat.not_lt_zero _)
theorem OkTo.succ {l : List UInt8} {k : Nat} {x : UInt8} (h : OkTo l k) (hx : l[k]? = some x) (hb : okc x = true) : OkTo l (k + 1) := fun j b hj hb' => by
  by_cases e : j = k
  · subst e; rw [hx] at hb'; cases hb'; exact hb
  · exact h j b (by omega) hb'
theorem OkTo.all {l : List UInt8} {k : Nat} (h : OkTo l k) (hk : l.length ≤ k) : l.all okc = true := by
  refine List.all_eq_true.2 fun b hb => ?_
  obtain ⟨j, hj⟩ := List.mem_iff_getElem?.1 hb
  exact h j b (by have := (List.getElem?_eq_some_iff.1 hj).1; omega) hj
theorem lab_bad {l : List UInt8} {k : Nat} {x : UInt8} (hx : l[k]? = some x) (hb : okc x = false) : lab l = false := by
  have : l.all okc = false := by
    cases h : l.all okc with
    | false => rfl
    | true => rw [List.all_eq_true.1 h x (List.mem_of_getElem? hx)] at hb; cases hb
  simp [lab, this]
theorem lab_empty {l : List UInt8} (h : l.isEmpty = true) : lab l = false := by simp [lab, h]
theorem lab_long {l : List UInt8} (h : ¬ l.length ≤ 63) : lab l = false := by simp [lab, h]
theorem lab_first {l : List UInt8} (h : l[0]? = some 45) : lab l = false := by
  have : l.head? = some 45 := by rw [List.head?_eq_getElem?]; exact h
  simp [lab, this]
theorem lab_last {l : List UInt8} (h : l[l.length - 1]? = some 45) : lab l = false := by
  have : l.getLast? = some 45 := by rw [List.getLast?_eq_getElem?]; exact h
  simp [lab, this]
theorem lab_good {l : List UInt8} (h0 : l.isEmpty = false) (h1 : l.length ≤ 63) (h2 : l[0]? ≠ some 45) (h3 : l[l.length - 1]? ≠ some 45) (h4 : l.all okc = true) : lab l = true := by
  have a2 : l.head? ≠ some 45 := by rw [List.head?_eq_getElem?]; exact h2
  have a3 : l.getLast? ≠ some 45 := by rw [List.getLast?_eq_getElem?]; exact h3
  have b2 : (l.head? != some 45) = true := by simpa using a2
  have b3 : (l.getLast? != some 45) = true := by simpa using a3
  simp [lab, h0, h1, b2, b3, h4]

set_option maxHeartbeats 2000000 in
theorem sub24_loop (s : ByteArray) (w : World) (h1 : s.size ≤ 253) :
    Calls Try.prog 24 #[.string s] w fun e w' => e = .returned (.bool (scan s.data.toList 0 46)) ∧ ∃ n, w' = w.drewN n := by
  go_enter Try.func24, Try.ntmps24
  go_wp2
  go_loopg [3, 4, 5] (s.size + 1) (fun g vl vr vm wx => ∃ (lbl cur : ByteArray) (m : Bool) (n : Nat), vl = .string lbl ∧ vr = .string cur ∧ vm = .bool m ∧ wx = w.drewN n ∧ cur.size ≤ 253 ∧ (m = true → cur.size < g ∧ scan s.data.toList 0 46 = scan cur.data.toList 0 46) ∧ (m = false → scan s.data.toList 0 46 = true))
  case atStart => exact ⟨⟨#[]⟩, s, true, 0, rfl, rfl, rfl, rfl, h1, fun _ => ⟨by omega, rfl⟩, fun h => by cases h⟩
  case round =>
    obtain ⟨lbl, cur, m, n, rfl, rfl, rfl, rfl, hc, ht, hf⟩ := hrel
    cases m with
    | false =>
      have HF : Hid (scan s.data.toList 0 46 = true) := hf rfl
      clear hf ht
      go_wp2
      go_ret
      rw [HF.out]
      exact ⟨rfl, _, rfl⟩
    | true =>
      obtain ⟨hg, hsc⟩ := ht rfl
      have HS : Hid (scan s.data.toList 0 46 = scan cur.data.toList 0 46) := hsc
      clear hf ht hsc
      go_wp2_with fail
      refine (cut_any cur _ (by omega)).mono ?_
      rintro e w1 ⟨p, r, m, n2, rfl, rfl, hcut⟩
      have HC : Hid (Cuts cur p r m) := hcut
      have hps : p.size ≤ 253 := by have := hcut.psize; omega
      clear hcut
      cases he : p.toList.isEmpty with
      | true =>
        have HF : Hid (scan s.data.toList 0 46 = false) := by show _ = _; rw [HS.out, HC.out.eq, lab_empty (by rw [← Lib.toList_data]; exact he)]; rfl
        go_wp2
        go_ret
        rw [HF.out]
        exact ⟨rfl, _, rfl⟩
      | false =>
        have hp0 : 0 < p.size := by
          rw [Lib.size_eq]
          rw [Lib.toList_data] at he
          cases h : p.data.toList with
          | nil => rw [h] at he; simp at he
          | cons _ _ => simp
        by_cases h63 : p.size ≤ 63
        · obtain ⟨x0, hx0⟩ : ∃ x : UInt8, p[0]'hp0 = x := ⟨_, rfl⟩
          have HX0 : Hid (p.data.toList[0]? = some x0) := by show _ = _; rw [← hx0]; exact data_at p 0 hp0
          cases hf : ((x0.toNat : Int) == 45) with
          | true =>
            have HF : Hid (scan s.data.toList 0 46 = false) := by show _ = _; rw [HS.out, HC.out.eq, lab_first (by rw [HX0.out, u8_eq (x := x0) (n := 45) (by omega) (by simpa using hf)]; rfl)]; rfl
            go_wp2
            go_ret
            rw [HF.out]
            exact ⟨rfl, _, rfl⟩
          | false =>
            have hlt1 : p.size - 1 < p.size := by omega
            obtain ⟨x1, hx1⟩ : ∃ x : UInt8, p[p.size - 1]'hlt1 = x := ⟨_, rfl⟩
            have HX1 : Hid (p.data.toList[p.data.toList.length - 1]? = some x1) := by show _ = _; rw [← hx1, ← Lib.size_eq]; exact data_at p _ hlt1
            cases hl : ((x1.toNat : Int) == 45) with
            | true =>
              have HF : Hid (scan s.data.toList 0 46 = false) := by show _ = _; rw [HS.out, HC.out.eq, lab_last (by rw [HX1.out, u8_eq (x := x1) (n := 45) (by omega) (by simpa using hl)]; rfl)]; rfl
              go_wp2
              go_ret
              rw [HF.out]
              exact ⟨rfl, _, rfl⟩
            | false =>
              have HL : Hid (p.data.toList.all okc = true → lab p.data.toList = true) := fun h4 => lab_good (by rw [← Lib.toList_data]; exact he) (by rw [← Lib.size_eq]; exact h63)
                (by rw [HX0.out]; intro e; cases e; simp at hf) (by rw [HX1.out]; intro e; cases e; simp at hl) h4
              go_wp2
              clear hx0 hx1 hf hl HX0 HX1
              obtain ⟨G, HG⟩ : ∃ G, Hid (G = gk) := ⟨_, rfl⟩
              have hgG : cur.size < G := by rw [HG.out]; exact hg
              go_loopg [6] p.size (fun g i wx => ∃ k : Nat, k + g = p.size ∧ i = .int .i64 k ∧ wx = w.drewN (n + n2) ∧ OkTo p.data.toList k)
              case atStart => exact ⟨0, by omega, rfl, rfl, OkTo.zero _⟩
              case round =>
                obtain ⟨k, hkg, rfl, rfl, hok⟩ := hrel
                have HO : Hid (OkTo p.data.toList k) := hok
                clear hok
                cases gk with
                | zero =>
                  obtain rfl : k = p.size := by omega
                  have HT : Hid (scan s.data.toList 0 46 = (!m || scan r.data.toList 0 46)) := by show _ = _; rw [HS.out, HC.out.eq, HL.out (HO.out.all (by rw [← Lib.size_eq]; exact Nat.le_refl _))]; rfl
                  go_wp2
                  go_roundg (G - 1)
                  case measure => have := HG.out; omega
                  case rel =>
                    refine ⟨p, r, m, n + n2, rfl, rfl, rfl, rfl, by have := HC.out.rsize; omega, fun hm => ⟨by have := HC.out.less hm; omega, ?_⟩, fun hm => ?_⟩
                    · rw [HT.out, hm]; rfl
                    · rw [HT.out, hm]; rfl
                | succ g =>
                  have hk : k < p.size := by omega
                  obtain ⟨x, hx⟩ : ∃ x : UInt8, p[k]'hk = x := ⟨_, rfl⟩
                  have hxl : Hid (p.data.toList[k]? = some x) := by show _ = _; rw [← hx]; exact data_at p k hk
                  by_cases hA : 97 ≤ x.toNat ∧ x.toNat ≤ 122
                  · obtain ⟨hA1, hA2⟩ := hA
                    have HK : Hid (okc x = true) := by show _ = _; unfold okc alnum; rw [decide_eq_true (Or.inl ⟨hA1, hA2⟩)]; rfl
                    go_wp2
                    go_roundg g
                    case measure => omega
                    case rel => exact ⟨k + 1, by omega, by go_num, rfl, HO.out.succ hxl.out HK.out⟩
                  · by_cases hB : 48 ≤ x.toNat ∧ x.toNat ≤ 57
                    · obtain ⟨hB1, hB2⟩ := hB
                      have HK : Hid (okc x = true) := by show _ = _; unfold okc alnum; rw [decide_eq_true (Or.inr ⟨hB1, hB2⟩)]; rfl
                      clear hA
                      go_wp2
                      go_roundg g
                      case measure => omega
                      case rel => exact ⟨k + 1, by omega, by go_num, rfl, HO.out.succ hxl.out HK.out⟩
                    · cases hh : ((x.toNat : Int) == 45) with
                      | true =>
                        have hx45 : x = 45 := u8_eq (x := x) (n := 45) (by omega) (by simpa using hh)
                        have HK : Hid (okc x = true) := by show _ = _; rw [hx45]; decide
                        have hx1 : ¬ ((97 : Int) ≤ x.toNat) := by rw [hx45]; decide
                        have hx2 : ¬ ((48 : Int) ≤ x.toNat) := by rw [hx45]; decide
                        clear hA hB hx45
                        go_wp2
                        go_roundg g
                        case measure => omega
                        case rel => exact ⟨k + 1, by omega, by go_num, rfl, HO.out.succ hxl.out HK.out⟩
                      | false =>
                        have HK : Hid (okc x = false) := by
                          show _ = _
                          unfold okc alnum
                          rw [decide_eq_false (fun h => h.elim hA hB)]
                          have : x ≠ 45 := by intro e; subst e; simp at hh
                          simpa using this
                        have HF : Hid (scan s.data.toList 0 46 = false) := by show _ = _; rw [HS.out, HC.out.eq, lab_bad hxl.out HK.out]; rfl
                        by_cases c1 : 97 ≤ x.toNat
                        · have c2 : 122 < x.toNat := by omega
                          clear hA hB
                          have d1 : decide ((x.toNat : Int) ≤ 122) = false := decide_eq_false (by omega)
                          have d2 : decide ((x.toNat : Int) ≤ 57) = false := decide_eq_false (by omega)
                          go_wp2
                          go_ret
                          rw [HF.out]
                          exact ⟨rfl, _, rfl⟩
                        · by_cases c3 : 48 ≤ x.toNat
                          · have c4 : 57 < x.toNat := by omega
                            clear hA hB
                            have d2 : decide ((x.toNat : Int) ≤ 57) = false := decide_eq_false (by omega)
                            go_wp2
                            go_ret
                            rw [HF.out]
                            exact ⟨rfl, _, rfl⟩
                          · clear hA hB
                            go_wp2
                            go_ret
                            rw [HF.out]
                            exact ⟨rfl, _, rfl⟩
        · have HF : Hid (scan s.data.toList 0 46 = false) := by show _ = _; rw [HS.out, HC.out.eq, lab_long (by rw [← Lib.size_eq]; exact h63)]; rfl
          go_wp2
          go_ret
          rw [HF.out]
          exact ⟨rfl, _, rfl⟩

set_option maxHeartbeats 400000 in
theorem sub24 (s : ByteArray) (w : World) (hs : s.size ≤ 1048576) :
    Calls Try.prog 24 #[.string s] w fun e w' => e = .returned (.bool (subB s.data.toList)) ∧ ∃ n, w' = w.drewN n := by
  by_cases h1 : s.size ≤ 253
  · rw [subB_len (by rw [← Lib.size_eq]; exact h1)]
    exact sub24_loop s w h1
  · rw [subB_long (by rw [← Lib.size_eq]; exact h1)]
    go_enter Try.func24, Try.ntmps24
    go_wp2
    go_ret
    exact ⟨rfl, 0, rfl⟩
end Go.Proofs.Qxb6602446a
