import Derived.Test.Qxb6602366aAny
import Derived.Test.Qxb6602366aBuild
import Derived.Test.Qxb6602366aQuoted
namespace Go.Proofs.Qxb6602366a
open Go.RowKit

theorem pre_no {s : ByteArray} (h : s.data.toList.head? ≠ some 96) : Lib.hasPrefix s.data.toList [96] = false := by
  unfold Lib.hasPrefix
  cases h' : s.data.toList with
  | nil => rfl
  | cons a l =>
    rw [h'] at h
    have : a ≠ 96 := fun e => h (by rw [e]; rfl)
    simp [List.isPrefixOf, Ne.symm this]
theorem pre_yes {s : ByteArray} (h : s.data.toList.head? = some 96) : Lib.hasPrefix s.data.toList [96] = true := by
  unfold Lib.hasPrefix
  cases h' : s.data.toList with
  | nil => rw [h'] at h; simp at h
  | cons a l =>
    rw [h'] at h
    have : a = 96 := by simpa using h
    simp [List.isPrefixOf, this]

theorem indexAny_lt (chars : List UInt8) : ∀ l : List UInt8, Lib.indexAny l chars < l.length
  | [] => by simp [Lib.indexAny]
  | b :: l => by
    have ih := indexAny_lt chars l
    unfold Lib.indexAny
    split
    · simp
    · split
      · simp; omega
      · simp; omega

set_option maxHeartbeats 1000000 in
theorem ident_plain (s ends : ByteArray) (w : World) (hs : s.size ≤ 1048576) (he : ends.size ≤ 1048576) (ha : ascii ends.data.toList = true) (hq : s.data.toList.head? ≠ some 96) :
    Calls Try.prog 22 #[.string s, .string ends] w fun e w' => e = .returned (.tuple #[.string (cutPlain s ends).1, .string (cutPlain s ends).2]) ∧ Below w.heap.size w w' := by
  have HA : Hid (ascii ends.data.toList = true) := ha
  have HP : Hid (Lib.hasPrefix s.data.toList [96] = false) := pre_no hq
  clear ha hq
  by_cases h0 : 0 ≤ Lib.indexAny s.data.toList ends.data.toList
  · obtain ⟨k, hk⟩ : ∃ k : Nat, Lib.indexAny s.data.toList ends.data.toList = k := ⟨(Lib.indexAny s.data.toList ends.data.toList).toNat, by omega⟩
    have hlt : k < s.size := by have := indexAny_lt ends.data.toList s.data.toList; rw [← Lib.size_eq] at this; omega
    have HK : Hid (Lib.indexAny s.data.toList ends.data.toList = k) := hk
    have HC : Hid (cutPlain s ends = (s.extract 0 k, s.extract k s.size)) := by
      show _ = _
      unfold cutPlain
      rw [if_pos h0, hk]
      simp
    clear h0 hk
    go_enter Try.func22, Try.ntmps22
    go_wp2_with (first | (go_at_call 23; refine (Try.strings_CutPrefix s _ _).mono ?_; rintro e w' ⟨rfl, hw⟩; rw [hw, HP.out]) | (go_at_call 25; refine (any_all s ends _ hs he HA.out).mono ?_; rintro e w1 ⟨rfl, hb⟩; rw [HK.out]))
    go_quiet (fail)
    go_wp2
    go_ret2
    rw [HC.out]
    exact ⟨rfl, below_drewN (by assumption) _⟩
  · have hge := Lib.indexAny_ge ends.data.toList s.data.toList
    have HK : Hid (Lib.indexAny s.data.toList ends.data.toList = -1) := by show _ = _; omega
    have HC : Hid (cutPlain s ends = (s, ⟨#[]⟩)) := by
      show _ = _
      unfold cutPlain
      rw [if_neg h0]
    clear h0 hge
    go_enter Try.func22, Try.ntmps22
    go_wp2_with (first | (go_at_call 23; refine (Try.strings_CutPrefix s _ _).mono ?_; rintro e w' ⟨rfl, hw⟩; rw [hw, HP.out]) | (go_at_call 25; refine (any_all s ends _ hs he HA.out).mono ?_; rintro e w1 ⟨rfl, hb⟩; rw [HK.out]))
    go_ret2
    rw [HC.out]
    exact ⟨rfl, by assumption⟩

theorem trim_q {s q : ByteArray} (hq : s.data.toList.head? = some 96) (HQ : Hid (s.extract 1 s.size = q)) : (⟨(Lib.trimPrefix s.data.toList [96]).toArray⟩ : ByteArray) = q := by
  have h1 : q.data.toList = s.data.toList.drop 1 := by rw [← HQ.out, Lib.extract_to_end]
  rw [mk_eq h1]
  unfold Lib.trimPrefix
  rw [if_pos (pre_yes hq)]
  rfl

theorem indexByte_parts (c : UInt8) : ∀ l : List UInt8, Lib.indexByte l c = -1 ∧ (∀ b ∈ l, b ≠ c) ∨ ∃ k : Nat, Lib.indexByte l c = k ∧ k < l.length ∧ (∀ b ∈ l.take k, b ≠ c) ∧ l.drop k = c :: l.drop (k + 1)
  | [] => Or.inl ⟨rfl, by simp⟩
  | b :: l => by
    by_cases hb : b = c
    · subst hb
      refine Or.inr ⟨0, ?_, by simp, by simp, by simp⟩
      simp [Lib.indexByte]
    · have hb' : (b == c) = false := by simpa using hb
      rcases indexByte_parts c l with ⟨h1, h2⟩ | ⟨k, h1, h2, h3, h4⟩
      · refine Or.inl ⟨by rw [Lib.indexByte, hb', h1]; simp, fun x hx => ?_⟩
        rcases List.mem_cons.1 hx with rfl | hx
        · exact hb
        · exact h2 x hx
      · refine Or.inr ⟨k + 1, ?_, by simp; omega, fun x hx => ?_, by simpa using h4⟩
        · rw [Lib.indexByte, hb', h1]
          simp
        · rw [List.take_succ_cons] at hx
          rcases List.mem_cons.1 hx with rfl | hx
          · exact hb
          · exact h3 x hx

set_option maxHeartbeats 1000000 in
theorem ident_miss (s ends q : ByteArray) (w : World) (hq : s.data.toList.head? = some 96) (HQ : Hid (s.extract 1 s.size = q)) (hm : Hid (Lib.indexByte q.data.toList 96 = -1)) :
    Calls Try.prog 22 #[.string s, .string ends] w fun e w' => e = .returned (.tuple #[.string q, .string ⟨#[]⟩]) ∧ Below w.heap.size w w' := by
  have HP : Hid (Lib.hasPrefix s.data.toList [96] = true) := pre_yes hq
  have HT : Hid ((⟨(Lib.trimPrefix s.data.toList [96]).toArray⟩ : ByteArray) = q) := trim_q hq HQ
  have HN : Hid (Lib.hasPrefix ([] : List UInt8) [96] = false) := rfl
  clear hq HQ
  go_enter Try.func22, Try.ntmps22
  go_wp2_with (first | (go_at_call 23; refine (Try.strings_CutPrefix s _ _).mono ?_; rintro e w' ⟨rfl, hw⟩; rw [hw, HP.out, HT.out]) | (go_at_call 26; refine (cut26_miss q 96 _ hm).mono ?_; rintro e w1 ⟨rfl, hw1⟩; rw [hw1]) | (go_at_call 27; refine (Try.strings_HasPrefix _ _ _).mono ?_; rintro e w2 ⟨rfl, hw2⟩; rw [hw2, HN.out]))
  go_ret2
  exact ⟨rfl, Below.refl _ _⟩

set_option maxHeartbeats 1000000 in
theorem ident_short (s ends q : ByteArray) (w : World) (k : Nat) (hs : s.size ≤ 1048576) (hq : s.data.toList.head? = some 96) (HQ : Hid (s.extract 1 s.size = q)) (hm : Hid (Lib.indexByte q.data.toList 96 = k)) (hk : k < q.size)
    (hn : Hid (Lib.hasPrefix (q.extract (k + 1) q.size).data.toList [96] = false)) :
    Calls Try.prog 22 #[.string s, .string ends] w fun e w' => e = .returned (.tuple #[.string (q.extract 0 k), .string (q.extract (k + 1) q.size)]) ∧ Below w.heap.size w w' := by
  have HP : Hid (Lib.hasPrefix s.data.toList [96] = true) := pre_yes hq
  have HT : Hid ((⟨(Lib.trimPrefix s.data.toList [96]).toArray⟩ : ByteArray) = q) := trim_q hq HQ
  have hqs : q.size ≤ 1048576 := by rw [← HQ.out]; simp; omega
  clear hq HQ
  go_enter Try.func22, Try.ntmps22
  go_wp2_with (first | (go_at_call 23; refine (Try.strings_CutPrefix s _ _).mono ?_; rintro e w' ⟨rfl, hw⟩; rw [hw, HP.out, HT.out]) | (go_at_call 26; refine (cut26_hit q 96 _ k hqs hm hk).mono ?_; rintro e w1 ⟨rfl, n, rfl⟩) | (go_at_call 27; refine (Try.strings_HasPrefix _ _ _).mono ?_; rintro e w2 ⟨rfl, hw2⟩; rw [hw2, hn.out]))
  go_ret2
  exact ⟨rfl, below_drewN (Below.refl _ _) _⟩

theorem Hid.mk' {p : Prop} (h : p) : Hid p := h
theorem cells_app (acc : List UInt8) (s : ByteArray) : Lib.byteCells acc ++ Lib.strCells s = Lib.byteCells (acc ++ s.data.toList) := by simp [Lib.byteCells, Lib.strCells]

theorem cells_one (l : List UInt8) : Lib.byteCells l ++ [.int .u8 96] = Lib.byteCells (l ++ [96]) := by simp [Lib.byteCells]
theorem built_drewN {B b : Nat} {bs : List Value} {w : World} (h : Lib.IsBuilder 38 5 B b bs w) (n : Nat) : Lib.IsBuilder 38 5 B b bs (w.drewN n) := h

theorem built_new (w : World) : Lib.IsBuilder 38 5 w.heap.size w.heap.size (Lib.byteCells []) (w.alloc (.cells #[.pointer none, .slice none 0 0] 38)) := by
  exact Or.inl ⟨Nat.le_refl _, .slice none 0 0, (MapKept.heap_alloc w _).1, World.ownsRow_nil _ _ _ _, by simp [Value.ownBlock]⟩

set_option maxHeartbeats 1000000 in
theorem ident_loop (s ends q : ByteArray) (w : World) (k : Nat) (hs : s.size ≤ 1048576) (hq : s.data.toList.head? = some 96) (HQ : Hid (s.extract 1 s.size = q)) (hm : Hid (Lib.indexByte q.data.toList 96 = k)) (hk : k < q.size)
    (hn : Hid (Lib.hasPrefix (q.extract (k + 1) q.size).data.toList [96] = true)) :
    Calls Try.prog 22 #[.string s, .string ends] w fun e w' => e = .returned (.tuple #[.string ⟨(scanQ q.data.toList).1.toArray⟩, .string ⟨(scanQ q.data.toList).2.toArray⟩]) ∧ Below w.heap.size w w' := by
  have HP : Hid (Lib.hasPrefix s.data.toList [96] = true) := pre_yes hq
  have HT : Hid ((⟨(Lib.trimPrefix s.data.toList [96]).toArray⟩ : ByteArray) = q) := trim_q hq HQ
  have hqs : q.size ≤ 1048576 := by rw [← HQ.out]; simp; omega
  clear hq HQ
  go_enter Try.func22, Try.ntmps22
  go_wp2_with (first | (go_at_call 23; refine (Try.strings_CutPrefix s _ _).mono ?_; rintro e w' ⟨rfl, hw⟩; rw [hw, HP.out, HT.out]) | (go_at_call 26; refine (cut26_hit q 96 _ k hqs hm hk).mono ?_; rintro e w1 ⟨rfl, n, rfl⟩) | (go_at_call 27; refine (Try.strings_HasPrefix _ _ _).mono ?_; rintro e w2 ⟨rfl, hw2⟩; rw [hw2, hn.out]))
  clear hm hn hk
  go_loopg [6] q.size (fun g v6 wx => ∃ (cur : ByteArray) (acc : List UInt8), v6 = .string cur ∧ cur.size ≤ g ∧ Lib.IsBuilder 38 5 w.heap.size w.heap.size (Lib.byteCells acc) wx ∧ Below w.heap.size w wx ∧ acc.length + cur.size ≤ 1048576 ∧ InvB q.data.toList acc cur.data.toList)
  case atStart => exact ⟨q, [], rfl, Nat.le_refl _, built_new (w.drewN n), (below_drewN (Below.refl _ _) _).alloc (Nat.le_refl _) _, by simpa using hqs, InvB.start _⟩
  case round =>
    obtain ⟨cur, acc, rfl, hg, hbu, hbel, hlen, hinv⟩ := hrel
    have HB : Hid (Lib.IsBuilder 38 5 w.heap.size w.heap.size (Lib.byteCells acc) wr) := hbu
    have HI : Hid (InvB q.data.toList acc cur.data.toList) := hinv
    have HW : Hid (Below w.heap.size w wr) := hbel
    clear hbu hinv hbel
    rcases indexByte_parts 96 cur.data.toList with ⟨h1, h2⟩ | ⟨k', h1, h2', h3, h4⟩
    · have H1 : Hid (Lib.indexByte cur.data.toList 96 = -1) := h1
      have H2 : Hid (∀ b ∈ cur.data.toList, b ≠ 96) := h2
      clear h1 h2
      go_wp2_with (first | (go_at_call 26; refine (cut26_miss cur 96 _ H1).mono ?_; rintro e w1 ⟨rfl, hw1⟩; rw [hw1]) | (go_at_call 28; refine (writeString w.heap.size w.heap.size (Lib.byteCells acc) cur _ HB.out (by rw [Lib.byteCells_length]; omega) HW.out.size).mono ?_; rintro e w3 ⟨rfl, hb3, hw3⟩; rw [cells_app] at hb3; have HB3 := Hid.mk' hb3; have HW3 := Hid.mk' hw3; clear hb3 hw3) | (go_at_call 29; refine (Try.Builder_String_any w.heap.size w.heap.size (acc ++ cur.data.toList) _ (Or.inr HB3.out) (by have := HW3.out.size; have := HW.out.size; omega)).mono ?_; rintro e w4 ⟨rfl, hw4⟩))
      go_ret2
      rw [HI.out.none H2.out]
      exact ⟨rfl, (HW.out.trans HW3.out).trans (by assumption)⟩
    · have hkl : k' < cur.size := by rw [Lib.size_eq]; exact h2'
      have H1 : Hid (Lib.indexByte cur.data.toList 96 = k') := h1
      have H3 : Hid (∀ b ∈ cur.data.toList.take k', b ≠ 96) := h3
      have H4 : Hid (cur.data.toList.drop k' = 96 :: cur.data.toList.drop (k' + 1)) := h4
      clear h1 h2' h3 h4
      obtain ⟨a, ha⟩ : ∃ a, cur.extract (k' + 1) cur.size = a := ⟨_, rfl⟩
      obtain ⟨p, hp⟩ : ∃ p, cur.extract 0 k' = p := ⟨_, rfl⟩
      have HAl : Hid (a.data.toList = cur.data.toList.drop (k' + 1)) := by show _ = _; rw [← ha, Lib.extract_to_end]
      have HPl : Hid (p.data.toList = cur.data.toList.take k') := by show _ = _; rw [← hp, Lib.extract_data]; simp
      have HAe : Hid (cur.extract (k' + 1) cur.size = a) := ha
      have HPe : Hid (cur.extract 0 k' = p) := hp
      have has : a.size + k' + 1 = cur.size := by rw [← ha]; simp; omega
      have hps : p.size ≤ k' := by rw [← hp]; simp; omega
      clear ha hp
      cases hpre : Lib.hasPrefix a.data.toList [96] with
      | false =>
        have HPR : Hid (Lib.hasPrefix a.data.toList [96] = false) := hpre
        clear hpre
        go_wp2_with (first | (go_at_call 26; refine (cut26_hit cur 96 _ k' (by omega) H1 hkl).mono ?_; rintro e w1 ⟨rfl, m, rfl⟩; rw [HAe.out, HPe.out]) | (go_at_call 28; refine (writeString w.heap.size w.heap.size (Lib.byteCells acc) p _ (built_drewN HB.out _) (by rw [Lib.byteCells_length]; omega) HW.out.size).mono ?_; rintro e w3 ⟨rfl, hb3, hw3⟩; rw [cells_app] at hb3; have HB3 := Hid.mk' hb3; have HW3 := Hid.mk' ((below_drewN HW.out _).trans hw3); clear hb3 hw3) | (go_at_call 27; refine (Try.strings_HasPrefix _ _ _).mono ?_; rintro e w2 ⟨rfl, hw2⟩; rw [hw2, HPR.out]) | (go_at_call 29; refine (Try.Builder_String_any w.heap.size w.heap.size (acc ++ p.data.toList) _ (Or.inr HB3.out) HW3.out.size).mono ?_; rintro e w4 ⟨rfl, hw4⟩))
        go_ret2
        rw [HAl.out] at HPR
        rw [HI.out.stop H3.out H4.out HPR.out, HPl.out, mk_eq HAl.out]
        exact ⟨rfl, HW3.out.trans (by assumption)⟩
      | true =>
        have HPR : Hid (Lib.hasPrefix a.data.toList [96] = true) := hpre
        have ha1 : 1 ≤ a.size := by rw [Lib.size_eq, head_of_pre hpre]; simp
        clear hpre
        go_wp2_with (first | (go_at_call 26; refine (cut26_hit cur 96 _ k' (by omega) H1 hkl).mono ?_; rintro e w1 ⟨rfl, m, rfl⟩; rw [HAe.out, HPe.out]) | (go_at_call 28; refine (writeString w.heap.size w.heap.size (Lib.byteCells acc) p _ (built_drewN HB.out _) (by rw [Lib.byteCells_length]; omega) HW.out.size).mono ?_; rintro e w3 ⟨rfl, hb3, hw3⟩; rw [cells_app] at hb3; have HB3 := Hid.mk' hb3; have HW3 := Hid.mk' ((below_drewN HW.out _).trans hw3); clear hb3 hw3) | (go_at_call 27; refine (Try.strings_HasPrefix _ _ _).mono ?_; rintro e w2 ⟨rfl, hw2⟩; rw [hw2, HPR.out]) | (go_at_call 30; refine (writeByte w.heap.size w.heap.size (Lib.byteCells (acc ++ p.data.toList)) 96 _ (Or.inr HB3.out) (by rw [Lib.byteCells_length, List.length_append, ← Lib.size_eq]; omega) HW3.out.size).mono ?_; rintro e w4 ⟨rfl, hb4, hw4⟩; have HB4 := Hid.mk' hb4; have HW4 := Hid.mk' (HW3.out.trans hw4); clear hb4 hw4))
        go_roundg (gk - 1)
        case measure => omega
        case rel =>
          refine ⟨a.extract 1 a.size, acc ++ p.data.toList ++ [96], rfl, by simp; omega, Or.inr ?_, HW4.out, ?_, ?_⟩
          · have := HB4.out
            rw [cells_one] at this
            exact this
          · have e : p.data.toList.length = p.size := (Lib.size_eq p).symm
            simp only [List.length_append, List.length_singleton, ByteArray.size_extract, e]
            omega
          · rw [HAl.out] at HPR
            have := HI.out.next H3.out H4.out HPR.out
            rw [HPl.out, Lib.extract_to_end, HAl.out]
            exact this

/-- the reader at a quoted name -/
theorem ident_quoted (s ends q : ByteArray) (w : World) (hs : s.size ≤ 1048576) (hq : s.data.toList.head? = some 96) (HQ : Hid (s.extract 1 s.size = q)) :
    Calls Try.prog 22 #[.string s, .string ends] w fun e w' => e = .returned (.tuple #[.string ⟨(scanQ q.data.toList).1.toArray⟩, .string ⟨(scanQ q.data.toList).2.toArray⟩]) ∧ Below w.heap.size w w' := by
  rcases indexByte_parts 96 q.data.toList with ⟨h1, h2⟩ | ⟨k, h1, h2, h3, h4⟩
  · rw [scanQ_none h2, ← mk_eq (s := q) rfl]
    exact ident_miss s ends q w hq HQ h1
  · have hk : k < q.size := by rw [Lib.size_eq]; exact h2
    cases hp : Lib.hasPrefix (q.extract (k + 1) q.size).data.toList [96] with
    | false =>
      have e1 : q.extract 0 k = ⟨(q.data.toList.take k).toArray⟩ := mk_eq (by rw [Lib.extract_data]; simp)
      have e2 : q.extract (k + 1) q.size = ⟨(q.data.toList.drop (k + 1)).toArray⟩ := mk_eq (Lib.extract_to_end q (k + 1))
      rw [scan_stop h3 h4 (by rw [← Lib.extract_to_end]; exact hp), ← e1, ← e2]
      exact ident_short s ends q w k hs hq HQ h1 hk hp
    | true => exact ident_loop s ends q w k hs hq HQ h1 hk hp
end Go.Proofs.Qxb6602366a
