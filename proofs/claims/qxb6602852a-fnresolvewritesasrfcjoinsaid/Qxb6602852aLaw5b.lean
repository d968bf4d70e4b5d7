import Derived.Test.Qxb6602852aLaw5
namespace Go.Proofs.Qxb6602852a
open Go.RowKit

theorem Chain.mono {W : World} {m n : Nat} (h : m ≤ n) : ∀ {p : Option Addr} {ps : List (Nat × ByteArray)}, Chain W m p ps → Chain W n p ps
  | none, [], _ => trivial
  | some _, _ :: _, ⟨h1, h2, h3, un, h4, h5⟩ => ⟨h1, Nat.lt_of_lt_of_le h2 h, h3, un, h4, Chain.mono h h5⟩
theorem Node.chain {w : World} {b sc au ha pa un} {ps : List (Nat × ByteArray)} (h : Node w b sc au ha pa un) (hc : Chain w w.heap.size un ps) : Chain w w.heap.size (some ⟨b, 0, none⟩) ((b, pa) :: ps) :=
  ⟨rfl, h.lt, h.c3, un, h.c4, hc⟩
/-- the directory's chain -/
theorem dir_chain {w : World} {b sc au ha pa un hu up} (h : Node w b sc au ha pa un) (hu : Under w un hu up) (h4 : pa.size ≤ 131072) (h6 : up.size ≤ 131072) :
    ∃ x r, Chain w w.heap.size (some ⟨b, 0, none⟩) (x :: r) ∧ tot (x :: r) ≤ 262146 ∧ (pathsT (x :: r)).length ≤ 262146 := by
  rcases hu with ⟨_, rfl⟩ | ⟨_, b2, rfl, h2⟩
  · refine ⟨_, _, h.chain (ps := []) trivial, by simp [tot]; omega, ?_⟩
    show pa.data.toList.length ≤ _
    rw [← Lib.size_eq]; omega
  · refine ⟨_, _, h.chain (h2.chain (ps := []) trivial), by simp [tot]; omega, ?_⟩
    have := joinB_len up.data.toList pa.data.toList
    rw [← Lib.size_eq, ← Lib.size_eq] at this
    show (joinB up.data.toList pa.data.toList).length ≤ _
    omega

theorem text7 (w : World) (b : Nat) (sc au : ByteArray) (ha : Bool) (pa : ByteArray) (un : Option Addr) (hn : Node w b sc au ha pa un) (ps : List (Nat × ByteArray))
    (hch : Chain w w.heap.size (some ⟨b, 0, none⟩) ps) (hsc : sc.size ≤ 262144) (hau : au.size ≤ 262144) (hps : tot ps ≤ 1048576) :
    Calls Try.prog 7 #[.pointer (some ⟨b, 0, none⟩)] w fun e w' => e = .returned (.string ⟨(hdr sc au ha ++ pathsT ps).toArray⟩) ∧ Below w.heap.size w w' :=
  zz7 _ _ _ _ (text18 w b sc au ha pa un hn ps hch hsc hau hps)
/-- the text of a node under nothing -/
theorem made_text {w2 w3 : World} {sc au : ByteArray} {ha : Bool} {pa : ByteArray} {v : Option Addr} (h : Made w2 sc au ha pa none v w3) (T : ByteArray) (hT : hdr sc au ha ++ pa.data.toList = T.data.toList) (hsc : sc.size ≤ 262144) (hau : au.size ≤ 262144) (hpa : pa.size ≤ 262144) :
    Below w2.heap.size w2 w3 ∧ Calls Try.prog 7 #[.pointer v] w3 fun e w4 => e = .returned (.string T) ∧ Below w3.heap.size w3 w4 := by
  obtain ⟨b, rfl, _, hb, hn⟩ := h
  refine ⟨hb, ?_⟩
  have := text7 w3 b sc au ha pa none hn [(b, pa)] (hn.chain (ps := []) trivial) hsc hau (by simp [tot]; omega)
  rw [mk_eq hT.symm]
  exact this
/-- the directory's text -/
theorem dir_text {w w1 : World} {a0 : Bool} {a1 a2 : ByteArray} {a3 : Bool} {a4 : ByteArray} {a5 : Bool} {a6 : ByteArray} {v : Option Addr} (hd : Dir w a0 a1 a2 a3 a4 a5 a6 v w1)
    (h1 : a1.size ≤ 131072) (h2 : a2.size ≤ 131072) (h4 : a4.size ≤ 131072) (h6 : a6.size ≤ 131072) :
    ∃ dt : ByteArray, Calls Try.prog 7 #[.pointer v] w1 fun e w' => e = .returned (.string dt) ∧ Below w1.heap.size w1 w' := by
  obtain ⟨_, ⟨_, rfl⟩ | ⟨_, b, un, rfl, hn, hu⟩⟩ := hd
  · exact ⟨⟨#[]⟩, zz7 _ _ _ _ ((text18_nil w1).mono fun _ _ ⟨h, hw⟩ => ⟨h, by rw [hw]; exact Below.refl _ _⟩)⟩
  · obtain ⟨x, r, hc, ht, _⟩ := dir_chain hn hu h4 h6
    exact ⟨_, text7 w1 b a1 a2 a3 a4 un hn (x :: r) hc (by omega) (by omega) (by omega)⟩

theorem hdr_none {sc : ByteArray} (au : ByteArray) (ha : Bool) (h : sc.toList.isEmpty = true) : hdr sc au ha = [] := by simp [hdr, h]
theorem hdr_t {sc : ByteArray} (au : ByteArray) (h : sc.toList.isEmpty = false) : hdr sc au true = sc.data.toList ++ [58] ++ ([47, 47] ++ au.data.toList) := by simp [hdr, h]
theorem hdr_f {sc : ByteArray} (au : ByteArray) (h : sc.toList.isEmpty = false) : hdr sc au false = sc.data.toList ++ [58] := by simp [hdr, h]
theorem hdr_len (sc au : ByteArray) (ha : Bool) : (hdr sc au ha).length = ppL sc au ha := by
  have h1 := Lib.size_eq sc
  have h2 := Lib.size_eq au
  unfold hdr ppL
  cases sc.toList.isEmpty <;> cases ha <;> simp <;> omega
theorem app_data (a b : ByteArray) : (a ++ b).data.toList = a.data.toList ++ b.data.toList := by simp
/-- authority and path make up the whole again -/
theorem hier_whole (R : ByteArray) : (if hierB R then [47, 47] ++ (hAuth R).data.toList else []) ++ (hPath R).data.toList = R.data.toList := by
  cases hb : hierB R with
  | false => simp [hPath, hb]
  | true =>
    have hT : (hierT R).data.toList = R.data.toList.drop 2 := Lib.extract_to_end R 2
    have hx : R.data.toList = [47, 47] ++ (hierT R).data.toList := by
      rw [hT]
      have h := hb
      unfold hierB Lib.hasPrefix at h
      obtain ⟨t, ht⟩ := List.isPrefixOf_iff_prefix.1 h
      rw [← ht]; rfl
    have hs := Lib.size_eq (hierT R)
    rw [hx]
    simp only [if_true, hAuth, hPath, hb, Lib.extract_data, List.append_assoc]
    congr 1
    rw [List.drop_zero, Nat.sub_zero, hs, List.take_of_length_le (l := List.drop _ _) (by simp)]
    exact List.take_append_drop _ _
theorem hsize (R : ByteArray) : (hAuth R).size ≤ R.size ∧ (hPath R).size ≤ R.size := by
  have h := congrArg List.length (hier_whole R)
  rw [List.length_append, ← Lib.size_eq, ← Lib.size_eq] at h
  refine ⟨?_, by omega⟩
  cases hb : hierB R with
  | false => rw [hAuth, hb]; exact Nat.zero_le _
  | true =>
    rw [hb, if_pos rfl, List.length_append, ← Lib.size_eq] at h
    simp only [List.length_cons, List.length_nil] at h
    omega
theorem hdr_hier {sc R : ByteArray} (h : sc.toList.isEmpty = false) : hdr sc (hAuth R) (hierB R) ++ (hPath R).data.toList = sc.data.toList ++ 58 :: R.data.toList := by
  have hw := hier_whole R
  cases hb : hierB R with
  | false => rw [hb] at hw; rw [hdr_f _ h]; simp at hw ⊢; exact hw
  | true => rw [hb] at hw; rw [hdr_t _ h]; simp at hw ⊢; exact hw
theorem empty_eq {s : ByteArray} (h : s.toList.isEmpty = true) : s = ⟨#[]⟩ := by
  rw [Lib.toList_data] at h
  exact mk_eq (l := []) (List.isEmpty_iff.1 h)
end Go.Proofs.Qxb6602852a
