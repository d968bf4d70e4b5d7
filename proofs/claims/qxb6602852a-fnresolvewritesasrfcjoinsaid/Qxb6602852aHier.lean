import Derived.Test.Qxb6602852aUri2
namespace Go.Proofs.Qxb6602852a
open Go.RowKit

theorem hier_t {R : ByteArray} (h : hierB R = true) : ∃ (h0 : 0 < R.size) (h1 : 1 < R.size), R[0]'h0 = 47 ∧ R[1]'h1 = 47 := by
  unfold hierB Lib.hasPrefix at h
  have hl := Lib.size_eq R
  cases hd : R.data.toList with
  | nil => rw [hd] at h; simp [List.isPrefixOf] at h
  | cons a l =>
    cases l with
    | nil => rw [hd] at h; simp [List.isPrefixOf] at h
    | cons b l =>
      rw [hd] at h hl
      simp [List.isPrefixOf] at h
      simp at hl
      refine ⟨by omega, by omega, ?_, ?_⟩
      · have := data_at R 0 (by omega); rw [hd] at this; simp at this; rw [← this]; exact h.1.symm
      · have := data_at R 1 (by omega); rw [hd] at this; simp at this; rw [← this]; exact h.2.symm
theorem hier_f {R : ByteArray} (h : hierB R = false) : R.size < 2 ∨ ∃ (h0 : 0 < R.size) (h1 : 1 < R.size), R[0]'h0 ≠ 47 ∨ (R[0]'h0 = 47 ∧ R[1]'h1 ≠ 47) := by
  unfold hierB Lib.hasPrefix at h
  have hl := Lib.size_eq R
  cases hd : R.data.toList with
  | nil => left; have : R.size = 0 := by rw [hl, hd]; rfl
           omega
  | cons a l =>
    cases l with
    | nil => left; have : R.size = 1 := by rw [hl, hd]; rfl
             omega
    | cons b l =>
      right
      rw [hd] at h hl
      simp [List.isPrefixOf] at h
      simp at hl
      have e0 : R[0]'(by omega) = a := by have := data_at R 0 (by omega); rw [hd] at this; simp at this; exact this.symm
      have e1 : R[1]'(by omega) = b := by have := data_at R 1 (by omega); rw [hd] at this; simp at this; exact this.symm
      refine ⟨by omega, by omega, ?_⟩
      rw [e0, e1]
      by_cases ha : a = 47
      · right; exact ⟨ha, fun e => h ha.symm e.symm⟩
      · left; exact ha

theorem trim_t {R : ByteArray} (h : hierB R = true) : (⟨(Lib.trimPrefix R.data.toList [47, 47]).toArray⟩ : ByteArray) = hierT R := by
  have h1 : (hierT R).data.toList = R.data.toList.drop 2 := Lib.extract_to_end R 2
  rw [mk_eq h1]
  unfold Lib.trimPrefix
  rw [if_pos (show Lib.hasPrefix R.data.toList [47, 47] = true from h)]
  rfl
theorem trim_f {R : ByteArray} (h : hierB R = false) : (⟨(Lib.trimPrefix R.data.toList [47, 47]).toArray⟩ : ByteArray) = R := by
  unfold Lib.trimPrefix
  rw [if_neg (by rw [show Lib.hasPrefix R.data.toList [47, 47] = false from h]; decide)]

theorem ex_all (T : ByteArray) : T.extract 0 T.size = T := by simp
theorem ex_none (T : ByteArray) : T.extract T.size T.size = ByteArray.empty := by simp
theorem hT_size (R : ByteArray) : (hierT R).size ≤ R.size := by simp [hierT]

set_option maxHeartbeats 1000000 in
theorem part26 (R : ByteArray) (w : World) (_hs : R.size ≤ 1048576) :
    Calls Try.prog 26 #[.string R] w fun e w' => e = .returned (.tuple #[.string (hAuth R), .bool (hierB R), .string (hPath R)]) ∧ ∃ n, w' = w.drewN n := by
  cases hb : hierB R with
  | false =>
    have HB : Hid (Lib.hasPrefix R.data.toList [47, 47] = false) := hb
    have HT : Hid ((⟨(Lib.trimPrefix R.data.toList [47, 47]).toArray⟩ : ByteArray) = R) := trim_f hb
    have HA : Hid (hAuth R = ⟨#[]⟩) := by show _ = _; simp [hAuth, hb]
    have HP : Hid (hPath R = R) := by show _ = _; simp [hPath, hb]
    clear hb
    go_enter Try.func26, Try.ntmps26
    go_wp2_with (go_at_call 30; refine (Try.strings_CutPrefix R _ _).mono ?_; rintro e w' ⟨rfl, hw⟩; rw [hw, HB.out, HT.out])
    go_ret3
    rw [HA.out, HP.out]
    exact ⟨rfl, 0, rfl⟩
  | true =>
    have HB : Hid (Lib.hasPrefix R.data.toList [47, 47] = true) := hb
    have HT : Hid ((⟨(Lib.trimPrefix R.data.toList [47, 47]).toArray⟩ : ByteArray) = hierT R) := trim_t hb
    have HA : Hid (hAuth R = (hierT R).extract 0 (hierE R)) := by show _ = _; simp [hAuth, hb]
    have HP : Hid (hPath R = (hierT R).extract (hierE R) (hierT R).size) := by show _ = _; simp [hPath, hb]
    have hts := hT_size R
    obtain ⟨T, hT⟩ : ∃ T, hierT R = T := ⟨_, rfl⟩
    obtain ⟨E, hE⟩ : ∃ E, hierE R = E := ⟨_, rfl⟩
    have hEd : E = if 0 ≤ Lib.indexByte T.data.toList 47 then (Lib.indexByte T.data.toList 47).toNat else T.size := by rw [← hE, ← hT]; rfl
    rw [hT] at HT HA HP hts
    rw [hE] at HA HP
    clear hb hT hE
    rcases indexByte_parts 47 T.data.toList with ⟨h1, h2⟩ | ⟨k, h1, h2, h3, h4⟩
    · have HI : Hid (Lib.indexByte T.data.toList 47 = -1) := h1
      have HE : Hid (E = T.size) := by show _ = _; rw [hEd, h1]; rfl
      clear h1 h2 hEd
      have hT2 : (T.size : Int) ≤ (T.size : Int) := Int.le_refl _
      go_enter Try.func26, Try.ntmps26
      go_wp2_with (first | (go_at_call 30; refine (Try.strings_CutPrefix R _ _).mono ?_; rintro e w' ⟨rfl, hw⟩; rw [hw, HB.out, HT.out]) | (go_at_call 31; refine (Try.strings_IndexByte T _ _).mono ?_; rintro e w2 ⟨rfl, hw2⟩; rw [hw2, show (((47 : Int)).toNat.toUInt8) = 47 from rfl, HI.out]))
      go_quiet (fail)
      go_wp2
      go_ret3
      rw [HA.out, HP.out, HE.out, ex_all, ex_none]
      exact ⟨rfl, _, rfl⟩
    · have HI : Hid (Lib.indexByte T.data.toList 47 = k) := h1
      have hk : k < T.size := by rw [Lib.size_eq]; exact h2
      have HE : Hid (E = k) := by show _ = _; rw [hEd, h1]; simp
      clear h1 h2 h3 h4 hEd
      go_enter Try.func26, Try.ntmps26
      go_wp2_with (first | (go_at_call 30; refine (Try.strings_CutPrefix R _ _).mono ?_; rintro e w' ⟨rfl, hw⟩; rw [hw, HB.out, HT.out]) | (go_at_call 31; refine (Try.strings_IndexByte T _ _).mono ?_; rintro e w2 ⟨rfl, hw2⟩; rw [hw2, show (((47 : Int)).toNat.toUInt8) = 47 from rfl, HI.out]))
      go_quiet (fail)
      go_wp2
      go_ret3
      rw [HA.out, HP.out, HE.out]
      exact ⟨rfl, _, rfl⟩

/-- no slash among the first k -/
def NoSl (l : List UInt8) (k : Nat) : Prop := ∀ (j : Nat) b, j < k → l[j]? = some b → b ≠ 47
theorem NoSl.zero (l : List UInt8) : NoSl l 0 := fun _ _ h => absurd h (Nat.not_lt_zero _)
theorem NoSl.succ {l : List UInt8} {k : Nat} {x : UInt8} (h : NoSl l k) (hx : l[k]? = some x) (h1 : x ≠ 47) : NoSl l (k + 1) := fun j b hj hb' => by
  by_cases e : j = k
  · subst e; rw [hx] at hb'; cases hb'; exact h1
  · exact h j b (by omega) hb'
theorem NoSl.hit {l : List UInt8} {k : Nat} (h : NoSl l k) (hx : l[k]? = some 47) : Lib.indexByte l 47 = k := by
  rcases indexByte_parts 47 l with ⟨_, h2⟩ | ⟨k', h1, h2, h3, h4⟩
  · exact absurd rfl (h2 47 (List.mem_of_getElem? hx))
  · have hx' : l[k']? = some 47 := by
      have : (l.drop k')[0]? = some 47 := by rw [h4]; rfl
      simpa using this
    have e1 : ¬ k' < k := fun hlt => h k' 47 hlt hx' rfl
    have e2 : ¬ k < k' := fun hlt => h3 47 (by
      have : (l.take k')[k]? = some 47 := by rw [List.getElem?_take_of_lt hlt]; exact hx
      exact List.mem_of_getElem? this) rfl
    rw [h1]; omega
theorem NoSl.none {l : List UInt8} {k : Nat} (h : NoSl l k) (hk : l.length ≤ k) : Lib.indexByte l 47 = -1 := by
  rcases indexByte_parts 47 l with ⟨h1, _⟩ | ⟨k', h1, h2, h3, h4⟩
  · exact h1
  · have hx' : l[k']? = some 47 := by
      have : (l.drop k')[0]? = some 47 := by rw [h4]; rfl
      simpa using this
    exact absurd rfl (h k' 47 (by omega) hx')

set_option maxRecDepth 1000000 in
set_option maxHeartbeats 1000000 in
theorem split14_t (R T : ByteArray) (w : World) (hs : R.size ≤ 1048576) (hb : hierB R = true) (HT : Hid (R.extract 2 R.size = T)) (A P : ByteArray) (hA : Hid (A = T.extract 0 (hierE R))) (hP : Hid (P = T.extract (hierE R) T.size)) :
    Calls Try.prog 14 #[.string R] w fun e w' => e = .returned (.tuple #[.string A, .bool true, .string P]) ∧ ∃ n, w' = w.drewN n := by
  have HE : Hid (hierE R = if 0 ≤ Lib.indexByte T.data.toList 47 then (Lib.indexByte T.data.toList 47).toNat else T.size) := by show _ = _; rw [← HT.out]; rfl
  obtain ⟨h0, h1, x0, x1⟩ := hier_t hb
  have n0 : (((R[0]'h0).toNat : Int) != 47) = false := bn_f 47 x0
  have n1 : (((R[1]'h1).toNat : Int) != 47) = false := bn_f 47 x1
  have hts : T.size ≤ 1048576 := by rw [← HT.out]; simp; omega
  clear hb x0 x1
  go_enter Try.func14, Try.ntmps14
  go_wp2
  rw [HT.out]
  clear HT
  go_loop [6] (fun v => ∃ k : Nat, k ≤ T.size ∧ v = .int .i64 k ∧ NoSl T.data.toList k) (fun v => T.size - (intOf v).toNat)
  case atStart => exact ⟨0, Nat.zero_le _, rfl, NoSl.zero _⟩
  case round =>
    obtain ⟨k, hk, rfl, hst⟩ := hrel
    have HS : Hid (NoSl T.data.toList k) := hst
    clear hst
    by_cases hlt : k < T.size
    · obtain ⟨x, hx⟩ : ∃ x : UInt8, T[k]'hlt = x := ⟨_, rfl⟩
      have hxl : Hid (T.data.toList[k]? = some x) := by show _ = _; rw [← hx]; exact data_at T k hlt
      by_cases h47 : x = 47
      · have e47 : ((x.toNat : Int) != 47) = false := bn_f 47 h47
        have HI : Hid (Lib.indexByte T.data.toList 47 = k) := HS.out.hit (by rw [hxl.out, h47])
        clear h47
        go_wp2
        go_quiet (fail)
        go_wp2
        go_ret3
        rw [hA.out, hP.out, HE.out, HI.out, if_pos (by omega)]
        exact ⟨rfl, _, rfl⟩
      · have e47 : ((x.toNat : Int) != 47) = true := bn_t 47 h47
        have HN : Hid (NoSl T.data.toList (k + 1)) := HS.out.succ hxl.out h47
        clear h47
        go_wp2
        go_round
        case rel => exact ⟨k + 1, by omega, by go_num, HN.out⟩
        case measure => simp [intOf]; omega
    · have HI : Hid (Lib.indexByte T.data.toList 47 = -1) := HS.out.none (by rw [← Lib.size_eq]; omega)
      have HK : Hid (T.size = k) := by show _ = _; omega
      go_wp2
      go_quiet (fail)
      go_wp2
      go_ret3
      rw [hA.out, hP.out, HE.out, HI.out, if_neg (by decide), HK.out]
      exact ⟨rfl, _, rfl⟩

set_option maxHeartbeats 1000000 in
theorem split14 (R : ByteArray) (w : World) (hs : R.size ≤ 1048576) :
    Calls Try.prog 14 #[.string R] w fun e w' => e = .returned (.tuple #[.string (hAuth R), .bool (hierB R), .string (hPath R)]) ∧ ∃ n, w' = w.drewN n := by
  cases hb : hierB R with
  | true =>
    have HA : hAuth R = (hierT R).extract 0 (hierE R) := by simp [hAuth, hb]
    have HP : hPath R = (hierT R).extract (hierE R) (hierT R).size := by simp [hPath, hb]
    rw [HA, HP]
    exact split14_t R (hierT R) w hs hb rfl _ _ rfl rfl
  | false =>
    have HA : Hid (hAuth R = ⟨#[]⟩) := by show _ = _; simp [hAuth, hb]
    have HP : Hid (hPath R = R) := by show _ = _; simp [hPath, hb]
    rcases hier_f hb with h2 | ⟨h0, h1, hx | ⟨hx0, hx1⟩⟩
    · clear hb
      go_enter Try.func14, Try.ntmps14
      go_wp2
      go_ret3
      rw [HA.out, HP.out]
      exact ⟨rfl, 0, rfl⟩
    · have n0 : (((R[0]'h0).toNat : Int) != 47) = true := bn_t 47 hx
      clear hb hx
      go_enter Try.func14, Try.ntmps14
      go_wp2
      go_ret3
      rw [HA.out, HP.out]
      exact ⟨rfl, 0, rfl⟩
    · have n0 : (((R[0]'h0).toNat : Int) != 47) = false := bn_f 47 hx0
      have n1 : (((R[1]'h1).toNat : Int) != 47) = true := bn_t 47 hx1
      clear hb hx0 hx1
      go_enter Try.func14, Try.ntmps14
      go_wp2
      go_ret3
      rw [HA.out, HP.out]
      exact ⟨rfl, 0, rfl⟩
end Go.Proofs.Qxb6602852a
