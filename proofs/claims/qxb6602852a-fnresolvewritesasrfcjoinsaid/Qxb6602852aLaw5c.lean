import Derived.Test.Qxb6602852aLaw5b
namespace Go.Proofs.Qxb6602852a
open Go.RowKit

section
variable {w w1 : World} {a0 : Bool} {a1 a2 : ByteArray} {a3 : Bool} {a4 : ByteArray} {a5 : Bool} {a6 s : ByteArray} {v : Option Addr}

theorem asked_uri (hd : Dir w a0 a1 a2 a3 a4 a5 a6 v w1) (h1 : a1.size ≤ 131072) (h2 : a2.size ≤ 131072) (h4 : a4.size ≤ 131072) (h6 : a6.size ≤ 131072) (h7 : s.size ≤ 131072) (k : Nat) (hk : k < s.size) (hk0 : 0 < k)
    (hS : schE s.data.toList = k) (hsp : s.data.toList = (s.extract 0 k).data.toList ++ 58 :: (s.extract (k + 1) s.size).data.toList)
    (HC : Hid (∀ w, Calls Try.prog 28 #[.string s, .string ⟨#[58]⟩] w fun e w' => e = .returned (.tuple #[.string (s.extract 0 k), .string (s.extract (k + 1) s.size), .bool true]) ∧ ∃ n, w' = w.drewN n))
    (HU : Hid (∀ w, Calls Try.prog 23 #[.string s] w fun e w' => e = .returned (.bool true) ∧ ∃ n, w' = w.drewN n)) : Asked a0 a1 a2 a3 s v w1 := by
  obtain ⟨dt, hdt⟩ := dir_text hd h1 h2 h4 h6
  obtain ⟨p, hp⟩ : ∃ p, s.extract 0 k = p := ⟨_, rfl⟩
  obtain ⟨r, hr⟩ : ∃ r, s.extract (k + 1) s.size = r := ⟨_, rfl⟩
  rw [hp, hr] at hsp HC
  have hl := congrArg List.length hsp
  rw [List.length_append, List.length_cons, ← Lib.size_eq, ← Lib.size_eq, ← Lib.size_eq] at hl
  have hpk : p.size = k := by
    have := congrArg List.length (Lib.extract_data s 0 k)
    rw [hp, ← Lib.size_eq, List.length_take, List.length_drop, ← Lib.size_eq] at this
    omega
  have hr2 := hsize r
  refine ⟨dt, s, hdt, fun w2 _ => ?_, fun w4 => join_uri a0 a3 a1 a2 dt s w4 k hk0 h7 hS⟩
  refine (made_of (res_uri v s p r w2 (by omega) HC HU)).mono ?_
  rintro e w3 ⟨u, he, hm⟩
  exact ⟨u, he, made_text hm s (by rw [hdr_hier (nonempty_size (by omega)), hsp]) (by omega) (by omega) (by omega)⟩

theorem asked_nil0 (hd : Dir w true a1 a2 a3 a4 a5 a6 v w1) (h7 : s.size ≤ 131072) (he : s.toList.isEmpty = true) (hS : schE s.data.toList = -1)
    (HU : Hid (∀ w, Calls Try.prog 23 #[.string s] w fun e w' => e = .returned (.bool false) ∧ ∃ n, w' = w.drewN n)) : Asked true a1 a2 a3 s v w1 := by
  obtain ⟨_, ⟨_, rfl⟩ | ⟨h, _⟩⟩ := hd
  · have h7n : ∀ w, Calls Try.prog 7 #[.pointer none] w fun e w' => e = .returned (.string ⟨#[]⟩) ∧ Below w.heap.size w w' := fun w =>
      zz7 _ _ _ _ ((text18_nil w).mono fun _ _ ⟨h, hw⟩ => ⟨h, by rw [hw]; exact Below.refl _ _⟩)
    refine ⟨⟨#[]⟩, s, h7n w1, fun w2 _ => ?_, fun w4 => join_nil a3 a1 a2 _ s w4 h7 hS⟩
    refine (zz12 none s w2 (fun v w' => v = none ∧ Below w2.heap.size w2 w') ((res_nil0 s _ he HU).mono fun _ _ ⟨h1, h2⟩ => ⟨none, h1, rfl, h2⟩)).mono ?_
    rintro e w3 ⟨u, he2, rfl, hb⟩
    refine ⟨none, he2, hb, ?_⟩
    rw [empty_eq he]
    exact h7n w3
  · cases h

theorem asked_nil1 (hd : Dir w true a1 a2 a3 a4 a5 a6 v w1) (h1 : a1.size ≤ 131072) (h2 : a2.size ≤ 131072) (h4 : a4.size ≤ 131072) (h6 : a6.size ≤ 131072) (h7 : s.size ≤ 131072) (he : s.toList.isEmpty = false) (hS : schE s.data.toList = -1)
    (HU : Hid (∀ w, Calls Try.prog 23 #[.string s] w fun e w' => e = .returned (.bool false) ∧ ∃ n, w' = w.drewN n)) : Asked true a1 a2 a3 s v w1 := by
  obtain ⟨dt, hdt⟩ := dir_text hd h1 h2 h4 h6
  obtain ⟨_, ⟨_, rfl⟩ | ⟨h, _⟩⟩ := hd
  · refine ⟨dt, s, hdt, fun w2 _ => ?_, fun w4 => join_nil a3 a1 a2 _ s w4 h7 hS⟩
    refine (made_of (res_nil1 s w2 he HU)).mono ?_
    rintro e w3 ⟨u, he2, hm⟩
    exact ⟨u, he2, made_text hm s (by rw [hdr_none _ _ (empty_of rfl), List.nil_append]) (Nat.zero_le _) (Nat.zero_le _) (by omega)⟩
  · cases h

theorem asked_path (hd : Dir w false a1 a2 a3 a4 a5 a6 v w1) (h1 : a1.size ≤ 131072) (h2 : a2.size ≤ 131072) (h4 : a4.size ≤ 131072) (h6 : a6.size ≤ 131072) (h7 : s.size ≤ 131072) (he : a1.toList.isEmpty = true) (h0 : 0 < s.size) (n0 : (((s[0]'h0).toNat : Int) == 47) = true)
    (HP : Hid (Lib.hasPrefix s.data.toList [47] = true)) (hS : schE s.data.toList = -1)
    (HU : Hid (∀ w, Calls Try.prog 23 #[.string s] w fun e w' => e = .returned (.bool false) ∧ ∃ n, w' = w.drewN n)) : Asked false a1 a2 a3 s v w1 := by
  obtain ⟨dt, hdt⟩ := dir_text hd h1 h2 h4 h6
  obtain ⟨_, ⟨h, _⟩ | ⟨_, b, un, rfl, hn, _⟩⟩ := hd
  · cases h
  · refine ⟨dt, s, hdt, fun w2 hb => ?_, fun w4 => join_path a3 a1 a2 dt s w4 h7 hS he h0 n0⟩
    refine (made_of (res_path b a1 a2 a3 a4 un s w2 (hn.below hb hn.lt) he HP HU)).mono ?_
    rintro e w3 ⟨u, he2, hm⟩
    exact ⟨u, he2, made_text hm s (by rw [hdr_none _ _ (empty_of rfl), List.nil_append]) (Nat.zero_le _) (Nat.zero_le _) (by omega)⟩

theorem asked_two (hd : Dir w false a1 a2 a3 a4 a5 a6 v w1) (h1 : a1.size ≤ 131072) (h2 : a2.size ≤ 131072) (h4 : a4.size ≤ 131072) (h6 : a6.size ≤ 131072) (h7 : s.size ≤ 131072) (he : a1.toList.isEmpty = false) (h0 : 0 < s.size) (n0 : (((s[0]'h0).toNat : Int) == 47) = true)
    (h01 : 1 < s.size) (n1 : (((s[1]'h01).toNat : Int) == 47) = true) (HP : Hid (Lib.hasPrefix s.data.toList [47, 47] = true)) (hS : schE s.data.toList = -1)
    (HU : Hid (∀ w, Calls Try.prog 23 #[.string s] w fun e w' => e = .returned (.bool false) ∧ ∃ n, w' = w.drewN n)) : Asked false a1 a2 a3 s v w1 := by
  obtain ⟨dt, hdt⟩ := dir_text hd h1 h2 h4 h6
  obtain ⟨_, ⟨h, _⟩ | ⟨_, b, un, rfl, hn, _⟩⟩ := hd
  · cases h
  · have hr := hsize s
    refine ⟨dt, _, hdt, fun w2 hb => ?_, fun w4 => join_two a3 a1 a2 dt s w4 h1 h7 hS he h0 n0 h01 n1⟩
    refine (made_of (res_two b a1 a2 a3 a4 un s w2 (hn.below hb hn.lt) he (by omega) HP HU)).mono ?_
    rintro e w3 ⟨u, he2, hm⟩
    exact ⟨u, he2, made_text hm _ (by rw [hdr_hier he, app_data, app_data, List.append_assoc]; rfl) (by omega) (by omega) (by omega)⟩

theorem asked_one (hd : Dir w false a1 a2 a3 a4 a5 a6 v w1) (h1 : a1.size ≤ 131072) (h2 : a2.size ≤ 131072) (h4 : a4.size ≤ 131072) (h6 : a6.size ≤ 131072) (h7 : s.size ≤ 131072) (he : a1.toList.isEmpty = false) (h0 : 0 < s.size) (n0 : (((s[0]'h0).toNat : Int) == 47) = true)
    (hz : s.size < 2 ∨ ∃ h01 : 1 < s.size, (((s[1]'h01).toNat : Int) == 47) = false) (HP : Hid (Lib.hasPrefix s.data.toList [47] = true)) (HP2 : Hid (Lib.hasPrefix s.data.toList [47, 47] = false)) (hS : schE s.data.toList = -1)
    (HU : Hid (∀ w, Calls Try.prog 23 #[.string s] w fun e w' => e = .returned (.bool false) ∧ ∃ n, w' = w.drewN n)) : Asked false a1 a2 a3 s v w1 := by
  obtain ⟨dt, hdt⟩ := dir_text hd h1 h2 h4 h6
  obtain ⟨_, ⟨h, _⟩ | ⟨_, b, un, rfl, hn, _⟩⟩ := hd
  · cases h
  · refine ⟨dt, _, hdt, fun w2 hb => ?_, fun w4 => join_one a3 a1 a2 dt s w4 h1 h2 h7 hS he h0 n0 hz⟩
    refine (made_of (res_one b a1 a2 a3 a4 un s w2 (hn.below hb hn.lt) he HP HP2 HU)).mono ?_
    rintro e w3 ⟨u, he2, hm⟩
    refine ⟨u, he2, made_text hm _ ?_ (by omega) (by omega) (by omega)⟩
    cases a3 with
    | false => rw [hdr_f _ he, if_neg (by decide), app_data, app_data]
    | true => rw [hdr_t _ he, if_pos rfl, app_data, app_data, app_data]; simp

/-- one trailing slash of the path away -/
theorem rel_cut (sc au : ByteArray) (ha : Bool) (L : List UInt8) (s : ByteArray) (dt : ByteArray) (hdt : dt = ⟨(hdr sc au ha ++ L).toArray⟩) :
    ∃ D : ByteArray, ((dt.size ≤ ppL sc au ha ∧ D = dt) ∨ ∃ (n : Nat) (hn : dt.size = n + 1) (c : UInt8), ppL sc au ha ≤ n ∧ dt[n]'(by omega) = c ∧ ((((c.toNat : Int) == 47) = false ∧ D = dt) ∨ (((c.toNat : Int) == 47) = true ∧ D = dt.extract 0 n))) ∧
      (D ++ ⟨#[47]⟩ ++ s).data.toList = hdr sc au ha ++ joinB L s.data.toList := by
  have hpl := hdr_len sc au ha
  have hdd : dt.data.toList = hdr sc au ha ++ L := by rw [hdt]
  have hds := Lib.size_eq dt
  rw [hdd, List.length_append] at hds
  rcases List.eq_nil_or_concat L with rfl | ⟨P', c, hL⟩
  · refine ⟨dt, Or.inl ⟨by rw [List.length_nil] at hds; omega, rfl⟩, ?_⟩
    rw [app_data, app_data, hdd, joinB_nil]; simp
  · rw [List.concat_eq_append] at hL
    subst hL
    rw [List.length_append, List.length_cons, List.length_nil] at hds
    obtain ⟨n, hn⟩ : ∃ n, (hdr sc au ha).length + P'.length = n := ⟨_, rfl⟩
    have hdn : dt.size = n + 1 := by omega
    have hc : dt[n]'(by omega) = c := by
      have := data_at dt n (by omega)
      rw [hdd, ← List.append_assoc, List.getElem?_append_right (by rw [List.length_append]; omega)] at this
      rw [List.length_append, hn, Nat.sub_self] at this
      simpa using this.symm
    by_cases h47 : c = 47
    · refine ⟨dt.extract 0 n, Or.inr ⟨n, hdn, c, by omega, hc, Or.inr ⟨b_t 47 h47, rfl⟩⟩, ?_⟩
      rw [app_data, app_data, Lib.extract_data, hdd, h47, joinB_sl, ← List.append_assoc, List.drop_zero, Nat.sub_zero, List.take_append_of_le_length (by rw [List.length_append]; omega), List.take_of_length_le (by rw [List.length_append]; omega)]
      simp
    · refine ⟨dt, Or.inr ⟨n, hdn, c, by omega, hc, Or.inl ⟨b_f 47 h47, rfl⟩⟩, ?_⟩
      rw [app_data, app_data, hdd, joinB_no _ h47]
      simp

theorem asked_rel (hd : Dir w false a1 a2 a3 a4 a5 a6 v w1) (h1 : a1.size ≤ 131072) (h2 : a2.size ≤ 131072) (h4 : a4.size ≤ 131072) (h6 : a6.size ≤ 131072) (h7 : s.size ≤ 131072)
    (hz : s.size = 0 ∨ ∃ h0 : 0 < s.size, (((s[0]'h0).toNat : Int) == 47) = false) (HP : Hid (Lib.hasPrefix s.data.toList [47] = false)) (HP2 : Hid (Lib.hasPrefix s.data.toList [47, 47] = false)) (hS : schE s.data.toList = -1)
    (HU : Hid (∀ w, Calls Try.prog 23 #[.string s] w fun e w' => e = .returned (.bool false) ∧ ∃ n, w' = w.drewN n)) : Asked false a1 a2 a3 s v w1 := by
  obtain ⟨_, ⟨h, _⟩ | ⟨_, b, un, rfl, hn, hu⟩⟩ := hd
  · cases h
  · obtain ⟨x, r, hc, ht, hpt⟩ := dir_chain hn hu h4 h6
    obtain ⟨dt, hdt⟩ : ∃ dt : ByteArray, dt = ⟨(hdr a1 a2 a3 ++ pathsT (x :: r)).toArray⟩ := ⟨_, rfl⟩
    obtain ⟨D, hD, hT⟩ := rel_cut a1 a2 a3 (pathsT (x :: r)) s dt hdt
    have h9 := text7 w1 b a1 a2 a3 a4 un hn (x :: r) hc (by omega) (by omega) (by omega)
    rw [← hdt] at h9
    have hds : dt.size ≤ 16777216 := by
      have e1 := hdr_le a1 a2 a3
      rw [Lib.size_eq, hdt]
      show (hdr a1 a2 a3 ++ pathsT (x :: r)).length ≤ _
      rw [List.length_append]; omega
    refine ⟨dt, D ++ ⟨#[47]⟩ ++ s, h9, fun w2 hb => ?_, fun w4 => join_rel a3 a1 a2 dt s w4 h1 h2 hds h7 hS hz D hD⟩
    refine (made_of (res_rel b a1 a2 a3 a4 un s w2 (hn.below hb hn.lt) HP HP2 HU)).mono ?_
    rintro e w3 ⟨u, he2, b3, rfl, _, hb3, hn3⟩
    refine ⟨_, he2, hb3, ?_⟩
    have hc3 : Chain w3 w3.heap.size (some ⟨b, 0, none⟩) (x :: r) := ((((hc.below hb).mono hb.size).below hb3).mono hb3.size)
    have htt : tot ((b3, s) :: x :: r) = 1 + s.size + tot (x :: r) := rfl
    have h10 := text7 w3 b3 a1 a2 a3 s _ hn3 ((b3, s) :: x :: r) (hn3.chain hc3) (by omega) (by omega) (by omega)
    rw [mk_eq hT]
    exact h10
end

theorem law5_any (a0 : Bool) (a1 a2 : ByteArray) (a3 : Bool) (a4 : ByteArray) (a5 : Bool) (a6 s : ByteArray) (w : World) :
    Calls Try.prog 5 #[.bool a0, .string a1, .string a2, .bool a3, .string a4, .bool a5, .string a6, .string s] w fun e w' => e = .returned (.bool true) ∧ Below w.heap.size w w' := by
  by_cases hb : 131072 < a1.size ∨ 131072 < a2.size ∨ 131072 < a4.size ∨ 131072 < a6.size ∨ 131072 < s.size
  · exact law5_big a0 a1 a2 a3 a4 a5 a6 s w hb
  have h1 : a1.size ≤ 131072 := by omega
  have h2 : a2.size ≤ 131072 := by omega
  have h4 : a4.size ≤ 131072 := by omega
  have h6 : a6.size ≤ 131072 := by omega
  have h7 : s.size ≤ 131072 := by omega
  refine law5_walk a0 a1 a2 a3 a4 a5 a6 s w h1 h2 h4 h6 h7 (show ∀ v w1, Dir w a0 a1 a2 a3 a4 a5 a6 v w1 → Asked a0 a1 a2 a3 s v w1 from fun v w1 hd => ?_)
  have hU : ∀ w, Calls Try.prog 23 #[.string s] w fun e w' => e = .returned (.bool (decide (0 < schE s.data.toList))) ∧ ∃ n, w' = w.drewN n := fun w => uri_any s w (by omega)
  have key : schE s.data.toList = -1 ∨ ∃ k : Nat, 0 < k ∧ k < s.size ∧ schE s.data.toList = k ∧ s.data.toList = (s.extract 0 k).data.toList ++ 58 :: (s.extract (k + 1) s.size).data.toList ∧
      ∀ w, Calls Try.prog 28 #[.string s, .string ⟨#[58]⟩] w fun e w' => e = .returned (.tuple #[.string (s.extract 0 k), .string (s.extract (k + 1) s.size), .bool true]) ∧ ∃ n, w' = w.drewN n := by
    rcases cut_two 58 s (by omega) with ⟨m, h, rfl, _⟩ | ⟨p, r, e1, e2, e3, e4, e5, e6⟩
    · left
      have := schE_none (p := m.data.toList) (t := []) h (Or.inl rfl)
      rwa [List.append_nil] at this
    · have hs := schE_colon (p := p.data.toList) (t := r.data.toList) e2
      rw [← e1] at hs
      by_cases hc : okFrom p.data.toList 0 = true ∧ p.data.toList ≠ []
      · right
        rw [if_pos hc] at hs
        have hp : 0 < p.data.toList.length := List.length_pos_iff.2 hc.2
        have hps := Lib.size_eq p
        refine ⟨p.size, by omega, e5, by rw [hs, hps], by rw [← e3, ← e4]; exact e1, ?_⟩
        rw [← e3, ← e4]; exact e6
      · left; rw [hs, if_neg hc]
  rcases key with hS | ⟨k, hk0, hk, hS, hsp, hC⟩
  · rw [hS] at hU
    have HU : Hid (∀ w, Calls Try.prog 23 #[.string s] w fun e w' => e = .returned (.bool false) ∧ ∃ n, w' = w.drewN n) := hU
    cases a0 with
    | true =>
      by_cases hz : s.size = 0
      · exact asked_nil0 hd h7 (empty_of hz) hS HU
      · exact asked_nil1 hd h1 h2 h4 h6 h7 (nonempty_size (by omega)) hS HU
    | false =>
      cases hp : Lib.hasPrefix s.data.toList [47] with
      | false =>
        refine asked_rel hd h1 h2 h4 h6 h7 ?_ hp (hier_pre hp) hS HU
        rcases pre1_f hp with hz | ⟨h0, hx⟩
        · exact Or.inl hz
        · exact Or.inr ⟨h0, b_f 47 hx⟩
      | true =>
        obtain ⟨h0, hx⟩ := pre1_t hp
        cases he : a1.toList.isEmpty with
        | true => exact asked_path hd h1 h2 h4 h6 h7 he h0 (b_t 47 hx) hp hS HU
        | false =>
          cases hp2 : Lib.hasPrefix s.data.toList [47, 47] with
          | true =>
            obtain ⟨_, h01, _, hx1⟩ := hier_t hp2
            exact asked_two hd h1 h2 h4 h6 h7 he h0 (b_t 47 hx) h01 (b_t 47 hx1) hp2 hS HU
          | false =>
            refine asked_one hd h1 h2 h4 h6 h7 he h0 (b_t 47 hx) ?_ hp hp2 hS HU
            rcases hier_f hp2 with hz | ⟨_, h01, hn | ⟨_, hn⟩⟩
            · exact Or.inl hz
            · exact absurd hx hn
            · exact Or.inr ⟨h01, b_f 47 hn⟩
  · rw [hS] at hU
    have hdd : decide (0 < (k : Int)) = true := decide_eq_true (by omega)
    rw [hdd] at hU
    exact asked_uri hd h1 h2 h4 h6 h7 k hk hk0 hS hsp hC hU
end Go.Proofs.Qxb6602852a
