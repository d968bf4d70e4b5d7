import Derived.Room.AppendFits
import Derived.Deep.RegionLaw
import Derived.Deep.RegionHeld
import Derived.RangeFuncCalls
import Derived.OrdersIn
namespace Go.Proofs.Qxb6602852a
open Go.RowKit Go.Lib

/-- append of a string where there is room, as one step of a region that draws -/
theorem step_fits_str {P : Program} {ops : Array Oper} {o : Oper} {a : Act} {w : World} {K : Act → World → Prop} {Q : Exit → Act → World → Prop} {E : Prop}
    (hg : o.guard = none) (sl x : Operand) (t u : TypeId) (ho : o.op = .call { callee := .builtin .append, args := #[sl, x], argTypes := #[t, u] })
    (base : Nat) (e : TypeId) (i : TypeInfo) (ht : P.underlying t = some (.slice e)) (hu : P.underlying u = some .string) (hi : P.info? e = some i) (hsize : i.size = 1)
    (p : Option Addr) (n cap : Nat) (xs : List Value) (hs : a.eval sl = .slice p n cap) (hown : w.ownsRow base e 1 (.slice p n cap) n xs) (s : ByteArray) (hx : a.eval x = .string s) (h1 : 0 < cap) (hroom : n + s.size ≤ cap)
    (hK : ∀ w', w'.ownsRow base e 1 (.slice p (n + s.size) cap) (n + s.size) (xs ++ strCells s) → w.grownBy w' (Value.ownBlock (.slice p n cap)) → K (a.put o.dst (.slice p (n + s.size) cap)) w') :
    if Region.wanted o (yielded ops a.tmps) = true then Oper.wp P o a w K Q else E := by
  have hw : Region.wanted o (yielded ops a.tmps) = true := by simp [Region.wanted, hg]
  rw [if_pos hw]
  obtain ⟨w', hr, h2, h3⟩ := run_append_fits_string (P := P) w base t u o.type e i ht hu hi hsize p n cap xs hown s h1 hroom
  unfold Oper.wp execOp
  simp only [ho, resolve, invoke, builtin, Sem.run_bind, Sem.run_pure, Result.andThen_ok, List.map_toArray, List.map_cons, List.map_nil, hs, hx, hr]
  exact hK w' h2 h3

/-- append of a slice where there is room, as one step of a region that draws -/
theorem step_fits {P : Program} {ops : Array Oper} {o : Oper} {a : Act} {w : World} {K : Act → World → Prop} {Q : Exit → Act → World → Prop} {E : Prop}
    (hg : o.guard = none) (sl x : Operand) (t : TypeId) (ho : o.op = .call { callee := .builtin .append, args := #[sl, x], argTypes := #[t, t] })
    (base : Nat) (e : TypeId) (i : TypeInfo) (size : Nat) (ht : P.underlying t = some (.slice e)) (hi : P.info? e = some i) (hsize : i.size = size)
    (g n cap : Nat) (xs : List Value) (hs : a.eval sl = .slice (some ⟨g, 0, none⟩) n cap) (hown : w.ownsRow base e size (.slice (some ⟨g, 0, none⟩) n cap) n xs)
    (ad : Addr) (m c : Nat) (news : List Value) (hx : a.eval x = .slice (some ad) m c) (hl : news.length = m * size) (hnews : ∀ j u, news[j]? = some u → w.cell? (ad.add j) = some u) (h1 : ∀ u ∈ news, u.oneCell' = true)
    (hroom : n + m ≤ cap)
    (hK : ∀ w', w'.ownsRow base e size (.slice (some ⟨g, 0, none⟩) (n + m) cap) (n + m) (xs ++ news) → w.grownBy w' (some g) → K (a.put o.dst (.slice (some ⟨g, 0, none⟩) (n + m) cap)) w') :
    if Region.wanted o (yielded ops a.tmps) = true then Oper.wp P o a w K Q else E := by
  have hw : Region.wanted o (yielded ops a.tmps) = true := by simp [Region.wanted, hg]
  rw [if_pos hw]
  obtain ⟨w', hr, h2, h3⟩ := run_append_fits (P := P) w base t o.type e i size ht hi hsize g n cap xs hown ad m c news hl hnews h1 hroom
  unfold Oper.wp execOp
  simp only [ho, resolve, invoke, builtin, Sem.run_bind, Sem.run_pure, Result.andThen_ok, List.map_toArray, List.map_cons, List.map_nil, hs, hx, hr]
  exact hK w' h2 h3

/-- append of a string to a row of the call's own, there being room or not, as one step of a region that draws -/
theorem step_own_str {P : Program} {ops : Array Oper} {o : Oper} {a : Act} {w : World} {K : Act → World → Prop} {Q : Exit → Act → World → Prop} {E : Prop}
    (hg : o.guard = none) (sl x : Operand) (t u : TypeId) (ho : o.op = .call { callee := .builtin .append, args := #[sl, x], argTypes := #[t, u] })
    (base : Nat) (e : TypeId) (i : TypeInfo) (ht : P.underlying t = some (.slice e)) (hu : P.underlying u = some .string) (hi : P.info? e = some i) (hz : i.zero = some (.int .u8 0)) (hsize : i.size = 1) (hby : i.bytes = 1)
    (g n cap : Nat) (xs : List Value) (hs : a.eval sl = .slice (some ⟨g, 0, none⟩) n cap) (hown : w.ownsRow base e 1 (.slice (some ⟨g, 0, none⟩) n cap) n xs) (s : ByteArray) (hx : a.eval x = .string s) (h63 : n + s.size ≤ maxLen) (hbytes : n + s.size ≤ 140737488355328) (hbase : base ≤ w.heap.size)
    (hK : ∀ g' cap' w', w'.ownsRow base e 1 (.slice (some ⟨g', 0, none⟩) (n + s.size) cap') (n + s.size) (xs ++ strCells s) → w.grownBy w' (some g) → K (a.put o.dst (.slice (some ⟨g', 0, none⟩) (n + s.size) cap')) w') :
    if Region.wanted o (yielded ops a.tmps) = true then Oper.wp P o a w K Q else E := by
  have hw : Region.wanted o (yielded ops a.tmps) = true := by simp [Region.wanted, hg]
  rw [if_pos hw]
  obtain ⟨v', w', hr, h2, h3, h4⟩ := run_append_own_string (P := P) w base t u o.type e i ht hu hi hz hsize hby _ n xs hown s h63 hbytes hbase
  rcases h2.2 with ⟨hv, _⟩ | ⟨g', cap', cur, hv, hrest⟩
  · exact absurd (h4.1 hv).1 (by simp)
  · subst hv
    unfold Oper.wp execOp
    simp only [ho, resolve, invoke, builtin, Sem.run_bind, Sem.run_pure, Result.andThen_ok, List.map_toArray, List.map_cons, List.map_nil, hs, hx, hr]
    exact hK g' cap' w' h2 h3

/-- append of a slice likewise -/
theorem step_own {P : Program} {ops : Array Oper} {o : Oper} {a : Act} {w : World} {K : Act → World → Prop} {Q : Exit → Act → World → Prop} {E : Prop}
    (hg : o.guard = none) (sl x : Operand) (t : TypeId) (ho : o.op = .call { callee := .builtin .append, args := #[sl, x], argTypes := #[t, t] })
    (base : Nat) (e : TypeId) (i : TypeInfo) (z : Value) (size bytes : Nat) (ht : P.underlying t = some (.slice e)) (hi : P.info? e = some i) (hz : i.zero = some z) (hsize : i.size = size) (hby : i.bytes = bytes) (hzs : z.cells.size = size) (hsz : 0 < size)
    (g n cap : Nat) (xs : List Value) (hs : a.eval sl = .slice (some ⟨g, 0, none⟩) n cap) (hown : w.ownsRow base e size (.slice (some ⟨g, 0, none⟩) n cap) n xs)
    (ad : Addr) (m c : Nat) (news : List Value) (hx : a.eval x = .slice (some ad) m c) (hl : news.length = m * size) (hnews : ∀ j u, news[j]? = some u → w.cell? (ad.add j) = some u) (h1 : ∀ u ∈ news, u.oneCell' = true)
    (h63 : n + m ≤ maxLen) (hbytes : (n + m) * bytes ≤ 140737488355328) (hbase : base ≤ w.heap.size)
    (hK : ∀ g' cap' w', w'.ownsRow base e size (.slice (some ⟨g', 0, none⟩) (n + m) cap') (n + m) (xs ++ news) → w.grownBy w' (some g) → K (a.put o.dst (.slice (some ⟨g', 0, none⟩) (n + m) cap')) w') :
    if Region.wanted o (yielded ops a.tmps) = true then Oper.wp P o a w K Q else E := by
  have hw : Region.wanted o (yielded ops a.tmps) = true := by simp [Region.wanted, hg]
  rw [if_pos hw]
  obtain ⟨v', w', hr, h2, h3, h4⟩ := run_append_own (P := P) w base t o.type e i z size bytes ht hi hz hsize hby hzs hsz _ n xs hown ad m c news hl hnews h1 h63 hbytes hbase
  rcases h2.2 with ⟨hv, _⟩ | ⟨g', cap', cur, hv, hrest⟩
  · exact absurd (h4.1 hv).1 (by simp)
  · subst hv
    unfold Oper.wp execOp
    simp only [ho, resolve, invoke, builtin, Sem.run_bind, Sem.run_pure, Result.andThen_ok, List.map_toArray, List.map_cons, List.map_nil, hs, hx, hr]
    exact hK g' cap' w' h2 h3

/-- in a round of the widest fence an operation that is no defer goes as everywhere -/
theorem upon_in {P : Program} {o : Oper} {a : Act} {K : Act → World → Prop} {Q : Exit → Act → World → Prop} {r : Result Next} (l n : Nat) (h : o.upon P a K Q r) : o.uponIn (Fence.wide.inRound l) n P a K Q r := by
  cases r with
  | ok x w' =>
    cases x with
    | value v => exact h
    | skip => exact h
    | defer d => exact h
    | enter f args => exact ⟨(fun hh => by cases hh), CallsIn.inRound l (callsIn_wide.2 h)⟩
    | row row args => exact ⟨(fun hh => by cases hh), fun c cs _ => by
      obtain ⟨v, w'', r, s⟩ := h c cs
      exact ⟨v, w'', r, stepsIn_wide.2 s⟩⟩
    | _ => exact h.elim
  | halt x w' =>
    cases x with
    | panic v => exact h
    | _ => exact h.elim

def noDefer (o : Oper) : Bool := match o.op with | .defer _ => false | _ => true
theorem oper_in {P : Program} {o : Oper} {a : Act} {w : World} {K : Act → World → Prop} {Q : Exit → Act → World → Prop} (l n : Nat) (hd : noDefer o = true) (h : o.wp P a w K Q) : o.wpIn (Fence.wide.inRound l) n P a w K Q := by
  refine ⟨fun _ _ => trivial, ?_⟩
  rw [Oper.semAt_eq _ _ _ (fun c hc => by rw [noDefer, hc] at hd; cases hd)]
  exact upon_in l n h

theorem any_in {P : Program} {md : Region.Mode} {ops : Array Oper} {Q : Exit → Act → World → Prop} (l n : Nat) (hd : ∀ (i : Nat) (o : Oper), ops[i]? = some o → noDefer o = true) (hlo : ¬ LetsOut Q) :
    ∀ (fuel : Nat) (listed : Array Bool) (a : Act) (w : World), wpAny P md ops Q fuel listed a w → wpAnyIn (Fence.wide.inRound l) n P md ops Q fuel listed a w
  | 0, _, _, _, h => h
  | fuel + 1, listed, a, w, h => by
    refine ⟨h.1, fun i hi => ?_⟩
    have h2 := h.2 i hi
    unfold wpOp at h2
    unfold wpOpIn
    cases ho : ops[i]? with
    | none => rw [ho] at h2; exact any_in l n hd hlo fuel _ _ _ h2
    | some o =>
      rw [ho] at h2
      simp only at h2 ⊢
      by_cases hw : Region.wanted o (yielded ops a.tmps) = true
      · rw [if_pos hw] at h2 ⊢
        exact oper_in l n (hd i o ho) ((h2.resolve_right fun hh => hlo hh.2 : o.wp P a w _ Q) |> Oper.wp_mono (fun a w hh => any_in l n hd hlo fuel _ a w hh))
      · rw [if_neg hw] at h2 ⊢
        exact ⟨fun _ _ => trivial, any_in l n hd hlo fuel _ _ _ h2⟩

/-- a region that draws, in a round -/
theorem region_in {P : Program} {ops : Array Oper} {Q : Exit → Act → World → Prop} {id : Nat} {a : Act} {w : World} (l n : Nat) (hm : P.follows .mixedOrders = true) (hd : ops.all noDefer = true) (hlo : ¬ LetsOut Q)
    (h : wpAny P .any ops Q ops.size (Array.replicate ops.size false) a w.drew) : (Code.region id ops true).wpIn (Fence.wide.inRound l) n P Q a w :=
  wpIn_region_any hm (any_in l n (fun i o ho => by
    obtain ⟨hi, rfl⟩ := Array.getElem?_eq_some_iff.1 ho
    exact Array.all_eq_true.1 hd i hi) hlo _ _ _ _ h)
end Go.Proofs.Qxb6602852a
