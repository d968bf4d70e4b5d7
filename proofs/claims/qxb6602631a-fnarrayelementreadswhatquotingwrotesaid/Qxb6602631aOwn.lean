import Derived.Test.Qxb6602631aSmall
import Derived.Lib.BufferRead
import Derived.Lib.SmallJoins
import Derived.Deep.QuietTactic
import Derived.BigQuiet
namespace Go.Proofs.Qxb6602631a
open Go.RowKit

/-- bytes and bools as cells -/
def bvs (x : List (UInt8 × Bool)) : List Value := x.map fun y => Value.int .u8 (y.1.toNat : Int)
def kvs (x : List (UInt8 × Bool)) : List Value := x.map fun y => Value.bool y.2
theorem bvs_snoc (x : List (UInt8 × Bool)) (y : UInt8 × Bool) : bvs (x ++ [y]) = bvs x ++ [Value.int .u8 (y.1.toNat : Int)] := by simp [bvs]
theorem kvs_snoc (x : List (UInt8 × Bool)) (y : UInt8 × Bool) : kvs (x ++ [y]) = kvs x ++ [Value.bool y.2] := by simp [kvs]

theorem Try.info5 : (Try.prog.info? 5).map (fun i => (i.zero, i.size, i.bytes)) = some (some (.int .u8 0), 1, 1) := by kernel_rfl
theorem Try.info4 : (Try.prog.info? 4).map (fun i => (i.zero, i.size, i.bytes)) = some (some (.bool false), 1, 1) := by kernel_rfl

/-- rows of two element types are two blocks -/
theorem own_ne {w : World} {B n m : Nat} {v u : Value} {xs ys : List Value} {e e' : TypeId} (he : e ≠ e') (h : w.ownsRow B e 1 v n xs) (h' : w.ownsRow B e' 1 u m ys) : u.ownBlock = none ∨ u.ownBlock ≠ v.ownBlock := by
  rcases h.2 with ⟨rfl, _⟩ | ⟨g, cap, cur, rfl, _, hg, _⟩
  · rcases h'.2 with ⟨rfl, _⟩ | ⟨g', cap', cur', rfl, _, hg', _⟩
    · exact Or.inl rfl
    · right; simp [Value.ownBlock]
  · rcases h'.2 with ⟨rfl, _⟩ | ⟨g', cap', cur', rfl, _, hg', _⟩
    · exact Or.inl rfl
    · right
      simp only [Value.ownBlock]
      intro e1
      have : g' = g := by simpa using e1
      subst this
      rw [hg] at hg'
      simp at hg'
      exact he hg'.2

theorem own_form {w : World} {B n : Nat} {v : Value} {xs : List Value} {e : TypeId} (h : w.ownsRow B e 1 v n xs) : ∃ ao cap, v = .slice ao n cap ∧ (0 < n → ∃ g, ao = some ⟨g, 0, none⟩) ∧ n ≤ cap := by
  rcases h.2 with ⟨rfl, h0⟩ | ⟨g, cap, cur, rfl, _, hg, h1, _⟩
  · subst h0; exact ⟨none, 0, rfl, fun h => absurd h (Nat.lt_irrefl _), Nat.le_refl _⟩
  · exact ⟨some ⟨g, 0, none⟩, cap, rfl, fun _ => ⟨g, rfl⟩, h1⟩

theorem b_cell {w : World} {B n g cap : Nat} {x : List (UInt8 × Bool)} (h : w.ownsRow B 5 1 (.slice (some ⟨g, 0, none⟩) n cap) n (bvs x)) (j : Nat) (y : UInt8 × Bool) (hj : x[j]? = some y) : w.cell? ⟨g, j, none⟩ = some (.int .u8 (y.1.toNat : Int)) := by
  have hl : (bvs x).length = n * 1 := h.1
  have hlt : j < x.length := (List.getElem?_eq_some_iff.1 hj).1
  rw [h.cellAt j (by simp [bvs] at hl; omega)]
  simp [bvs, hj]
theorem k_cell {w : World} {B n g cap : Nat} {x : List (UInt8 × Bool)} (h : w.ownsRow B 4 1 (.slice (some ⟨g, 0, none⟩) n cap) n (kvs x)) (j : Nat) (y : UInt8 × Bool) (hj : x[j]? = some y) : w.cell? ⟨g, j, none⟩ = some (.bool y.2) := by
  have hl : (kvs x).length = n * 1 := h.1
  have hlt : j < x.length := (List.getElem?_eq_some_iff.1 hj).1
  rw [h.cellAt j (by simp [kvs] at hl; omega)]
  simp [kvs, hj]

/-- string(b[f:l]) of an owned row -/
theorem conv_span {w : World} {B g cap c : Nat} {x : List (UInt8 × Bool)} (h : w.ownsRow B 5 1 (.slice (some ⟨g, 0, none⟩) x.length cap) x.length (bvs x)) (f m : Nat) (hm : f + m ≤ x.length) :
    (convert 28 9 (.slice (some ⟨g, f, none⟩) m c)).run Try.prog w = .ok (.string ⟨(span x f (f + m)).toArray⟩) w := by
  have hlen : (span x f (f + m)).length = m := by simp [span]; omega
  have := run_convert_bytes_back (P := Try.prog) w 28 9 5 ⟨g, f, none⟩ c (span x f (f + m)) Try.underlying28 Try.underlying5 Try.underlying9 fun j hj => by
    have hjm : j < m := by omega
    have hx : x[f + j]? = some x[f + j] := List.getElem?_eq_getElem (by omega)
    have hc := b_cell h (f + j) _ hx
    have ha : (⟨g, f, none⟩ : Addr).add j = ⟨g, f + j, none⟩ := by
      simp only [Addr.add]
      split <;> simp_all
    rw [ha, hc]
    simp [span]
  rw [hlen] at this
  exact this

/-- the value of b[f:l] -/
theorem span_val (g cap n f l : Nat) (hfl : f ≤ l) (hln : l ≤ n) (hnc : n ≤ cap) :
    ∃ V, (∀ w, (Instr.slice 28 (.slice (some ⟨g, 0, none⟩) n cap) (some (.int .i64 f)) (some (.int .i64 l)) none).run Try.prog w = .ok V w) ∧ ∃ c a', V = .slice (some a') (l - f) c ∧ (f < l → a' = ⟨g, f, none⟩) := by
  have hel : Try.prog.elem 28 = 5 := by kernel_rfl
  refine ⟨sliced (some ⟨g, 0, none⟩) f l cap 1, fun w => ?_, ?_⟩
  · rw [run_slice_lh (P := Try.prog) w 28 (some ⟨g, 0, none⟩) n cap (by rw [hel]; exact Try.underlying28) .i64 .i64 f l (by omega) (by omega) (by omega), hel, Try.sizeOf5]
    simp [Result.andThen]
  · by_cases hc : cap = f
    · refine ⟨cap - f, ⟨g, 0, none⟩, by simp [sliced, hc], fun h => by omega⟩
    · refine ⟨cap - f, (⟨g, 0, none⟩ : Addr).add (f * 1), by simp [sliced, hc], fun h => ?_⟩
      by_cases h0 : f = 0
      · subst h0; simp [Addr.add]
      · simp [Addr.add, h0]

/-- its text -/
theorem span_text {w : World} {B g cap c : Nat} {a' : Addr} {x : List (UInt8 × Bool)} (h : w.ownsRow B 5 1 (.slice (some ⟨g, 0, none⟩) x.length cap) x.length (bvs x)) {f l : Nat} (hfl : f ≤ l) (hl : l ≤ x.length) (ha : f < l → a' = ⟨g, f, none⟩) :
    (convert 28 9 (.slice (some a') (l - f) c)).run Try.prog w = .ok (.string ⟨(span x f l).toArray⟩) w := by
  by_cases hlt : f < l
  · rw [ha hlt]
    have := conv_span (c := c) h f (l - f) (by omega)
    rw [show f + (l - f) = l from by omega] at this
    exact this
  · have e : l - f = ([] : List UInt8).length := by simp; omega
    have es : span x f l = [] := by
      simp only [span, List.drop_eq_nil_iff, List.length_take]
      omega
    rw [e, es]
    exact run_convert_bytes_back (P := Try.prog) w 28 9 5 a' c [] Try.underlying28 Try.underlying5 Try.underlying9 fun j hj => absurd hj (Nat.not_lt_zero _)

/-- b[f:l] and its text, whatever form b has -/
theorem span_any {w : World} {B cap : Nat} {ao : Option Addr} {x : List (UInt8 × Bool)} (h : w.ownsRow B 5 1 (.slice ao x.length cap) x.length (bvs x)) {f l : Nat} (hfl : f ≤ l) (hl : l ≤ x.length) :
    ∃ V, (∀ w, (Instr.slice 28 (.slice ao x.length cap) (some (.int .i64 f)) (some (.int .i64 l)) none).run Try.prog w = .ok V w) ∧ ∀ n, (convert 28 9 V).run Try.prog (w.drewN n) = .ok (.string ⟨(span x f l).toArray⟩) (w.drewN n) := by
  rcases h.2 with ⟨hv, h0⟩ | ⟨g, c, cur, hv, _, _, hc, _⟩
  · have e0 : ao = none := by simp at hv; exact hv.1
    have e1 : cap = 0 := by simp at hv; exact hv.2.2
    subst e0 e1
    have ef : f = 0 := by omega
    have el : l = 0 := by omega
    subst ef el
    rw [h0]
    have hx : x = [] := List.length_eq_zero_iff.1 h0
    subst hx
    refine ⟨.slice none 0 0, fun w => by kernel_rfl, fun n => ?_⟩
    exact Lib.run_convert_nil_bytes (w.drewN n) 28 9 5 0 Try.underlying28 Try.underlying5 Try.underlying9
  · have e0 : ao = some ⟨g, 0, none⟩ := by simp at hv; exact hv.1
    have e1 : cap = c := by simp at hv; exact hv.2
    subst e0 e1
    obtain ⟨V, hV, c', a', rfl, ha'⟩ := span_val g cap x.length f l hfl hl hc
    exact ⟨_, hV, fun n => span_text (w := w.drewN n) h hfl hl ha'⟩
end Go.Proofs.Qxb6602631a
