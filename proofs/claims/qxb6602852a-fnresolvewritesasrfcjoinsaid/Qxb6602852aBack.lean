import Derived.RangeFuncBox
import Derived.RangeFuncFrom
import Derived.RangeFuncLeaves
import Derived.Shelf.Abstract
import Derived.WalkKit
import Derived.OwnWalkIn
import Derived.TacticsInMore
import Derived.LoopNIn
import Derived.LoopIn
import Derived.Test.Qxb6602852aProg
namespace Go.Proofs.Qxb6602852a
open Go.RowKit Go.Shelf
attribute [local go_sem] Oper.semAt_some

/-- the order of slices.Backward -/
def ord (len : Nat) : List (Fin len) := (List.finRange len).reverse
theorem ord_length (len : Nat) : (ord len).length = len := by simp [ord]
theorem ord_succ (len k : Nat) (h : k < len) : (ord len).take (k + 1) = (ord len).take k ++ [⟨len - 1 - k, by omega⟩] := by
  rw [List.take_add_one]
  have : (ord len)[k]? = some ⟨len - 1 - k, by omega⟩ := by
    rw [List.getElem?_eq_getElem (by rw [ord_length]; exact h)]
    simp [ord]
  rw [this]; rfl

/-- what a round must keep: the block of the slice's variable and the slice's own -/
def KeepB (x y : Nat) (A B : World) : Prop := B.heap[x]? = A.heap[x]? ∧ B.heap[y]? = A.heap[y]?
theorem KeepB.refl (x y : Nat) (A : World) : KeepB x y A A := ⟨rfl, rfl⟩
theorem KeepB.trans {x y : Nat} {A B C : World} (h : KeepB x y A B) (k : KeepB x y B C) : KeepB x y A C := ⟨k.1.trans h.1, k.2.trans h.2⟩
theorem KeepB.fst {x y : Nat} {A B : World} (h : KeepB x y A B) (j : Nat) : B.cell? ⟨x, j, none⟩ = A.cell? ⟨x, j, none⟩ := World.cell?_of_block (a := ⟨x, j, none⟩) h.1
theorem KeepB.snd {x y : Nat} {A B : World} (h : KeepB x y A B) (j : Nat) : B.cell? ⟨y, j, none⟩ = A.cell? ⟨y, j, none⟩ := World.cell?_of_block (a := ⟨y, j, none⟩) h.2

set_option maxRecDepth 1000000 in
set_option maxHeartbeats 2000000 in
theorem back1_in (F : Fence) (n : Nat) (h27 : F.fn 27) (hro : F.round = none) (hn : 1 ≤ n) (l Bs b cap len : Nat) (z : Fin len → Nat) (hlen : len ≤ 1048576) (J Jx : List (Fin len) → World → Prop)
    (hY : ∀ pre x W, J pre W → pre.length < len → YieldAt F (n - 1) Try.prog l #[.int .i64 (x.val : Int), .pointer (some ⟨z x, 0, none⟩)] W fun e W' =>
      (e = .returned (.bool true) ∧ J (pre ++ [x]) W' ∧ KeepB Bs b W W') ∨ (e = .returned (.bool false) ∧ Jx (pre ++ [x]) W'))
    (W : World) (hS : W.cell? ⟨Bs, 0, none⟩ = some (.slice (some ⟨b, 0, none⟩) len cap)) (hc : ∀ j : Fin len, W.cell? ⟨b, j.val, none⟩ = some (.pointer (some ⟨z j, 0, none⟩))) (h0 : J [] W) :
    CallsIn F n Try.prog 27 #[.func (.yield l) #[] #[], .pointer (some ⟨Bs, 0, none⟩)] W fun e W' => (∃ v, e = .returned v) ∧
      ((∃ ys, ys = ord len ∧ J ys W') ∨ (∃ pre, (∃ k, k ≤ len ∧ pre = (ord len).take k) ∧ Jx pre W')) := by
  refine callsIn_of_wp Try.func27 rfl h27 ?_ hro
  simp only [Try.ntmps27, List.size_toArray, List.length_cons, List.length_nil, Nat.reduceAdd, Nat.reduceSub, Array.replicate_succ, Array.replicate_zero, List.push_toArray, List.append_toArray, List.nil_append, List.cons_append]
  gi_wp2
  gi_loopw [3] (fun i wr => ∃ k : Nat, k ≤ len ∧ i = .int .i64 ((len : Int) - 1 - k) ∧ J ((ord len).take k) wr ∧ KeepB Bs b W wr)
    (fun i _ => (intOf i + 1).toNat)
  case atStart => exact ⟨0, Nat.zero_le _, by simp, h0, KeepB.refl _ _ _⟩
  case round =>
    obtain ⟨k, hk, rfl, hJs, hnx⟩ := hrel
    by_cases hlt : k < len
    · obtain ⟨i, hi⟩ : ∃ i : Nat, i = len - 1 - k := ⟨_, rfl⟩
      have hil : i < len := by omega
      have hie : ((len : Int) - 1 - k) = (i : Int) := by omega
      rw [hie]
      have hbk : (ord len).take (k + 1) = (ord len).take k ++ [⟨i, hil⟩] := by rw [ord_succ len k hlt]; subst hi; rfl
      obtain ⟨q, hq⟩ : ∃ q, z ⟨i, hil⟩ = q := ⟨_, rfl⟩
      obtain ⟨fn, tmps, assign, body, hy, hR⟩ := hY _ ⟨i, hil⟩ wr hJs (by rw [List.length_take, ord_length]; omega)
      dsimp only at hy
      rw [hq] at hy
      have hSx : wr.cell? ⟨Bs, 0, none⟩ = some (.slice (some ⟨b, 0, none⟩) len cap) := (hnx.fst 0).trans hS
      have hcx : wr.cell? ⟨b, i, none⟩ = some (.pointer (some ⟨q, 0, none⟩)) := by rw [← hq]; exact (hnx.snd i).trans (hc ⟨i, hil⟩)
      have HI : Hid (i = len - 1 - k) := hi
      have HK : Hid (k < len) := hlt
      have HE : Hid (((len : Int) - 1 - k) = (i : Int)) := hie
      clear hi hlt hie hq
      gi_wp2
      refine hR.mono ?_
      rintro e W3 (⟨rfl, hJ3, hk3⟩ | ⟨rfl, hJx3⟩)
      · gi_wp2
        go_roundw
        case rel => exact ⟨k + 1, HK.out, by have := HE.out; go_num, by rw [hbk]; exact hJ3, hnx.trans hk3⟩
        case measure => simp [intOf]
      · gi_wp2
        refine bodyPost_ret (results_none rfl _ _ _) rfl ?_
        exact ⟨⟨_, rfl⟩, .inr ⟨_, ⟨k + 1, HK.out, hbk.symm⟩, hJx3⟩⟩
    · obtain rfl : k = len := by omega
      have hie : ((k : Int) - 1 - k) = -1 := by omega
      rw [hie]
      gi_wp2
      go_end0
      exact ⟨⟨_, rfl⟩, .inl ⟨_, List.take_of_length_le (by rw [ord_length]; exact Nat.le_refl _), hJs⟩⟩

set_option maxRecDepth 1000000 in
set_option maxHeartbeats 1000000 in
theorem back1_nil_in (F : Fence) (n : Nat) (h27 : F.fn 27) (hro : F.round = none) (l Bs : Nat) (J : List (Fin 0) → World → Prop) (W : World) (hBs : W.cell? ⟨Bs, 0, none⟩ = some (.slice none 0 0)) (h0 : J [] W) :
    CallsIn F n Try.prog 27 #[.func (.yield l) #[] #[], .pointer (some ⟨Bs, 0, none⟩)] W fun e W' => (∃ v, e = .returned v) ∧ J [] W' := by
  refine callsIn_of_wp Try.func27 rfl h27 ?_ hro
  simp only [Try.ntmps27, List.size_toArray, List.length_cons, List.length_nil, Nat.reduceAdd, Nat.reduceSub, Array.replicate_succ, Array.replicate_zero, List.push_toArray, List.append_toArray, List.nil_append, List.cons_append]
  gi_wp2
  gi_loopw [3] (fun i wr => i = .int .i64 (-1) ∧ J [] wr) (fun _ _ => 0)
  case atStart => exact ⟨rfl, h0⟩
  case round =>
    obtain ⟨rfl, hJs⟩ := hrel
    gi_wp2
    go_end0
    exact ⟨⟨_, rfl⟩, hJs⟩

set_option maxHeartbeats 1000000 in
theorem backward_in (F : Fence) (n : Nat) (h22 : F.fn 22) (hro : F.round = none) (a : Option Addr) (len cap : Nat) (w : World) :
    CallsIn F n Try.prog 22 #[.slice a len cap] w fun e w' => e = .returned (.func (.func 27) #[] #[.pointer (some ⟨w.heap.size, 0, none⟩)]) ∧ w' = w.alloc (.cells #[.slice a len cap] 42) := by
  refine callsIn_of_wp Try.func22 rfl h22 ?_ hro
  simp only [Try.ntmps22, List.size_toArray, List.length_cons, List.length_nil, Nat.reduceAdd, Nat.reduceSub, Array.replicate_succ, Array.replicate_zero, List.push_toArray, List.append_toArray, List.nil_append, List.cons_append]
  gi_wp2
  go_ret
  exact ⟨rfl, rfl⟩

theorem back_stops (F : Fence) (n : Nat) (h27 : F.fn 27) (hro : F.round = none) (hn : 1 ≤ n) (Bs y cap len : Nat) (z : Fin len → Nat) (hlen : len ≤ 1048576) (w : World) (hBs : Bs < w.heap.size) (hy : y < w.heap.size)
    (hc : w.cell? ⟨Bs, 0, none⟩ = some (.slice (some ⟨y, 0, none⟩) len cap)) (hI : ∀ j : Fin len, w.cell? ⟨y, j.val, none⟩ = some (.pointer (some ⟨z j, 0, none⟩))) :
    SeqStopsK F n Try.prog 27 #[.pointer (some ⟨Bs, 0, none⟩)] (fun x : Fin len => #[Value.int .i64 (x.val : Int), .pointer (some ⟨z x, 0, none⟩)]) (KeepB Bs y) (fun ys => ys = ord len)
      (fun pre => ∃ k, k ≤ len ∧ pre = (ord len).take k) len w := fun l J Jx W hW _ _ hY h0 =>
  back1_in F n h27 hro hn l Bs y cap len z hlen J Jx hY W ((hW.cell (p := ⟨Bs, 0, none⟩) hBs).trans hc) (fun j => (hW.cell (p := ⟨y, j.val, none⟩) hy).trans (hI j)) h0
theorem back_stops_nil (F : Fence) (n : Nat) (h27 : F.fn 27) (hro : F.round = none) (Bs y : Nat) (z : Fin 0 → Nat) (w : World) (hBs : Bs < w.heap.size) (hc : w.cell? ⟨Bs, 0, none⟩ = some (.slice none 0 0)) :
    SeqStopsK F n Try.prog 27 #[.pointer (some ⟨Bs, 0, none⟩)] (fun x : Fin 0 => #[Value.int .i64 (x.val : Int), .pointer (some ⟨z x, 0, none⟩)]) (KeepB Bs y) (fun ys => ys = ord 0)
      (fun pre => ∃ k, k ≤ 0 ∧ pre = (ord 0).take k) 0 w := fun l J _ W hW _ _ _ h0 =>
  (back1_nil_in F n h27 hro l Bs J W ((hW.cell (p := ⟨Bs, 0, none⟩) hBs).trans hc) h0).mono fun _ _ ⟨he, hj⟩ => ⟨he, .inl ⟨_, rfl, hj⟩⟩
end Go.Proofs.Qxb6602852a
