import Derived.Test.Qxb6602852aHier
namespace Go.Proofs.Qxb6602852a
open Go.RowKit

theorem results4 {fn : Func} {t u v x : Tmp} (h : fn.results = #[.tmp t, .tmp u, .tmp v, .tmp x]) (tmps : Array Value) (P : Program) (w : World) :
    (results fn tmps).run P w = .ok (.tuple #[tmps.getD t undef, tmps.getD u undef, tmps.getD v undef, tmps.getD x undef]) w := by
  simp [results, h]
theorem results5 {fn : Func} {t u v x y : Tmp} (h : fn.results = #[.tmp t, .tmp u, .tmp v, .tmp x, .tmp y]) (tmps : Array Value) (P : Program) (w : World) :
    (results fn tmps).run P w = .ok (.tuple #[tmps.getD t undef, tmps.getD u undef, tmps.getD v undef, tmps.getD x undef, tmps.getD y undef]) w := by
  simp [results, h]

set_option maxHeartbeats 1000000 in
theorem split24 (s p r : ByteArray) (w : World) (hr : r.size ≤ 1048576)
    (H : Hid (∀ w, Calls Try.prog 28 #[.string s, .string ⟨#[58]⟩] w fun e w' => e = .returned (.tuple #[.string p, .string r, .bool true]) ∧ ∃ n, w' = w.drewN n)) :
    Calls Try.prog 24 #[.string s] w fun e w' => e = .returned (.tuple #[.string p, .string (hAuth r), .bool (hierB r), .string (hPath r)]) ∧ ∃ n, w' = w.drewN n := by
  go_enter Try.func24, Try.ntmps24
  go_wp2_with fail
  refine (H.out _).mono ?_
  rintro e w1 ⟨rfl, n1, rfl⟩
  go_wp2_with fail
  refine (part26 r _ hr).mono ?_
  rintro e w1 ⟨rfl, n2, rfl⟩
  go_wp2
  refine bodyPost_ret (results4 rfl _ _ _) rfl ?_
  exact ⟨rfl, _, rfl⟩

/-- a node of type resolvedURI in memory -/
structure Node (w : World) (b : Nat) (sc au : ByteArray) (ha : Bool) (pa : ByteArray) (un : Option Addr) : Prop where
  c0 : w.cell? ⟨b, 0, none⟩ = some (.string sc)
  c1 : w.cell? ⟨b, 1, none⟩ = some (.string au)
  c2 : w.cell? ⟨b, 2, none⟩ = some (.bool ha)
  c3 : w.cell? ⟨b, 3, none⟩ = some (.string pa)
  c4 : w.cell? ⟨b, 4, none⟩ = some (.pointer un)
  lt : b < w.heap.size
theorem Node.below {w w' : World} {b sc au ha pa un} {B : Nat} (h : Node w b sc au ha pa un) (hb : Below B w w') (hB : b < B) : Node w' b sc au ha pa un :=
  ⟨by rw [hb.cell hB]; exact h.c0, by rw [hb.cell hB]; exact h.c1, by rw [hb.cell hB]; exact h.c2, by rw [hb.cell hB]; exact h.c3, by rw [hb.cell hB]; exact h.c4, Nat.lt_of_lt_of_le h.lt hb.size⟩
theorem Node.drewN {w : World} {b sc au ha pa un} (h : Node w b sc au ha pa un) (n : Nat) : Node (w.drewN n) b sc au ha pa un :=
  h.below (below_drewN (Below.refl w.heap.size w) n) h.lt
theorem Node.newAt (w : World) (n : Nat) (hn : n = w.heap.size) (sc au : ByteArray) (ha : Bool) (pa : ByteArray) (un : Option Addr) :
    Node (w.alloc (.cells #[.string sc, .string au, .bool ha, .string pa, .pointer un] 40)) n sc au ha pa un := by
  subst hn
  exact ⟨by simp, by simp, by simp, by simp, by simp, by simp⟩
theorem Node.new (w : World) (sc au : ByteArray) (ha : Bool) (pa : ByteArray) (un : Option Addr) :
    Node (w.alloc (.cells #[.string sc, .string au, .bool ha, .string pa, .pointer un] 40)) w.heap.size sc au ha pa un := Node.newAt w _ rfl ..

set_option maxHeartbeats 1000000 in
theorem make8 (sc au pa : ByteArray) (ha : Bool) (un : Option Addr) (w : World) :
    Calls Try.prog 8 #[.string sc, .string au, .bool ha, .string pa, .pointer un] w fun e w' => e = .returned (.pointer (some ⟨w.heap.size, 0, none⟩)) ∧ w' = w.alloc (.cells #[.string sc, .string au, .bool ha, .string pa, .pointer un] 40) := by
  go_enter Try.func8, Try.ntmps8
  go_wp2
  go_ret
  exact ⟨rfl, rfl⟩

set_option maxHeartbeats 1000000 in
theorem parts15 (b : Nat) (w : World) (sc au : ByteArray) (ha : Bool) (pa : ByteArray) (un : Option Addr) (hn : Node w b sc au ha pa un) :
    Calls Try.prog 15 #[.pointer (some ⟨b, 0, none⟩)] w fun e w' => e = .returned (.tuple #[.string sc, .string au, .bool ha, .string pa, .pointer un]) ∧ ∃ n, w' = w.drewN n := by
  have c0 := hn.c0; have c1 := hn.c1; have c2 := hn.c2; have c3 := hn.c3; have c4 := hn.c4
  clear hn
  go_enter Try.func15, Try.ntmps15
  go_wp2
  go_quiet (fail)
  go_wp2
  refine bodyPost_ret (results5 rfl _ _ _) rfl ?_
  exact ⟨rfl, _, rfl⟩

/-- the directory's own directory -/
def Under (w : World) (un : Option Addr) (hu : Bool) (up : ByteArray) : Prop :=
  (hu = false ∧ un = none) ∨ (hu = true ∧ ∃ b, un = some ⟨b, 0, none⟩ ∧ Node w b ⟨#[]⟩ ⟨#[]⟩ false up none)

set_option maxHeartbeats 1000000 in
theorem dir11_nil (sc au pa up : ByteArray) (ha hu : Bool) (w : World) :
    Calls Try.prog 11 #[.bool true, .string sc, .string au, .bool ha, .string pa, .bool hu, .string up] w fun e w' => e = .returned (.pointer none) ∧ w' = w := by
  go_enter Try.func11, Try.ntmps11
  go_wp2
  go_ret
  exact ⟨rfl, rfl⟩
set_option maxHeartbeats 1000000 in
theorem dir11 (sc au pa up : ByteArray) (ha hu : Bool) (w : World) :
    Calls Try.prog 11 #[.bool false, .string sc, .string au, .bool ha, .string pa, .bool hu, .string up] w fun e w' => ∃ b un, e = .returned (.pointer (some ⟨b, 0, none⟩)) ∧ w.heap.size ≤ b ∧ Below w.heap.size w w' ∧ Node w' b sc au ha pa un ∧ Under w' un hu up := by
  cases hu with
  | false =>
    go_enter Try.func11, Try.ntmps11
    go_wp2_with (go_at_call 8; refine (make8 _ _ _ _ _ _).mono ?_; rintro e w1 ⟨rfl, hw⟩; rw [hw])
    go_ret
    exact ⟨_, none, rfl, Nat.le_refl _, (Below.refl _ _).alloc (Nat.le_refl _) _, Node.new .., Or.inl ⟨rfl, rfl⟩⟩
  | true =>
    go_enter Try.func11, Try.ntmps11
    go_wp2_with (go_at_call 8; refine (make8 _ _ _ _ _ _).mono ?_; rintro e w1 ⟨rfl, hw⟩; rw [hw])
    go_ret
    refine ⟨_, _, rfl, ?_, ?_, Node.newAt _ _ (by simp) .., Or.inr ⟨rfl, _, rfl, (Node.new w ⟨#[]⟩ ⟨#[]⟩ false up none).below ((Below.refl _ _).alloc (Nat.le_refl _) _) (by simp)⟩⟩
    · omega
    · exact ((Below.refl _ _).alloc (Nat.le_refl _) _).alloc (by simp) _

end Go.Proofs.Qxb6602852a
