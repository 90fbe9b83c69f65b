/- A decimal in memory: what its block holds; what a store does to it. -/
import Derived.Test.YtnggkkdcddpjlaaGreatDoorBase
import Derived.Deep.LoopGhost
import Derived.Outline
namespace Go.Proofs.YtnggkkdcddpjlaaGreatDoor
open Go.RowKit
/-- What a decimal holds: its 800 digits (as bytes), how many are used, its point, its sign, whether digits were dropped. -/
structure Dec where
  dg : Nat → Nat
  nd : Nat
  dp : Int
  neg : Bool
  trunc : Bool
/-- The decimal lies in block B. -/
structure DecAt (w : World) (B : Nat) (x : Dec) : Prop where
  d : ∀ i, i < 800 → w.cell? ⟨B, i, none⟩ = some (.int .u8 (x.dg i))
  n : w.cell? ⟨B, 800, none⟩ = some (.int .i64 x.nd)
  p : w.cell? ⟨B, 801, none⟩ = some (.int .i64 x.dp)
  s : w.cell? ⟨B, 802, none⟩ = some (.bool x.neg)
  t : w.cell? ⟨B, 803, none⟩ = some (.bool x.trunc)
  f : ∀ i, w.frozen? ⟨B, i, none⟩ = false
/-- Nothing but block B has turned. -/
structure Only (B : Nat) (w w' : World) : Prop where
  os : w'.os = w.os
  tape : w'.tape = w.tape
  output : w'.output = w.output
  size : w'.heap.size = w.heap.size
  block : ∀ k, k ≠ B → w'.heap[k]? = w.heap[k]?

theorem Only.refl (B : Nat) (w : World) : Only B w w := ⟨rfl, rfl, rfl, rfl, fun _ _ => rfl⟩
theorem Only.trans {B : Nat} {a b c : World} (h : Only B a b) (k : Only B b c) : Only B a c :=
  ⟨k.os.trans h.os, k.tape.trans h.tape, k.output.trans h.output, k.size.trans h.size, fun i hi => (k.block i hi).trans (h.block i hi)⟩
theorem Only.drew {B : Nat} {a w : World} (h : Only B a w) : Only B a w.drew := ⟨h.os, h.tape, h.output, h.size, h.block⟩
theorem Only.drewN {B : Nat} {a w : World} (h : Only B a w) (n : Nat) : Only B a (w.drewN n) := ⟨h.os, h.tape, h.output, h.size, h.block⟩
theorem Only.setCell {B : Nat} {a w : World} (h : Only B a w) (o : Nat) (u : Value) : Only B a (w.setCell ⟨B, o, none⟩ u) :=
  h.trans ⟨rfl, rfl, rfl, by simp [World.setCell], fun k hk => Below.heap_setCell _ _ _ _ hk⟩
theorem Only.cell {B : Nat} {w w' : World} (h : Only B w w') {p : Addr} (hp : p.block ≠ B) : w'.cell? p = w.cell? p := World.cell?_of_block (w := w) (h.block p.block hp)
theorem Only.frozen {B : Nat} {w w' : World} (h : Only B w w') {p : Addr} (hp : p.block ≠ B) : w'.frozen? p = w.frozen? p := World.frozen?_of_block (w := w) (h.block p.block hp)
theorem Only.below {B : Nat} {w w' : World} (h : Only B w w') {n : Nat} (hn : n ≤ B) : Below n w w' :=
  ⟨h.os, h.tape, h.output, Nat.le_of_eq h.size.symm, fun k hk => h.block k (by omega)⟩

theorem DecAt.drewN {w : World} {B : Nat} {x : Dec} (h : DecAt w B x) (n : Nat) : DecAt (w.drewN n) B x := ⟨h.d, h.n, h.p, h.s, h.t, h.f⟩
theorem DecAt.drew {w : World} {B : Nat} {x : Dec} (h : DecAt w B x) : DecAt w.drew B x := ⟨h.d, h.n, h.p, h.s, h.t, h.f⟩
theorem off_ne {B i j : Nat} (h : i ≠ j) : (⟨B, i, none⟩ : Addr) ≠ ⟨B, j, none⟩ := by
  intro e; exact h (Addr.mk.inj e).2.1
theorem cell_far {w : World} {B i j : Nat} {v : Value} (h : i ≠ j) : (w.setCell ⟨B, i, none⟩ v).cell? ⟨B, j, none⟩ = w.cell? ⟨B, j, none⟩ :=
  World.cell?_setCell_other _ _ _ _ (off_ne h)
theorem cell_here {w : World} {B i : Nat} {u v : Value} (h : w.cell? ⟨B, i, none⟩ = some u) : (w.setCell ⟨B, i, none⟩ v).cell? ⟨B, i, none⟩ = some v :=
  World.cell?_setCell_same _ _ _ h
theorem DecAt.setN {w : World} {B : Nat} {x : Dec} (h : DecAt w B x) (n : Nat) : DecAt (w.setCell ⟨B, 800, none⟩ (.int .i64 n)) B { x with nd := n } :=
  ⟨fun i hi => by rw [cell_far (by omega)]; exact h.d i hi, cell_here h.n,
    by rw [cell_far (by omega)]; exact h.p, by rw [cell_far (by omega)]; exact h.s,
    by rw [cell_far (by omega)]; exact h.t, fun i => by rw [World.frozen?_setCell]; exact h.f i⟩
theorem DecAt.setP {w : World} {B : Nat} {x : Dec} (h : DecAt w B x) (n : Int) : DecAt (w.setCell ⟨B, 801, none⟩ (.int .i64 n)) B { x with dp := n } :=
  ⟨fun i hi => by rw [cell_far (by omega)]; exact h.d i hi, by rw [cell_far (by omega)]; exact h.n,
    cell_here h.p, by rw [cell_far (by omega)]; exact h.s,
    by rw [cell_far (by omega)]; exact h.t, fun i => by rw [World.frozen?_setCell]; exact h.f i⟩
theorem DecAt.setS {w : World} {B : Nat} {x : Dec} (h : DecAt w B x) (b : Bool) : DecAt (w.setCell ⟨B, 802, none⟩ (.bool b)) B { x with neg := b } :=
  ⟨fun i hi => by rw [cell_far (by omega)]; exact h.d i hi, by rw [cell_far (by omega)]; exact h.n,
    by rw [cell_far (by omega)]; exact h.p, cell_here h.s,
    by rw [cell_far (by omega)]; exact h.t, fun i => by rw [World.frozen?_setCell]; exact h.f i⟩
theorem DecAt.setT {w : World} {B : Nat} {x : Dec} (h : DecAt w B x) (b : Bool) : DecAt (w.setCell ⟨B, 803, none⟩ (.bool b)) B { x with trunc := b } :=
  ⟨fun i hi => by rw [cell_far (by omega)]; exact h.d i hi, by rw [cell_far (by omega)]; exact h.n,
    by rw [cell_far (by omega)]; exact h.p, by rw [cell_far (by omega)]; exact h.s,
    cell_here h.t, fun i => by rw [World.frozen?_setCell]; exact h.f i⟩
/-- One digit written. -/
def dput (dg : Nat → Nat) (j v : Nat) : Nat → Nat := fun i => if i = j then v else dg i
theorem DecAt.setD {w : World} {B : Nat} {x : Dec} (h : DecAt w B x) (j v : Nat) (hj : j < 800) : DecAt (w.setCell ⟨B, j, none⟩ (.int .u8 v)) B { x with dg := dput x.dg j v } :=
  ⟨fun i hi => by
      by_cases e : i = j
      · subst e; simp only [dput, if_pos]; exact cell_here (h.d i hi)
      · simp only [dput, if_neg e]; rw [cell_far (by omega)]; exact h.d i hi,
    by rw [cell_far (by omega)]; exact h.n,
    by rw [cell_far (by omega)]; exact h.p, by rw [cell_far (by omega)]; exact h.s,
    by rw [cell_far (by omega)]; exact h.t, fun i => by rw [World.frozen?_setCell]; exact h.f i⟩
end Go.Proofs.YtnggkkdcddpjlaaGreatDoor
