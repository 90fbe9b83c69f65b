/- What is appended to a slice of bytes of the call's own: one step; what stays. -/
import Derived.Test.YtnggkkdcddpjlaaGreatDoorTab
import Derived.Lib.OthersKept
import Derived.Laws.AppendOwn
namespace Go.Proofs.YtnggkkdcddpjlaaGreatDoor
set_option linter.unusedVariables false
set_option linter.unusedSimpArgs false
open Go.RowKit
def ub (b : UInt8) : Value := .int .u8 (b.toNat : Int)
/-- What has been appended since w0. -/
structure Out (B : Nat) (w0 w : World) (v : Value) (xs : List UInt8) : Prop where
  own : w.ownsRow B 5 1 v xs.length (xs.map ub)
  bel : Below B w0 w
  oth : Lib.OthersKept 5 none w0 w
  base : B ≤ w0.heap.size
  le : w0.heap.size ≤ w.heap.size
theorem own_kind {w : World} {B : Nat} {v : Value} {n : Nat} {xs : List Value} (h : w.ownsRow B 5 1 v n xs) : ∀ g, v.ownBlock = some g → B ≤ g ∧ ∃ c fz, w.heap[g]? = some (.cells c 5 fz) := by
  intro g hg
  rcases h.2 with ⟨rfl, _⟩ | ⟨g', cap, cur, rfl, hb, hgg, _⟩
  · simp [Value.ownBlock] at hg
  · simp [Value.ownBlock] at hg
    subst hg
    exact ⟨hb, cur, _, hgg⟩
theorem Out.drewN {B : Nat} {w0 w : World} {v : Value} {xs : List UInt8} (h : Out B w0 w v xs) (n : Nat) : Out B w0 (w.drewN n) v xs :=
  ⟨h.own, ⟨h.bel.os, h.bel.tape, h.bel.output, h.bel.size, h.bel.block⟩, h.oth, h.base, h.le⟩
theorem info5 : (Tryz.prog.info? 5).map (fun i => (i.zero, i.size, i.bytes)) = some (some (.int .u8 0), 1, 1) := by kernel_rfl
theorem put1 {ops : Array Oper} {rest : List Oper} {o : Oper} {a : Act} {Q : Exit → Act → World → Prop} (hgd : o.guard = none) (s x : Operand)
    (ho : o.op = .call { callee := .builtin .append, args := #[s, x], argTypes := #[81, 81] })
    (B : Nat) (w0 w : World) (v : Value) (xs : List UInt8) (c : UInt8) (hs : a.eval s = v) (hO : Out B w0 w v xs) (hx : a.eval x = .slice (some ⟨w.heap.size, 0, none⟩) 1 1)
    (hlen : xs.length ≤ 100000)
    (h : ∀ v' w', Out B w0 w' v' (xs ++ [c]) → wpList Tryz.prog ops Q rest (a.put o.dst v') w') : wpList Tryz.prog ops Q (o :: rest) a (w.alloc (.cells #[ub c] 5)) := by
  obtain ⟨i0, hi, hz0, hz1, hz2⟩ := info_parts info5
  refine wpList_append_own _ hgd s x 81 ho B 5 i0 (.int .u8 0) 1 1 Tryz.underlying81 hi hz0 hz1 hz2 rfl (by decide) v xs.length (xs.map ub) hs (hO.own.alloc _) ⟨w.heap.size, 0, none⟩ 1 1 [ub c] hx rfl ?_ ?_ ?_ ?_ ?_ ?_
  · intro j u hj
    match j, hj with
    | 0, hj => simp at hj; subst hj; simp [Addr.add]
  · intro u hu; simp at hu; subst hu; rfl
  · unfold maxLen; omega
  · omega
  · have := hO.base; have := hO.le; simp; omega
  · intro v' w' hown hgrow _
    refine h v' w' ⟨?_, ?_, ?_, hO.base, ?_⟩
    · rw [List.map_append, List.length_append]; exact hown
    · exact (hO.bel.alloc (by have := hO.base; have := hO.le; omega) _).grown hgrow (by have := hO.base; have := hO.le; simp; omega) (fun k hk => (own_kind (hO.own.alloc (.cells #[ub c] 5)) k hk).1)
    · exact (hO.oth.alloc _).grown hgrow (fun g hg => (own_kind (hO.own.alloc (.cells #[ub c] 5)) g hg).2)
    · have := hgrow.size; have := hO.le; simp at *; omega
theorem Out.block {B : Nat} {w0 w : World} {v : Value} {xs : List UInt8} (h : Out B w0 w v xs) {bb : Nat} {C : Array Value} {T : TypeId} {fz : Nat × Nat} (hb : w0.heap[bb]? = some (.cells C T fz)) (hT : T ≠ 5) :
    w.heap[bb]? = some (.cells C T fz) :=
  h.oth bb _ hb (by simp) (by intro c f e; cases e; exact hT rfl)
theorem Out.cell {B : Nat} {w0 w : World} {v : Value} {xs : List UInt8} (h : Out B w0 w v xs) {bb : Nat} {C : Array Value} {T : TypeId} {fz : Nat × Nat} (hb : w0.heap[bb]? = some (.cells C T fz)) (hT : T ≠ 5) (i : Nat) :
    w.cell? ⟨bb, i, none⟩ = w0.cell? ⟨bb, i, none⟩ := by
  apply World.cell?_of_block
  rw [h.block hb hT, hb]
end Go.Proofs.YtnggkkdcddpjlaaGreatDoor
