/- The calls that the model answers in place: floats to bits and back. -/
import Derived.Test.YtnggkkdcddpjlaaGreatDoorBase
import Derived.Laws.Externs
import Derived.LaidEql
namespace Go.Proofs.YtnggkkdcddpjlaaGreatDoor
set_option linter.unusedVariables false
set_option linter.unusedSimpArgs false
open Go.RowKit
@[go_sem] theorem x193 (n : Int) (w : World) : (callFunc 193 #[.int .u64 n]).run Tryz.prog w = .ok (.value (.float .f64 n.toNat)) w := by
  rw [run_callFunc_extern (P := Tryz.prog) (fn := Tryz.f193) (e := Extern.MathFloatBits.float64frombits) Tryz.func193 (by kernel_rfl) (by kernel_rfl) (by kernel_rfl) (by kernel_rfl)]; rfl
@[go_sem] theorem x187 (n : Int) (w : World) : (callFunc 187 #[.int .u32 n]).run Tryz.prog w = .ok (.value (.float .f32 n.toNat)) w := by
  rw [run_callFunc_extern (P := Tryz.prog) (fn := Tryz.f187) (e := Extern.MathFloatBits.float32frombits) Tryz.func187 (by kernel_rfl) (by kernel_rfl) (by kernel_rfl) (by kernel_rfl)]; rfl
@[go_sem] theorem x34 (n : Nat) (w : World) : (callFunc 34 #[.float .f64 n]).run Tryz.prog w = .ok (.value (.int .u64 n)) w := by
  rw [run_callFunc_extern (P := Tryz.prog) (fn := Tryz.f34) (e := Extern.MathFloatBits.float64bits) Tryz.func34 (by kernel_rfl) (by kernel_rfl) (by kernel_rfl) (by kernel_rfl)]; rfl
@[go_sem] theorem x145 (n : Nat) (w : World) : (callFunc 145 #[.float .f64 n]).run Tryz.prog w = .ok (.value (.int .u64 n)) w := by
  rw [run_callFunc_extern (P := Tryz.prog) (fn := Tryz.f145) (e := Extern.MathFloatBits.float64bits) Tryz.func145 (by kernel_rfl) (by kernel_rfl) (by kernel_rfl) (by kernel_rfl)]; rfl
@[go_sem] theorem x144 (n : Nat) (w : World) : (callFunc 144 #[.float .f32 n]).run Tryz.prog w = .ok (.value (.int .u32 n)) w := by
  rw [run_callFunc_extern (P := Tryz.prog) (fn := Tryz.f144) (e := Extern.MathFloatBits.float32bits) Tryz.func144 (by kernel_rfl) (by kernel_rfl) (by kernel_rfl) (by kernel_rfl)]; rfl
/-- The two variables that tell float32 from float64 are two. -/
def Two (w : World) : Prop := ∃ ca cb ta tb, w.heap[5]? = some (.cells ca ta (0, 0)) ∧ w.heap[6]? = some (.cells cb tb (0, 0))
theorem Two.drewN {w : World} (h : Two w) (n : Nat) : Two (w.drewN n) := h
theorem run_eql_ptr_other {P : Program} (w : World) {tp te : TypeId} {a b : Addr} {ca cb : Array Value} {ta tb : TypeId}
    (hp : P.underlying tp = some (.pointer te)) (hte : (P.info? te).any (fun j => j.size != 0) = true)
    (hne : a ≠ b) (ha : w.heap[a.block]? = some (.cells ca ta (0, 0))) (hb : w.heap[b.block]? = some (.cells cb tb (0, 0))) :
    (binOp .eql tp (.pointer (some a)) (.pointer (some b))).run P w = .ok (.bool false) w := by
  cases hj : P.info? te with
  | none => simp [hj] at hte
  | some j =>
  have hsz : j.size ≠ 0 := by simpa [hj] using hte
  have h : ∀ d : Nat, (Op.equalIn (d + 1) tp (.pointer (some a)) (.pointer (some b))).run P w = .ok false w := fun d => by
    simp [Op.equalIn, run_underlying hp, typeInfo, sizeOf, hj, hsz, run_sameAddr_other w hne ha hb]
  simp only [binOp]
  simp [Op.equal, Op.maxDepth, h 9999]
theorem ptr65 (w : World) (h : Two w) : (binOp .eql 255 (.pointer (some ⟨6, 0, none⟩)) (.pointer (some ⟨5, 0, none⟩))).run Tryz.prog w = .ok (.bool false) w := by
  obtain ⟨ca, cb, ta, tb, h5, h6⟩ := h
  exact run_eql_ptr_other w Tryz.underlying255 (by kernel_rfl) (by decide) h6 h5
end Go.Proofs.YtnggkkdcddpjlaaGreatDoor
