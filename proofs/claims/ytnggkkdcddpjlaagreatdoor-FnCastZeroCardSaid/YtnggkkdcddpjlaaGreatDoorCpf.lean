/- cast.parseFloat at float64: what it answers. -/
import Derived.Test.YtnggkkdcddpjlaaGreatDoorPz
namespace Go.Proofs.YtnggkkdcddpjlaaGreatDoor
set_option linter.unusedVariables false
set_option linter.unusedSimpArgs false
open Go.RowKit
theorem run_tb {P : Program} (T : TypeId) (d : TypeDesc) (hu : P.underlying T = some d) (hd : ∀ ms, d ≠ .interface ms) (v : Value) (w : World) :
    (Instr.typeAssert (.iface T v) 20 T false).run P w = .ok v w := by
  cases d <;> first | exact absurd rfl (hd _) | simp [Instr.typeAssert, run_underlying hu]
@[go_sem] theorem tb_23 (v : Value) (w : World) : (Instr.typeAssert (.iface 23 v) 20 23 false).run Tryz.prog w = .ok v w :=
  run_tb 23 _ Tryz.underlying23 (fun _ h => by cases h) v w
set_option maxHeartbeats 2000000 in
set_option maxRecDepth 100000 in
theorem cpf_calls (f : Nat) (s : ByteArray) (x : Nat) (bad : Bool) (w : World) (hw : Tabs w) (h2w : Two w) (hs : s.size ≤ 1000) (h : spfF f s = some (x, bad)) :
    Calls Tryz.prog 70 #[.string s] w fun e w' => ∃ ev, e = .returned (.tuple #[.float .f64 x, ev]) ∧ ErrIs bad ev ∧ Below w.heap.size w w' := by
  have A := spf_calls f s x bad w hw h2w hs h
  clear h
  go_enter Tryz.func70, Tryz.ntmps70
  go_wp2_with (go_at_call 93; refine A.mono ?_; rintro e w' ⟨ev, rfl, hev, hb⟩)
  go_ret2
  exact ⟨_, rfl, hev, hb⟩
end Go.Proofs.YtnggkkdcddpjlaaGreatDoor
