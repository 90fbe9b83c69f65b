/- Base: type assertions at plain dynamic types. -/
import Derived.Test.YtnggkkdcddpjlaaGreatDoorProg
import Derived.WalkKit
import Derived.WalkLawsBesides
import Derived.WalkSpells
import Derived.Laws.FloatArith
import Derived.KernelRfl
import Derived.Deep.QuietTactic
import Derived.BigQuiet
import Derived.Deep.Draws
import Derived.RegionTactic
import Derived.Lib.Hide
import Derived.LaidEql
namespace Go.Proofs.YtnggkkdcddpjlaaGreatDoor
open Go.RowKit
theorem run_ta {P : Program} (T : TypeId) (z : Value) (d : TypeDesc) (hu : P.underlying T = some d) (hd : ∀ ms, d ≠ .interface ms) (hz : ∀ w, (zeroValue T).run P w = .ok z w) (t : TypeId) (v : Value) (w : World) :
    (Instr.typeAssert (.iface t v) 20 T true).run P w = .ok (.tuple (if t = T then #[v, .bool true] else #[z, .bool false])) w := by
  by_cases h : t = T
  · cases d <;> first | exact absurd rfl (hd _) | simp [Instr.typeAssert, run_underlying hu, h]
  · cases d <;> first | exact absurd rfl (hd _) | simp [Instr.typeAssert, run_underlying hu, h, hz]
theorem run_ta_nil {P : Program} (T : TypeId) (z : Value) (d : TypeDesc) (hu : P.underlying T = some d) (hd : ∀ ms, d ≠ .interface ms) (hz : ∀ w, (zeroValue T).run P w = .ok z w) (w : World) :
    (Instr.typeAssert .nilIface 20 T true).run P w = .ok (.tuple #[z, .bool false]) w := by
  cases d <;> first | exact absurd rfl (hd _) | simp [Instr.typeAssert, run_underlying hu, hz]
@[go_sem] theorem ta_2 (t : TypeId) (v : Value) (w : World) : (Instr.typeAssert (.iface t v) 20 2 true).run Tryz.prog w = .ok (.tuple (if t = 2 then #[v, .bool true] else #[.int .i64 0, .bool false])) w :=
  run_ta 2 (.int .i64 0) _ Tryz.underlying2 (fun _ h => by cases h) (fun _ => by kernel_rfl) t v w
@[go_sem] theorem tan_2 (w : World) : (Instr.typeAssert .nilIface 20 2 true).run Tryz.prog w = .ok (.tuple #[.int .i64 0, .bool false]) w :=
  run_ta_nil 2 (.int .i64 0) _ Tryz.underlying2 (fun _ h => by cases h) (fun _ => by kernel_rfl) w
@[go_sem] theorem ta_3 (t : TypeId) (v : Value) (w : World) : (Instr.typeAssert (.iface t v) 20 3 true).run Tryz.prog w = .ok (.tuple (if t = 3 then #[v, .bool true] else #[.int .i64 0, .bool false])) w :=
  run_ta 3 (.int .i64 0) _ Tryz.underlying3 (fun _ h => by cases h) (fun _ => by kernel_rfl) t v w
@[go_sem] theorem tan_3 (w : World) : (Instr.typeAssert .nilIface 20 3 true).run Tryz.prog w = .ok (.tuple #[.int .i64 0, .bool false]) w :=
  run_ta_nil 3 (.int .i64 0) _ Tryz.underlying3 (fun _ h => by cases h) (fun _ => by kernel_rfl) w
@[go_sem] theorem ta_4 (t : TypeId) (v : Value) (w : World) : (Instr.typeAssert (.iface t v) 20 4 true).run Tryz.prog w = .ok (.tuple (if t = 4 then #[v, .bool true] else #[.bool false, .bool false])) w :=
  run_ta 4 (.bool false) _ Tryz.underlying4 (fun _ h => by cases h) (fun _ => by kernel_rfl) t v w
@[go_sem] theorem tan_4 (w : World) : (Instr.typeAssert .nilIface 20 4 true).run Tryz.prog w = .ok (.tuple #[.bool false, .bool false]) w :=
  run_ta_nil 4 (.bool false) _ Tryz.underlying4 (fun _ h => by cases h) (fun _ => by kernel_rfl) w
@[go_sem] theorem ta_5 (t : TypeId) (v : Value) (w : World) : (Instr.typeAssert (.iface t v) 20 5 true).run Tryz.prog w = .ok (.tuple (if t = 5 then #[v, .bool true] else #[.int .u8 0, .bool false])) w :=
  run_ta 5 (.int .u8 0) _ Tryz.underlying5 (fun _ h => by cases h) (fun _ => by kernel_rfl) t v w
@[go_sem] theorem tan_5 (w : World) : (Instr.typeAssert .nilIface 20 5 true).run Tryz.prog w = .ok (.tuple #[.int .u8 0, .bool false]) w :=
  run_ta_nil 5 (.int .u8 0) _ Tryz.underlying5 (fun _ h => by cases h) (fun _ => by kernel_rfl) w
@[go_sem] theorem ta_9 (t : TypeId) (v : Value) (w : World) : (Instr.typeAssert (.iface t v) 20 9 true).run Tryz.prog w = .ok (.tuple (if t = 9 then #[v, .bool true] else #[.string ByteArray.empty, .bool false])) w :=
  run_ta 9 (.string ByteArray.empty) _ Tryz.underlying9 (fun _ h => by cases h) (fun _ => by kernel_rfl) t v w
@[go_sem] theorem tan_9 (w : World) : (Instr.typeAssert .nilIface 20 9 true).run Tryz.prog w = .ok (.tuple #[.string ByteArray.empty, .bool false]) w :=
  run_ta_nil 9 (.string ByteArray.empty) _ Tryz.underlying9 (fun _ h => by cases h) (fun _ => by kernel_rfl) w
@[go_sem] theorem ta_21 (t : TypeId) (v : Value) (w : World) : (Instr.typeAssert (.iface t v) 20 21 true).run Tryz.prog w = .ok (.tuple (if t = 21 then #[v, .bool true] else #[.int .i32 0, .bool false])) w :=
  run_ta 21 (.int .i32 0) _ Tryz.underlying21 (fun _ h => by cases h) (fun _ => by kernel_rfl) t v w
@[go_sem] theorem tan_21 (w : World) : (Instr.typeAssert .nilIface 20 21 true).run Tryz.prog w = .ok (.tuple #[.int .i32 0, .bool false]) w :=
  run_ta_nil 21 (.int .i32 0) _ Tryz.underlying21 (fun _ h => by cases h) (fun _ => by kernel_rfl) w
@[go_sem] theorem ta_22 (t : TypeId) (v : Value) (w : World) : (Instr.typeAssert (.iface t v) 20 22 true).run Tryz.prog w = .ok (.tuple (if t = 22 then #[v, .bool true] else #[.int .u64 0, .bool false])) w :=
  run_ta 22 (.int .u64 0) _ Tryz.underlying22 (fun _ h => by cases h) (fun _ => by kernel_rfl) t v w
@[go_sem] theorem tan_22 (w : World) : (Instr.typeAssert .nilIface 20 22 true).run Tryz.prog w = .ok (.tuple #[.int .u64 0, .bool false]) w :=
  run_ta_nil 22 (.int .u64 0) _ Tryz.underlying22 (fun _ h => by cases h) (fun _ => by kernel_rfl) w
@[go_sem] theorem ta_23 (t : TypeId) (v : Value) (w : World) : (Instr.typeAssert (.iface t v) 20 23 true).run Tryz.prog w = .ok (.tuple (if t = 23 then #[v, .bool true] else #[.float .f64 0, .bool false])) w :=
  run_ta 23 (.float .f64 0) _ Tryz.underlying23 (fun _ h => by cases h) (fun _ => by kernel_rfl) t v w
@[go_sem] theorem tan_23 (w : World) : (Instr.typeAssert .nilIface 20 23 true).run Tryz.prog w = .ok (.tuple #[.float .f64 0, .bool false]) w :=
  run_ta_nil 23 (.float .f64 0) _ Tryz.underlying23 (fun _ h => by cases h) (fun _ => by kernel_rfl) w
@[go_sem] theorem ta_58 (t : TypeId) (v : Value) (w : World) : (Instr.typeAssert (.iface t v) 20 58 true).run Tryz.prog w = .ok (.tuple (if t = 58 then #[v, .bool true] else #[.int .u64 0, .bool false])) w :=
  run_ta 58 (.int .u64 0) _ Tryz.underlying58 (fun _ h => by cases h) (fun _ => by kernel_rfl) t v w
@[go_sem] theorem tan_58 (w : World) : (Instr.typeAssert .nilIface 20 58 true).run Tryz.prog w = .ok (.tuple #[.int .u64 0, .bool false]) w :=
  run_ta_nil 58 (.int .u64 0) _ Tryz.underlying58 (fun _ h => by cases h) (fun _ => by kernel_rfl) w
@[go_sem] theorem ta_73 (t : TypeId) (v : Value) (w : World) : (Instr.typeAssert (.iface t v) 20 73 true).run Tryz.prog w = .ok (.tuple (if t = 73 then #[v, .bool true] else #[.int .i8 0, .bool false])) w :=
  run_ta 73 (.int .i8 0) _ Tryz.underlying73 (fun _ h => by cases h) (fun _ => by kernel_rfl) t v w
@[go_sem] theorem tan_73 (w : World) : (Instr.typeAssert .nilIface 20 73 true).run Tryz.prog w = .ok (.tuple #[.int .i8 0, .bool false]) w :=
  run_ta_nil 73 (.int .i8 0) _ Tryz.underlying73 (fun _ h => by cases h) (fun _ => by kernel_rfl) w
@[go_sem] theorem ta_74 (t : TypeId) (v : Value) (w : World) : (Instr.typeAssert (.iface t v) 20 74 true).run Tryz.prog w = .ok (.tuple (if t = 74 then #[v, .bool true] else #[.int .i16 0, .bool false])) w :=
  run_ta 74 (.int .i16 0) _ Tryz.underlying74 (fun _ h => by cases h) (fun _ => by kernel_rfl) t v w
@[go_sem] theorem tan_74 (w : World) : (Instr.typeAssert .nilIface 20 74 true).run Tryz.prog w = .ok (.tuple #[.int .i16 0, .bool false]) w :=
  run_ta_nil 74 (.int .i16 0) _ Tryz.underlying74 (fun _ h => by cases h) (fun _ => by kernel_rfl) w
@[go_sem] theorem ta_75 (t : TypeId) (v : Value) (w : World) : (Instr.typeAssert (.iface t v) 20 75 true).run Tryz.prog w = .ok (.tuple (if t = 75 then #[v, .bool true] else #[.int .u16 0, .bool false])) w :=
  run_ta 75 (.int .u16 0) _ Tryz.underlying75 (fun _ h => by cases h) (fun _ => by kernel_rfl) t v w
@[go_sem] theorem tan_75 (w : World) : (Instr.typeAssert .nilIface 20 75 true).run Tryz.prog w = .ok (.tuple #[.int .u16 0, .bool false]) w :=
  run_ta_nil 75 (.int .u16 0) _ Tryz.underlying75 (fun _ h => by cases h) (fun _ => by kernel_rfl) w
@[go_sem] theorem ta_76 (t : TypeId) (v : Value) (w : World) : (Instr.typeAssert (.iface t v) 20 76 true).run Tryz.prog w = .ok (.tuple (if t = 76 then #[v, .bool true] else #[.int .u32 0, .bool false])) w :=
  run_ta 76 (.int .u32 0) _ Tryz.underlying76 (fun _ h => by cases h) (fun _ => by kernel_rfl) t v w
@[go_sem] theorem tan_76 (w : World) : (Instr.typeAssert .nilIface 20 76 true).run Tryz.prog w = .ok (.tuple #[.int .u32 0, .bool false]) w :=
  run_ta_nil 76 (.int .u32 0) _ Tryz.underlying76 (fun _ h => by cases h) (fun _ => by kernel_rfl) w
@[go_sem] theorem ta_77 (t : TypeId) (v : Value) (w : World) : (Instr.typeAssert (.iface t v) 20 77 true).run Tryz.prog w = .ok (.tuple (if t = 77 then #[v, .bool true] else #[.float .f32 0, .bool false])) w :=
  run_ta 77 (.float .f32 0) _ Tryz.underlying77 (fun _ h => by cases h) (fun _ => by kernel_rfl) t v w
@[go_sem] theorem tan_77 (w : World) : (Instr.typeAssert .nilIface 20 77 true).run Tryz.prog w = .ok (.tuple #[.float .f32 0, .bool false]) w :=
  run_ta_nil 77 (.float .f32 0) _ Tryz.underlying77 (fun _ h => by cases h) (fun _ => by kernel_rfl) w
@[go_sem] theorem ta_78 (t : TypeId) (v : Value) (w : World) : (Instr.typeAssert (.iface t v) 20 78 true).run Tryz.prog w = .ok (.tuple (if t = 78 then #[v, .bool true] else #[.int .i64 0, .bool false])) w :=
  run_ta 78 (.int .i64 0) _ Tryz.underlying78 (fun _ h => by cases h) (fun _ => by kernel_rfl) t v w
@[go_sem] theorem tan_78 (w : World) : (Instr.typeAssert .nilIface 20 78 true).run Tryz.prog w = .ok (.tuple #[.int .i64 0, .bool false]) w :=
  run_ta_nil 78 (.int .i64 0) _ Tryz.underlying78 (fun _ h => by cases h) (fun _ => by kernel_rfl) w
@[go_sem] theorem ta_81 (t : TypeId) (v : Value) (w : World) : (Instr.typeAssert (.iface t v) 20 81 true).run Tryz.prog w = .ok (.tuple (if t = 81 then #[v, .bool true] else #[.slice none 0 0, .bool false])) w :=
  run_ta 81 (.slice none 0 0) _ Tryz.underlying81 (fun _ h => by cases h) (fun _ => by kernel_rfl) t v w
@[go_sem] theorem tan_81 (w : World) : (Instr.typeAssert .nilIface 20 81 true).run Tryz.prog w = .ok (.tuple #[.slice none 0 0, .bool false]) w :=
  run_ta_nil 81 (.slice none 0 0) _ Tryz.underlying81 (fun _ h => by cases h) (fun _ => by kernel_rfl) w
@[go_sem] theorem ta_101 (t : TypeId) (v : Value) (w : World) : (Instr.typeAssert (.iface t v) 20 101 true).run Tryz.prog w = .ok (.tuple (if t = 101 then #[v, .bool true] else #[.pointer none, .bool false])) w :=
  run_ta 101 (.pointer none) _ Tryz.underlying101 (fun _ h => by cases h) (fun _ => by kernel_rfl) t v w
@[go_sem] theorem tan_101 (w : World) : (Instr.typeAssert .nilIface 20 101 true).run Tryz.prog w = .ok (.tuple #[.pointer none, .bool false]) w :=
  run_ta_nil 101 (.pointer none) _ Tryz.underlying101 (fun _ h => by cases h) (fun _ => by kernel_rfl) w
@[go_sem] theorem ta_102 (t : TypeId) (v : Value) (w : World) : (Instr.typeAssert (.iface t v) 20 102 true).run Tryz.prog w = .ok (.tuple (if t = 102 then #[v, .bool true] else #[.pointer none, .bool false])) w :=
  run_ta 102 (.pointer none) _ Tryz.underlying102 (fun _ h => by cases h) (fun _ => by kernel_rfl) t v w
@[go_sem] theorem tan_102 (w : World) : (Instr.typeAssert .nilIface 20 102 true).run Tryz.prog w = .ok (.tuple #[.pointer none, .bool false]) w :=
  run_ta_nil 102 (.pointer none) _ Tryz.underlying102 (fun _ h => by cases h) (fun _ => by kernel_rfl) w
@[go_sem] theorem ta_176 (t : TypeId) (v : Value) (w : World) : (Instr.typeAssert (.iface t v) 20 176 true).run Tryz.prog w = .ok (.tuple (if t = 176 then #[v, .bool true] else #[.int .i64 0, .bool false])) w :=
  run_ta 176 (.int .i64 0) _ Tryz.underlying176 (fun _ h => by cases h) (fun _ => by kernel_rfl) t v w
@[go_sem] theorem tan_176 (w : World) : (Instr.typeAssert .nilIface 20 176 true).run Tryz.prog w = .ok (.tuple #[.int .i64 0, .bool false]) w :=
  run_ta_nil 176 (.int .i64 0) _ Tryz.underlying176 (fun _ h => by cases h) (fun _ => by kernel_rfl) w
@[go_sem] theorem ta_177 (t : TypeId) (v : Value) (w : World) : (Instr.typeAssert (.iface t v) 20 177 true).run Tryz.prog w = .ok (.tuple (if t = 177 then #[v, .bool true] else #[.int .i64 0, .bool false])) w :=
  run_ta 177 (.int .i64 0) _ Tryz.underlying177 (fun _ h => by cases h) (fun _ => by kernel_rfl) t v w
@[go_sem] theorem tan_177 (w : World) : (Instr.typeAssert .nilIface 20 177 true).run Tryz.prog w = .ok (.tuple #[.int .i64 0, .bool false]) w :=
  run_ta_nil 177 (.int .i64 0) _ Tryz.underlying177 (fun _ h => by cases h) (fun _ => by kernel_rfl) w
theorem indirect_any (t : TypeId) (v : Value) (h1 : (t = 101) = False) (h2 : (t = 102) = False) (w : World) : Calls Tryz.prog 45 #[.iface t v] w fun e w' => e = .returned (.tuple #[.iface t v, .bool false]) ∧ w = w' := by
  go_enter Tryz.func45, Tryz.ntmps45
  go_wp2
  go_ret2
  exact ⟨rfl, rfl⟩
theorem indirect_nil (w : World) : Calls Tryz.prog 45 #[.nilIface] w fun e w' => e = .returned (.tuple #[.nilIface, .bool false]) ∧ w = w' := by
  go_enter Tryz.func45, Tryz.ntmps45
  go_wp2
  go_ret2
  exact ⟨rfl, rfl⟩
end Go.Proofs.YtnggkkdcddpjlaaGreatDoor
