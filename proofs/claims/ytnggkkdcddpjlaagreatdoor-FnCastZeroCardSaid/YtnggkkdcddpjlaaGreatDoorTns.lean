/- toNumber at each integer type, at each plain dynamic type: what it answers. -/
import Derived.Test.YtnggkkdcddpjlaaGreatDoorBase
namespace Go.Proofs.YtnggkkdcddpjlaaGreatDoor
open Go.RowKit
set_option maxHeartbeats 1000000 in
set_option maxRecDepth 100000 in
theorem tn_int_nil (w : World) : Calls Tryz.prog 86 #[.nilIface] w fun e w' => e = .returned (.tuple #[.int .i64 0, .bool true]) ∧ w = w' := by
  go_enter Tryz.func86, Tryz.ntmps86
  go_wp2_with (go_at_call 45; refine (indirect_nil _).mono ?_; rintro e w' ⟨rfl, rfl⟩)
  go_ret2
  exact ⟨rfl, rfl⟩
set_option maxHeartbeats 1000000 in
set_option maxRecDepth 100000 in
theorem tn_int_true (w : World) : Calls Tryz.prog 86 #[.iface 4 (.bool true)] w fun e w' => e = .returned (.tuple #[.int .i64 1, .bool true]) ∧ w = w' := by
  go_enter Tryz.func86, Tryz.ntmps86
  go_wp2_with (go_at_call 45; refine (indirect_any _ _ (by simp) (by simp) _).mono ?_; rintro e w' ⟨rfl, rfl⟩)
  go_ret2
  exact ⟨rfl, rfl⟩
set_option maxHeartbeats 1000000 in
set_option maxRecDepth 100000 in
theorem tn_int_false (w : World) : Calls Tryz.prog 86 #[.iface 4 (.bool false)] w fun e w' => e = .returned (.tuple #[.int .i64 0, .bool true]) ∧ w = w' := by
  go_enter Tryz.func86, Tryz.ntmps86
  go_wp2_with (go_at_call 45; refine (indirect_any _ _ (by simp) (by simp) _).mono ?_; rintro e w' ⟨rfl, rfl⟩)
  go_ret2
  exact ⟨rfl, rfl⟩
set_option maxHeartbeats 1000000 in
set_option maxRecDepth 100000 in
theorem tn_int_str (s : ByteArray) (w : World) : Calls Tryz.prog 86 #[.iface 9 (.string s)] w fun e w' => e = .returned (.tuple #[.int .i64 0, .bool false]) ∧ w = w' := by
  go_enter Tryz.func86, Tryz.ntmps86
  go_wp2_with (go_at_call 45; refine (indirect_any _ _ (by simp) (by simp) _).mono ?_; rintro e w' ⟨rfl, rfl⟩)
  go_ret2
  exact ⟨rfl, rfl⟩
set_option maxHeartbeats 1000000 in
set_option maxRecDepth 100000 in
theorem tn_int_int (n : Int) (w : World) : Calls Tryz.prog 86 #[.iface 3 (.int .i64 n)] w fun e w' => e = .returned (.tuple #[.int .i64 n, .bool true]) ∧ w = w' := by
  go_enter Tryz.func86, Tryz.ntmps86
  go_wp2_with (go_at_call 45; refine (indirect_any _ _ (by simp) (by simp) _).mono ?_; rintro e w' ⟨rfl, rfl⟩)
  go_ret2
  exact ⟨rfl, rfl⟩
set_option maxHeartbeats 1000000 in
set_option maxRecDepth 100000 in
theorem tn_int_i8 (n : Int) (w : World) : Calls Tryz.prog 86 #[.iface 73 (.int .i8 n)] w fun e w' => e = .returned (.tuple #[.int .i64 (wrap64 n), .bool true]) ∧ w = w' := by
  go_enter Tryz.func86, Tryz.ntmps86
  go_wp2_with (go_at_call 45; refine (indirect_any _ _ (by simp) (by simp) _).mono ?_; rintro e w' ⟨rfl, rfl⟩)
  go_ret2
  exact ⟨rfl, rfl⟩
set_option maxHeartbeats 1000000 in
set_option maxRecDepth 100000 in
theorem tn_int_i16 (n : Int) (w : World) : Calls Tryz.prog 86 #[.iface 74 (.int .i16 n)] w fun e w' => e = .returned (.tuple #[.int .i64 (wrap64 n), .bool true]) ∧ w = w' := by
  go_enter Tryz.func86, Tryz.ntmps86
  go_wp2_with (go_at_call 45; refine (indirect_any _ _ (by simp) (by simp) _).mono ?_; rintro e w' ⟨rfl, rfl⟩)
  go_ret2
  exact ⟨rfl, rfl⟩
set_option maxHeartbeats 1000000 in
set_option maxRecDepth 100000 in
theorem tn_int_i32 (n : Int) (w : World) : Calls Tryz.prog 86 #[.iface 21 (.int .i32 n)] w fun e w' => e = .returned (.tuple #[.int .i64 (wrap64 n), .bool true]) ∧ w = w' := by
  go_enter Tryz.func86, Tryz.ntmps86
  go_wp2_with (go_at_call 45; refine (indirect_any _ _ (by simp) (by simp) _).mono ?_; rintro e w' ⟨rfl, rfl⟩)
  go_ret2
  exact ⟨rfl, rfl⟩
set_option maxHeartbeats 1000000 in
set_option maxRecDepth 100000 in
theorem tn_int_i64 (n : Int) (w : World) : Calls Tryz.prog 86 #[.iface 2 (.int .i64 n)] w fun e w' => e = .returned (.tuple #[.int .i64 n, .bool true]) ∧ w = w' := by
  go_enter Tryz.func86, Tryz.ntmps86
  go_wp2_with (go_at_call 45; refine (indirect_any _ _ (by simp) (by simp) _).mono ?_; rintro e w' ⟨rfl, rfl⟩)
  go_ret2
  exact ⟨rfl, rfl⟩
set_option maxHeartbeats 1000000 in
set_option maxRecDepth 100000 in
theorem tn_int_uint (n : Int) (w : World) : Calls Tryz.prog 86 #[.iface 58 (.int .u64 n)] w fun e w' => e = .returned (.tuple #[.int .i64 (wrap64 n), .bool true]) ∧ w = w' := by
  go_enter Tryz.func86, Tryz.ntmps86
  go_wp2_with (go_at_call 45; refine (indirect_any _ _ (by simp) (by simp) _).mono ?_; rintro e w' ⟨rfl, rfl⟩)
  go_ret2
  exact ⟨rfl, rfl⟩
set_option maxHeartbeats 1000000 in
set_option maxRecDepth 100000 in
theorem tn_int_u8 (n : Int) (w : World) : Calls Tryz.prog 86 #[.iface 5 (.int .u8 n)] w fun e w' => e = .returned (.tuple #[.int .i64 (wrap64 n), .bool true]) ∧ w = w' := by
  go_enter Tryz.func86, Tryz.ntmps86
  go_wp2_with (go_at_call 45; refine (indirect_any _ _ (by simp) (by simp) _).mono ?_; rintro e w' ⟨rfl, rfl⟩)
  go_ret2
  exact ⟨rfl, rfl⟩
set_option maxHeartbeats 1000000 in
set_option maxRecDepth 100000 in
theorem tn_int_u16 (n : Int) (w : World) : Calls Tryz.prog 86 #[.iface 75 (.int .u16 n)] w fun e w' => e = .returned (.tuple #[.int .i64 (wrap64 n), .bool true]) ∧ w = w' := by
  go_enter Tryz.func86, Tryz.ntmps86
  go_wp2_with (go_at_call 45; refine (indirect_any _ _ (by simp) (by simp) _).mono ?_; rintro e w' ⟨rfl, rfl⟩)
  go_ret2
  exact ⟨rfl, rfl⟩
set_option maxHeartbeats 1000000 in
set_option maxRecDepth 100000 in
theorem tn_int_u32 (n : Int) (w : World) : Calls Tryz.prog 86 #[.iface 76 (.int .u32 n)] w fun e w' => e = .returned (.tuple #[.int .i64 (wrap64 n), .bool true]) ∧ w = w' := by
  go_enter Tryz.func86, Tryz.ntmps86
  go_wp2_with (go_at_call 45; refine (indirect_any _ _ (by simp) (by simp) _).mono ?_; rintro e w' ⟨rfl, rfl⟩)
  go_ret2
  exact ⟨rfl, rfl⟩
set_option maxHeartbeats 1000000 in
set_option maxRecDepth 100000 in
theorem tn_int_u64 (n : Int) (w : World) : Calls Tryz.prog 86 #[.iface 22 (.int .u64 n)] w fun e w' => e = .returned (.tuple #[.int .i64 (wrap64 n), .bool true]) ∧ w = w' := by
  go_enter Tryz.func86, Tryz.ntmps86
  go_wp2_with (go_at_call 45; refine (indirect_any _ _ (by simp) (by simp) _).mono ?_; rintro e w' ⟨rfl, rfl⟩)
  go_ret2
  exact ⟨rfl, rfl⟩
set_option maxHeartbeats 1000000 in
set_option maxRecDepth 100000 in
theorem tn_int_f32 (b : Nat) (x : Int) (h : floatToIntVal .f32 b .i64 = some x) (w : World) : Calls Tryz.prog 86 #[.iface 77 (.float .f32 b)] w fun e w' => e = .returned (.tuple #[.int .i64 x, .bool true]) ∧ w = w' := by
  have hc : ∀ w, (convert 77 3 (.float .f32 b)).run Tryz.prog w = .ok (.int .i64 x) w := fun w => run_convert_float_int w 77 3 .f32 .i64 b x (by kernel_rfl) Tryz.underlying3 h
  clear h
  go_enter Tryz.func86, Tryz.ntmps86
  go_wp2_with (go_at_call 45; refine (indirect_any _ _ (by simp) (by simp) _).mono ?_; rintro e w' ⟨rfl, rfl⟩)
  go_ret2
  exact ⟨rfl, rfl⟩
set_option maxHeartbeats 1000000 in
set_option maxRecDepth 100000 in
theorem tn_int_f64 (b : Nat) (x : Int) (h : floatToIntVal .f64 b .i64 = some x) (w : World) : Calls Tryz.prog 86 #[.iface 23 (.float .f64 b)] w fun e w' => e = .returned (.tuple #[.int .i64 x, .bool true]) ∧ w = w' := by
  have hc : ∀ w, (convert 23 3 (.float .f64 b)).run Tryz.prog w = .ok (.int .i64 x) w := fun w => run_convert_float_int w 23 3 .f64 .i64 b x (by kernel_rfl) Tryz.underlying3 h
  clear h
  go_enter Tryz.func86, Tryz.ntmps86
  go_wp2_with (go_at_call 45; refine (indirect_any _ _ (by simp) (by simp) _).mono ?_; rintro e w' ⟨rfl, rfl⟩)
  go_ret2
  exact ⟨rfl, rfl⟩
set_option maxHeartbeats 1000000 in
set_option maxRecDepth 100000 in
theorem tn_i8_nil (w : World) : Calls Tryz.prog 131 #[.nilIface] w fun e w' => e = .returned (.tuple #[.int .i8 0, .bool true]) ∧ w = w' := by
  go_enter Tryz.func131, Tryz.ntmps131
  go_wp2_with (go_at_call 45; refine (indirect_nil _).mono ?_; rintro e w' ⟨rfl, rfl⟩)
  go_ret2
  exact ⟨rfl, rfl⟩
set_option maxHeartbeats 1000000 in
set_option maxRecDepth 100000 in
theorem tn_i8_true (w : World) : Calls Tryz.prog 131 #[.iface 4 (.bool true)] w fun e w' => e = .returned (.tuple #[.int .i8 1, .bool true]) ∧ w = w' := by
  go_enter Tryz.func131, Tryz.ntmps131
  go_wp2_with (go_at_call 45; refine (indirect_any _ _ (by simp) (by simp) _).mono ?_; rintro e w' ⟨rfl, rfl⟩)
  go_ret2
  exact ⟨rfl, rfl⟩
set_option maxHeartbeats 1000000 in
set_option maxRecDepth 100000 in
theorem tn_i8_false (w : World) : Calls Tryz.prog 131 #[.iface 4 (.bool false)] w fun e w' => e = .returned (.tuple #[.int .i8 0, .bool true]) ∧ w = w' := by
  go_enter Tryz.func131, Tryz.ntmps131
  go_wp2_with (go_at_call 45; refine (indirect_any _ _ (by simp) (by simp) _).mono ?_; rintro e w' ⟨rfl, rfl⟩)
  go_ret2
  exact ⟨rfl, rfl⟩
set_option maxHeartbeats 1000000 in
set_option maxRecDepth 100000 in
theorem tn_i8_str (s : ByteArray) (w : World) : Calls Tryz.prog 131 #[.iface 9 (.string s)] w fun e w' => e = .returned (.tuple #[.int .i8 0, .bool false]) ∧ w = w' := by
  go_enter Tryz.func131, Tryz.ntmps131
  go_wp2_with (go_at_call 45; refine (indirect_any _ _ (by simp) (by simp) _).mono ?_; rintro e w' ⟨rfl, rfl⟩)
  go_ret2
  exact ⟨rfl, rfl⟩
set_option maxHeartbeats 1000000 in
set_option maxRecDepth 100000 in
theorem tn_i8_int (n : Int) (w : World) : Calls Tryz.prog 131 #[.iface 3 (.int .i64 n)] w fun e w' => e = .returned (.tuple #[.int .i8 (IntKind.i8.wrap n), .bool true]) ∧ w = w' := by
  go_enter Tryz.func131, Tryz.ntmps131
  go_wp2_with (go_at_call 45; refine (indirect_any _ _ (by simp) (by simp) _).mono ?_; rintro e w' ⟨rfl, rfl⟩)
  go_ret2
  exact ⟨rfl, rfl⟩
set_option maxHeartbeats 1000000 in
set_option maxRecDepth 100000 in
theorem tn_i8_i8 (n : Int) (w : World) : Calls Tryz.prog 131 #[.iface 73 (.int .i8 n)] w fun e w' => e = .returned (.tuple #[.int .i8 n, .bool true]) ∧ w = w' := by
  go_enter Tryz.func131, Tryz.ntmps131
  go_wp2_with (go_at_call 45; refine (indirect_any _ _ (by simp) (by simp) _).mono ?_; rintro e w' ⟨rfl, rfl⟩)
  go_ret2
  exact ⟨rfl, rfl⟩
set_option maxHeartbeats 1000000 in
set_option maxRecDepth 100000 in
theorem tn_i8_i16 (n : Int) (w : World) : Calls Tryz.prog 131 #[.iface 74 (.int .i16 n)] w fun e w' => e = .returned (.tuple #[.int .i8 (IntKind.i8.wrap n), .bool true]) ∧ w = w' := by
  go_enter Tryz.func131, Tryz.ntmps131
  go_wp2_with (go_at_call 45; refine (indirect_any _ _ (by simp) (by simp) _).mono ?_; rintro e w' ⟨rfl, rfl⟩)
  go_ret2
  exact ⟨rfl, rfl⟩
set_option maxHeartbeats 1000000 in
set_option maxRecDepth 100000 in
theorem tn_i8_i32 (n : Int) (w : World) : Calls Tryz.prog 131 #[.iface 21 (.int .i32 n)] w fun e w' => e = .returned (.tuple #[.int .i8 (IntKind.i8.wrap n), .bool true]) ∧ w = w' := by
  go_enter Tryz.func131, Tryz.ntmps131
  go_wp2_with (go_at_call 45; refine (indirect_any _ _ (by simp) (by simp) _).mono ?_; rintro e w' ⟨rfl, rfl⟩)
  go_ret2
  exact ⟨rfl, rfl⟩
set_option maxHeartbeats 1000000 in
set_option maxRecDepth 100000 in
theorem tn_i8_i64 (n : Int) (w : World) : Calls Tryz.prog 131 #[.iface 2 (.int .i64 n)] w fun e w' => e = .returned (.tuple #[.int .i8 (IntKind.i8.wrap n), .bool true]) ∧ w = w' := by
  go_enter Tryz.func131, Tryz.ntmps131
  go_wp2_with (go_at_call 45; refine (indirect_any _ _ (by simp) (by simp) _).mono ?_; rintro e w' ⟨rfl, rfl⟩)
  go_ret2
  exact ⟨rfl, rfl⟩
set_option maxHeartbeats 1000000 in
set_option maxRecDepth 100000 in
theorem tn_i8_uint (n : Int) (w : World) : Calls Tryz.prog 131 #[.iface 58 (.int .u64 n)] w fun e w' => e = .returned (.tuple #[.int .i8 (IntKind.i8.wrap n), .bool true]) ∧ w = w' := by
  go_enter Tryz.func131, Tryz.ntmps131
  go_wp2_with (go_at_call 45; refine (indirect_any _ _ (by simp) (by simp) _).mono ?_; rintro e w' ⟨rfl, rfl⟩)
  go_ret2
  exact ⟨rfl, rfl⟩
set_option maxHeartbeats 1000000 in
set_option maxRecDepth 100000 in
theorem tn_i8_u8 (n : Int) (w : World) : Calls Tryz.prog 131 #[.iface 5 (.int .u8 n)] w fun e w' => e = .returned (.tuple #[.int .i8 (IntKind.i8.wrap n), .bool true]) ∧ w = w' := by
  go_enter Tryz.func131, Tryz.ntmps131
  go_wp2_with (go_at_call 45; refine (indirect_any _ _ (by simp) (by simp) _).mono ?_; rintro e w' ⟨rfl, rfl⟩)
  go_ret2
  exact ⟨rfl, rfl⟩
set_option maxHeartbeats 1000000 in
set_option maxRecDepth 100000 in
theorem tn_i8_u16 (n : Int) (w : World) : Calls Tryz.prog 131 #[.iface 75 (.int .u16 n)] w fun e w' => e = .returned (.tuple #[.int .i8 (IntKind.i8.wrap n), .bool true]) ∧ w = w' := by
  go_enter Tryz.func131, Tryz.ntmps131
  go_wp2_with (go_at_call 45; refine (indirect_any _ _ (by simp) (by simp) _).mono ?_; rintro e w' ⟨rfl, rfl⟩)
  go_ret2
  exact ⟨rfl, rfl⟩
set_option maxHeartbeats 1000000 in
set_option maxRecDepth 100000 in
theorem tn_i8_u32 (n : Int) (w : World) : Calls Tryz.prog 131 #[.iface 76 (.int .u32 n)] w fun e w' => e = .returned (.tuple #[.int .i8 (IntKind.i8.wrap n), .bool true]) ∧ w = w' := by
  go_enter Tryz.func131, Tryz.ntmps131
  go_wp2_with (go_at_call 45; refine (indirect_any _ _ (by simp) (by simp) _).mono ?_; rintro e w' ⟨rfl, rfl⟩)
  go_ret2
  exact ⟨rfl, rfl⟩
set_option maxHeartbeats 1000000 in
set_option maxRecDepth 100000 in
theorem tn_i8_u64 (n : Int) (w : World) : Calls Tryz.prog 131 #[.iface 22 (.int .u64 n)] w fun e w' => e = .returned (.tuple #[.int .i8 (IntKind.i8.wrap n), .bool true]) ∧ w = w' := by
  go_enter Tryz.func131, Tryz.ntmps131
  go_wp2_with (go_at_call 45; refine (indirect_any _ _ (by simp) (by simp) _).mono ?_; rintro e w' ⟨rfl, rfl⟩)
  go_ret2
  exact ⟨rfl, rfl⟩
set_option maxHeartbeats 1000000 in
set_option maxRecDepth 100000 in
theorem tn_i8_f32 (b : Nat) (x : Int) (h : floatToIntVal .f32 b .i8 = some x) (w : World) : Calls Tryz.prog 131 #[.iface 77 (.float .f32 b)] w fun e w' => e = .returned (.tuple #[.int .i8 x, .bool true]) ∧ w = w' := by
  have hc : ∀ w, (convert 77 73 (.float .f32 b)).run Tryz.prog w = .ok (.int .i8 x) w := fun w => run_convert_float_int w 77 73 .f32 .i8 b x (by kernel_rfl) Tryz.underlying73 h
  clear h
  go_enter Tryz.func131, Tryz.ntmps131
  go_wp2_with (go_at_call 45; refine (indirect_any _ _ (by simp) (by simp) _).mono ?_; rintro e w' ⟨rfl, rfl⟩)
  go_ret2
  exact ⟨rfl, rfl⟩
set_option maxHeartbeats 1000000 in
set_option maxRecDepth 100000 in
theorem tn_i8_f64 (b : Nat) (x : Int) (h : floatToIntVal .f64 b .i8 = some x) (w : World) : Calls Tryz.prog 131 #[.iface 23 (.float .f64 b)] w fun e w' => e = .returned (.tuple #[.int .i8 x, .bool true]) ∧ w = w' := by
  have hc : ∀ w, (convert 23 73 (.float .f64 b)).run Tryz.prog w = .ok (.int .i8 x) w := fun w => run_convert_float_int w 23 73 .f64 .i8 b x (by kernel_rfl) Tryz.underlying73 h
  clear h
  go_enter Tryz.func131, Tryz.ntmps131
  go_wp2_with (go_at_call 45; refine (indirect_any _ _ (by simp) (by simp) _).mono ?_; rintro e w' ⟨rfl, rfl⟩)
  go_ret2
  exact ⟨rfl, rfl⟩
set_option maxHeartbeats 1000000 in
set_option maxRecDepth 100000 in
theorem tn_i16_nil (w : World) : Calls Tryz.prog 132 #[.nilIface] w fun e w' => e = .returned (.tuple #[.int .i16 0, .bool true]) ∧ w = w' := by
  go_enter Tryz.func132, Tryz.ntmps132
  go_wp2_with (go_at_call 45; refine (indirect_nil _).mono ?_; rintro e w' ⟨rfl, rfl⟩)
  go_ret2
  exact ⟨rfl, rfl⟩
set_option maxHeartbeats 1000000 in
set_option maxRecDepth 100000 in
theorem tn_i16_true (w : World) : Calls Tryz.prog 132 #[.iface 4 (.bool true)] w fun e w' => e = .returned (.tuple #[.int .i16 1, .bool true]) ∧ w = w' := by
  go_enter Tryz.func132, Tryz.ntmps132
  go_wp2_with (go_at_call 45; refine (indirect_any _ _ (by simp) (by simp) _).mono ?_; rintro e w' ⟨rfl, rfl⟩)
  go_ret2
  exact ⟨rfl, rfl⟩
set_option maxHeartbeats 1000000 in
set_option maxRecDepth 100000 in
theorem tn_i16_false (w : World) : Calls Tryz.prog 132 #[.iface 4 (.bool false)] w fun e w' => e = .returned (.tuple #[.int .i16 0, .bool true]) ∧ w = w' := by
  go_enter Tryz.func132, Tryz.ntmps132
  go_wp2_with (go_at_call 45; refine (indirect_any _ _ (by simp) (by simp) _).mono ?_; rintro e w' ⟨rfl, rfl⟩)
  go_ret2
  exact ⟨rfl, rfl⟩
set_option maxHeartbeats 1000000 in
set_option maxRecDepth 100000 in
theorem tn_i16_str (s : ByteArray) (w : World) : Calls Tryz.prog 132 #[.iface 9 (.string s)] w fun e w' => e = .returned (.tuple #[.int .i16 0, .bool false]) ∧ w = w' := by
  go_enter Tryz.func132, Tryz.ntmps132
  go_wp2_with (go_at_call 45; refine (indirect_any _ _ (by simp) (by simp) _).mono ?_; rintro e w' ⟨rfl, rfl⟩)
  go_ret2
  exact ⟨rfl, rfl⟩
set_option maxHeartbeats 1000000 in
set_option maxRecDepth 100000 in
theorem tn_i16_int (n : Int) (w : World) : Calls Tryz.prog 132 #[.iface 3 (.int .i64 n)] w fun e w' => e = .returned (.tuple #[.int .i16 (IntKind.i16.wrap n), .bool true]) ∧ w = w' := by
  go_enter Tryz.func132, Tryz.ntmps132
  go_wp2_with (go_at_call 45; refine (indirect_any _ _ (by simp) (by simp) _).mono ?_; rintro e w' ⟨rfl, rfl⟩)
  go_ret2
  exact ⟨rfl, rfl⟩
set_option maxHeartbeats 1000000 in
set_option maxRecDepth 100000 in
theorem tn_i16_i8 (n : Int) (w : World) : Calls Tryz.prog 132 #[.iface 73 (.int .i8 n)] w fun e w' => e = .returned (.tuple #[.int .i16 (IntKind.i16.wrap n), .bool true]) ∧ w = w' := by
  go_enter Tryz.func132, Tryz.ntmps132
  go_wp2_with (go_at_call 45; refine (indirect_any _ _ (by simp) (by simp) _).mono ?_; rintro e w' ⟨rfl, rfl⟩)
  go_ret2
  exact ⟨rfl, rfl⟩
set_option maxHeartbeats 1000000 in
set_option maxRecDepth 100000 in
theorem tn_i16_i16 (n : Int) (w : World) : Calls Tryz.prog 132 #[.iface 74 (.int .i16 n)] w fun e w' => e = .returned (.tuple #[.int .i16 n, .bool true]) ∧ w = w' := by
  go_enter Tryz.func132, Tryz.ntmps132
  go_wp2_with (go_at_call 45; refine (indirect_any _ _ (by simp) (by simp) _).mono ?_; rintro e w' ⟨rfl, rfl⟩)
  go_ret2
  exact ⟨rfl, rfl⟩
set_option maxHeartbeats 1000000 in
set_option maxRecDepth 100000 in
theorem tn_i16_i32 (n : Int) (w : World) : Calls Tryz.prog 132 #[.iface 21 (.int .i32 n)] w fun e w' => e = .returned (.tuple #[.int .i16 (IntKind.i16.wrap n), .bool true]) ∧ w = w' := by
  go_enter Tryz.func132, Tryz.ntmps132
  go_wp2_with (go_at_call 45; refine (indirect_any _ _ (by simp) (by simp) _).mono ?_; rintro e w' ⟨rfl, rfl⟩)
  go_ret2
  exact ⟨rfl, rfl⟩
set_option maxHeartbeats 1000000 in
set_option maxRecDepth 100000 in
theorem tn_i16_i64 (n : Int) (w : World) : Calls Tryz.prog 132 #[.iface 2 (.int .i64 n)] w fun e w' => e = .returned (.tuple #[.int .i16 (IntKind.i16.wrap n), .bool true]) ∧ w = w' := by
  go_enter Tryz.func132, Tryz.ntmps132
  go_wp2_with (go_at_call 45; refine (indirect_any _ _ (by simp) (by simp) _).mono ?_; rintro e w' ⟨rfl, rfl⟩)
  go_ret2
  exact ⟨rfl, rfl⟩
set_option maxHeartbeats 1000000 in
set_option maxRecDepth 100000 in
theorem tn_i16_uint (n : Int) (w : World) : Calls Tryz.prog 132 #[.iface 58 (.int .u64 n)] w fun e w' => e = .returned (.tuple #[.int .i16 (IntKind.i16.wrap n), .bool true]) ∧ w = w' := by
  go_enter Tryz.func132, Tryz.ntmps132
  go_wp2_with (go_at_call 45; refine (indirect_any _ _ (by simp) (by simp) _).mono ?_; rintro e w' ⟨rfl, rfl⟩)
  go_ret2
  exact ⟨rfl, rfl⟩
set_option maxHeartbeats 1000000 in
set_option maxRecDepth 100000 in
theorem tn_i16_u8 (n : Int) (w : World) : Calls Tryz.prog 132 #[.iface 5 (.int .u8 n)] w fun e w' => e = .returned (.tuple #[.int .i16 (IntKind.i16.wrap n), .bool true]) ∧ w = w' := by
  go_enter Tryz.func132, Tryz.ntmps132
  go_wp2_with (go_at_call 45; refine (indirect_any _ _ (by simp) (by simp) _).mono ?_; rintro e w' ⟨rfl, rfl⟩)
  go_ret2
  exact ⟨rfl, rfl⟩
set_option maxHeartbeats 1000000 in
set_option maxRecDepth 100000 in
theorem tn_i16_u16 (n : Int) (w : World) : Calls Tryz.prog 132 #[.iface 75 (.int .u16 n)] w fun e w' => e = .returned (.tuple #[.int .i16 (IntKind.i16.wrap n), .bool true]) ∧ w = w' := by
  go_enter Tryz.func132, Tryz.ntmps132
  go_wp2_with (go_at_call 45; refine (indirect_any _ _ (by simp) (by simp) _).mono ?_; rintro e w' ⟨rfl, rfl⟩)
  go_ret2
  exact ⟨rfl, rfl⟩
set_option maxHeartbeats 1000000 in
set_option maxRecDepth 100000 in
theorem tn_i16_u32 (n : Int) (w : World) : Calls Tryz.prog 132 #[.iface 76 (.int .u32 n)] w fun e w' => e = .returned (.tuple #[.int .i16 (IntKind.i16.wrap n), .bool true]) ∧ w = w' := by
  go_enter Tryz.func132, Tryz.ntmps132
  go_wp2_with (go_at_call 45; refine (indirect_any _ _ (by simp) (by simp) _).mono ?_; rintro e w' ⟨rfl, rfl⟩)
  go_ret2
  exact ⟨rfl, rfl⟩
set_option maxHeartbeats 1000000 in
set_option maxRecDepth 100000 in
theorem tn_i16_u64 (n : Int) (w : World) : Calls Tryz.prog 132 #[.iface 22 (.int .u64 n)] w fun e w' => e = .returned (.tuple #[.int .i16 (IntKind.i16.wrap n), .bool true]) ∧ w = w' := by
  go_enter Tryz.func132, Tryz.ntmps132
  go_wp2_with (go_at_call 45; refine (indirect_any _ _ (by simp) (by simp) _).mono ?_; rintro e w' ⟨rfl, rfl⟩)
  go_ret2
  exact ⟨rfl, rfl⟩
set_option maxHeartbeats 1000000 in
set_option maxRecDepth 100000 in
theorem tn_i16_f32 (b : Nat) (x : Int) (h : floatToIntVal .f32 b .i16 = some x) (w : World) : Calls Tryz.prog 132 #[.iface 77 (.float .f32 b)] w fun e w' => e = .returned (.tuple #[.int .i16 x, .bool true]) ∧ w = w' := by
  have hc : ∀ w, (convert 77 74 (.float .f32 b)).run Tryz.prog w = .ok (.int .i16 x) w := fun w => run_convert_float_int w 77 74 .f32 .i16 b x (by kernel_rfl) Tryz.underlying74 h
  clear h
  go_enter Tryz.func132, Tryz.ntmps132
  go_wp2_with (go_at_call 45; refine (indirect_any _ _ (by simp) (by simp) _).mono ?_; rintro e w' ⟨rfl, rfl⟩)
  go_ret2
  exact ⟨rfl, rfl⟩
set_option maxHeartbeats 1000000 in
set_option maxRecDepth 100000 in
theorem tn_i16_f64 (b : Nat) (x : Int) (h : floatToIntVal .f64 b .i16 = some x) (w : World) : Calls Tryz.prog 132 #[.iface 23 (.float .f64 b)] w fun e w' => e = .returned (.tuple #[.int .i16 x, .bool true]) ∧ w = w' := by
  have hc : ∀ w, (convert 23 74 (.float .f64 b)).run Tryz.prog w = .ok (.int .i16 x) w := fun w => run_convert_float_int w 23 74 .f64 .i16 b x (by kernel_rfl) Tryz.underlying74 h
  clear h
  go_enter Tryz.func132, Tryz.ntmps132
  go_wp2_with (go_at_call 45; refine (indirect_any _ _ (by simp) (by simp) _).mono ?_; rintro e w' ⟨rfl, rfl⟩)
  go_ret2
  exact ⟨rfl, rfl⟩
set_option maxHeartbeats 1000000 in
set_option maxRecDepth 100000 in
theorem tn_i32_nil (w : World) : Calls Tryz.prog 133 #[.nilIface] w fun e w' => e = .returned (.tuple #[.int .i32 0, .bool true]) ∧ w = w' := by
  go_enter Tryz.func133, Tryz.ntmps133
  go_wp2_with (go_at_call 45; refine (indirect_nil _).mono ?_; rintro e w' ⟨rfl, rfl⟩)
  go_ret2
  exact ⟨rfl, rfl⟩
set_option maxHeartbeats 1000000 in
set_option maxRecDepth 100000 in
theorem tn_i32_true (w : World) : Calls Tryz.prog 133 #[.iface 4 (.bool true)] w fun e w' => e = .returned (.tuple #[.int .i32 1, .bool true]) ∧ w = w' := by
  go_enter Tryz.func133, Tryz.ntmps133
  go_wp2_with (go_at_call 45; refine (indirect_any _ _ (by simp) (by simp) _).mono ?_; rintro e w' ⟨rfl, rfl⟩)
  go_ret2
  exact ⟨rfl, rfl⟩
set_option maxHeartbeats 1000000 in
set_option maxRecDepth 100000 in
theorem tn_i32_false (w : World) : Calls Tryz.prog 133 #[.iface 4 (.bool false)] w fun e w' => e = .returned (.tuple #[.int .i32 0, .bool true]) ∧ w = w' := by
  go_enter Tryz.func133, Tryz.ntmps133
  go_wp2_with (go_at_call 45; refine (indirect_any _ _ (by simp) (by simp) _).mono ?_; rintro e w' ⟨rfl, rfl⟩)
  go_ret2
  exact ⟨rfl, rfl⟩
set_option maxHeartbeats 1000000 in
set_option maxRecDepth 100000 in
theorem tn_i32_str (s : ByteArray) (w : World) : Calls Tryz.prog 133 #[.iface 9 (.string s)] w fun e w' => e = .returned (.tuple #[.int .i32 0, .bool false]) ∧ w = w' := by
  go_enter Tryz.func133, Tryz.ntmps133
  go_wp2_with (go_at_call 45; refine (indirect_any _ _ (by simp) (by simp) _).mono ?_; rintro e w' ⟨rfl, rfl⟩)
  go_ret2
  exact ⟨rfl, rfl⟩
set_option maxHeartbeats 1000000 in
set_option maxRecDepth 100000 in
theorem tn_i32_int (n : Int) (w : World) : Calls Tryz.prog 133 #[.iface 3 (.int .i64 n)] w fun e w' => e = .returned (.tuple #[.int .i32 (wrap32 n), .bool true]) ∧ w = w' := by
  go_enter Tryz.func133, Tryz.ntmps133
  go_wp2_with (go_at_call 45; refine (indirect_any _ _ (by simp) (by simp) _).mono ?_; rintro e w' ⟨rfl, rfl⟩)
  go_ret2
  exact ⟨rfl, rfl⟩
set_option maxHeartbeats 1000000 in
set_option maxRecDepth 100000 in
theorem tn_i32_i8 (n : Int) (w : World) : Calls Tryz.prog 133 #[.iface 73 (.int .i8 n)] w fun e w' => e = .returned (.tuple #[.int .i32 (wrap32 n), .bool true]) ∧ w = w' := by
  go_enter Tryz.func133, Tryz.ntmps133
  go_wp2_with (go_at_call 45; refine (indirect_any _ _ (by simp) (by simp) _).mono ?_; rintro e w' ⟨rfl, rfl⟩)
  go_ret2
  exact ⟨rfl, rfl⟩
set_option maxHeartbeats 1000000 in
set_option maxRecDepth 100000 in
theorem tn_i32_i16 (n : Int) (w : World) : Calls Tryz.prog 133 #[.iface 74 (.int .i16 n)] w fun e w' => e = .returned (.tuple #[.int .i32 (wrap32 n), .bool true]) ∧ w = w' := by
  go_enter Tryz.func133, Tryz.ntmps133
  go_wp2_with (go_at_call 45; refine (indirect_any _ _ (by simp) (by simp) _).mono ?_; rintro e w' ⟨rfl, rfl⟩)
  go_ret2
  exact ⟨rfl, rfl⟩
set_option maxHeartbeats 1000000 in
set_option maxRecDepth 100000 in
theorem tn_i32_i32 (n : Int) (w : World) : Calls Tryz.prog 133 #[.iface 21 (.int .i32 n)] w fun e w' => e = .returned (.tuple #[.int .i32 n, .bool true]) ∧ w = w' := by
  go_enter Tryz.func133, Tryz.ntmps133
  go_wp2_with (go_at_call 45; refine (indirect_any _ _ (by simp) (by simp) _).mono ?_; rintro e w' ⟨rfl, rfl⟩)
  go_ret2
  exact ⟨rfl, rfl⟩
set_option maxHeartbeats 1000000 in
set_option maxRecDepth 100000 in
theorem tn_i32_i64 (n : Int) (w : World) : Calls Tryz.prog 133 #[.iface 2 (.int .i64 n)] w fun e w' => e = .returned (.tuple #[.int .i32 (wrap32 n), .bool true]) ∧ w = w' := by
  go_enter Tryz.func133, Tryz.ntmps133
  go_wp2_with (go_at_call 45; refine (indirect_any _ _ (by simp) (by simp) _).mono ?_; rintro e w' ⟨rfl, rfl⟩)
  go_ret2
  exact ⟨rfl, rfl⟩
set_option maxHeartbeats 1000000 in
set_option maxRecDepth 100000 in
theorem tn_i32_uint (n : Int) (w : World) : Calls Tryz.prog 133 #[.iface 58 (.int .u64 n)] w fun e w' => e = .returned (.tuple #[.int .i32 (wrap32 n), .bool true]) ∧ w = w' := by
  go_enter Tryz.func133, Tryz.ntmps133
  go_wp2_with (go_at_call 45; refine (indirect_any _ _ (by simp) (by simp) _).mono ?_; rintro e w' ⟨rfl, rfl⟩)
  go_ret2
  exact ⟨rfl, rfl⟩
set_option maxHeartbeats 1000000 in
set_option maxRecDepth 100000 in
theorem tn_i32_u8 (n : Int) (w : World) : Calls Tryz.prog 133 #[.iface 5 (.int .u8 n)] w fun e w' => e = .returned (.tuple #[.int .i32 (wrap32 n), .bool true]) ∧ w = w' := by
  go_enter Tryz.func133, Tryz.ntmps133
  go_wp2_with (go_at_call 45; refine (indirect_any _ _ (by simp) (by simp) _).mono ?_; rintro e w' ⟨rfl, rfl⟩)
  go_ret2
  exact ⟨rfl, rfl⟩
set_option maxHeartbeats 1000000 in
set_option maxRecDepth 100000 in
theorem tn_i32_u16 (n : Int) (w : World) : Calls Tryz.prog 133 #[.iface 75 (.int .u16 n)] w fun e w' => e = .returned (.tuple #[.int .i32 (wrap32 n), .bool true]) ∧ w = w' := by
  go_enter Tryz.func133, Tryz.ntmps133
  go_wp2_with (go_at_call 45; refine (indirect_any _ _ (by simp) (by simp) _).mono ?_; rintro e w' ⟨rfl, rfl⟩)
  go_ret2
  exact ⟨rfl, rfl⟩
set_option maxHeartbeats 1000000 in
set_option maxRecDepth 100000 in
theorem tn_i32_u32 (n : Int) (w : World) : Calls Tryz.prog 133 #[.iface 76 (.int .u32 n)] w fun e w' => e = .returned (.tuple #[.int .i32 (wrap32 n), .bool true]) ∧ w = w' := by
  go_enter Tryz.func133, Tryz.ntmps133
  go_wp2_with (go_at_call 45; refine (indirect_any _ _ (by simp) (by simp) _).mono ?_; rintro e w' ⟨rfl, rfl⟩)
  go_ret2
  exact ⟨rfl, rfl⟩
set_option maxHeartbeats 1000000 in
set_option maxRecDepth 100000 in
theorem tn_i32_u64 (n : Int) (w : World) : Calls Tryz.prog 133 #[.iface 22 (.int .u64 n)] w fun e w' => e = .returned (.tuple #[.int .i32 (wrap32 n), .bool true]) ∧ w = w' := by
  go_enter Tryz.func133, Tryz.ntmps133
  go_wp2_with (go_at_call 45; refine (indirect_any _ _ (by simp) (by simp) _).mono ?_; rintro e w' ⟨rfl, rfl⟩)
  go_ret2
  exact ⟨rfl, rfl⟩
set_option maxHeartbeats 1000000 in
set_option maxRecDepth 100000 in
theorem tn_i32_f32 (b : Nat) (x : Int) (h : floatToIntVal .f32 b .i32 = some x) (w : World) : Calls Tryz.prog 133 #[.iface 77 (.float .f32 b)] w fun e w' => e = .returned (.tuple #[.int .i32 x, .bool true]) ∧ w = w' := by
  have hc : ∀ w, (convert 77 21 (.float .f32 b)).run Tryz.prog w = .ok (.int .i32 x) w := fun w => run_convert_float_int w 77 21 .f32 .i32 b x (by kernel_rfl) Tryz.underlying21 h
  clear h
  go_enter Tryz.func133, Tryz.ntmps133
  go_wp2_with (go_at_call 45; refine (indirect_any _ _ (by simp) (by simp) _).mono ?_; rintro e w' ⟨rfl, rfl⟩)
  go_ret2
  exact ⟨rfl, rfl⟩
set_option maxHeartbeats 1000000 in
set_option maxRecDepth 100000 in
theorem tn_i32_f64 (b : Nat) (x : Int) (h : floatToIntVal .f64 b .i32 = some x) (w : World) : Calls Tryz.prog 133 #[.iface 23 (.float .f64 b)] w fun e w' => e = .returned (.tuple #[.int .i32 x, .bool true]) ∧ w = w' := by
  have hc : ∀ w, (convert 23 21 (.float .f64 b)).run Tryz.prog w = .ok (.int .i32 x) w := fun w => run_convert_float_int w 23 21 .f64 .i32 b x (by kernel_rfl) Tryz.underlying21 h
  clear h
  go_enter Tryz.func133, Tryz.ntmps133
  go_wp2_with (go_at_call 45; refine (indirect_any _ _ (by simp) (by simp) _).mono ?_; rintro e w' ⟨rfl, rfl⟩)
  go_ret2
  exact ⟨rfl, rfl⟩
set_option maxHeartbeats 1000000 in
set_option maxRecDepth 100000 in
theorem tn_i64_nil (w : World) : Calls Tryz.prog 134 #[.nilIface] w fun e w' => e = .returned (.tuple #[.int .i64 0, .bool true]) ∧ w = w' := by
  go_enter Tryz.func134, Tryz.ntmps134
  go_wp2_with (go_at_call 45; refine (indirect_nil _).mono ?_; rintro e w' ⟨rfl, rfl⟩)
  go_ret2
  exact ⟨rfl, rfl⟩
set_option maxHeartbeats 1000000 in
set_option maxRecDepth 100000 in
theorem tn_i64_true (w : World) : Calls Tryz.prog 134 #[.iface 4 (.bool true)] w fun e w' => e = .returned (.tuple #[.int .i64 1, .bool true]) ∧ w = w' := by
  go_enter Tryz.func134, Tryz.ntmps134
  go_wp2_with (go_at_call 45; refine (indirect_any _ _ (by simp) (by simp) _).mono ?_; rintro e w' ⟨rfl, rfl⟩)
  go_ret2
  exact ⟨rfl, rfl⟩
set_option maxHeartbeats 1000000 in
set_option maxRecDepth 100000 in
theorem tn_i64_false (w : World) : Calls Tryz.prog 134 #[.iface 4 (.bool false)] w fun e w' => e = .returned (.tuple #[.int .i64 0, .bool true]) ∧ w = w' := by
  go_enter Tryz.func134, Tryz.ntmps134
  go_wp2_with (go_at_call 45; refine (indirect_any _ _ (by simp) (by simp) _).mono ?_; rintro e w' ⟨rfl, rfl⟩)
  go_ret2
  exact ⟨rfl, rfl⟩
set_option maxHeartbeats 1000000 in
set_option maxRecDepth 100000 in
theorem tn_i64_str (s : ByteArray) (w : World) : Calls Tryz.prog 134 #[.iface 9 (.string s)] w fun e w' => e = .returned (.tuple #[.int .i64 0, .bool false]) ∧ w = w' := by
  go_enter Tryz.func134, Tryz.ntmps134
  go_wp2_with (go_at_call 45; refine (indirect_any _ _ (by simp) (by simp) _).mono ?_; rintro e w' ⟨rfl, rfl⟩)
  go_ret2
  exact ⟨rfl, rfl⟩
set_option maxHeartbeats 1000000 in
set_option maxRecDepth 100000 in
theorem tn_i64_int (n : Int) (w : World) : Calls Tryz.prog 134 #[.iface 3 (.int .i64 n)] w fun e w' => e = .returned (.tuple #[.int .i64 n, .bool true]) ∧ w = w' := by
  go_enter Tryz.func134, Tryz.ntmps134
  go_wp2_with (go_at_call 45; refine (indirect_any _ _ (by simp) (by simp) _).mono ?_; rintro e w' ⟨rfl, rfl⟩)
  go_ret2
  exact ⟨rfl, rfl⟩
set_option maxHeartbeats 1000000 in
set_option maxRecDepth 100000 in
theorem tn_i64_i8 (n : Int) (w : World) : Calls Tryz.prog 134 #[.iface 73 (.int .i8 n)] w fun e w' => e = .returned (.tuple #[.int .i64 (wrap64 n), .bool true]) ∧ w = w' := by
  go_enter Tryz.func134, Tryz.ntmps134
  go_wp2_with (go_at_call 45; refine (indirect_any _ _ (by simp) (by simp) _).mono ?_; rintro e w' ⟨rfl, rfl⟩)
  go_ret2
  exact ⟨rfl, rfl⟩
set_option maxHeartbeats 1000000 in
set_option maxRecDepth 100000 in
theorem tn_i64_i16 (n : Int) (w : World) : Calls Tryz.prog 134 #[.iface 74 (.int .i16 n)] w fun e w' => e = .returned (.tuple #[.int .i64 (wrap64 n), .bool true]) ∧ w = w' := by
  go_enter Tryz.func134, Tryz.ntmps134
  go_wp2_with (go_at_call 45; refine (indirect_any _ _ (by simp) (by simp) _).mono ?_; rintro e w' ⟨rfl, rfl⟩)
  go_ret2
  exact ⟨rfl, rfl⟩
set_option maxHeartbeats 1000000 in
set_option maxRecDepth 100000 in
theorem tn_i64_i32 (n : Int) (w : World) : Calls Tryz.prog 134 #[.iface 21 (.int .i32 n)] w fun e w' => e = .returned (.tuple #[.int .i64 (wrap64 n), .bool true]) ∧ w = w' := by
  go_enter Tryz.func134, Tryz.ntmps134
  go_wp2_with (go_at_call 45; refine (indirect_any _ _ (by simp) (by simp) _).mono ?_; rintro e w' ⟨rfl, rfl⟩)
  go_ret2
  exact ⟨rfl, rfl⟩
set_option maxHeartbeats 1000000 in
set_option maxRecDepth 100000 in
theorem tn_i64_i64 (n : Int) (w : World) : Calls Tryz.prog 134 #[.iface 2 (.int .i64 n)] w fun e w' => e = .returned (.tuple #[.int .i64 n, .bool true]) ∧ w = w' := by
  go_enter Tryz.func134, Tryz.ntmps134
  go_wp2_with (go_at_call 45; refine (indirect_any _ _ (by simp) (by simp) _).mono ?_; rintro e w' ⟨rfl, rfl⟩)
  go_ret2
  exact ⟨rfl, rfl⟩
set_option maxHeartbeats 1000000 in
set_option maxRecDepth 100000 in
theorem tn_i64_uint (n : Int) (w : World) : Calls Tryz.prog 134 #[.iface 58 (.int .u64 n)] w fun e w' => e = .returned (.tuple #[.int .i64 (wrap64 n), .bool true]) ∧ w = w' := by
  go_enter Tryz.func134, Tryz.ntmps134
  go_wp2_with (go_at_call 45; refine (indirect_any _ _ (by simp) (by simp) _).mono ?_; rintro e w' ⟨rfl, rfl⟩)
  go_ret2
  exact ⟨rfl, rfl⟩
set_option maxHeartbeats 1000000 in
set_option maxRecDepth 100000 in
theorem tn_i64_u8 (n : Int) (w : World) : Calls Tryz.prog 134 #[.iface 5 (.int .u8 n)] w fun e w' => e = .returned (.tuple #[.int .i64 (wrap64 n), .bool true]) ∧ w = w' := by
  go_enter Tryz.func134, Tryz.ntmps134
  go_wp2_with (go_at_call 45; refine (indirect_any _ _ (by simp) (by simp) _).mono ?_; rintro e w' ⟨rfl, rfl⟩)
  go_ret2
  exact ⟨rfl, rfl⟩
set_option maxHeartbeats 1000000 in
set_option maxRecDepth 100000 in
theorem tn_i64_u16 (n : Int) (w : World) : Calls Tryz.prog 134 #[.iface 75 (.int .u16 n)] w fun e w' => e = .returned (.tuple #[.int .i64 (wrap64 n), .bool true]) ∧ w = w' := by
  go_enter Tryz.func134, Tryz.ntmps134
  go_wp2_with (go_at_call 45; refine (indirect_any _ _ (by simp) (by simp) _).mono ?_; rintro e w' ⟨rfl, rfl⟩)
  go_ret2
  exact ⟨rfl, rfl⟩
set_option maxHeartbeats 1000000 in
set_option maxRecDepth 100000 in
theorem tn_i64_u32 (n : Int) (w : World) : Calls Tryz.prog 134 #[.iface 76 (.int .u32 n)] w fun e w' => e = .returned (.tuple #[.int .i64 (wrap64 n), .bool true]) ∧ w = w' := by
  go_enter Tryz.func134, Tryz.ntmps134
  go_wp2_with (go_at_call 45; refine (indirect_any _ _ (by simp) (by simp) _).mono ?_; rintro e w' ⟨rfl, rfl⟩)
  go_ret2
  exact ⟨rfl, rfl⟩
set_option maxHeartbeats 1000000 in
set_option maxRecDepth 100000 in
theorem tn_i64_u64 (n : Int) (w : World) : Calls Tryz.prog 134 #[.iface 22 (.int .u64 n)] w fun e w' => e = .returned (.tuple #[.int .i64 (wrap64 n), .bool true]) ∧ w = w' := by
  go_enter Tryz.func134, Tryz.ntmps134
  go_wp2_with (go_at_call 45; refine (indirect_any _ _ (by simp) (by simp) _).mono ?_; rintro e w' ⟨rfl, rfl⟩)
  go_ret2
  exact ⟨rfl, rfl⟩
set_option maxHeartbeats 1000000 in
set_option maxRecDepth 100000 in
theorem tn_i64_f32 (b : Nat) (x : Int) (h : floatToIntVal .f32 b .i64 = some x) (w : World) : Calls Tryz.prog 134 #[.iface 77 (.float .f32 b)] w fun e w' => e = .returned (.tuple #[.int .i64 x, .bool true]) ∧ w = w' := by
  have hc : ∀ w, (convert 77 2 (.float .f32 b)).run Tryz.prog w = .ok (.int .i64 x) w := fun w => run_convert_float_int w 77 2 .f32 .i64 b x (by kernel_rfl) Tryz.underlying2 h
  clear h
  go_enter Tryz.func134, Tryz.ntmps134
  go_wp2_with (go_at_call 45; refine (indirect_any _ _ (by simp) (by simp) _).mono ?_; rintro e w' ⟨rfl, rfl⟩)
  go_ret2
  exact ⟨rfl, rfl⟩
set_option maxHeartbeats 1000000 in
set_option maxRecDepth 100000 in
theorem tn_i64_f64 (b : Nat) (x : Int) (h : floatToIntVal .f64 b .i64 = some x) (w : World) : Calls Tryz.prog 134 #[.iface 23 (.float .f64 b)] w fun e w' => e = .returned (.tuple #[.int .i64 x, .bool true]) ∧ w = w' := by
  have hc : ∀ w, (convert 23 2 (.float .f64 b)).run Tryz.prog w = .ok (.int .i64 x) w := fun w => run_convert_float_int w 23 2 .f64 .i64 b x (by kernel_rfl) Tryz.underlying2 h
  clear h
  go_enter Tryz.func134, Tryz.ntmps134
  go_wp2_with (go_at_call 45; refine (indirect_any _ _ (by simp) (by simp) _).mono ?_; rintro e w' ⟨rfl, rfl⟩)
  go_ret2
  exact ⟨rfl, rfl⟩
end Go.Proofs.YtnggkkdcddpjlaaGreatDoor
