/- toUnsignedNumber at each type, at each plain dynamic type: what it answers. -/
import Derived.Test.YtnggkkdcddpjlaaGreatDoorBase
namespace Go.Proofs.YtnggkkdcddpjlaaGreatDoor
open Go.RowKit
set_option maxHeartbeats 1000000 in
set_option maxRecDepth 100000 in
theorem tu_uint_nil (w : World) : Calls Tryz.prog 89 #[.nilIface] w fun e w' => e = .returned (.tuple #[.int .u64 0, .bool true, .bool true]) ∧ w = w' := by
  go_enter Tryz.func89, Tryz.ntmps89
  go_wp2_with (go_at_call 45; refine (indirect_nil _).mono ?_; rintro e w' ⟨rfl, rfl⟩)
  go_ret3
  exact ⟨rfl, rfl⟩
set_option maxHeartbeats 1000000 in
set_option maxRecDepth 100000 in
theorem tu_uint_true (w : World) : Calls Tryz.prog 89 #[.iface 4 (.bool true)] w fun e w' => e = .returned (.tuple #[.int .u64 1, .bool true, .bool true]) ∧ w = w' := by
  go_enter Tryz.func89, Tryz.ntmps89
  go_wp2_with (go_at_call 45; refine (indirect_any _ _ (by simp) (by simp) _).mono ?_; rintro e w' ⟨rfl, rfl⟩)
  go_ret3
  exact ⟨rfl, rfl⟩
set_option maxHeartbeats 1000000 in
set_option maxRecDepth 100000 in
theorem tu_uint_false (w : World) : Calls Tryz.prog 89 #[.iface 4 (.bool false)] w fun e w' => e = .returned (.tuple #[.int .u64 0, .bool true, .bool true]) ∧ w = w' := by
  go_enter Tryz.func89, Tryz.ntmps89
  go_wp2_with (go_at_call 45; refine (indirect_any _ _ (by simp) (by simp) _).mono ?_; rintro e w' ⟨rfl, rfl⟩)
  go_ret3
  exact ⟨rfl, rfl⟩
set_option maxHeartbeats 1000000 in
set_option maxRecDepth 100000 in
theorem tu_uint_str (s : ByteArray) (w : World) : Calls Tryz.prog 89 #[.iface 9 (.string s)] w fun e w' => e = .returned (.tuple #[.int .u64 0, .bool true, .bool false]) ∧ w = w' := by
  go_enter Tryz.func89, Tryz.ntmps89
  go_wp2_with (go_at_call 45; refine (indirect_any _ _ (by simp) (by simp) _).mono ?_; rintro e w' ⟨rfl, rfl⟩)
  go_ret3
  exact ⟨rfl, rfl⟩
set_option maxHeartbeats 1000000 in
set_option maxRecDepth 100000 in
theorem tu_uint_intn (n : Int) (h : n < 0) (w : World) : Calls Tryz.prog 89 #[.iface 3 (.int .i64 n)] w fun e w' => e = .returned (.tuple #[.int .u64 0, .bool false, .bool false]) ∧ w = w' := by
  go_enter Tryz.func89, Tryz.ntmps89
  go_wp2_with (go_at_call 45; refine (indirect_any _ _ (by simp) (by simp) _).mono ?_; rintro e w' ⟨rfl, rfl⟩)
  go_ret3
  exact ⟨rfl, rfl⟩
set_option maxHeartbeats 1000000 in
set_option maxRecDepth 100000 in
theorem tu_uint_intp (n : Int) (h : 0 ≤ n) (w : World) : Calls Tryz.prog 89 #[.iface 3 (.int .i64 n)] w fun e w' => e = .returned (.tuple #[.int .u64 (IntKind.u64.wrap n), .bool true, .bool true]) ∧ w = w' := by
  go_enter Tryz.func89, Tryz.ntmps89
  go_wp2_with (go_at_call 45; refine (indirect_any _ _ (by simp) (by simp) _).mono ?_; rintro e w' ⟨rfl, rfl⟩)
  go_ret3
  exact ⟨rfl, rfl⟩
set_option maxHeartbeats 1000000 in
set_option maxRecDepth 100000 in
theorem tu_uint_i8n (n : Int) (h : n < 0) (w : World) : Calls Tryz.prog 89 #[.iface 73 (.int .i8 n)] w fun e w' => e = .returned (.tuple #[.int .u64 0, .bool false, .bool false]) ∧ w = w' := by
  go_enter Tryz.func89, Tryz.ntmps89
  go_wp2_with (go_at_call 45; refine (indirect_any _ _ (by simp) (by simp) _).mono ?_; rintro e w' ⟨rfl, rfl⟩)
  go_ret3
  exact ⟨rfl, rfl⟩
set_option maxHeartbeats 1000000 in
set_option maxRecDepth 100000 in
theorem tu_uint_i8p (n : Int) (h : 0 ≤ n) (w : World) : Calls Tryz.prog 89 #[.iface 73 (.int .i8 n)] w fun e w' => e = .returned (.tuple #[.int .u64 (IntKind.u64.wrap n), .bool true, .bool true]) ∧ w = w' := by
  go_enter Tryz.func89, Tryz.ntmps89
  go_wp2_with (go_at_call 45; refine (indirect_any _ _ (by simp) (by simp) _).mono ?_; rintro e w' ⟨rfl, rfl⟩)
  go_ret3
  exact ⟨rfl, rfl⟩
set_option maxHeartbeats 1000000 in
set_option maxRecDepth 100000 in
theorem tu_uint_i16n (n : Int) (h : n < 0) (w : World) : Calls Tryz.prog 89 #[.iface 74 (.int .i16 n)] w fun e w' => e = .returned (.tuple #[.int .u64 0, .bool false, .bool false]) ∧ w = w' := by
  go_enter Tryz.func89, Tryz.ntmps89
  go_wp2_with (go_at_call 45; refine (indirect_any _ _ (by simp) (by simp) _).mono ?_; rintro e w' ⟨rfl, rfl⟩)
  go_ret3
  exact ⟨rfl, rfl⟩
set_option maxHeartbeats 1000000 in
set_option maxRecDepth 100000 in
theorem tu_uint_i16p (n : Int) (h : 0 ≤ n) (w : World) : Calls Tryz.prog 89 #[.iface 74 (.int .i16 n)] w fun e w' => e = .returned (.tuple #[.int .u64 (IntKind.u64.wrap n), .bool true, .bool true]) ∧ w = w' := by
  go_enter Tryz.func89, Tryz.ntmps89
  go_wp2_with (go_at_call 45; refine (indirect_any _ _ (by simp) (by simp) _).mono ?_; rintro e w' ⟨rfl, rfl⟩)
  go_ret3
  exact ⟨rfl, rfl⟩
set_option maxHeartbeats 1000000 in
set_option maxRecDepth 100000 in
theorem tu_uint_i32n (n : Int) (h : n < 0) (w : World) : Calls Tryz.prog 89 #[.iface 21 (.int .i32 n)] w fun e w' => e = .returned (.tuple #[.int .u64 0, .bool false, .bool false]) ∧ w = w' := by
  go_enter Tryz.func89, Tryz.ntmps89
  go_wp2_with (go_at_call 45; refine (indirect_any _ _ (by simp) (by simp) _).mono ?_; rintro e w' ⟨rfl, rfl⟩)
  go_ret3
  exact ⟨rfl, rfl⟩
set_option maxHeartbeats 1000000 in
set_option maxRecDepth 100000 in
theorem tu_uint_i32p (n : Int) (h : 0 ≤ n) (w : World) : Calls Tryz.prog 89 #[.iface 21 (.int .i32 n)] w fun e w' => e = .returned (.tuple #[.int .u64 (IntKind.u64.wrap n), .bool true, .bool true]) ∧ w = w' := by
  go_enter Tryz.func89, Tryz.ntmps89
  go_wp2_with (go_at_call 45; refine (indirect_any _ _ (by simp) (by simp) _).mono ?_; rintro e w' ⟨rfl, rfl⟩)
  go_ret3
  exact ⟨rfl, rfl⟩
set_option maxHeartbeats 1000000 in
set_option maxRecDepth 100000 in
theorem tu_uint_i64n (n : Int) (h : n < 0) (w : World) : Calls Tryz.prog 89 #[.iface 2 (.int .i64 n)] w fun e w' => e = .returned (.tuple #[.int .u64 0, .bool false, .bool false]) ∧ w = w' := by
  go_enter Tryz.func89, Tryz.ntmps89
  go_wp2_with (go_at_call 45; refine (indirect_any _ _ (by simp) (by simp) _).mono ?_; rintro e w' ⟨rfl, rfl⟩)
  go_ret3
  exact ⟨rfl, rfl⟩
set_option maxHeartbeats 1000000 in
set_option maxRecDepth 100000 in
theorem tu_uint_i64p (n : Int) (h : 0 ≤ n) (w : World) : Calls Tryz.prog 89 #[.iface 2 (.int .i64 n)] w fun e w' => e = .returned (.tuple #[.int .u64 (IntKind.u64.wrap n), .bool true, .bool true]) ∧ w = w' := by
  go_enter Tryz.func89, Tryz.ntmps89
  go_wp2_with (go_at_call 45; refine (indirect_any _ _ (by simp) (by simp) _).mono ?_; rintro e w' ⟨rfl, rfl⟩)
  go_ret3
  exact ⟨rfl, rfl⟩
set_option maxHeartbeats 1000000 in
set_option maxRecDepth 100000 in
theorem tu_uint_uint (n : Int) (w : World) : Calls Tryz.prog 89 #[.iface 58 (.int .u64 n)] w fun e w' => e = .returned (.tuple #[.int .u64 n, .bool true, .bool true]) ∧ w = w' := by
  go_enter Tryz.func89, Tryz.ntmps89
  go_wp2_with (go_at_call 45; refine (indirect_any _ _ (by simp) (by simp) _).mono ?_; rintro e w' ⟨rfl, rfl⟩)
  go_ret3
  exact ⟨rfl, rfl⟩
set_option maxHeartbeats 1000000 in
set_option maxRecDepth 100000 in
theorem tu_uint_u8 (n : Int) (w : World) : Calls Tryz.prog 89 #[.iface 5 (.int .u8 n)] w fun e w' => e = .returned (.tuple #[.int .u64 (IntKind.u64.wrap n), .bool true, .bool true]) ∧ w = w' := by
  go_enter Tryz.func89, Tryz.ntmps89
  go_wp2_with (go_at_call 45; refine (indirect_any _ _ (by simp) (by simp) _).mono ?_; rintro e w' ⟨rfl, rfl⟩)
  go_ret3
  exact ⟨rfl, rfl⟩
set_option maxHeartbeats 1000000 in
set_option maxRecDepth 100000 in
theorem tu_uint_u16 (n : Int) (w : World) : Calls Tryz.prog 89 #[.iface 75 (.int .u16 n)] w fun e w' => e = .returned (.tuple #[.int .u64 (IntKind.u64.wrap n), .bool true, .bool true]) ∧ w = w' := by
  go_enter Tryz.func89, Tryz.ntmps89
  go_wp2_with (go_at_call 45; refine (indirect_any _ _ (by simp) (by simp) _).mono ?_; rintro e w' ⟨rfl, rfl⟩)
  go_ret3
  exact ⟨rfl, rfl⟩
set_option maxHeartbeats 1000000 in
set_option maxRecDepth 100000 in
theorem tu_uint_u32 (n : Int) (w : World) : Calls Tryz.prog 89 #[.iface 76 (.int .u32 n)] w fun e w' => e = .returned (.tuple #[.int .u64 (IntKind.u64.wrap n), .bool true, .bool true]) ∧ w = w' := by
  go_enter Tryz.func89, Tryz.ntmps89
  go_wp2_with (go_at_call 45; refine (indirect_any _ _ (by simp) (by simp) _).mono ?_; rintro e w' ⟨rfl, rfl⟩)
  go_ret3
  exact ⟨rfl, rfl⟩
set_option maxHeartbeats 1000000 in
set_option maxRecDepth 100000 in
theorem tu_uint_u64 (n : Int) (w : World) : Calls Tryz.prog 89 #[.iface 22 (.int .u64 n)] w fun e w' => e = .returned (.tuple #[.int .u64 n, .bool true, .bool true]) ∧ w = w' := by
  go_enter Tryz.func89, Tryz.ntmps89
  go_wp2_with (go_at_call 45; refine (indirect_any _ _ (by simp) (by simp) _).mono ?_; rintro e w' ⟨rfl, rfl⟩)
  go_ret3
  exact ⟨rfl, rfl⟩
set_option maxHeartbeats 1000000 in
set_option maxRecDepth 100000 in
theorem tu_uint_f32n (b : Nat) (h : (FloatKind.f32.format.order b 0 == some .lt) = true) (w : World) : Calls Tryz.prog 89 #[.iface 77 (.float .f32 b)] w fun e w' => e = .returned (.tuple #[.int .u64 0, .bool false, .bool false]) ∧ w = w' := by
  go_enter Tryz.func89, Tryz.ntmps89
  go_wp2_with (go_at_call 45; refine (indirect_any _ _ (by simp) (by simp) _).mono ?_; rintro e w' ⟨rfl, rfl⟩)
  go_ret3
  exact ⟨rfl, rfl⟩
set_option maxHeartbeats 1000000 in
set_option maxRecDepth 100000 in
theorem tu_uint_f32p (b : Nat) (x : Int) (h0 : (FloatKind.f32.format.order b 0 == some .lt) = false) (h : floatToIntVal .f32 b .u64 = some x) (w : World) : Calls Tryz.prog 89 #[.iface 77 (.float .f32 b)] w fun e w' => e = .returned (.tuple #[.int .u64 x, .bool true, .bool true]) ∧ w = w' := by
  have hc : ∀ w, (convert 77 58 (.float .f32 b)).run Tryz.prog w = .ok (.int .u64 x) w := fun w => run_convert_float_int w 77 58 .f32 .u64 b x (by kernel_rfl) Tryz.underlying58 h
  clear h
  go_enter Tryz.func89, Tryz.ntmps89
  go_wp2_with (go_at_call 45; refine (indirect_any _ _ (by simp) (by simp) _).mono ?_; rintro e w' ⟨rfl, rfl⟩)
  go_ret3
  exact ⟨rfl, rfl⟩
set_option maxHeartbeats 1000000 in
set_option maxRecDepth 100000 in
theorem tu_uint_f64n (b : Nat) (h : (FloatKind.f64.format.order b 0 == some .lt) = true) (w : World) : Calls Tryz.prog 89 #[.iface 23 (.float .f64 b)] w fun e w' => e = .returned (.tuple #[.int .u64 0, .bool false, .bool false]) ∧ w = w' := by
  go_enter Tryz.func89, Tryz.ntmps89
  go_wp2_with (go_at_call 45; refine (indirect_any _ _ (by simp) (by simp) _).mono ?_; rintro e w' ⟨rfl, rfl⟩)
  go_ret3
  exact ⟨rfl, rfl⟩
set_option maxHeartbeats 1000000 in
set_option maxRecDepth 100000 in
theorem tu_uint_f64p (b : Nat) (x : Int) (h0 : (FloatKind.f64.format.order b 0 == some .lt) = false) (h : floatToIntVal .f64 b .u64 = some x) (w : World) : Calls Tryz.prog 89 #[.iface 23 (.float .f64 b)] w fun e w' => e = .returned (.tuple #[.int .u64 x, .bool true, .bool true]) ∧ w = w' := by
  have hc : ∀ w, (convert 23 58 (.float .f64 b)).run Tryz.prog w = .ok (.int .u64 x) w := fun w => run_convert_float_int w 23 58 .f64 .u64 b x (by kernel_rfl) Tryz.underlying58 h
  clear h
  go_enter Tryz.func89, Tryz.ntmps89
  go_wp2_with (go_at_call 45; refine (indirect_any _ _ (by simp) (by simp) _).mono ?_; rintro e w' ⟨rfl, rfl⟩)
  go_ret3
  exact ⟨rfl, rfl⟩
set_option maxHeartbeats 1000000 in
set_option maxRecDepth 100000 in
theorem tu_u8_nil (w : World) : Calls Tryz.prog 135 #[.nilIface] w fun e w' => e = .returned (.tuple #[.int .u8 0, .bool true, .bool true]) ∧ w = w' := by
  go_enter Tryz.func135, Tryz.ntmps135
  go_wp2_with (go_at_call 45; refine (indirect_nil _).mono ?_; rintro e w' ⟨rfl, rfl⟩)
  go_ret3
  exact ⟨rfl, rfl⟩
set_option maxHeartbeats 1000000 in
set_option maxRecDepth 100000 in
theorem tu_u8_true (w : World) : Calls Tryz.prog 135 #[.iface 4 (.bool true)] w fun e w' => e = .returned (.tuple #[.int .u8 1, .bool true, .bool true]) ∧ w = w' := by
  go_enter Tryz.func135, Tryz.ntmps135
  go_wp2_with (go_at_call 45; refine (indirect_any _ _ (by simp) (by simp) _).mono ?_; rintro e w' ⟨rfl, rfl⟩)
  go_ret3
  exact ⟨rfl, rfl⟩
set_option maxHeartbeats 1000000 in
set_option maxRecDepth 100000 in
theorem tu_u8_false (w : World) : Calls Tryz.prog 135 #[.iface 4 (.bool false)] w fun e w' => e = .returned (.tuple #[.int .u8 0, .bool true, .bool true]) ∧ w = w' := by
  go_enter Tryz.func135, Tryz.ntmps135
  go_wp2_with (go_at_call 45; refine (indirect_any _ _ (by simp) (by simp) _).mono ?_; rintro e w' ⟨rfl, rfl⟩)
  go_ret3
  exact ⟨rfl, rfl⟩
set_option maxHeartbeats 1000000 in
set_option maxRecDepth 100000 in
theorem tu_u8_str (s : ByteArray) (w : World) : Calls Tryz.prog 135 #[.iface 9 (.string s)] w fun e w' => e = .returned (.tuple #[.int .u8 0, .bool true, .bool false]) ∧ w = w' := by
  go_enter Tryz.func135, Tryz.ntmps135
  go_wp2_with (go_at_call 45; refine (indirect_any _ _ (by simp) (by simp) _).mono ?_; rintro e w' ⟨rfl, rfl⟩)
  go_ret3
  exact ⟨rfl, rfl⟩
set_option maxHeartbeats 1000000 in
set_option maxRecDepth 100000 in
theorem tu_u8_intn (n : Int) (h : n < 0) (w : World) : Calls Tryz.prog 135 #[.iface 3 (.int .i64 n)] w fun e w' => e = .returned (.tuple #[.int .u8 0, .bool false, .bool false]) ∧ w = w' := by
  go_enter Tryz.func135, Tryz.ntmps135
  go_wp2_with (go_at_call 45; refine (indirect_any _ _ (by simp) (by simp) _).mono ?_; rintro e w' ⟨rfl, rfl⟩)
  go_ret3
  exact ⟨rfl, rfl⟩
set_option maxHeartbeats 1000000 in
set_option maxRecDepth 100000 in
theorem tu_u8_intp (n : Int) (h : 0 ≤ n) (w : World) : Calls Tryz.prog 135 #[.iface 3 (.int .i64 n)] w fun e w' => e = .returned (.tuple #[.int .u8 (IntKind.u8.wrap n), .bool true, .bool true]) ∧ w = w' := by
  go_enter Tryz.func135, Tryz.ntmps135
  go_wp2_with (go_at_call 45; refine (indirect_any _ _ (by simp) (by simp) _).mono ?_; rintro e w' ⟨rfl, rfl⟩)
  go_ret3
  exact ⟨rfl, rfl⟩
set_option maxHeartbeats 1000000 in
set_option maxRecDepth 100000 in
theorem tu_u8_i8n (n : Int) (h : n < 0) (w : World) : Calls Tryz.prog 135 #[.iface 73 (.int .i8 n)] w fun e w' => e = .returned (.tuple #[.int .u8 0, .bool false, .bool false]) ∧ w = w' := by
  go_enter Tryz.func135, Tryz.ntmps135
  go_wp2_with (go_at_call 45; refine (indirect_any _ _ (by simp) (by simp) _).mono ?_; rintro e w' ⟨rfl, rfl⟩)
  go_ret3
  exact ⟨rfl, rfl⟩
set_option maxHeartbeats 1000000 in
set_option maxRecDepth 100000 in
theorem tu_u8_i8p (n : Int) (h : 0 ≤ n) (w : World) : Calls Tryz.prog 135 #[.iface 73 (.int .i8 n)] w fun e w' => e = .returned (.tuple #[.int .u8 (IntKind.u8.wrap n), .bool true, .bool true]) ∧ w = w' := by
  go_enter Tryz.func135, Tryz.ntmps135
  go_wp2_with (go_at_call 45; refine (indirect_any _ _ (by simp) (by simp) _).mono ?_; rintro e w' ⟨rfl, rfl⟩)
  go_ret3
  exact ⟨rfl, rfl⟩
set_option maxHeartbeats 1000000 in
set_option maxRecDepth 100000 in
theorem tu_u8_i16n (n : Int) (h : n < 0) (w : World) : Calls Tryz.prog 135 #[.iface 74 (.int .i16 n)] w fun e w' => e = .returned (.tuple #[.int .u8 0, .bool false, .bool false]) ∧ w = w' := by
  go_enter Tryz.func135, Tryz.ntmps135
  go_wp2_with (go_at_call 45; refine (indirect_any _ _ (by simp) (by simp) _).mono ?_; rintro e w' ⟨rfl, rfl⟩)
  go_ret3
  exact ⟨rfl, rfl⟩
set_option maxHeartbeats 1000000 in
set_option maxRecDepth 100000 in
theorem tu_u8_i16p (n : Int) (h : 0 ≤ n) (w : World) : Calls Tryz.prog 135 #[.iface 74 (.int .i16 n)] w fun e w' => e = .returned (.tuple #[.int .u8 (IntKind.u8.wrap n), .bool true, .bool true]) ∧ w = w' := by
  go_enter Tryz.func135, Tryz.ntmps135
  go_wp2_with (go_at_call 45; refine (indirect_any _ _ (by simp) (by simp) _).mono ?_; rintro e w' ⟨rfl, rfl⟩)
  go_ret3
  exact ⟨rfl, rfl⟩
set_option maxHeartbeats 1000000 in
set_option maxRecDepth 100000 in
theorem tu_u8_i32n (n : Int) (h : n < 0) (w : World) : Calls Tryz.prog 135 #[.iface 21 (.int .i32 n)] w fun e w' => e = .returned (.tuple #[.int .u8 0, .bool false, .bool false]) ∧ w = w' := by
  go_enter Tryz.func135, Tryz.ntmps135
  go_wp2_with (go_at_call 45; refine (indirect_any _ _ (by simp) (by simp) _).mono ?_; rintro e w' ⟨rfl, rfl⟩)
  go_ret3
  exact ⟨rfl, rfl⟩
set_option maxHeartbeats 1000000 in
set_option maxRecDepth 100000 in
theorem tu_u8_i32p (n : Int) (h : 0 ≤ n) (w : World) : Calls Tryz.prog 135 #[.iface 21 (.int .i32 n)] w fun e w' => e = .returned (.tuple #[.int .u8 (IntKind.u8.wrap n), .bool true, .bool true]) ∧ w = w' := by
  go_enter Tryz.func135, Tryz.ntmps135
  go_wp2_with (go_at_call 45; refine (indirect_any _ _ (by simp) (by simp) _).mono ?_; rintro e w' ⟨rfl, rfl⟩)
  go_ret3
  exact ⟨rfl, rfl⟩
set_option maxHeartbeats 1000000 in
set_option maxRecDepth 100000 in
theorem tu_u8_i64n (n : Int) (h : n < 0) (w : World) : Calls Tryz.prog 135 #[.iface 2 (.int .i64 n)] w fun e w' => e = .returned (.tuple #[.int .u8 0, .bool false, .bool false]) ∧ w = w' := by
  go_enter Tryz.func135, Tryz.ntmps135
  go_wp2_with (go_at_call 45; refine (indirect_any _ _ (by simp) (by simp) _).mono ?_; rintro e w' ⟨rfl, rfl⟩)
  go_ret3
  exact ⟨rfl, rfl⟩
set_option maxHeartbeats 1000000 in
set_option maxRecDepth 100000 in
theorem tu_u8_i64p (n : Int) (h : 0 ≤ n) (w : World) : Calls Tryz.prog 135 #[.iface 2 (.int .i64 n)] w fun e w' => e = .returned (.tuple #[.int .u8 (IntKind.u8.wrap n), .bool true, .bool true]) ∧ w = w' := by
  go_enter Tryz.func135, Tryz.ntmps135
  go_wp2_with (go_at_call 45; refine (indirect_any _ _ (by simp) (by simp) _).mono ?_; rintro e w' ⟨rfl, rfl⟩)
  go_ret3
  exact ⟨rfl, rfl⟩
set_option maxHeartbeats 1000000 in
set_option maxRecDepth 100000 in
theorem tu_u8_uint (n : Int) (w : World) : Calls Tryz.prog 135 #[.iface 58 (.int .u64 n)] w fun e w' => e = .returned (.tuple #[.int .u8 (IntKind.u8.wrap n), .bool true, .bool true]) ∧ w = w' := by
  go_enter Tryz.func135, Tryz.ntmps135
  go_wp2_with (go_at_call 45; refine (indirect_any _ _ (by simp) (by simp) _).mono ?_; rintro e w' ⟨rfl, rfl⟩)
  go_ret3
  exact ⟨rfl, rfl⟩
set_option maxHeartbeats 1000000 in
set_option maxRecDepth 100000 in
theorem tu_u8_u8 (n : Int) (w : World) : Calls Tryz.prog 135 #[.iface 5 (.int .u8 n)] w fun e w' => e = .returned (.tuple #[.int .u8 n, .bool true, .bool true]) ∧ w = w' := by
  go_enter Tryz.func135, Tryz.ntmps135
  go_wp2_with (go_at_call 45; refine (indirect_any _ _ (by simp) (by simp) _).mono ?_; rintro e w' ⟨rfl, rfl⟩)
  go_ret3
  exact ⟨rfl, rfl⟩
set_option maxHeartbeats 1000000 in
set_option maxRecDepth 100000 in
theorem tu_u8_u16 (n : Int) (w : World) : Calls Tryz.prog 135 #[.iface 75 (.int .u16 n)] w fun e w' => e = .returned (.tuple #[.int .u8 (IntKind.u8.wrap n), .bool true, .bool true]) ∧ w = w' := by
  go_enter Tryz.func135, Tryz.ntmps135
  go_wp2_with (go_at_call 45; refine (indirect_any _ _ (by simp) (by simp) _).mono ?_; rintro e w' ⟨rfl, rfl⟩)
  go_ret3
  exact ⟨rfl, rfl⟩
set_option maxHeartbeats 1000000 in
set_option maxRecDepth 100000 in
theorem tu_u8_u32 (n : Int) (w : World) : Calls Tryz.prog 135 #[.iface 76 (.int .u32 n)] w fun e w' => e = .returned (.tuple #[.int .u8 (IntKind.u8.wrap n), .bool true, .bool true]) ∧ w = w' := by
  go_enter Tryz.func135, Tryz.ntmps135
  go_wp2_with (go_at_call 45; refine (indirect_any _ _ (by simp) (by simp) _).mono ?_; rintro e w' ⟨rfl, rfl⟩)
  go_ret3
  exact ⟨rfl, rfl⟩
set_option maxHeartbeats 1000000 in
set_option maxRecDepth 100000 in
theorem tu_u8_u64 (n : Int) (w : World) : Calls Tryz.prog 135 #[.iface 22 (.int .u64 n)] w fun e w' => e = .returned (.tuple #[.int .u8 (IntKind.u8.wrap n), .bool true, .bool true]) ∧ w = w' := by
  go_enter Tryz.func135, Tryz.ntmps135
  go_wp2_with (go_at_call 45; refine (indirect_any _ _ (by simp) (by simp) _).mono ?_; rintro e w' ⟨rfl, rfl⟩)
  go_ret3
  exact ⟨rfl, rfl⟩
set_option maxHeartbeats 1000000 in
set_option maxRecDepth 100000 in
theorem tu_u8_f32n (b : Nat) (h : (FloatKind.f32.format.order b 0 == some .lt) = true) (w : World) : Calls Tryz.prog 135 #[.iface 77 (.float .f32 b)] w fun e w' => e = .returned (.tuple #[.int .u8 0, .bool false, .bool false]) ∧ w = w' := by
  go_enter Tryz.func135, Tryz.ntmps135
  go_wp2_with (go_at_call 45; refine (indirect_any _ _ (by simp) (by simp) _).mono ?_; rintro e w' ⟨rfl, rfl⟩)
  go_ret3
  exact ⟨rfl, rfl⟩
set_option maxHeartbeats 1000000 in
set_option maxRecDepth 100000 in
theorem tu_u8_f32p (b : Nat) (x : Int) (h0 : (FloatKind.f32.format.order b 0 == some .lt) = false) (h : floatToIntVal .f32 b .u8 = some x) (w : World) : Calls Tryz.prog 135 #[.iface 77 (.float .f32 b)] w fun e w' => e = .returned (.tuple #[.int .u8 x, .bool true, .bool true]) ∧ w = w' := by
  have hc : ∀ w, (convert 77 5 (.float .f32 b)).run Tryz.prog w = .ok (.int .u8 x) w := fun w => run_convert_float_int w 77 5 .f32 .u8 b x (by kernel_rfl) Tryz.underlying5 h
  clear h
  go_enter Tryz.func135, Tryz.ntmps135
  go_wp2_with (go_at_call 45; refine (indirect_any _ _ (by simp) (by simp) _).mono ?_; rintro e w' ⟨rfl, rfl⟩)
  go_ret3
  exact ⟨rfl, rfl⟩
set_option maxHeartbeats 1000000 in
set_option maxRecDepth 100000 in
theorem tu_u8_f64n (b : Nat) (h : (FloatKind.f64.format.order b 0 == some .lt) = true) (w : World) : Calls Tryz.prog 135 #[.iface 23 (.float .f64 b)] w fun e w' => e = .returned (.tuple #[.int .u8 0, .bool false, .bool false]) ∧ w = w' := by
  go_enter Tryz.func135, Tryz.ntmps135
  go_wp2_with (go_at_call 45; refine (indirect_any _ _ (by simp) (by simp) _).mono ?_; rintro e w' ⟨rfl, rfl⟩)
  go_ret3
  exact ⟨rfl, rfl⟩
set_option maxHeartbeats 1000000 in
set_option maxRecDepth 100000 in
theorem tu_u8_f64p (b : Nat) (x : Int) (h0 : (FloatKind.f64.format.order b 0 == some .lt) = false) (h : floatToIntVal .f64 b .u8 = some x) (w : World) : Calls Tryz.prog 135 #[.iface 23 (.float .f64 b)] w fun e w' => e = .returned (.tuple #[.int .u8 x, .bool true, .bool true]) ∧ w = w' := by
  have hc : ∀ w, (convert 23 5 (.float .f64 b)).run Tryz.prog w = .ok (.int .u8 x) w := fun w => run_convert_float_int w 23 5 .f64 .u8 b x (by kernel_rfl) Tryz.underlying5 h
  clear h
  go_enter Tryz.func135, Tryz.ntmps135
  go_wp2_with (go_at_call 45; refine (indirect_any _ _ (by simp) (by simp) _).mono ?_; rintro e w' ⟨rfl, rfl⟩)
  go_ret3
  exact ⟨rfl, rfl⟩
set_option maxHeartbeats 1000000 in
set_option maxRecDepth 100000 in
theorem tu_u16_nil (w : World) : Calls Tryz.prog 136 #[.nilIface] w fun e w' => e = .returned (.tuple #[.int .u16 0, .bool true, .bool true]) ∧ w = w' := by
  go_enter Tryz.func136, Tryz.ntmps136
  go_wp2_with (go_at_call 45; refine (indirect_nil _).mono ?_; rintro e w' ⟨rfl, rfl⟩)
  go_ret3
  exact ⟨rfl, rfl⟩
set_option maxHeartbeats 1000000 in
set_option maxRecDepth 100000 in
theorem tu_u16_true (w : World) : Calls Tryz.prog 136 #[.iface 4 (.bool true)] w fun e w' => e = .returned (.tuple #[.int .u16 1, .bool true, .bool true]) ∧ w = w' := by
  go_enter Tryz.func136, Tryz.ntmps136
  go_wp2_with (go_at_call 45; refine (indirect_any _ _ (by simp) (by simp) _).mono ?_; rintro e w' ⟨rfl, rfl⟩)
  go_ret3
  exact ⟨rfl, rfl⟩
set_option maxHeartbeats 1000000 in
set_option maxRecDepth 100000 in
theorem tu_u16_false (w : World) : Calls Tryz.prog 136 #[.iface 4 (.bool false)] w fun e w' => e = .returned (.tuple #[.int .u16 0, .bool true, .bool true]) ∧ w = w' := by
  go_enter Tryz.func136, Tryz.ntmps136
  go_wp2_with (go_at_call 45; refine (indirect_any _ _ (by simp) (by simp) _).mono ?_; rintro e w' ⟨rfl, rfl⟩)
  go_ret3
  exact ⟨rfl, rfl⟩
set_option maxHeartbeats 1000000 in
set_option maxRecDepth 100000 in
theorem tu_u16_str (s : ByteArray) (w : World) : Calls Tryz.prog 136 #[.iface 9 (.string s)] w fun e w' => e = .returned (.tuple #[.int .u16 0, .bool true, .bool false]) ∧ w = w' := by
  go_enter Tryz.func136, Tryz.ntmps136
  go_wp2_with (go_at_call 45; refine (indirect_any _ _ (by simp) (by simp) _).mono ?_; rintro e w' ⟨rfl, rfl⟩)
  go_ret3
  exact ⟨rfl, rfl⟩
set_option maxHeartbeats 1000000 in
set_option maxRecDepth 100000 in
theorem tu_u16_intn (n : Int) (h : n < 0) (w : World) : Calls Tryz.prog 136 #[.iface 3 (.int .i64 n)] w fun e w' => e = .returned (.tuple #[.int .u16 0, .bool false, .bool false]) ∧ w = w' := by
  go_enter Tryz.func136, Tryz.ntmps136
  go_wp2_with (go_at_call 45; refine (indirect_any _ _ (by simp) (by simp) _).mono ?_; rintro e w' ⟨rfl, rfl⟩)
  go_ret3
  exact ⟨rfl, rfl⟩
set_option maxHeartbeats 1000000 in
set_option maxRecDepth 100000 in
theorem tu_u16_intp (n : Int) (h : 0 ≤ n) (w : World) : Calls Tryz.prog 136 #[.iface 3 (.int .i64 n)] w fun e w' => e = .returned (.tuple #[.int .u16 (IntKind.u16.wrap n), .bool true, .bool true]) ∧ w = w' := by
  go_enter Tryz.func136, Tryz.ntmps136
  go_wp2_with (go_at_call 45; refine (indirect_any _ _ (by simp) (by simp) _).mono ?_; rintro e w' ⟨rfl, rfl⟩)
  go_ret3
  exact ⟨rfl, rfl⟩
set_option maxHeartbeats 1000000 in
set_option maxRecDepth 100000 in
theorem tu_u16_i8n (n : Int) (h : n < 0) (w : World) : Calls Tryz.prog 136 #[.iface 73 (.int .i8 n)] w fun e w' => e = .returned (.tuple #[.int .u16 0, .bool false, .bool false]) ∧ w = w' := by
  go_enter Tryz.func136, Tryz.ntmps136
  go_wp2_with (go_at_call 45; refine (indirect_any _ _ (by simp) (by simp) _).mono ?_; rintro e w' ⟨rfl, rfl⟩)
  go_ret3
  exact ⟨rfl, rfl⟩
set_option maxHeartbeats 1000000 in
set_option maxRecDepth 100000 in
theorem tu_u16_i8p (n : Int) (h : 0 ≤ n) (w : World) : Calls Tryz.prog 136 #[.iface 73 (.int .i8 n)] w fun e w' => e = .returned (.tuple #[.int .u16 (IntKind.u16.wrap n), .bool true, .bool true]) ∧ w = w' := by
  go_enter Tryz.func136, Tryz.ntmps136
  go_wp2_with (go_at_call 45; refine (indirect_any _ _ (by simp) (by simp) _).mono ?_; rintro e w' ⟨rfl, rfl⟩)
  go_ret3
  exact ⟨rfl, rfl⟩
set_option maxHeartbeats 1000000 in
set_option maxRecDepth 100000 in
theorem tu_u16_i16n (n : Int) (h : n < 0) (w : World) : Calls Tryz.prog 136 #[.iface 74 (.int .i16 n)] w fun e w' => e = .returned (.tuple #[.int .u16 0, .bool false, .bool false]) ∧ w = w' := by
  go_enter Tryz.func136, Tryz.ntmps136
  go_wp2_with (go_at_call 45; refine (indirect_any _ _ (by simp) (by simp) _).mono ?_; rintro e w' ⟨rfl, rfl⟩)
  go_ret3
  exact ⟨rfl, rfl⟩
set_option maxHeartbeats 1000000 in
set_option maxRecDepth 100000 in
theorem tu_u16_i16p (n : Int) (h : 0 ≤ n) (w : World) : Calls Tryz.prog 136 #[.iface 74 (.int .i16 n)] w fun e w' => e = .returned (.tuple #[.int .u16 (IntKind.u16.wrap n), .bool true, .bool true]) ∧ w = w' := by
  go_enter Tryz.func136, Tryz.ntmps136
  go_wp2_with (go_at_call 45; refine (indirect_any _ _ (by simp) (by simp) _).mono ?_; rintro e w' ⟨rfl, rfl⟩)
  go_ret3
  exact ⟨rfl, rfl⟩
set_option maxHeartbeats 1000000 in
set_option maxRecDepth 100000 in
theorem tu_u16_i32n (n : Int) (h : n < 0) (w : World) : Calls Tryz.prog 136 #[.iface 21 (.int .i32 n)] w fun e w' => e = .returned (.tuple #[.int .u16 0, .bool false, .bool false]) ∧ w = w' := by
  go_enter Tryz.func136, Tryz.ntmps136
  go_wp2_with (go_at_call 45; refine (indirect_any _ _ (by simp) (by simp) _).mono ?_; rintro e w' ⟨rfl, rfl⟩)
  go_ret3
  exact ⟨rfl, rfl⟩
set_option maxHeartbeats 1000000 in
set_option maxRecDepth 100000 in
theorem tu_u16_i32p (n : Int) (h : 0 ≤ n) (w : World) : Calls Tryz.prog 136 #[.iface 21 (.int .i32 n)] w fun e w' => e = .returned (.tuple #[.int .u16 (IntKind.u16.wrap n), .bool true, .bool true]) ∧ w = w' := by
  go_enter Tryz.func136, Tryz.ntmps136
  go_wp2_with (go_at_call 45; refine (indirect_any _ _ (by simp) (by simp) _).mono ?_; rintro e w' ⟨rfl, rfl⟩)
  go_ret3
  exact ⟨rfl, rfl⟩
set_option maxHeartbeats 1000000 in
set_option maxRecDepth 100000 in
theorem tu_u16_i64n (n : Int) (h : n < 0) (w : World) : Calls Tryz.prog 136 #[.iface 2 (.int .i64 n)] w fun e w' => e = .returned (.tuple #[.int .u16 0, .bool false, .bool false]) ∧ w = w' := by
  go_enter Tryz.func136, Tryz.ntmps136
  go_wp2_with (go_at_call 45; refine (indirect_any _ _ (by simp) (by simp) _).mono ?_; rintro e w' ⟨rfl, rfl⟩)
  go_ret3
  exact ⟨rfl, rfl⟩
set_option maxHeartbeats 1000000 in
set_option maxRecDepth 100000 in
theorem tu_u16_i64p (n : Int) (h : 0 ≤ n) (w : World) : Calls Tryz.prog 136 #[.iface 2 (.int .i64 n)] w fun e w' => e = .returned (.tuple #[.int .u16 (IntKind.u16.wrap n), .bool true, .bool true]) ∧ w = w' := by
  go_enter Tryz.func136, Tryz.ntmps136
  go_wp2_with (go_at_call 45; refine (indirect_any _ _ (by simp) (by simp) _).mono ?_; rintro e w' ⟨rfl, rfl⟩)
  go_ret3
  exact ⟨rfl, rfl⟩
set_option maxHeartbeats 1000000 in
set_option maxRecDepth 100000 in
theorem tu_u16_uint (n : Int) (w : World) : Calls Tryz.prog 136 #[.iface 58 (.int .u64 n)] w fun e w' => e = .returned (.tuple #[.int .u16 (IntKind.u16.wrap n), .bool true, .bool true]) ∧ w = w' := by
  go_enter Tryz.func136, Tryz.ntmps136
  go_wp2_with (go_at_call 45; refine (indirect_any _ _ (by simp) (by simp) _).mono ?_; rintro e w' ⟨rfl, rfl⟩)
  go_ret3
  exact ⟨rfl, rfl⟩
set_option maxHeartbeats 1000000 in
set_option maxRecDepth 100000 in
theorem tu_u16_u8 (n : Int) (w : World) : Calls Tryz.prog 136 #[.iface 5 (.int .u8 n)] w fun e w' => e = .returned (.tuple #[.int .u16 (IntKind.u16.wrap n), .bool true, .bool true]) ∧ w = w' := by
  go_enter Tryz.func136, Tryz.ntmps136
  go_wp2_with (go_at_call 45; refine (indirect_any _ _ (by simp) (by simp) _).mono ?_; rintro e w' ⟨rfl, rfl⟩)
  go_ret3
  exact ⟨rfl, rfl⟩
set_option maxHeartbeats 1000000 in
set_option maxRecDepth 100000 in
theorem tu_u16_u16 (n : Int) (w : World) : Calls Tryz.prog 136 #[.iface 75 (.int .u16 n)] w fun e w' => e = .returned (.tuple #[.int .u16 n, .bool true, .bool true]) ∧ w = w' := by
  go_enter Tryz.func136, Tryz.ntmps136
  go_wp2_with (go_at_call 45; refine (indirect_any _ _ (by simp) (by simp) _).mono ?_; rintro e w' ⟨rfl, rfl⟩)
  go_ret3
  exact ⟨rfl, rfl⟩
set_option maxHeartbeats 1000000 in
set_option maxRecDepth 100000 in
theorem tu_u16_u32 (n : Int) (w : World) : Calls Tryz.prog 136 #[.iface 76 (.int .u32 n)] w fun e w' => e = .returned (.tuple #[.int .u16 (IntKind.u16.wrap n), .bool true, .bool true]) ∧ w = w' := by
  go_enter Tryz.func136, Tryz.ntmps136
  go_wp2_with (go_at_call 45; refine (indirect_any _ _ (by simp) (by simp) _).mono ?_; rintro e w' ⟨rfl, rfl⟩)
  go_ret3
  exact ⟨rfl, rfl⟩
set_option maxHeartbeats 1000000 in
set_option maxRecDepth 100000 in
theorem tu_u16_u64 (n : Int) (w : World) : Calls Tryz.prog 136 #[.iface 22 (.int .u64 n)] w fun e w' => e = .returned (.tuple #[.int .u16 (IntKind.u16.wrap n), .bool true, .bool true]) ∧ w = w' := by
  go_enter Tryz.func136, Tryz.ntmps136
  go_wp2_with (go_at_call 45; refine (indirect_any _ _ (by simp) (by simp) _).mono ?_; rintro e w' ⟨rfl, rfl⟩)
  go_ret3
  exact ⟨rfl, rfl⟩
set_option maxHeartbeats 1000000 in
set_option maxRecDepth 100000 in
theorem tu_u16_f32n (b : Nat) (h : (FloatKind.f32.format.order b 0 == some .lt) = true) (w : World) : Calls Tryz.prog 136 #[.iface 77 (.float .f32 b)] w fun e w' => e = .returned (.tuple #[.int .u16 0, .bool false, .bool false]) ∧ w = w' := by
  go_enter Tryz.func136, Tryz.ntmps136
  go_wp2_with (go_at_call 45; refine (indirect_any _ _ (by simp) (by simp) _).mono ?_; rintro e w' ⟨rfl, rfl⟩)
  go_ret3
  exact ⟨rfl, rfl⟩
set_option maxHeartbeats 1000000 in
set_option maxRecDepth 100000 in
theorem tu_u16_f32p (b : Nat) (x : Int) (h0 : (FloatKind.f32.format.order b 0 == some .lt) = false) (h : floatToIntVal .f32 b .u16 = some x) (w : World) : Calls Tryz.prog 136 #[.iface 77 (.float .f32 b)] w fun e w' => e = .returned (.tuple #[.int .u16 x, .bool true, .bool true]) ∧ w = w' := by
  have hc : ∀ w, (convert 77 75 (.float .f32 b)).run Tryz.prog w = .ok (.int .u16 x) w := fun w => run_convert_float_int w 77 75 .f32 .u16 b x (by kernel_rfl) Tryz.underlying75 h
  clear h
  go_enter Tryz.func136, Tryz.ntmps136
  go_wp2_with (go_at_call 45; refine (indirect_any _ _ (by simp) (by simp) _).mono ?_; rintro e w' ⟨rfl, rfl⟩)
  go_ret3
  exact ⟨rfl, rfl⟩
set_option maxHeartbeats 1000000 in
set_option maxRecDepth 100000 in
theorem tu_u16_f64n (b : Nat) (h : (FloatKind.f64.format.order b 0 == some .lt) = true) (w : World) : Calls Tryz.prog 136 #[.iface 23 (.float .f64 b)] w fun e w' => e = .returned (.tuple #[.int .u16 0, .bool false, .bool false]) ∧ w = w' := by
  go_enter Tryz.func136, Tryz.ntmps136
  go_wp2_with (go_at_call 45; refine (indirect_any _ _ (by simp) (by simp) _).mono ?_; rintro e w' ⟨rfl, rfl⟩)
  go_ret3
  exact ⟨rfl, rfl⟩
set_option maxHeartbeats 1000000 in
set_option maxRecDepth 100000 in
theorem tu_u16_f64p (b : Nat) (x : Int) (h0 : (FloatKind.f64.format.order b 0 == some .lt) = false) (h : floatToIntVal .f64 b .u16 = some x) (w : World) : Calls Tryz.prog 136 #[.iface 23 (.float .f64 b)] w fun e w' => e = .returned (.tuple #[.int .u16 x, .bool true, .bool true]) ∧ w = w' := by
  have hc : ∀ w, (convert 23 75 (.float .f64 b)).run Tryz.prog w = .ok (.int .u16 x) w := fun w => run_convert_float_int w 23 75 .f64 .u16 b x (by kernel_rfl) Tryz.underlying75 h
  clear h
  go_enter Tryz.func136, Tryz.ntmps136
  go_wp2_with (go_at_call 45; refine (indirect_any _ _ (by simp) (by simp) _).mono ?_; rintro e w' ⟨rfl, rfl⟩)
  go_ret3
  exact ⟨rfl, rfl⟩
set_option maxHeartbeats 1000000 in
set_option maxRecDepth 100000 in
theorem tu_u32_nil (w : World) : Calls Tryz.prog 137 #[.nilIface] w fun e w' => e = .returned (.tuple #[.int .u32 0, .bool true, .bool true]) ∧ w = w' := by
  go_enter Tryz.func137, Tryz.ntmps137
  go_wp2_with (go_at_call 45; refine (indirect_nil _).mono ?_; rintro e w' ⟨rfl, rfl⟩)
  go_ret3
  exact ⟨rfl, rfl⟩
set_option maxHeartbeats 1000000 in
set_option maxRecDepth 100000 in
theorem tu_u32_true (w : World) : Calls Tryz.prog 137 #[.iface 4 (.bool true)] w fun e w' => e = .returned (.tuple #[.int .u32 1, .bool true, .bool true]) ∧ w = w' := by
  go_enter Tryz.func137, Tryz.ntmps137
  go_wp2_with (go_at_call 45; refine (indirect_any _ _ (by simp) (by simp) _).mono ?_; rintro e w' ⟨rfl, rfl⟩)
  go_ret3
  exact ⟨rfl, rfl⟩
set_option maxHeartbeats 1000000 in
set_option maxRecDepth 100000 in
theorem tu_u32_false (w : World) : Calls Tryz.prog 137 #[.iface 4 (.bool false)] w fun e w' => e = .returned (.tuple #[.int .u32 0, .bool true, .bool true]) ∧ w = w' := by
  go_enter Tryz.func137, Tryz.ntmps137
  go_wp2_with (go_at_call 45; refine (indirect_any _ _ (by simp) (by simp) _).mono ?_; rintro e w' ⟨rfl, rfl⟩)
  go_ret3
  exact ⟨rfl, rfl⟩
set_option maxHeartbeats 1000000 in
set_option maxRecDepth 100000 in
theorem tu_u32_str (s : ByteArray) (w : World) : Calls Tryz.prog 137 #[.iface 9 (.string s)] w fun e w' => e = .returned (.tuple #[.int .u32 0, .bool true, .bool false]) ∧ w = w' := by
  go_enter Tryz.func137, Tryz.ntmps137
  go_wp2_with (go_at_call 45; refine (indirect_any _ _ (by simp) (by simp) _).mono ?_; rintro e w' ⟨rfl, rfl⟩)
  go_ret3
  exact ⟨rfl, rfl⟩
set_option maxHeartbeats 1000000 in
set_option maxRecDepth 100000 in
theorem tu_u32_intn (n : Int) (h : n < 0) (w : World) : Calls Tryz.prog 137 #[.iface 3 (.int .i64 n)] w fun e w' => e = .returned (.tuple #[.int .u32 0, .bool false, .bool false]) ∧ w = w' := by
  go_enter Tryz.func137, Tryz.ntmps137
  go_wp2_with (go_at_call 45; refine (indirect_any _ _ (by simp) (by simp) _).mono ?_; rintro e w' ⟨rfl, rfl⟩)
  go_ret3
  exact ⟨rfl, rfl⟩
set_option maxHeartbeats 1000000 in
set_option maxRecDepth 100000 in
theorem tu_u32_intp (n : Int) (h : 0 ≤ n) (w : World) : Calls Tryz.prog 137 #[.iface 3 (.int .i64 n)] w fun e w' => e = .returned (.tuple #[.int .u32 (IntKind.u32.wrap n), .bool true, .bool true]) ∧ w = w' := by
  go_enter Tryz.func137, Tryz.ntmps137
  go_wp2_with (go_at_call 45; refine (indirect_any _ _ (by simp) (by simp) _).mono ?_; rintro e w' ⟨rfl, rfl⟩)
  go_ret3
  exact ⟨rfl, rfl⟩
set_option maxHeartbeats 1000000 in
set_option maxRecDepth 100000 in
theorem tu_u32_i8n (n : Int) (h : n < 0) (w : World) : Calls Tryz.prog 137 #[.iface 73 (.int .i8 n)] w fun e w' => e = .returned (.tuple #[.int .u32 0, .bool false, .bool false]) ∧ w = w' := by
  go_enter Tryz.func137, Tryz.ntmps137
  go_wp2_with (go_at_call 45; refine (indirect_any _ _ (by simp) (by simp) _).mono ?_; rintro e w' ⟨rfl, rfl⟩)
  go_ret3
  exact ⟨rfl, rfl⟩
set_option maxHeartbeats 1000000 in
set_option maxRecDepth 100000 in
theorem tu_u32_i8p (n : Int) (h : 0 ≤ n) (w : World) : Calls Tryz.prog 137 #[.iface 73 (.int .i8 n)] w fun e w' => e = .returned (.tuple #[.int .u32 (IntKind.u32.wrap n), .bool true, .bool true]) ∧ w = w' := by
  go_enter Tryz.func137, Tryz.ntmps137
  go_wp2_with (go_at_call 45; refine (indirect_any _ _ (by simp) (by simp) _).mono ?_; rintro e w' ⟨rfl, rfl⟩)
  go_ret3
  exact ⟨rfl, rfl⟩
set_option maxHeartbeats 1000000 in
set_option maxRecDepth 100000 in
theorem tu_u32_i16n (n : Int) (h : n < 0) (w : World) : Calls Tryz.prog 137 #[.iface 74 (.int .i16 n)] w fun e w' => e = .returned (.tuple #[.int .u32 0, .bool false, .bool false]) ∧ w = w' := by
  go_enter Tryz.func137, Tryz.ntmps137
  go_wp2_with (go_at_call 45; refine (indirect_any _ _ (by simp) (by simp) _).mono ?_; rintro e w' ⟨rfl, rfl⟩)
  go_ret3
  exact ⟨rfl, rfl⟩
set_option maxHeartbeats 1000000 in
set_option maxRecDepth 100000 in
theorem tu_u32_i16p (n : Int) (h : 0 ≤ n) (w : World) : Calls Tryz.prog 137 #[.iface 74 (.int .i16 n)] w fun e w' => e = .returned (.tuple #[.int .u32 (IntKind.u32.wrap n), .bool true, .bool true]) ∧ w = w' := by
  go_enter Tryz.func137, Tryz.ntmps137
  go_wp2_with (go_at_call 45; refine (indirect_any _ _ (by simp) (by simp) _).mono ?_; rintro e w' ⟨rfl, rfl⟩)
  go_ret3
  exact ⟨rfl, rfl⟩
set_option maxHeartbeats 1000000 in
set_option maxRecDepth 100000 in
theorem tu_u32_i32n (n : Int) (h : n < 0) (w : World) : Calls Tryz.prog 137 #[.iface 21 (.int .i32 n)] w fun e w' => e = .returned (.tuple #[.int .u32 0, .bool false, .bool false]) ∧ w = w' := by
  go_enter Tryz.func137, Tryz.ntmps137
  go_wp2_with (go_at_call 45; refine (indirect_any _ _ (by simp) (by simp) _).mono ?_; rintro e w' ⟨rfl, rfl⟩)
  go_ret3
  exact ⟨rfl, rfl⟩
set_option maxHeartbeats 1000000 in
set_option maxRecDepth 100000 in
theorem tu_u32_i32p (n : Int) (h : 0 ≤ n) (w : World) : Calls Tryz.prog 137 #[.iface 21 (.int .i32 n)] w fun e w' => e = .returned (.tuple #[.int .u32 (IntKind.u32.wrap n), .bool true, .bool true]) ∧ w = w' := by
  go_enter Tryz.func137, Tryz.ntmps137
  go_wp2_with (go_at_call 45; refine (indirect_any _ _ (by simp) (by simp) _).mono ?_; rintro e w' ⟨rfl, rfl⟩)
  go_ret3
  exact ⟨rfl, rfl⟩
set_option maxHeartbeats 1000000 in
set_option maxRecDepth 100000 in
theorem tu_u32_i64n (n : Int) (h : n < 0) (w : World) : Calls Tryz.prog 137 #[.iface 2 (.int .i64 n)] w fun e w' => e = .returned (.tuple #[.int .u32 0, .bool false, .bool false]) ∧ w = w' := by
  go_enter Tryz.func137, Tryz.ntmps137
  go_wp2_with (go_at_call 45; refine (indirect_any _ _ (by simp) (by simp) _).mono ?_; rintro e w' ⟨rfl, rfl⟩)
  go_ret3
  exact ⟨rfl, rfl⟩
set_option maxHeartbeats 1000000 in
set_option maxRecDepth 100000 in
theorem tu_u32_i64p (n : Int) (h : 0 ≤ n) (w : World) : Calls Tryz.prog 137 #[.iface 2 (.int .i64 n)] w fun e w' => e = .returned (.tuple #[.int .u32 (IntKind.u32.wrap n), .bool true, .bool true]) ∧ w = w' := by
  go_enter Tryz.func137, Tryz.ntmps137
  go_wp2_with (go_at_call 45; refine (indirect_any _ _ (by simp) (by simp) _).mono ?_; rintro e w' ⟨rfl, rfl⟩)
  go_ret3
  exact ⟨rfl, rfl⟩
set_option maxHeartbeats 1000000 in
set_option maxRecDepth 100000 in
theorem tu_u32_uint (n : Int) (w : World) : Calls Tryz.prog 137 #[.iface 58 (.int .u64 n)] w fun e w' => e = .returned (.tuple #[.int .u32 (IntKind.u32.wrap n), .bool true, .bool true]) ∧ w = w' := by
  go_enter Tryz.func137, Tryz.ntmps137
  go_wp2_with (go_at_call 45; refine (indirect_any _ _ (by simp) (by simp) _).mono ?_; rintro e w' ⟨rfl, rfl⟩)
  go_ret3
  exact ⟨rfl, rfl⟩
set_option maxHeartbeats 1000000 in
set_option maxRecDepth 100000 in
theorem tu_u32_u8 (n : Int) (w : World) : Calls Tryz.prog 137 #[.iface 5 (.int .u8 n)] w fun e w' => e = .returned (.tuple #[.int .u32 (IntKind.u32.wrap n), .bool true, .bool true]) ∧ w = w' := by
  go_enter Tryz.func137, Tryz.ntmps137
  go_wp2_with (go_at_call 45; refine (indirect_any _ _ (by simp) (by simp) _).mono ?_; rintro e w' ⟨rfl, rfl⟩)
  go_ret3
  exact ⟨rfl, rfl⟩
set_option maxHeartbeats 1000000 in
set_option maxRecDepth 100000 in
theorem tu_u32_u16 (n : Int) (w : World) : Calls Tryz.prog 137 #[.iface 75 (.int .u16 n)] w fun e w' => e = .returned (.tuple #[.int .u32 (IntKind.u32.wrap n), .bool true, .bool true]) ∧ w = w' := by
  go_enter Tryz.func137, Tryz.ntmps137
  go_wp2_with (go_at_call 45; refine (indirect_any _ _ (by simp) (by simp) _).mono ?_; rintro e w' ⟨rfl, rfl⟩)
  go_ret3
  exact ⟨rfl, rfl⟩
set_option maxHeartbeats 1000000 in
set_option maxRecDepth 100000 in
theorem tu_u32_u32 (n : Int) (w : World) : Calls Tryz.prog 137 #[.iface 76 (.int .u32 n)] w fun e w' => e = .returned (.tuple #[.int .u32 n, .bool true, .bool true]) ∧ w = w' := by
  go_enter Tryz.func137, Tryz.ntmps137
  go_wp2_with (go_at_call 45; refine (indirect_any _ _ (by simp) (by simp) _).mono ?_; rintro e w' ⟨rfl, rfl⟩)
  go_ret3
  exact ⟨rfl, rfl⟩
set_option maxHeartbeats 1000000 in
set_option maxRecDepth 100000 in
theorem tu_u32_u64 (n : Int) (w : World) : Calls Tryz.prog 137 #[.iface 22 (.int .u64 n)] w fun e w' => e = .returned (.tuple #[.int .u32 (IntKind.u32.wrap n), .bool true, .bool true]) ∧ w = w' := by
  go_enter Tryz.func137, Tryz.ntmps137
  go_wp2_with (go_at_call 45; refine (indirect_any _ _ (by simp) (by simp) _).mono ?_; rintro e w' ⟨rfl, rfl⟩)
  go_ret3
  exact ⟨rfl, rfl⟩
set_option maxHeartbeats 1000000 in
set_option maxRecDepth 100000 in
theorem tu_u32_f32n (b : Nat) (h : (FloatKind.f32.format.order b 0 == some .lt) = true) (w : World) : Calls Tryz.prog 137 #[.iface 77 (.float .f32 b)] w fun e w' => e = .returned (.tuple #[.int .u32 0, .bool false, .bool false]) ∧ w = w' := by
  go_enter Tryz.func137, Tryz.ntmps137
  go_wp2_with (go_at_call 45; refine (indirect_any _ _ (by simp) (by simp) _).mono ?_; rintro e w' ⟨rfl, rfl⟩)
  go_ret3
  exact ⟨rfl, rfl⟩
set_option maxHeartbeats 1000000 in
set_option maxRecDepth 100000 in
theorem tu_u32_f32p (b : Nat) (x : Int) (h0 : (FloatKind.f32.format.order b 0 == some .lt) = false) (h : floatToIntVal .f32 b .u32 = some x) (w : World) : Calls Tryz.prog 137 #[.iface 77 (.float .f32 b)] w fun e w' => e = .returned (.tuple #[.int .u32 x, .bool true, .bool true]) ∧ w = w' := by
  have hc : ∀ w, (convert 77 76 (.float .f32 b)).run Tryz.prog w = .ok (.int .u32 x) w := fun w => run_convert_float_int w 77 76 .f32 .u32 b x (by kernel_rfl) Tryz.underlying76 h
  clear h
  go_enter Tryz.func137, Tryz.ntmps137
  go_wp2_with (go_at_call 45; refine (indirect_any _ _ (by simp) (by simp) _).mono ?_; rintro e w' ⟨rfl, rfl⟩)
  go_ret3
  exact ⟨rfl, rfl⟩
set_option maxHeartbeats 1000000 in
set_option maxRecDepth 100000 in
theorem tu_u32_f64n (b : Nat) (h : (FloatKind.f64.format.order b 0 == some .lt) = true) (w : World) : Calls Tryz.prog 137 #[.iface 23 (.float .f64 b)] w fun e w' => e = .returned (.tuple #[.int .u32 0, .bool false, .bool false]) ∧ w = w' := by
  go_enter Tryz.func137, Tryz.ntmps137
  go_wp2_with (go_at_call 45; refine (indirect_any _ _ (by simp) (by simp) _).mono ?_; rintro e w' ⟨rfl, rfl⟩)
  go_ret3
  exact ⟨rfl, rfl⟩
set_option maxHeartbeats 1000000 in
set_option maxRecDepth 100000 in
theorem tu_u32_f64p (b : Nat) (x : Int) (h0 : (FloatKind.f64.format.order b 0 == some .lt) = false) (h : floatToIntVal .f64 b .u32 = some x) (w : World) : Calls Tryz.prog 137 #[.iface 23 (.float .f64 b)] w fun e w' => e = .returned (.tuple #[.int .u32 x, .bool true, .bool true]) ∧ w = w' := by
  have hc : ∀ w, (convert 23 76 (.float .f64 b)).run Tryz.prog w = .ok (.int .u32 x) w := fun w => run_convert_float_int w 23 76 .f64 .u32 b x (by kernel_rfl) Tryz.underlying76 h
  clear h
  go_enter Tryz.func137, Tryz.ntmps137
  go_wp2_with (go_at_call 45; refine (indirect_any _ _ (by simp) (by simp) _).mono ?_; rintro e w' ⟨rfl, rfl⟩)
  go_ret3
  exact ⟨rfl, rfl⟩
set_option maxHeartbeats 1000000 in
set_option maxRecDepth 100000 in
theorem tu_u64_nil (w : World) : Calls Tryz.prog 138 #[.nilIface] w fun e w' => e = .returned (.tuple #[.int .u64 0, .bool true, .bool true]) ∧ w = w' := by
  go_enter Tryz.func138, Tryz.ntmps138
  go_wp2_with (go_at_call 45; refine (indirect_nil _).mono ?_; rintro e w' ⟨rfl, rfl⟩)
  go_ret3
  exact ⟨rfl, rfl⟩
set_option maxHeartbeats 1000000 in
set_option maxRecDepth 100000 in
theorem tu_u64_true (w : World) : Calls Tryz.prog 138 #[.iface 4 (.bool true)] w fun e w' => e = .returned (.tuple #[.int .u64 1, .bool true, .bool true]) ∧ w = w' := by
  go_enter Tryz.func138, Tryz.ntmps138
  go_wp2_with (go_at_call 45; refine (indirect_any _ _ (by simp) (by simp) _).mono ?_; rintro e w' ⟨rfl, rfl⟩)
  go_ret3
  exact ⟨rfl, rfl⟩
set_option maxHeartbeats 1000000 in
set_option maxRecDepth 100000 in
theorem tu_u64_false (w : World) : Calls Tryz.prog 138 #[.iface 4 (.bool false)] w fun e w' => e = .returned (.tuple #[.int .u64 0, .bool true, .bool true]) ∧ w = w' := by
  go_enter Tryz.func138, Tryz.ntmps138
  go_wp2_with (go_at_call 45; refine (indirect_any _ _ (by simp) (by simp) _).mono ?_; rintro e w' ⟨rfl, rfl⟩)
  go_ret3
  exact ⟨rfl, rfl⟩
set_option maxHeartbeats 1000000 in
set_option maxRecDepth 100000 in
theorem tu_u64_str (s : ByteArray) (w : World) : Calls Tryz.prog 138 #[.iface 9 (.string s)] w fun e w' => e = .returned (.tuple #[.int .u64 0, .bool true, .bool false]) ∧ w = w' := by
  go_enter Tryz.func138, Tryz.ntmps138
  go_wp2_with (go_at_call 45; refine (indirect_any _ _ (by simp) (by simp) _).mono ?_; rintro e w' ⟨rfl, rfl⟩)
  go_ret3
  exact ⟨rfl, rfl⟩
set_option maxHeartbeats 1000000 in
set_option maxRecDepth 100000 in
theorem tu_u64_intn (n : Int) (h : n < 0) (w : World) : Calls Tryz.prog 138 #[.iface 3 (.int .i64 n)] w fun e w' => e = .returned (.tuple #[.int .u64 0, .bool false, .bool false]) ∧ w = w' := by
  go_enter Tryz.func138, Tryz.ntmps138
  go_wp2_with (go_at_call 45; refine (indirect_any _ _ (by simp) (by simp) _).mono ?_; rintro e w' ⟨rfl, rfl⟩)
  go_ret3
  exact ⟨rfl, rfl⟩
set_option maxHeartbeats 1000000 in
set_option maxRecDepth 100000 in
theorem tu_u64_intp (n : Int) (h : 0 ≤ n) (w : World) : Calls Tryz.prog 138 #[.iface 3 (.int .i64 n)] w fun e w' => e = .returned (.tuple #[.int .u64 (IntKind.u64.wrap n), .bool true, .bool true]) ∧ w = w' := by
  go_enter Tryz.func138, Tryz.ntmps138
  go_wp2_with (go_at_call 45; refine (indirect_any _ _ (by simp) (by simp) _).mono ?_; rintro e w' ⟨rfl, rfl⟩)
  go_ret3
  exact ⟨rfl, rfl⟩
set_option maxHeartbeats 1000000 in
set_option maxRecDepth 100000 in
theorem tu_u64_i8n (n : Int) (h : n < 0) (w : World) : Calls Tryz.prog 138 #[.iface 73 (.int .i8 n)] w fun e w' => e = .returned (.tuple #[.int .u64 0, .bool false, .bool false]) ∧ w = w' := by
  go_enter Tryz.func138, Tryz.ntmps138
  go_wp2_with (go_at_call 45; refine (indirect_any _ _ (by simp) (by simp) _).mono ?_; rintro e w' ⟨rfl, rfl⟩)
  go_ret3
  exact ⟨rfl, rfl⟩
set_option maxHeartbeats 1000000 in
set_option maxRecDepth 100000 in
theorem tu_u64_i8p (n : Int) (h : 0 ≤ n) (w : World) : Calls Tryz.prog 138 #[.iface 73 (.int .i8 n)] w fun e w' => e = .returned (.tuple #[.int .u64 (IntKind.u64.wrap n), .bool true, .bool true]) ∧ w = w' := by
  go_enter Tryz.func138, Tryz.ntmps138
  go_wp2_with (go_at_call 45; refine (indirect_any _ _ (by simp) (by simp) _).mono ?_; rintro e w' ⟨rfl, rfl⟩)
  go_ret3
  exact ⟨rfl, rfl⟩
set_option maxHeartbeats 1000000 in
set_option maxRecDepth 100000 in
theorem tu_u64_i16n (n : Int) (h : n < 0) (w : World) : Calls Tryz.prog 138 #[.iface 74 (.int .i16 n)] w fun e w' => e = .returned (.tuple #[.int .u64 0, .bool false, .bool false]) ∧ w = w' := by
  go_enter Tryz.func138, Tryz.ntmps138
  go_wp2_with (go_at_call 45; refine (indirect_any _ _ (by simp) (by simp) _).mono ?_; rintro e w' ⟨rfl, rfl⟩)
  go_ret3
  exact ⟨rfl, rfl⟩
set_option maxHeartbeats 1000000 in
set_option maxRecDepth 100000 in
theorem tu_u64_i16p (n : Int) (h : 0 ≤ n) (w : World) : Calls Tryz.prog 138 #[.iface 74 (.int .i16 n)] w fun e w' => e = .returned (.tuple #[.int .u64 (IntKind.u64.wrap n), .bool true, .bool true]) ∧ w = w' := by
  go_enter Tryz.func138, Tryz.ntmps138
  go_wp2_with (go_at_call 45; refine (indirect_any _ _ (by simp) (by simp) _).mono ?_; rintro e w' ⟨rfl, rfl⟩)
  go_ret3
  exact ⟨rfl, rfl⟩
set_option maxHeartbeats 1000000 in
set_option maxRecDepth 100000 in
theorem tu_u64_i32n (n : Int) (h : n < 0) (w : World) : Calls Tryz.prog 138 #[.iface 21 (.int .i32 n)] w fun e w' => e = .returned (.tuple #[.int .u64 0, .bool false, .bool false]) ∧ w = w' := by
  go_enter Tryz.func138, Tryz.ntmps138
  go_wp2_with (go_at_call 45; refine (indirect_any _ _ (by simp) (by simp) _).mono ?_; rintro e w' ⟨rfl, rfl⟩)
  go_ret3
  exact ⟨rfl, rfl⟩
set_option maxHeartbeats 1000000 in
set_option maxRecDepth 100000 in
theorem tu_u64_i32p (n : Int) (h : 0 ≤ n) (w : World) : Calls Tryz.prog 138 #[.iface 21 (.int .i32 n)] w fun e w' => e = .returned (.tuple #[.int .u64 (IntKind.u64.wrap n), .bool true, .bool true]) ∧ w = w' := by
  go_enter Tryz.func138, Tryz.ntmps138
  go_wp2_with (go_at_call 45; refine (indirect_any _ _ (by simp) (by simp) _).mono ?_; rintro e w' ⟨rfl, rfl⟩)
  go_ret3
  exact ⟨rfl, rfl⟩
set_option maxHeartbeats 1000000 in
set_option maxRecDepth 100000 in
theorem tu_u64_i64n (n : Int) (h : n < 0) (w : World) : Calls Tryz.prog 138 #[.iface 2 (.int .i64 n)] w fun e w' => e = .returned (.tuple #[.int .u64 0, .bool false, .bool false]) ∧ w = w' := by
  go_enter Tryz.func138, Tryz.ntmps138
  go_wp2_with (go_at_call 45; refine (indirect_any _ _ (by simp) (by simp) _).mono ?_; rintro e w' ⟨rfl, rfl⟩)
  go_ret3
  exact ⟨rfl, rfl⟩
set_option maxHeartbeats 1000000 in
set_option maxRecDepth 100000 in
theorem tu_u64_i64p (n : Int) (h : 0 ≤ n) (w : World) : Calls Tryz.prog 138 #[.iface 2 (.int .i64 n)] w fun e w' => e = .returned (.tuple #[.int .u64 (IntKind.u64.wrap n), .bool true, .bool true]) ∧ w = w' := by
  go_enter Tryz.func138, Tryz.ntmps138
  go_wp2_with (go_at_call 45; refine (indirect_any _ _ (by simp) (by simp) _).mono ?_; rintro e w' ⟨rfl, rfl⟩)
  go_ret3
  exact ⟨rfl, rfl⟩
set_option maxHeartbeats 1000000 in
set_option maxRecDepth 100000 in
theorem tu_u64_uint (n : Int) (w : World) : Calls Tryz.prog 138 #[.iface 58 (.int .u64 n)] w fun e w' => e = .returned (.tuple #[.int .u64 n, .bool true, .bool true]) ∧ w = w' := by
  go_enter Tryz.func138, Tryz.ntmps138
  go_wp2_with (go_at_call 45; refine (indirect_any _ _ (by simp) (by simp) _).mono ?_; rintro e w' ⟨rfl, rfl⟩)
  go_ret3
  exact ⟨rfl, rfl⟩
set_option maxHeartbeats 1000000 in
set_option maxRecDepth 100000 in
theorem tu_u64_u8 (n : Int) (w : World) : Calls Tryz.prog 138 #[.iface 5 (.int .u8 n)] w fun e w' => e = .returned (.tuple #[.int .u64 (IntKind.u64.wrap n), .bool true, .bool true]) ∧ w = w' := by
  go_enter Tryz.func138, Tryz.ntmps138
  go_wp2_with (go_at_call 45; refine (indirect_any _ _ (by simp) (by simp) _).mono ?_; rintro e w' ⟨rfl, rfl⟩)
  go_ret3
  exact ⟨rfl, rfl⟩
set_option maxHeartbeats 1000000 in
set_option maxRecDepth 100000 in
theorem tu_u64_u16 (n : Int) (w : World) : Calls Tryz.prog 138 #[.iface 75 (.int .u16 n)] w fun e w' => e = .returned (.tuple #[.int .u64 (IntKind.u64.wrap n), .bool true, .bool true]) ∧ w = w' := by
  go_enter Tryz.func138, Tryz.ntmps138
  go_wp2_with (go_at_call 45; refine (indirect_any _ _ (by simp) (by simp) _).mono ?_; rintro e w' ⟨rfl, rfl⟩)
  go_ret3
  exact ⟨rfl, rfl⟩
set_option maxHeartbeats 1000000 in
set_option maxRecDepth 100000 in
theorem tu_u64_u32 (n : Int) (w : World) : Calls Tryz.prog 138 #[.iface 76 (.int .u32 n)] w fun e w' => e = .returned (.tuple #[.int .u64 (IntKind.u64.wrap n), .bool true, .bool true]) ∧ w = w' := by
  go_enter Tryz.func138, Tryz.ntmps138
  go_wp2_with (go_at_call 45; refine (indirect_any _ _ (by simp) (by simp) _).mono ?_; rintro e w' ⟨rfl, rfl⟩)
  go_ret3
  exact ⟨rfl, rfl⟩
set_option maxHeartbeats 1000000 in
set_option maxRecDepth 100000 in
theorem tu_u64_u64 (n : Int) (w : World) : Calls Tryz.prog 138 #[.iface 22 (.int .u64 n)] w fun e w' => e = .returned (.tuple #[.int .u64 n, .bool true, .bool true]) ∧ w = w' := by
  go_enter Tryz.func138, Tryz.ntmps138
  go_wp2_with (go_at_call 45; refine (indirect_any _ _ (by simp) (by simp) _).mono ?_; rintro e w' ⟨rfl, rfl⟩)
  go_ret3
  exact ⟨rfl, rfl⟩
set_option maxHeartbeats 1000000 in
set_option maxRecDepth 100000 in
theorem tu_u64_f32n (b : Nat) (h : (FloatKind.f32.format.order b 0 == some .lt) = true) (w : World) : Calls Tryz.prog 138 #[.iface 77 (.float .f32 b)] w fun e w' => e = .returned (.tuple #[.int .u64 0, .bool false, .bool false]) ∧ w = w' := by
  go_enter Tryz.func138, Tryz.ntmps138
  go_wp2_with (go_at_call 45; refine (indirect_any _ _ (by simp) (by simp) _).mono ?_; rintro e w' ⟨rfl, rfl⟩)
  go_ret3
  exact ⟨rfl, rfl⟩
set_option maxHeartbeats 1000000 in
set_option maxRecDepth 100000 in
theorem tu_u64_f32p (b : Nat) (x : Int) (h0 : (FloatKind.f32.format.order b 0 == some .lt) = false) (h : floatToIntVal .f32 b .u64 = some x) (w : World) : Calls Tryz.prog 138 #[.iface 77 (.float .f32 b)] w fun e w' => e = .returned (.tuple #[.int .u64 x, .bool true, .bool true]) ∧ w = w' := by
  have hc : ∀ w, (convert 77 22 (.float .f32 b)).run Tryz.prog w = .ok (.int .u64 x) w := fun w => run_convert_float_int w 77 22 .f32 .u64 b x (by kernel_rfl) Tryz.underlying22 h
  clear h
  go_enter Tryz.func138, Tryz.ntmps138
  go_wp2_with (go_at_call 45; refine (indirect_any _ _ (by simp) (by simp) _).mono ?_; rintro e w' ⟨rfl, rfl⟩)
  go_ret3
  exact ⟨rfl, rfl⟩
set_option maxHeartbeats 1000000 in
set_option maxRecDepth 100000 in
theorem tu_u64_f64n (b : Nat) (h : (FloatKind.f64.format.order b 0 == some .lt) = true) (w : World) : Calls Tryz.prog 138 #[.iface 23 (.float .f64 b)] w fun e w' => e = .returned (.tuple #[.int .u64 0, .bool false, .bool false]) ∧ w = w' := by
  go_enter Tryz.func138, Tryz.ntmps138
  go_wp2_with (go_at_call 45; refine (indirect_any _ _ (by simp) (by simp) _).mono ?_; rintro e w' ⟨rfl, rfl⟩)
  go_ret3
  exact ⟨rfl, rfl⟩
set_option maxHeartbeats 1000000 in
set_option maxRecDepth 100000 in
theorem tu_u64_f64p (b : Nat) (x : Int) (h0 : (FloatKind.f64.format.order b 0 == some .lt) = false) (h : floatToIntVal .f64 b .u64 = some x) (w : World) : Calls Tryz.prog 138 #[.iface 23 (.float .f64 b)] w fun e w' => e = .returned (.tuple #[.int .u64 x, .bool true, .bool true]) ∧ w = w' := by
  have hc : ∀ w, (convert 23 22 (.float .f64 b)).run Tryz.prog w = .ok (.int .u64 x) w := fun w => run_convert_float_int w 23 22 .f64 .u64 b x (by kernel_rfl) Tryz.underlying22 h
  clear h
  go_enter Tryz.func138, Tryz.ntmps138
  go_wp2_with (go_at_call 45; refine (indirect_any _ _ (by simp) (by simp) _).mono ?_; rintro e w' ⟨rfl, rfl⟩)
  go_ret3
  exact ⟨rfl, rfl⟩
end Go.Proofs.YtnggkkdcddpjlaaGreatDoor
