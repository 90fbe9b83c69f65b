/- toNumber at float64, at each plain dynamic type: what it answers. -/
import Derived.Test.YtnggkkdcddpjlaaGreatDoorBase
namespace Go.Proofs.YtnggkkdcddpjlaaGreatDoor
open Go.RowKit
set_option maxHeartbeats 1000000 in
set_option maxRecDepth 100000 in
theorem tn_f64_nil (w : World) : Calls Tryz.prog 92 #[.nilIface] w fun e w' => e = .returned (.tuple #[.float .f64 0, .bool true]) ∧ w = w' := by
  go_enter Tryz.func92, Tryz.ntmps92
  go_wp2_with (go_at_call 45; refine (indirect_nil _).mono ?_; rintro e w' ⟨rfl, rfl⟩)
  go_ret2
  exact ⟨rfl, rfl⟩
set_option maxHeartbeats 1000000 in
set_option maxRecDepth 100000 in
theorem tn_f64_true (w : World) : Calls Tryz.prog 92 #[.iface 4 (.bool true)] w fun e w' => e = .returned (.tuple #[.float .f64 4607182418800017408, .bool true]) ∧ w = w' := by
  go_enter Tryz.func92, Tryz.ntmps92
  go_wp2_with (go_at_call 45; refine (indirect_any _ _ (by simp) (by simp) _).mono ?_; rintro e w' ⟨rfl, rfl⟩)
  go_ret2
  exact ⟨rfl, rfl⟩
set_option maxHeartbeats 1000000 in
set_option maxRecDepth 100000 in
theorem tn_f64_false (w : World) : Calls Tryz.prog 92 #[.iface 4 (.bool false)] w fun e w' => e = .returned (.tuple #[.float .f64 0, .bool true]) ∧ w = w' := by
  go_enter Tryz.func92, Tryz.ntmps92
  go_wp2_with (go_at_call 45; refine (indirect_any _ _ (by simp) (by simp) _).mono ?_; rintro e w' ⟨rfl, rfl⟩)
  go_ret2
  exact ⟨rfl, rfl⟩
set_option maxHeartbeats 1000000 in
set_option maxRecDepth 100000 in
theorem tn_f64_str (s : ByteArray) (w : World) : Calls Tryz.prog 92 #[.iface 9 (.string s)] w fun e w' => e = .returned (.tuple #[.float .f64 0, .bool false]) ∧ w = w' := by
  go_enter Tryz.func92, Tryz.ntmps92
  go_wp2_with (go_at_call 45; refine (indirect_any _ _ (by simp) (by simp) _).mono ?_; rintro e w' ⟨rfl, rfl⟩)
  go_ret2
  exact ⟨rfl, rfl⟩
set_option maxHeartbeats 1000000 in
set_option maxRecDepth 100000 in
theorem tn_f64_int (n : Int) (w : World) : Calls Tryz.prog 92 #[.iface 3 (.int .i64 n)] w fun e w' => e = .returned (.tuple #[.float .f64 (floatOfInt .f64 n), .bool true]) ∧ w = w' := by
  go_enter Tryz.func92, Tryz.ntmps92
  go_wp2_with (go_at_call 45; refine (indirect_any _ _ (by simp) (by simp) _).mono ?_; rintro e w' ⟨rfl, rfl⟩)
  go_ret2
  exact ⟨rfl, rfl⟩
set_option maxHeartbeats 1000000 in
set_option maxRecDepth 100000 in
theorem tn_f64_i8 (n : Int) (w : World) : Calls Tryz.prog 92 #[.iface 73 (.int .i8 n)] w fun e w' => e = .returned (.tuple #[.float .f64 (floatOfInt .f64 n), .bool true]) ∧ w = w' := by
  go_enter Tryz.func92, Tryz.ntmps92
  go_wp2_with (go_at_call 45; refine (indirect_any _ _ (by simp) (by simp) _).mono ?_; rintro e w' ⟨rfl, rfl⟩)
  go_ret2
  exact ⟨rfl, rfl⟩
set_option maxHeartbeats 1000000 in
set_option maxRecDepth 100000 in
theorem tn_f64_i16 (n : Int) (w : World) : Calls Tryz.prog 92 #[.iface 74 (.int .i16 n)] w fun e w' => e = .returned (.tuple #[.float .f64 (floatOfInt .f64 n), .bool true]) ∧ w = w' := by
  go_enter Tryz.func92, Tryz.ntmps92
  go_wp2_with (go_at_call 45; refine (indirect_any _ _ (by simp) (by simp) _).mono ?_; rintro e w' ⟨rfl, rfl⟩)
  go_ret2
  exact ⟨rfl, rfl⟩
set_option maxHeartbeats 1000000 in
set_option maxRecDepth 100000 in
theorem tn_f64_i32 (n : Int) (w : World) : Calls Tryz.prog 92 #[.iface 21 (.int .i32 n)] w fun e w' => e = .returned (.tuple #[.float .f64 (floatOfInt .f64 n), .bool true]) ∧ w = w' := by
  go_enter Tryz.func92, Tryz.ntmps92
  go_wp2_with (go_at_call 45; refine (indirect_any _ _ (by simp) (by simp) _).mono ?_; rintro e w' ⟨rfl, rfl⟩)
  go_ret2
  exact ⟨rfl, rfl⟩
set_option maxHeartbeats 1000000 in
set_option maxRecDepth 100000 in
theorem tn_f64_i64 (n : Int) (w : World) : Calls Tryz.prog 92 #[.iface 2 (.int .i64 n)] w fun e w' => e = .returned (.tuple #[.float .f64 (floatOfInt .f64 n), .bool true]) ∧ w = w' := by
  go_enter Tryz.func92, Tryz.ntmps92
  go_wp2_with (go_at_call 45; refine (indirect_any _ _ (by simp) (by simp) _).mono ?_; rintro e w' ⟨rfl, rfl⟩)
  go_ret2
  exact ⟨rfl, rfl⟩
set_option maxHeartbeats 1000000 in
set_option maxRecDepth 100000 in
theorem tn_f64_uint (n : Int) (w : World) : Calls Tryz.prog 92 #[.iface 58 (.int .u64 n)] w fun e w' => e = .returned (.tuple #[.float .f64 (floatOfInt .f64 n), .bool true]) ∧ w = w' := by
  go_enter Tryz.func92, Tryz.ntmps92
  go_wp2_with (go_at_call 45; refine (indirect_any _ _ (by simp) (by simp) _).mono ?_; rintro e w' ⟨rfl, rfl⟩)
  go_ret2
  exact ⟨rfl, rfl⟩
set_option maxHeartbeats 1000000 in
set_option maxRecDepth 100000 in
theorem tn_f64_u8 (n : Int) (w : World) : Calls Tryz.prog 92 #[.iface 5 (.int .u8 n)] w fun e w' => e = .returned (.tuple #[.float .f64 (floatOfInt .f64 n), .bool true]) ∧ w = w' := by
  go_enter Tryz.func92, Tryz.ntmps92
  go_wp2_with (go_at_call 45; refine (indirect_any _ _ (by simp) (by simp) _).mono ?_; rintro e w' ⟨rfl, rfl⟩)
  go_ret2
  exact ⟨rfl, rfl⟩
set_option maxHeartbeats 1000000 in
set_option maxRecDepth 100000 in
theorem tn_f64_u16 (n : Int) (w : World) : Calls Tryz.prog 92 #[.iface 75 (.int .u16 n)] w fun e w' => e = .returned (.tuple #[.float .f64 (floatOfInt .f64 n), .bool true]) ∧ w = w' := by
  go_enter Tryz.func92, Tryz.ntmps92
  go_wp2_with (go_at_call 45; refine (indirect_any _ _ (by simp) (by simp) _).mono ?_; rintro e w' ⟨rfl, rfl⟩)
  go_ret2
  exact ⟨rfl, rfl⟩
set_option maxHeartbeats 1000000 in
set_option maxRecDepth 100000 in
theorem tn_f64_u32 (n : Int) (w : World) : Calls Tryz.prog 92 #[.iface 76 (.int .u32 n)] w fun e w' => e = .returned (.tuple #[.float .f64 (floatOfInt .f64 n), .bool true]) ∧ w = w' := by
  go_enter Tryz.func92, Tryz.ntmps92
  go_wp2_with (go_at_call 45; refine (indirect_any _ _ (by simp) (by simp) _).mono ?_; rintro e w' ⟨rfl, rfl⟩)
  go_ret2
  exact ⟨rfl, rfl⟩
set_option maxHeartbeats 1000000 in
set_option maxRecDepth 100000 in
theorem tn_f64_u64 (n : Int) (w : World) : Calls Tryz.prog 92 #[.iface 22 (.int .u64 n)] w fun e w' => e = .returned (.tuple #[.float .f64 (floatOfInt .f64 n), .bool true]) ∧ w = w' := by
  go_enter Tryz.func92, Tryz.ntmps92
  go_wp2_with (go_at_call 45; refine (indirect_any _ _ (by simp) (by simp) _).mono ?_; rintro e w' ⟨rfl, rfl⟩)
  go_ret2
  exact ⟨rfl, rfl⟩
set_option maxHeartbeats 1000000 in
set_option maxRecDepth 100000 in
theorem tn_f64_f64 (b : Nat) (w : World) : Calls Tryz.prog 92 #[.iface 23 (.float .f64 b)] w fun e w' => e = .returned (.tuple #[.float .f64 b, .bool true]) ∧ w = w' := by
  go_enter Tryz.func92, Tryz.ntmps92
  go_wp2_with (go_at_call 45; refine (indirect_any _ _ (by simp) (by simp) _).mono ?_; rintro e w' ⟨rfl, rfl⟩)
  go_ret2
  exact ⟨rfl, rfl⟩
set_option maxHeartbeats 1000000 in
set_option maxRecDepth 100000 in
theorem tn_f64_f32 (b x : Nat) (h : floatToFloatBits .f32 b .f64 = some x) (w : World) : Calls Tryz.prog 92 #[.iface 77 (.float .f32 b)] w fun e w' => e = .returned (.tuple #[.float .f64 x, .bool true]) ∧ w = w' := by
  have hc : ∀ w, (convert 77 23 (.float .f32 b)).run Tryz.prog w = .ok (.float .f64 x) w := fun w => run_convert_float_float w 77 23 .f32 .f64 b x (by kernel_rfl) Tryz.underlying23 h
  clear h
  go_enter Tryz.func92, Tryz.ntmps92
  go_wp2_with (go_at_call 45; refine (indirect_any _ _ (by simp) (by simp) _).mono ?_; rintro e w' ⟨rfl, rfl⟩)
  go_ret2
  exact ⟨rfl, rfl⟩
end Go.Proofs.YtnggkkdcddpjlaaGreatDoor
