/- A plain value; what cast's forms with an error answer of it. -/
import Derived.Test.YtnggkkdcddpjlaaGreatDoorNe
import Derived.Test.YtnggkkdcddpjlaaGreatDoorTi
import Derived.Test.YtnggkkdcddpjlaaGreatDoorFp
namespace Go.Proofs.YtnggkkdcddpjlaaGreatDoor
set_option linter.unusedVariables false
set_option linter.unusedSimpArgs false
open Go.RowKit
/-- A plain value. -/
inductive PV where
  | nil | tt | ff
  | int (n : Int) | i8 (n : Int) | i16 (n : Int) | i32 (n : Int) | i64 (n : Int)
  | uint (n : Int) | u8 (n : Int) | u16 (n : Int) | u32 (n : Int) | u64 (n : Int)
  | f32 (x : Nat) | f64 (x : Nat) | str (s : ByteArray)
def PV.val : PV → Value
  | nil => .nilIface | tt => .iface 4 (.bool true) | ff => .iface 4 (.bool false)
  | int n => .iface 3 (.int .i64 n) | i8 n => .iface 73 (.int .i8 n) | i16 n => .iface 74 (.int .i16 n) | i32 n => .iface 21 (.int .i32 n) | i64 n => .iface 2 (.int .i64 n)
  | uint n => .iface 58 (.int .u64 n) | u8 n => .iface 5 (.int .u8 n) | u16 n => .iface 75 (.int .u16 n) | u32 n => .iface 76 (.int .u32 n) | u64 n => .iface 22 (.int .u64 n)
  | f32 x => .iface 77 (.float .f32 x) | f64 x => .iface 23 (.float .f64 x) | str s => .iface 9 (.string s)
/-- Its numbers lie within their kinds, its float within a bound, its text is short. -/
def PV.ok (c j : Nat) : PV → Prop
  | nil => True | tt => True | ff => True
  | int n => -9223372036854775808 ≤ n ∧ n ≤ 9223372036854775807 | i8 n => -128 ≤ n ∧ n ≤ 127 | i16 n => -32768 ≤ n ∧ n ≤ 32767
  | i32 n => -2147483648 ≤ n ∧ n ≤ 2147483647 | i64 n => -9223372036854775808 ≤ n ∧ n ≤ 9223372036854775807
  | uint n => 0 ≤ n ∧ n < 18446744073709551616 | u8 n => 0 ≤ n ∧ n ≤ 255 | u16 n => 0 ≤ n ∧ n ≤ 65535 | u32 n => 0 ≤ n ∧ n ≤ 4294967295 | u64 n => 0 ≤ n ∧ n < 18446744073709551616
  | f32 x => FB .f32 c j x ∧ x < 4294967296 | f64 x => FB .f64 c j x ∧ x < 18446744073709551616 | str s => s.size ≤ 400
/-- What a form with an error answers, whatever the world. -/
def AnsE (N : Nat) (V r : Value) (bad : Bool) : Prop := ∀ w, Tabs w → Two w → Calls Tryz.prog N #[V] w fun e w' => ∃ ev, e = .returned (.tuple #[r, ev]) ∧ ErrIs bad ev ∧ Below w.heap.size w w'
theorem ind_any (t : TypeId) (v : Value) (h1 : t ≠ 101) (h2 : t ≠ 102) (w : World) : Calls Tryz.prog 45 #[.iface t v] w fun e w' => e = .returned (.tuple #[.iface t v, .bool false]) ∧ w = w' :=
  indirect_any t v (by simp [h1]) (by simp [h2]) w
theorem xe27_ok (V : Value) (n : Int) (h : ∀ w, Calls Tryz.prog 86 #[V] w fun e w' => e = .returned (.tuple #[.int .i64 n, .bool true]) ∧ w = w') : AnsE 27 V (.int .i64 n) false := by
  intro w hw h2
  go_enter Tryz.func27, Tryz.ntmps27
  go_wp2_with (go_at_call 65; refine (ne65_ok V n _ (h _)).mono ?_; rintro e w' ⟨rfl, rfl⟩)
  go_ret2
  exact ⟨_, rfl, Or.inl ⟨rfl, rfl⟩, Below.refl _ _⟩
theorem xe27_s (s : ByteArray) (hs : s.size ≤ 400) : ∃ (n : Int) (bad : Bool), AnsE 27 (.iface 9 (.string s)) (.int .i64 n) bad ∧ (bad = true → n = 0) := by
  by_cases h0 : s.size = 0
  · obtain rfl := str_e s h0
    refine ⟨0, false, fun w hw h2 => ?_, by simp⟩
    go_enter Tryz.func27, Tryz.ntmps27
    go_wp2_with (go_at_call 65; refine (ne65_e _).mono ?_; rintro e w' ⟨rfl, rfl⟩)
    go_ret2
    exact ⟨_, rfl, Or.inl ⟨rfl, rfl⟩, Below.refl _ _⟩
  · obtain ⟨n, bad, hp⟩ := cpiF_some s 20000 (by omega) (by omega)
    have A := fun (w : World) hw h2 => ne65_s 20000 s n bad w hw h2 (by omega) h0 hp
    clear hp
    refine ⟨if bad = true then 0 else n, bad, fun w hw h2 => ?_, fun h => by rw [if_pos h]⟩
    have A := A w hw h2
    cases bad
    · go_enter Tryz.func27, Tryz.ntmps27
      go_wp2_with (go_at_call 65; refine A.mono ?_; rintro e w' ⟨ev, rfl, hev, hb⟩)
      go_ret2
      exact ⟨_, rfl, hev, hb⟩
    · go_enter Tryz.func27, Tryz.ntmps27
      go_wp2_with (go_at_call 65; refine A.mono ?_; rintro e w' ⟨ev, rfl, hev, hb⟩)
      go_ret2
      exact ⟨_, rfl, hev, hb⟩
theorem intE (c j : Nat) (p : PV) (hp : p.ok c j) (hm : ((c * 2 ^ j : Nat) : Int) ≤ 9223372036854775807) : ∃ (n : Int) (bad : Bool), AnsE 27 p.val (.int .i64 n) bad ∧ (bad = true → n = 0) := by
  cases p with
  | nil => exact ⟨_, false, xe27_ok _ _ (fun w => tn_int_nil w), by simp⟩
  | tt => exact ⟨_, false, xe27_ok _ _ (fun w => tn_int_true w), by simp⟩
  | ff => exact ⟨_, false, xe27_ok _ _ (fun w => tn_int_false w), by simp⟩
  | int n => exact ⟨_, false, xe27_ok _ _ (fun w => tn_int_int n w), by simp⟩
  | i8 n => exact ⟨_, false, xe27_ok _ _ (fun w => tn_int_i8 n w), by simp⟩
  | i16 n => exact ⟨_, false, xe27_ok _ _ (fun w => tn_int_i16 n w), by simp⟩
  | i32 n => exact ⟨_, false, xe27_ok _ _ (fun w => tn_int_i32 n w), by simp⟩
  | i64 n => exact ⟨_, false, xe27_ok _ _ (fun w => tn_int_i64 n w), by simp⟩
  | uint n => exact ⟨_, false, xe27_ok _ _ (fun w => tn_int_uint n w), by simp⟩
  | u8 n => exact ⟨_, false, xe27_ok _ _ (fun w => tn_int_u8 n w), by simp⟩
  | u16 n => exact ⟨_, false, xe27_ok _ _ (fun w => tn_int_u16 n w), by simp⟩
  | u32 n => exact ⟨_, false, xe27_ok _ _ (fun w => tn_int_u32 n w), by simp⟩
  | u64 n => exact ⟨_, false, xe27_ok _ _ (fun w => tn_int_u64 n w), by simp⟩
  | f32 x =>
    obtain ⟨n, hn⟩ := fb_ival .f32 .i64 c j x hp.1 (by rw [show IntKind.i64.min = -9223372036854775808 from by decide]; omega) (by rw [show IntKind.i64.max = 9223372036854775807 from by decide]; exact hm)
    exact ⟨n, false, xe27_ok _ _ (fun w => tn_int_f32 x n hn w), by simp⟩
  | f64 x =>
    obtain ⟨n, hn⟩ := fb_ival .f64 .i64 c j x hp.1 (by rw [show IntKind.i64.min = -9223372036854775808 from by decide]; omega) (by rw [show IntKind.i64.max = 9223372036854775807 from by decide]; exact hm)
    exact ⟨n, false, xe27_ok _ _ (fun w => tn_int_f64 x n hn w), by simp⟩
  | str s => exact xe27_s s hp
theorem xe76_ok (V : Value) (n : Int) (h : ∀ w, Calls Tryz.prog 131 #[V] w fun e w' => e = .returned (.tuple #[.int .i8 n, .bool true]) ∧ w = w') : AnsE 76 V (.int .i8 n) false := by
  intro w hw h2
  go_enter Tryz.func76, Tryz.ntmps76
  go_wp2_with (go_at_call 99; refine (ne99_ok V n _ (h _)).mono ?_; rintro e w' ⟨rfl, rfl⟩)
  go_ret2
  exact ⟨_, rfl, Or.inl ⟨rfl, rfl⟩, Below.refl _ _⟩
theorem xe76_s (s : ByteArray) (hs : s.size ≤ 400) : ∃ (n : Int) (bad : Bool), AnsE 76 (.iface 9 (.string s)) (.int .i8 n) bad ∧ (bad = true → n = 0) := by
  by_cases h0 : s.size = 0
  · obtain rfl := str_e s h0
    refine ⟨0, false, fun w hw h2 => ?_, by simp⟩
    go_enter Tryz.func76, Tryz.ntmps76
    go_wp2_with (go_at_call 99; refine (ne99_e _).mono ?_; rintro e w' ⟨rfl, rfl⟩)
    go_ret2
    exact ⟨_, rfl, Or.inl ⟨rfl, rfl⟩, Below.refl _ _⟩
  · obtain ⟨n, bad, hp⟩ := cpiF_some s 20000 (by omega) (by omega)
    have A := fun (w : World) hw h2 => ne99_s 20000 s n bad w hw h2 (by omega) h0 hp
    clear hp
    refine ⟨if bad = true then 0 else IntKind.i8.wrap n, bad, fun w hw h2 => ?_, fun h => by rw [if_pos h]⟩
    have A := A w hw h2
    cases bad
    · go_enter Tryz.func76, Tryz.ntmps76
      go_wp2_with (go_at_call 99; refine A.mono ?_; rintro e w' ⟨ev, rfl, hev, hb⟩)
      go_ret2
      exact ⟨_, rfl, hev, hb⟩
    · go_enter Tryz.func76, Tryz.ntmps76
      go_wp2_with (go_at_call 99; refine A.mono ?_; rintro e w' ⟨ev, rfl, hev, hb⟩)
      go_ret2
      exact ⟨_, rfl, hev, hb⟩
theorem i8E (c j : Nat) (p : PV) (hp : p.ok c j) (hm : ((c * 2 ^ j : Nat) : Int) ≤ 127) : ∃ (n : Int) (bad : Bool), AnsE 76 p.val (.int .i8 n) bad ∧ (bad = true → n = 0) := by
  cases p with
  | nil => exact ⟨_, false, xe76_ok _ _ (fun w => tn_i8_nil w), by simp⟩
  | tt => exact ⟨_, false, xe76_ok _ _ (fun w => tn_i8_true w), by simp⟩
  | ff => exact ⟨_, false, xe76_ok _ _ (fun w => tn_i8_false w), by simp⟩
  | int n => exact ⟨_, false, xe76_ok _ _ (fun w => tn_i8_int n w), by simp⟩
  | i8 n => exact ⟨_, false, xe76_ok _ _ (fun w => tn_i8_i8 n w), by simp⟩
  | i16 n => exact ⟨_, false, xe76_ok _ _ (fun w => tn_i8_i16 n w), by simp⟩
  | i32 n => exact ⟨_, false, xe76_ok _ _ (fun w => tn_i8_i32 n w), by simp⟩
  | i64 n => exact ⟨_, false, xe76_ok _ _ (fun w => tn_i8_i64 n w), by simp⟩
  | uint n => exact ⟨_, false, xe76_ok _ _ (fun w => tn_i8_uint n w), by simp⟩
  | u8 n => exact ⟨_, false, xe76_ok _ _ (fun w => tn_i8_u8 n w), by simp⟩
  | u16 n => exact ⟨_, false, xe76_ok _ _ (fun w => tn_i8_u16 n w), by simp⟩
  | u32 n => exact ⟨_, false, xe76_ok _ _ (fun w => tn_i8_u32 n w), by simp⟩
  | u64 n => exact ⟨_, false, xe76_ok _ _ (fun w => tn_i8_u64 n w), by simp⟩
  | f32 x =>
    obtain ⟨n, hn⟩ := fb_ival .f32 .i8 c j x hp.1 (by rw [show IntKind.i8.min = -128 from by decide]; omega) (by rw [show IntKind.i8.max = 127 from by decide]; exact hm)
    exact ⟨n, false, xe76_ok _ _ (fun w => tn_i8_f32 x n hn w), by simp⟩
  | f64 x =>
    obtain ⟨n, hn⟩ := fb_ival .f64 .i8 c j x hp.1 (by rw [show IntKind.i8.min = -128 from by decide]; omega) (by rw [show IntKind.i8.max = 127 from by decide]; exact hm)
    exact ⟨n, false, xe76_ok _ _ (fun w => tn_i8_f64 x n hn w), by simp⟩
  | str s => exact xe76_s s hp
theorem xe77_ok (V : Value) (n : Int) (h : ∀ w, Calls Tryz.prog 132 #[V] w fun e w' => e = .returned (.tuple #[.int .i16 n, .bool true]) ∧ w = w') : AnsE 77 V (.int .i16 n) false := by
  intro w hw h2
  go_enter Tryz.func77, Tryz.ntmps77
  go_wp2_with (go_at_call 101; refine (ne101_ok V n _ (h _)).mono ?_; rintro e w' ⟨rfl, rfl⟩)
  go_ret2
  exact ⟨_, rfl, Or.inl ⟨rfl, rfl⟩, Below.refl _ _⟩
theorem xe77_s (s : ByteArray) (hs : s.size ≤ 400) : ∃ (n : Int) (bad : Bool), AnsE 77 (.iface 9 (.string s)) (.int .i16 n) bad ∧ (bad = true → n = 0) := by
  by_cases h0 : s.size = 0
  · obtain rfl := str_e s h0
    refine ⟨0, false, fun w hw h2 => ?_, by simp⟩
    go_enter Tryz.func77, Tryz.ntmps77
    go_wp2_with (go_at_call 101; refine (ne101_e _).mono ?_; rintro e w' ⟨rfl, rfl⟩)
    go_ret2
    exact ⟨_, rfl, Or.inl ⟨rfl, rfl⟩, Below.refl _ _⟩
  · obtain ⟨n, bad, hp⟩ := cpiF_some s 20000 (by omega) (by omega)
    have A := fun (w : World) hw h2 => ne101_s 20000 s n bad w hw h2 (by omega) h0 hp
    clear hp
    refine ⟨if bad = true then 0 else IntKind.i16.wrap n, bad, fun w hw h2 => ?_, fun h => by rw [if_pos h]⟩
    have A := A w hw h2
    cases bad
    · go_enter Tryz.func77, Tryz.ntmps77
      go_wp2_with (go_at_call 101; refine A.mono ?_; rintro e w' ⟨ev, rfl, hev, hb⟩)
      go_ret2
      exact ⟨_, rfl, hev, hb⟩
    · go_enter Tryz.func77, Tryz.ntmps77
      go_wp2_with (go_at_call 101; refine A.mono ?_; rintro e w' ⟨ev, rfl, hev, hb⟩)
      go_ret2
      exact ⟨_, rfl, hev, hb⟩
theorem i16E (c j : Nat) (p : PV) (hp : p.ok c j) (hm : ((c * 2 ^ j : Nat) : Int) ≤ 32767) : ∃ (n : Int) (bad : Bool), AnsE 77 p.val (.int .i16 n) bad ∧ (bad = true → n = 0) := by
  cases p with
  | nil => exact ⟨_, false, xe77_ok _ _ (fun w => tn_i16_nil w), by simp⟩
  | tt => exact ⟨_, false, xe77_ok _ _ (fun w => tn_i16_true w), by simp⟩
  | ff => exact ⟨_, false, xe77_ok _ _ (fun w => tn_i16_false w), by simp⟩
  | int n => exact ⟨_, false, xe77_ok _ _ (fun w => tn_i16_int n w), by simp⟩
  | i8 n => exact ⟨_, false, xe77_ok _ _ (fun w => tn_i16_i8 n w), by simp⟩
  | i16 n => exact ⟨_, false, xe77_ok _ _ (fun w => tn_i16_i16 n w), by simp⟩
  | i32 n => exact ⟨_, false, xe77_ok _ _ (fun w => tn_i16_i32 n w), by simp⟩
  | i64 n => exact ⟨_, false, xe77_ok _ _ (fun w => tn_i16_i64 n w), by simp⟩
  | uint n => exact ⟨_, false, xe77_ok _ _ (fun w => tn_i16_uint n w), by simp⟩
  | u8 n => exact ⟨_, false, xe77_ok _ _ (fun w => tn_i16_u8 n w), by simp⟩
  | u16 n => exact ⟨_, false, xe77_ok _ _ (fun w => tn_i16_u16 n w), by simp⟩
  | u32 n => exact ⟨_, false, xe77_ok _ _ (fun w => tn_i16_u32 n w), by simp⟩
  | u64 n => exact ⟨_, false, xe77_ok _ _ (fun w => tn_i16_u64 n w), by simp⟩
  | f32 x =>
    obtain ⟨n, hn⟩ := fb_ival .f32 .i16 c j x hp.1 (by rw [show IntKind.i16.min = -32768 from by decide]; omega) (by rw [show IntKind.i16.max = 32767 from by decide]; exact hm)
    exact ⟨n, false, xe77_ok _ _ (fun w => tn_i16_f32 x n hn w), by simp⟩
  | f64 x =>
    obtain ⟨n, hn⟩ := fb_ival .f64 .i16 c j x hp.1 (by rw [show IntKind.i16.min = -32768 from by decide]; omega) (by rw [show IntKind.i16.max = 32767 from by decide]; exact hm)
    exact ⟨n, false, xe77_ok _ _ (fun w => tn_i16_f64 x n hn w), by simp⟩
  | str s => exact xe77_s s hp
theorem xe78_ok (V : Value) (n : Int) (h : ∀ w, Calls Tryz.prog 133 #[V] w fun e w' => e = .returned (.tuple #[.int .i32 n, .bool true]) ∧ w = w') : AnsE 78 V (.int .i32 n) false := by
  intro w hw h2
  go_enter Tryz.func78, Tryz.ntmps78
  go_wp2_with (go_at_call 103; refine (ne103_ok V n _ (h _)).mono ?_; rintro e w' ⟨rfl, rfl⟩)
  go_ret2
  exact ⟨_, rfl, Or.inl ⟨rfl, rfl⟩, Below.refl _ _⟩
theorem xe78_s (s : ByteArray) (hs : s.size ≤ 400) : ∃ (n : Int) (bad : Bool), AnsE 78 (.iface 9 (.string s)) (.int .i32 n) bad ∧ (bad = true → n = 0) := by
  by_cases h0 : s.size = 0
  · obtain rfl := str_e s h0
    refine ⟨0, false, fun w hw h2 => ?_, by simp⟩
    go_enter Tryz.func78, Tryz.ntmps78
    go_wp2_with (go_at_call 103; refine (ne103_e _).mono ?_; rintro e w' ⟨rfl, rfl⟩)
    go_ret2
    exact ⟨_, rfl, Or.inl ⟨rfl, rfl⟩, Below.refl _ _⟩
  · obtain ⟨n, bad, hp⟩ := cpiF_some s 20000 (by omega) (by omega)
    have A := fun (w : World) hw h2 => ne103_s 20000 s n bad w hw h2 (by omega) h0 hp
    clear hp
    refine ⟨if bad = true then 0 else wrap32 n, bad, fun w hw h2 => ?_, fun h => by rw [if_pos h]⟩
    have A := A w hw h2
    cases bad
    · go_enter Tryz.func78, Tryz.ntmps78
      go_wp2_with (go_at_call 103; refine A.mono ?_; rintro e w' ⟨ev, rfl, hev, hb⟩)
      go_ret2
      exact ⟨_, rfl, hev, hb⟩
    · go_enter Tryz.func78, Tryz.ntmps78
      go_wp2_with (go_at_call 103; refine A.mono ?_; rintro e w' ⟨ev, rfl, hev, hb⟩)
      go_ret2
      exact ⟨_, rfl, hev, hb⟩
theorem i32E (c j : Nat) (p : PV) (hp : p.ok c j) (hm : ((c * 2 ^ j : Nat) : Int) ≤ 2147483647) : ∃ (n : Int) (bad : Bool), AnsE 78 p.val (.int .i32 n) bad ∧ (bad = true → n = 0) := by
  cases p with
  | nil => exact ⟨_, false, xe78_ok _ _ (fun w => tn_i32_nil w), by simp⟩
  | tt => exact ⟨_, false, xe78_ok _ _ (fun w => tn_i32_true w), by simp⟩
  | ff => exact ⟨_, false, xe78_ok _ _ (fun w => tn_i32_false w), by simp⟩
  | int n => exact ⟨_, false, xe78_ok _ _ (fun w => tn_i32_int n w), by simp⟩
  | i8 n => exact ⟨_, false, xe78_ok _ _ (fun w => tn_i32_i8 n w), by simp⟩
  | i16 n => exact ⟨_, false, xe78_ok _ _ (fun w => tn_i32_i16 n w), by simp⟩
  | i32 n => exact ⟨_, false, xe78_ok _ _ (fun w => tn_i32_i32 n w), by simp⟩
  | i64 n => exact ⟨_, false, xe78_ok _ _ (fun w => tn_i32_i64 n w), by simp⟩
  | uint n => exact ⟨_, false, xe78_ok _ _ (fun w => tn_i32_uint n w), by simp⟩
  | u8 n => exact ⟨_, false, xe78_ok _ _ (fun w => tn_i32_u8 n w), by simp⟩
  | u16 n => exact ⟨_, false, xe78_ok _ _ (fun w => tn_i32_u16 n w), by simp⟩
  | u32 n => exact ⟨_, false, xe78_ok _ _ (fun w => tn_i32_u32 n w), by simp⟩
  | u64 n => exact ⟨_, false, xe78_ok _ _ (fun w => tn_i32_u64 n w), by simp⟩
  | f32 x =>
    obtain ⟨n, hn⟩ := fb_ival .f32 .i32 c j x hp.1 (by rw [show IntKind.i32.min = -2147483648 from by decide]; omega) (by rw [show IntKind.i32.max = 2147483647 from by decide]; exact hm)
    exact ⟨n, false, xe78_ok _ _ (fun w => tn_i32_f32 x n hn w), by simp⟩
  | f64 x =>
    obtain ⟨n, hn⟩ := fb_ival .f64 .i32 c j x hp.1 (by rw [show IntKind.i32.min = -2147483648 from by decide]; omega) (by rw [show IntKind.i32.max = 2147483647 from by decide]; exact hm)
    exact ⟨n, false, xe78_ok _ _ (fun w => tn_i32_f64 x n hn w), by simp⟩
  | str s => exact xe78_s s hp
theorem xe79_ok (V : Value) (n : Int) (h : ∀ w, Calls Tryz.prog 134 #[V] w fun e w' => e = .returned (.tuple #[.int .i64 n, .bool true]) ∧ w = w') : AnsE 79 V (.int .i64 n) false := by
  intro w hw h2
  go_enter Tryz.func79, Tryz.ntmps79
  go_wp2_with (go_at_call 105; refine (ne105_ok V n _ (h _)).mono ?_; rintro e w' ⟨rfl, rfl⟩)
  go_ret2
  exact ⟨_, rfl, Or.inl ⟨rfl, rfl⟩, Below.refl _ _⟩
theorem xe79_s (s : ByteArray) (hs : s.size ≤ 400) : ∃ (n : Int) (bad : Bool), AnsE 79 (.iface 9 (.string s)) (.int .i64 n) bad ∧ (bad = true → n = 0) := by
  by_cases h0 : s.size = 0
  · obtain rfl := str_e s h0
    refine ⟨0, false, fun w hw h2 => ?_, by simp⟩
    go_enter Tryz.func79, Tryz.ntmps79
    go_wp2_with (go_at_call 105; refine (ne105_e _).mono ?_; rintro e w' ⟨rfl, rfl⟩)
    go_ret2
    exact ⟨_, rfl, Or.inl ⟨rfl, rfl⟩, Below.refl _ _⟩
  · obtain ⟨n, bad, hp⟩ := cpiF_some s 20000 (by omega) (by omega)
    have A := fun (w : World) hw h2 => ne105_s 20000 s n bad w hw h2 (by omega) h0 hp
    clear hp
    refine ⟨if bad = true then 0 else n, bad, fun w hw h2 => ?_, fun h => by rw [if_pos h]⟩
    have A := A w hw h2
    cases bad
    · go_enter Tryz.func79, Tryz.ntmps79
      go_wp2_with (go_at_call 105; refine A.mono ?_; rintro e w' ⟨ev, rfl, hev, hb⟩)
      go_ret2
      exact ⟨_, rfl, hev, hb⟩
    · go_enter Tryz.func79, Tryz.ntmps79
      go_wp2_with (go_at_call 105; refine A.mono ?_; rintro e w' ⟨ev, rfl, hev, hb⟩)
      go_ret2
      exact ⟨_, rfl, hev, hb⟩
theorem i64E (c j : Nat) (p : PV) (hp : p.ok c j) (hm : ((c * 2 ^ j : Nat) : Int) ≤ 9223372036854775807) : ∃ (n : Int) (bad : Bool), AnsE 79 p.val (.int .i64 n) bad ∧ (bad = true → n = 0) := by
  cases p with
  | nil => exact ⟨_, false, xe79_ok _ _ (fun w => tn_i64_nil w), by simp⟩
  | tt => exact ⟨_, false, xe79_ok _ _ (fun w => tn_i64_true w), by simp⟩
  | ff => exact ⟨_, false, xe79_ok _ _ (fun w => tn_i64_false w), by simp⟩
  | int n => exact ⟨_, false, xe79_ok _ _ (fun w => tn_i64_int n w), by simp⟩
  | i8 n => exact ⟨_, false, xe79_ok _ _ (fun w => tn_i64_i8 n w), by simp⟩
  | i16 n => exact ⟨_, false, xe79_ok _ _ (fun w => tn_i64_i16 n w), by simp⟩
  | i32 n => exact ⟨_, false, xe79_ok _ _ (fun w => tn_i64_i32 n w), by simp⟩
  | i64 n => exact ⟨_, false, xe79_ok _ _ (fun w => tn_i64_i64 n w), by simp⟩
  | uint n => exact ⟨_, false, xe79_ok _ _ (fun w => tn_i64_uint n w), by simp⟩
  | u8 n => exact ⟨_, false, xe79_ok _ _ (fun w => tn_i64_u8 n w), by simp⟩
  | u16 n => exact ⟨_, false, xe79_ok _ _ (fun w => tn_i64_u16 n w), by simp⟩
  | u32 n => exact ⟨_, false, xe79_ok _ _ (fun w => tn_i64_u32 n w), by simp⟩
  | u64 n => exact ⟨_, false, xe79_ok _ _ (fun w => tn_i64_u64 n w), by simp⟩
  | f32 x =>
    obtain ⟨n, hn⟩ := fb_ival .f32 .i64 c j x hp.1 (by rw [show IntKind.i64.min = -9223372036854775808 from by decide]; omega) (by rw [show IntKind.i64.max = 9223372036854775807 from by decide]; exact hm)
    exact ⟨n, false, xe79_ok _ _ (fun w => tn_i64_f32 x n hn w), by simp⟩
  | f64 x =>
    obtain ⟨n, hn⟩ := fb_ival .f64 .i64 c j x hp.1 (by rw [show IntKind.i64.min = -9223372036854775808 from by decide]; omega) (by rw [show IntKind.i64.max = 9223372036854775807 from by decide]; exact hm)
    exact ⟨n, false, xe79_ok _ _ (fun w => tn_i64_f64 x n hn w), by simp⟩
  | str s => exact xe79_s s hp
theorem xe28_ok (V : Value) (n : Int) (h : ∀ w, Calls Tryz.prog 89 #[V] w fun e w' => e = .returned (.tuple #[.int .u64 n, .bool true, .bool true]) ∧ w = w') : AnsE 28 V (.int .u64 n) false := by
  intro w hw h2
  go_enter Tryz.func28, Tryz.ntmps28
  go_wp2_with (go_at_call 67; refine (ne67_ok V n _ (h _)).mono ?_; rintro e w' ⟨rfl, rfl⟩)
  go_ret2
  exact ⟨_, rfl, Or.inl ⟨rfl, rfl⟩, Below.refl _ _⟩
theorem xe28_s (s : ByteArray) (hs : s.size ≤ 400) : ∃ (n : Int) (bad : Bool), AnsE 28 (.iface 9 (.string s)) (.int .u64 n) bad ∧ (bad = true → n = 0) := by
  by_cases h0 : s.size = 0
  · obtain rfl := str_e s h0
    refine ⟨0, false, fun w hw h2 => ?_, by simp⟩
    go_enter Tryz.func28, Tryz.ntmps28
    go_wp2_with (go_at_call 67; refine (ne67_e _).mono ?_; rintro e w' ⟨rfl, rfl⟩)
    go_ret2
    exact ⟨_, rfl, Or.inl ⟨rfl, rfl⟩, Below.refl _ _⟩
  · obtain ⟨n, bad, hp⟩ := cpuF_some s 20000 (by omega) (by omega)
    have A := fun (w : World) hw h2 => ne67_s 20000 s n bad w hw h2 (by omega) h0 hp
    clear hp
    refine ⟨if bad = true then 0 else n, bad, fun w hw h2 => ?_, fun h => by rw [if_pos h]⟩
    have A := A w hw h2
    cases bad
    · go_enter Tryz.func28, Tryz.ntmps28
      go_wp2_with (go_at_call 67; refine A.mono ?_; rintro e w' ⟨ev, rfl, hev, hb⟩)
      go_ret2
      exact ⟨_, rfl, hev, hb⟩
    · go_enter Tryz.func28, Tryz.ntmps28
      go_wp2_with (go_at_call 67; refine A.mono ?_; rintro e w' ⟨ev, rfl, hev, hb⟩)
      go_ret2
      exact ⟨_, rfl, hev, hb⟩
theorem xe28_neg (V : Value) (hI : ∀ w, Calls Tryz.prog 45 #[V] w fun e w' => e = .returned (.tuple #[V, .bool false]) ∧ w = w') (h : ∀ w, Calls Tryz.prog 89 #[V] w fun e w' => e = .returned (.tuple #[.int .u64 0, .bool false, .bool false]) ∧ w = w') : AnsE 28 V (.int .u64 0) true := by
  intro w hw h2
  go_enter Tryz.func28, Tryz.ntmps28
  go_wp2_with (go_at_call 67; refine (ne67_neg V _ hI (h _)).mono ?_; rintro e w' ⟨ev, rfl, hev, rfl⟩)
  go_ret2
  exact ⟨_, rfl, hev, Below.refl _ _⟩
theorem uintE (c j : Nat) (p : PV) (hp : p.ok c j) (hm : ((c * 2 ^ j : Nat) : Int) ≤ 18446744073709551615) : ∃ (n : Int) (bad : Bool), AnsE 28 p.val (.int .u64 n) bad ∧ (bad = true → n = 0) := by
  cases p with
  | nil => exact ⟨_, false, xe28_ok _ _ (fun w => tu_uint_nil w), by simp⟩
  | tt => exact ⟨_, false, xe28_ok _ _ (fun w => tu_uint_true w), by simp⟩
  | ff => exact ⟨_, false, xe28_ok _ _ (fun w => tu_uint_false w), by simp⟩
  | int n =>
    by_cases h : n < 0
    · exact ⟨0, true, xe28_neg _ (fun w => ind_any 3 _ (by decide) (by decide) w) (fun w => tu_uint_intn n h w), by simp⟩
    · exact ⟨_, false, xe28_ok _ _ (fun w => tu_uint_intp n (by omega) w), by simp⟩
  | i8 n =>
    by_cases h : n < 0
    · exact ⟨0, true, xe28_neg _ (fun w => ind_any 73 _ (by decide) (by decide) w) (fun w => tu_uint_i8n n h w), by simp⟩
    · exact ⟨_, false, xe28_ok _ _ (fun w => tu_uint_i8p n (by omega) w), by simp⟩
  | i16 n =>
    by_cases h : n < 0
    · exact ⟨0, true, xe28_neg _ (fun w => ind_any 74 _ (by decide) (by decide) w) (fun w => tu_uint_i16n n h w), by simp⟩
    · exact ⟨_, false, xe28_ok _ _ (fun w => tu_uint_i16p n (by omega) w), by simp⟩
  | i32 n =>
    by_cases h : n < 0
    · exact ⟨0, true, xe28_neg _ (fun w => ind_any 21 _ (by decide) (by decide) w) (fun w => tu_uint_i32n n h w), by simp⟩
    · exact ⟨_, false, xe28_ok _ _ (fun w => tu_uint_i32p n (by omega) w), by simp⟩
  | i64 n =>
    by_cases h : n < 0
    · exact ⟨0, true, xe28_neg _ (fun w => ind_any 2 _ (by decide) (by decide) w) (fun w => tu_uint_i64n n h w), by simp⟩
    · exact ⟨_, false, xe28_ok _ _ (fun w => tu_uint_i64p n (by omega) w), by simp⟩
  | uint n => exact ⟨_, false, xe28_ok _ _ (fun w => tu_uint_uint n w), by simp⟩
  | u8 n => exact ⟨_, false, xe28_ok _ _ (fun w => tu_uint_u8 n w), by simp⟩
  | u16 n => exact ⟨_, false, xe28_ok _ _ (fun w => tu_uint_u16 n w), by simp⟩
  | u32 n => exact ⟨_, false, xe28_ok _ _ (fun w => tu_uint_u32 n w), by simp⟩
  | u64 n => exact ⟨_, false, xe28_ok _ _ (fun w => tu_uint_u64 n w), by simp⟩
  | f32 x =>
    cases h0 : (FloatKind.f32.format.order x 0 == some Ordering.lt)
    · obtain ⟨n, hn⟩ := fb_uval .f32 .u64 c j x hp.1 (by decide) (by rw [show IntKind.u64.max = 18446744073709551615 from by decide]; exact hm) h0
      exact ⟨n, false, xe28_ok _ _ (fun w => tu_uint_f32p x n h0 hn w), by simp⟩
    · exact ⟨0, true, xe28_neg _ (fun w => ind_any 77 _ (by decide) (by decide) w) (fun w => tu_uint_f32n x h0 w), by simp⟩
  | f64 x =>
    cases h0 : (FloatKind.f64.format.order x 0 == some Ordering.lt)
    · obtain ⟨n, hn⟩ := fb_uval .f64 .u64 c j x hp.1 (by decide) (by rw [show IntKind.u64.max = 18446744073709551615 from by decide]; exact hm) h0
      exact ⟨n, false, xe28_ok _ _ (fun w => tu_uint_f64p x n h0 hn w), by simp⟩
    · exact ⟨0, true, xe28_neg _ (fun w => ind_any 23 _ (by decide) (by decide) w) (fun w => tu_uint_f64n x h0 w), by simp⟩
  | str s => exact xe28_s s hp
theorem xe80_ok (V : Value) (n : Int) (h : ∀ w, Calls Tryz.prog 135 #[V] w fun e w' => e = .returned (.tuple #[.int .u8 n, .bool true, .bool true]) ∧ w = w') : AnsE 80 V (.int .u8 n) false := by
  intro w hw h2
  go_enter Tryz.func80, Tryz.ntmps80
  go_wp2_with (go_at_call 107; refine (ne107_ok V n _ (h _)).mono ?_; rintro e w' ⟨rfl, rfl⟩)
  go_ret2
  exact ⟨_, rfl, Or.inl ⟨rfl, rfl⟩, Below.refl _ _⟩
theorem xe80_s (s : ByteArray) (hs : s.size ≤ 400) : ∃ (n : Int) (bad : Bool), AnsE 80 (.iface 9 (.string s)) (.int .u8 n) bad ∧ (bad = true → n = 0) := by
  by_cases h0 : s.size = 0
  · obtain rfl := str_e s h0
    refine ⟨0, false, fun w hw h2 => ?_, by simp⟩
    go_enter Tryz.func80, Tryz.ntmps80
    go_wp2_with (go_at_call 107; refine (ne107_e _).mono ?_; rintro e w' ⟨rfl, rfl⟩)
    go_ret2
    exact ⟨_, rfl, Or.inl ⟨rfl, rfl⟩, Below.refl _ _⟩
  · obtain ⟨n, bad, hp⟩ := cpuF_some s 20000 (by omega) (by omega)
    have A := fun (w : World) hw h2 => ne107_s 20000 s n bad w hw h2 (by omega) h0 hp
    clear hp
    refine ⟨if bad = true then 0 else IntKind.u8.wrap n, bad, fun w hw h2 => ?_, fun h => by rw [if_pos h]⟩
    have A := A w hw h2
    cases bad
    · go_enter Tryz.func80, Tryz.ntmps80
      go_wp2_with (go_at_call 107; refine A.mono ?_; rintro e w' ⟨ev, rfl, hev, hb⟩)
      go_ret2
      exact ⟨_, rfl, hev, hb⟩
    · go_enter Tryz.func80, Tryz.ntmps80
      go_wp2_with (go_at_call 107; refine A.mono ?_; rintro e w' ⟨ev, rfl, hev, hb⟩)
      go_ret2
      exact ⟨_, rfl, hev, hb⟩
theorem xe80_neg (V : Value) (hI : ∀ w, Calls Tryz.prog 45 #[V] w fun e w' => e = .returned (.tuple #[V, .bool false]) ∧ w = w') (h : ∀ w, Calls Tryz.prog 135 #[V] w fun e w' => e = .returned (.tuple #[.int .u8 0, .bool false, .bool false]) ∧ w = w') : AnsE 80 V (.int .u8 0) true := by
  intro w hw h2
  go_enter Tryz.func80, Tryz.ntmps80
  go_wp2_with (go_at_call 107; refine (ne107_neg V _ hI (h _)).mono ?_; rintro e w' ⟨ev, rfl, hev, rfl⟩)
  go_ret2
  exact ⟨_, rfl, hev, Below.refl _ _⟩
theorem u8E (c j : Nat) (p : PV) (hp : p.ok c j) (hm : ((c * 2 ^ j : Nat) : Int) ≤ 255) : ∃ (n : Int) (bad : Bool), AnsE 80 p.val (.int .u8 n) bad ∧ (bad = true → n = 0) := by
  cases p with
  | nil => exact ⟨_, false, xe80_ok _ _ (fun w => tu_u8_nil w), by simp⟩
  | tt => exact ⟨_, false, xe80_ok _ _ (fun w => tu_u8_true w), by simp⟩
  | ff => exact ⟨_, false, xe80_ok _ _ (fun w => tu_u8_false w), by simp⟩
  | int n =>
    by_cases h : n < 0
    · exact ⟨0, true, xe80_neg _ (fun w => ind_any 3 _ (by decide) (by decide) w) (fun w => tu_u8_intn n h w), by simp⟩
    · exact ⟨_, false, xe80_ok _ _ (fun w => tu_u8_intp n (by omega) w), by simp⟩
  | i8 n =>
    by_cases h : n < 0
    · exact ⟨0, true, xe80_neg _ (fun w => ind_any 73 _ (by decide) (by decide) w) (fun w => tu_u8_i8n n h w), by simp⟩
    · exact ⟨_, false, xe80_ok _ _ (fun w => tu_u8_i8p n (by omega) w), by simp⟩
  | i16 n =>
    by_cases h : n < 0
    · exact ⟨0, true, xe80_neg _ (fun w => ind_any 74 _ (by decide) (by decide) w) (fun w => tu_u8_i16n n h w), by simp⟩
    · exact ⟨_, false, xe80_ok _ _ (fun w => tu_u8_i16p n (by omega) w), by simp⟩
  | i32 n =>
    by_cases h : n < 0
    · exact ⟨0, true, xe80_neg _ (fun w => ind_any 21 _ (by decide) (by decide) w) (fun w => tu_u8_i32n n h w), by simp⟩
    · exact ⟨_, false, xe80_ok _ _ (fun w => tu_u8_i32p n (by omega) w), by simp⟩
  | i64 n =>
    by_cases h : n < 0
    · exact ⟨0, true, xe80_neg _ (fun w => ind_any 2 _ (by decide) (by decide) w) (fun w => tu_u8_i64n n h w), by simp⟩
    · exact ⟨_, false, xe80_ok _ _ (fun w => tu_u8_i64p n (by omega) w), by simp⟩
  | uint n => exact ⟨_, false, xe80_ok _ _ (fun w => tu_u8_uint n w), by simp⟩
  | u8 n => exact ⟨_, false, xe80_ok _ _ (fun w => tu_u8_u8 n w), by simp⟩
  | u16 n => exact ⟨_, false, xe80_ok _ _ (fun w => tu_u8_u16 n w), by simp⟩
  | u32 n => exact ⟨_, false, xe80_ok _ _ (fun w => tu_u8_u32 n w), by simp⟩
  | u64 n => exact ⟨_, false, xe80_ok _ _ (fun w => tu_u8_u64 n w), by simp⟩
  | f32 x =>
    cases h0 : (FloatKind.f32.format.order x 0 == some Ordering.lt)
    · obtain ⟨n, hn⟩ := fb_uval .f32 .u8 c j x hp.1 (by decide) (by rw [show IntKind.u8.max = 255 from by decide]; exact hm) h0
      exact ⟨n, false, xe80_ok _ _ (fun w => tu_u8_f32p x n h0 hn w), by simp⟩
    · exact ⟨0, true, xe80_neg _ (fun w => ind_any 77 _ (by decide) (by decide) w) (fun w => tu_u8_f32n x h0 w), by simp⟩
  | f64 x =>
    cases h0 : (FloatKind.f64.format.order x 0 == some Ordering.lt)
    · obtain ⟨n, hn⟩ := fb_uval .f64 .u8 c j x hp.1 (by decide) (by rw [show IntKind.u8.max = 255 from by decide]; exact hm) h0
      exact ⟨n, false, xe80_ok _ _ (fun w => tu_u8_f64p x n h0 hn w), by simp⟩
    · exact ⟨0, true, xe80_neg _ (fun w => ind_any 23 _ (by decide) (by decide) w) (fun w => tu_u8_f64n x h0 w), by simp⟩
  | str s => exact xe80_s s hp
theorem xe81_ok (V : Value) (n : Int) (h : ∀ w, Calls Tryz.prog 136 #[V] w fun e w' => e = .returned (.tuple #[.int .u16 n, .bool true, .bool true]) ∧ w = w') : AnsE 81 V (.int .u16 n) false := by
  intro w hw h2
  go_enter Tryz.func81, Tryz.ntmps81
  go_wp2_with (go_at_call 109; refine (ne109_ok V n _ (h _)).mono ?_; rintro e w' ⟨rfl, rfl⟩)
  go_ret2
  exact ⟨_, rfl, Or.inl ⟨rfl, rfl⟩, Below.refl _ _⟩
theorem xe81_s (s : ByteArray) (hs : s.size ≤ 400) : ∃ (n : Int) (bad : Bool), AnsE 81 (.iface 9 (.string s)) (.int .u16 n) bad ∧ (bad = true → n = 0) := by
  by_cases h0 : s.size = 0
  · obtain rfl := str_e s h0
    refine ⟨0, false, fun w hw h2 => ?_, by simp⟩
    go_enter Tryz.func81, Tryz.ntmps81
    go_wp2_with (go_at_call 109; refine (ne109_e _).mono ?_; rintro e w' ⟨rfl, rfl⟩)
    go_ret2
    exact ⟨_, rfl, Or.inl ⟨rfl, rfl⟩, Below.refl _ _⟩
  · obtain ⟨n, bad, hp⟩ := cpuF_some s 20000 (by omega) (by omega)
    have A := fun (w : World) hw h2 => ne109_s 20000 s n bad w hw h2 (by omega) h0 hp
    clear hp
    refine ⟨if bad = true then 0 else IntKind.u16.wrap n, bad, fun w hw h2 => ?_, fun h => by rw [if_pos h]⟩
    have A := A w hw h2
    cases bad
    · go_enter Tryz.func81, Tryz.ntmps81
      go_wp2_with (go_at_call 109; refine A.mono ?_; rintro e w' ⟨ev, rfl, hev, hb⟩)
      go_ret2
      exact ⟨_, rfl, hev, hb⟩
    · go_enter Tryz.func81, Tryz.ntmps81
      go_wp2_with (go_at_call 109; refine A.mono ?_; rintro e w' ⟨ev, rfl, hev, hb⟩)
      go_ret2
      exact ⟨_, rfl, hev, hb⟩
theorem xe81_neg (V : Value) (hI : ∀ w, Calls Tryz.prog 45 #[V] w fun e w' => e = .returned (.tuple #[V, .bool false]) ∧ w = w') (h : ∀ w, Calls Tryz.prog 136 #[V] w fun e w' => e = .returned (.tuple #[.int .u16 0, .bool false, .bool false]) ∧ w = w') : AnsE 81 V (.int .u16 0) true := by
  intro w hw h2
  go_enter Tryz.func81, Tryz.ntmps81
  go_wp2_with (go_at_call 109; refine (ne109_neg V _ hI (h _)).mono ?_; rintro e w' ⟨ev, rfl, hev, rfl⟩)
  go_ret2
  exact ⟨_, rfl, hev, Below.refl _ _⟩
theorem u16E (c j : Nat) (p : PV) (hp : p.ok c j) (hm : ((c * 2 ^ j : Nat) : Int) ≤ 65535) : ∃ (n : Int) (bad : Bool), AnsE 81 p.val (.int .u16 n) bad ∧ (bad = true → n = 0) := by
  cases p with
  | nil => exact ⟨_, false, xe81_ok _ _ (fun w => tu_u16_nil w), by simp⟩
  | tt => exact ⟨_, false, xe81_ok _ _ (fun w => tu_u16_true w), by simp⟩
  | ff => exact ⟨_, false, xe81_ok _ _ (fun w => tu_u16_false w), by simp⟩
  | int n =>
    by_cases h : n < 0
    · exact ⟨0, true, xe81_neg _ (fun w => ind_any 3 _ (by decide) (by decide) w) (fun w => tu_u16_intn n h w), by simp⟩
    · exact ⟨_, false, xe81_ok _ _ (fun w => tu_u16_intp n (by omega) w), by simp⟩
  | i8 n =>
    by_cases h : n < 0
    · exact ⟨0, true, xe81_neg _ (fun w => ind_any 73 _ (by decide) (by decide) w) (fun w => tu_u16_i8n n h w), by simp⟩
    · exact ⟨_, false, xe81_ok _ _ (fun w => tu_u16_i8p n (by omega) w), by simp⟩
  | i16 n =>
    by_cases h : n < 0
    · exact ⟨0, true, xe81_neg _ (fun w => ind_any 74 _ (by decide) (by decide) w) (fun w => tu_u16_i16n n h w), by simp⟩
    · exact ⟨_, false, xe81_ok _ _ (fun w => tu_u16_i16p n (by omega) w), by simp⟩
  | i32 n =>
    by_cases h : n < 0
    · exact ⟨0, true, xe81_neg _ (fun w => ind_any 21 _ (by decide) (by decide) w) (fun w => tu_u16_i32n n h w), by simp⟩
    · exact ⟨_, false, xe81_ok _ _ (fun w => tu_u16_i32p n (by omega) w), by simp⟩
  | i64 n =>
    by_cases h : n < 0
    · exact ⟨0, true, xe81_neg _ (fun w => ind_any 2 _ (by decide) (by decide) w) (fun w => tu_u16_i64n n h w), by simp⟩
    · exact ⟨_, false, xe81_ok _ _ (fun w => tu_u16_i64p n (by omega) w), by simp⟩
  | uint n => exact ⟨_, false, xe81_ok _ _ (fun w => tu_u16_uint n w), by simp⟩
  | u8 n => exact ⟨_, false, xe81_ok _ _ (fun w => tu_u16_u8 n w), by simp⟩
  | u16 n => exact ⟨_, false, xe81_ok _ _ (fun w => tu_u16_u16 n w), by simp⟩
  | u32 n => exact ⟨_, false, xe81_ok _ _ (fun w => tu_u16_u32 n w), by simp⟩
  | u64 n => exact ⟨_, false, xe81_ok _ _ (fun w => tu_u16_u64 n w), by simp⟩
  | f32 x =>
    cases h0 : (FloatKind.f32.format.order x 0 == some Ordering.lt)
    · obtain ⟨n, hn⟩ := fb_uval .f32 .u16 c j x hp.1 (by decide) (by rw [show IntKind.u16.max = 65535 from by decide]; exact hm) h0
      exact ⟨n, false, xe81_ok _ _ (fun w => tu_u16_f32p x n h0 hn w), by simp⟩
    · exact ⟨0, true, xe81_neg _ (fun w => ind_any 77 _ (by decide) (by decide) w) (fun w => tu_u16_f32n x h0 w), by simp⟩
  | f64 x =>
    cases h0 : (FloatKind.f64.format.order x 0 == some Ordering.lt)
    · obtain ⟨n, hn⟩ := fb_uval .f64 .u16 c j x hp.1 (by decide) (by rw [show IntKind.u16.max = 65535 from by decide]; exact hm) h0
      exact ⟨n, false, xe81_ok _ _ (fun w => tu_u16_f64p x n h0 hn w), by simp⟩
    · exact ⟨0, true, xe81_neg _ (fun w => ind_any 23 _ (by decide) (by decide) w) (fun w => tu_u16_f64n x h0 w), by simp⟩
  | str s => exact xe81_s s hp
theorem xe82_ok (V : Value) (n : Int) (h : ∀ w, Calls Tryz.prog 137 #[V] w fun e w' => e = .returned (.tuple #[.int .u32 n, .bool true, .bool true]) ∧ w = w') : AnsE 82 V (.int .u32 n) false := by
  intro w hw h2
  go_enter Tryz.func82, Tryz.ntmps82
  go_wp2_with (go_at_call 111; refine (ne111_ok V n _ (h _)).mono ?_; rintro e w' ⟨rfl, rfl⟩)
  go_ret2
  exact ⟨_, rfl, Or.inl ⟨rfl, rfl⟩, Below.refl _ _⟩
theorem xe82_s (s : ByteArray) (hs : s.size ≤ 400) : ∃ (n : Int) (bad : Bool), AnsE 82 (.iface 9 (.string s)) (.int .u32 n) bad ∧ (bad = true → n = 0) := by
  by_cases h0 : s.size = 0
  · obtain rfl := str_e s h0
    refine ⟨0, false, fun w hw h2 => ?_, by simp⟩
    go_enter Tryz.func82, Tryz.ntmps82
    go_wp2_with (go_at_call 111; refine (ne111_e _).mono ?_; rintro e w' ⟨rfl, rfl⟩)
    go_ret2
    exact ⟨_, rfl, Or.inl ⟨rfl, rfl⟩, Below.refl _ _⟩
  · obtain ⟨n, bad, hp⟩ := cpuF_some s 20000 (by omega) (by omega)
    have A := fun (w : World) hw h2 => ne111_s 20000 s n bad w hw h2 (by omega) h0 hp
    clear hp
    refine ⟨if bad = true then 0 else IntKind.u32.wrap n, bad, fun w hw h2 => ?_, fun h => by rw [if_pos h]⟩
    have A := A w hw h2
    cases bad
    · go_enter Tryz.func82, Tryz.ntmps82
      go_wp2_with (go_at_call 111; refine A.mono ?_; rintro e w' ⟨ev, rfl, hev, hb⟩)
      go_ret2
      exact ⟨_, rfl, hev, hb⟩
    · go_enter Tryz.func82, Tryz.ntmps82
      go_wp2_with (go_at_call 111; refine A.mono ?_; rintro e w' ⟨ev, rfl, hev, hb⟩)
      go_ret2
      exact ⟨_, rfl, hev, hb⟩
theorem xe82_neg (V : Value) (hI : ∀ w, Calls Tryz.prog 45 #[V] w fun e w' => e = .returned (.tuple #[V, .bool false]) ∧ w = w') (h : ∀ w, Calls Tryz.prog 137 #[V] w fun e w' => e = .returned (.tuple #[.int .u32 0, .bool false, .bool false]) ∧ w = w') : AnsE 82 V (.int .u32 0) true := by
  intro w hw h2
  go_enter Tryz.func82, Tryz.ntmps82
  go_wp2_with (go_at_call 111; refine (ne111_neg V _ hI (h _)).mono ?_; rintro e w' ⟨ev, rfl, hev, rfl⟩)
  go_ret2
  exact ⟨_, rfl, hev, Below.refl _ _⟩
theorem u32E (c j : Nat) (p : PV) (hp : p.ok c j) (hm : ((c * 2 ^ j : Nat) : Int) ≤ 4294967295) : ∃ (n : Int) (bad : Bool), AnsE 82 p.val (.int .u32 n) bad ∧ (bad = true → n = 0) := by
  cases p with
  | nil => exact ⟨_, false, xe82_ok _ _ (fun w => tu_u32_nil w), by simp⟩
  | tt => exact ⟨_, false, xe82_ok _ _ (fun w => tu_u32_true w), by simp⟩
  | ff => exact ⟨_, false, xe82_ok _ _ (fun w => tu_u32_false w), by simp⟩
  | int n =>
    by_cases h : n < 0
    · exact ⟨0, true, xe82_neg _ (fun w => ind_any 3 _ (by decide) (by decide) w) (fun w => tu_u32_intn n h w), by simp⟩
    · exact ⟨_, false, xe82_ok _ _ (fun w => tu_u32_intp n (by omega) w), by simp⟩
  | i8 n =>
    by_cases h : n < 0
    · exact ⟨0, true, xe82_neg _ (fun w => ind_any 73 _ (by decide) (by decide) w) (fun w => tu_u32_i8n n h w), by simp⟩
    · exact ⟨_, false, xe82_ok _ _ (fun w => tu_u32_i8p n (by omega) w), by simp⟩
  | i16 n =>
    by_cases h : n < 0
    · exact ⟨0, true, xe82_neg _ (fun w => ind_any 74 _ (by decide) (by decide) w) (fun w => tu_u32_i16n n h w), by simp⟩
    · exact ⟨_, false, xe82_ok _ _ (fun w => tu_u32_i16p n (by omega) w), by simp⟩
  | i32 n =>
    by_cases h : n < 0
    · exact ⟨0, true, xe82_neg _ (fun w => ind_any 21 _ (by decide) (by decide) w) (fun w => tu_u32_i32n n h w), by simp⟩
    · exact ⟨_, false, xe82_ok _ _ (fun w => tu_u32_i32p n (by omega) w), by simp⟩
  | i64 n =>
    by_cases h : n < 0
    · exact ⟨0, true, xe82_neg _ (fun w => ind_any 2 _ (by decide) (by decide) w) (fun w => tu_u32_i64n n h w), by simp⟩
    · exact ⟨_, false, xe82_ok _ _ (fun w => tu_u32_i64p n (by omega) w), by simp⟩
  | uint n => exact ⟨_, false, xe82_ok _ _ (fun w => tu_u32_uint n w), by simp⟩
  | u8 n => exact ⟨_, false, xe82_ok _ _ (fun w => tu_u32_u8 n w), by simp⟩
  | u16 n => exact ⟨_, false, xe82_ok _ _ (fun w => tu_u32_u16 n w), by simp⟩
  | u32 n => exact ⟨_, false, xe82_ok _ _ (fun w => tu_u32_u32 n w), by simp⟩
  | u64 n => exact ⟨_, false, xe82_ok _ _ (fun w => tu_u32_u64 n w), by simp⟩
  | f32 x =>
    cases h0 : (FloatKind.f32.format.order x 0 == some Ordering.lt)
    · obtain ⟨n, hn⟩ := fb_uval .f32 .u32 c j x hp.1 (by decide) (by rw [show IntKind.u32.max = 4294967295 from by decide]; exact hm) h0
      exact ⟨n, false, xe82_ok _ _ (fun w => tu_u32_f32p x n h0 hn w), by simp⟩
    · exact ⟨0, true, xe82_neg _ (fun w => ind_any 77 _ (by decide) (by decide) w) (fun w => tu_u32_f32n x h0 w), by simp⟩
  | f64 x =>
    cases h0 : (FloatKind.f64.format.order x 0 == some Ordering.lt)
    · obtain ⟨n, hn⟩ := fb_uval .f64 .u32 c j x hp.1 (by decide) (by rw [show IntKind.u32.max = 4294967295 from by decide]; exact hm) h0
      exact ⟨n, false, xe82_ok _ _ (fun w => tu_u32_f64p x n h0 hn w), by simp⟩
    · exact ⟨0, true, xe82_neg _ (fun w => ind_any 23 _ (by decide) (by decide) w) (fun w => tu_u32_f64n x h0 w), by simp⟩
  | str s => exact xe82_s s hp
theorem xe83_ok (V : Value) (n : Int) (h : ∀ w, Calls Tryz.prog 138 #[V] w fun e w' => e = .returned (.tuple #[.int .u64 n, .bool true, .bool true]) ∧ w = w') : AnsE 83 V (.int .u64 n) false := by
  intro w hw h2
  go_enter Tryz.func83, Tryz.ntmps83
  go_wp2_with (go_at_call 113; refine (ne113_ok V n _ (h _)).mono ?_; rintro e w' ⟨rfl, rfl⟩)
  go_ret2
  exact ⟨_, rfl, Or.inl ⟨rfl, rfl⟩, Below.refl _ _⟩
theorem xe83_s (s : ByteArray) (hs : s.size ≤ 400) : ∃ (n : Int) (bad : Bool), AnsE 83 (.iface 9 (.string s)) (.int .u64 n) bad ∧ (bad = true → n = 0) := by
  by_cases h0 : s.size = 0
  · obtain rfl := str_e s h0
    refine ⟨0, false, fun w hw h2 => ?_, by simp⟩
    go_enter Tryz.func83, Tryz.ntmps83
    go_wp2_with (go_at_call 113; refine (ne113_e _).mono ?_; rintro e w' ⟨rfl, rfl⟩)
    go_ret2
    exact ⟨_, rfl, Or.inl ⟨rfl, rfl⟩, Below.refl _ _⟩
  · obtain ⟨n, bad, hp⟩ := cpuF_some s 20000 (by omega) (by omega)
    have A := fun (w : World) hw h2 => ne113_s 20000 s n bad w hw h2 (by omega) h0 hp
    clear hp
    refine ⟨if bad = true then 0 else n, bad, fun w hw h2 => ?_, fun h => by rw [if_pos h]⟩
    have A := A w hw h2
    cases bad
    · go_enter Tryz.func83, Tryz.ntmps83
      go_wp2_with (go_at_call 113; refine A.mono ?_; rintro e w' ⟨ev, rfl, hev, hb⟩)
      go_ret2
      exact ⟨_, rfl, hev, hb⟩
    · go_enter Tryz.func83, Tryz.ntmps83
      go_wp2_with (go_at_call 113; refine A.mono ?_; rintro e w' ⟨ev, rfl, hev, hb⟩)
      go_ret2
      exact ⟨_, rfl, hev, hb⟩
theorem xe83_neg (V : Value) (hI : ∀ w, Calls Tryz.prog 45 #[V] w fun e w' => e = .returned (.tuple #[V, .bool false]) ∧ w = w') (h : ∀ w, Calls Tryz.prog 138 #[V] w fun e w' => e = .returned (.tuple #[.int .u64 0, .bool false, .bool false]) ∧ w = w') : AnsE 83 V (.int .u64 0) true := by
  intro w hw h2
  go_enter Tryz.func83, Tryz.ntmps83
  go_wp2_with (go_at_call 113; refine (ne113_neg V _ hI (h _)).mono ?_; rintro e w' ⟨ev, rfl, hev, rfl⟩)
  go_ret2
  exact ⟨_, rfl, hev, Below.refl _ _⟩
theorem u64E (c j : Nat) (p : PV) (hp : p.ok c j) (hm : ((c * 2 ^ j : Nat) : Int) ≤ 18446744073709551615) : ∃ (n : Int) (bad : Bool), AnsE 83 p.val (.int .u64 n) bad ∧ (bad = true → n = 0) := by
  cases p with
  | nil => exact ⟨_, false, xe83_ok _ _ (fun w => tu_u64_nil w), by simp⟩
  | tt => exact ⟨_, false, xe83_ok _ _ (fun w => tu_u64_true w), by simp⟩
  | ff => exact ⟨_, false, xe83_ok _ _ (fun w => tu_u64_false w), by simp⟩
  | int n =>
    by_cases h : n < 0
    · exact ⟨0, true, xe83_neg _ (fun w => ind_any 3 _ (by decide) (by decide) w) (fun w => tu_u64_intn n h w), by simp⟩
    · exact ⟨_, false, xe83_ok _ _ (fun w => tu_u64_intp n (by omega) w), by simp⟩
  | i8 n =>
    by_cases h : n < 0
    · exact ⟨0, true, xe83_neg _ (fun w => ind_any 73 _ (by decide) (by decide) w) (fun w => tu_u64_i8n n h w), by simp⟩
    · exact ⟨_, false, xe83_ok _ _ (fun w => tu_u64_i8p n (by omega) w), by simp⟩
  | i16 n =>
    by_cases h : n < 0
    · exact ⟨0, true, xe83_neg _ (fun w => ind_any 74 _ (by decide) (by decide) w) (fun w => tu_u64_i16n n h w), by simp⟩
    · exact ⟨_, false, xe83_ok _ _ (fun w => tu_u64_i16p n (by omega) w), by simp⟩
  | i32 n =>
    by_cases h : n < 0
    · exact ⟨0, true, xe83_neg _ (fun w => ind_any 21 _ (by decide) (by decide) w) (fun w => tu_u64_i32n n h w), by simp⟩
    · exact ⟨_, false, xe83_ok _ _ (fun w => tu_u64_i32p n (by omega) w), by simp⟩
  | i64 n =>
    by_cases h : n < 0
    · exact ⟨0, true, xe83_neg _ (fun w => ind_any 2 _ (by decide) (by decide) w) (fun w => tu_u64_i64n n h w), by simp⟩
    · exact ⟨_, false, xe83_ok _ _ (fun w => tu_u64_i64p n (by omega) w), by simp⟩
  | uint n => exact ⟨_, false, xe83_ok _ _ (fun w => tu_u64_uint n w), by simp⟩
  | u8 n => exact ⟨_, false, xe83_ok _ _ (fun w => tu_u64_u8 n w), by simp⟩
  | u16 n => exact ⟨_, false, xe83_ok _ _ (fun w => tu_u64_u16 n w), by simp⟩
  | u32 n => exact ⟨_, false, xe83_ok _ _ (fun w => tu_u64_u32 n w), by simp⟩
  | u64 n => exact ⟨_, false, xe83_ok _ _ (fun w => tu_u64_u64 n w), by simp⟩
  | f32 x =>
    cases h0 : (FloatKind.f32.format.order x 0 == some Ordering.lt)
    · obtain ⟨n, hn⟩ := fb_uval .f32 .u64 c j x hp.1 (by decide) (by rw [show IntKind.u64.max = 18446744073709551615 from by decide]; exact hm) h0
      exact ⟨n, false, xe83_ok _ _ (fun w => tu_u64_f32p x n h0 hn w), by simp⟩
    · exact ⟨0, true, xe83_neg _ (fun w => ind_any 77 _ (by decide) (by decide) w) (fun w => tu_u64_f32n x h0 w), by simp⟩
  | f64 x =>
    cases h0 : (FloatKind.f64.format.order x 0 == some Ordering.lt)
    · obtain ⟨n, hn⟩ := fb_uval .f64 .u64 c j x hp.1 (by decide) (by rw [show IntKind.u64.max = 18446744073709551615 from by decide]; exact hm) h0
      exact ⟨n, false, xe83_ok _ _ (fun w => tu_u64_f64p x n h0 hn w), by simp⟩
    · exact ⟨0, true, xe83_neg _ (fun w => ind_any 23 _ (by decide) (by decide) w) (fun w => tu_u64_f64n x h0 w), by simp⟩
  | str s => exact xe83_s s hp
theorem xe29_ok (V : Value) (n : Nat) (h : ∀ w, Calls Tryz.prog 92 #[V] w fun e w' => e = .returned (.tuple #[.float .f64 n, .bool true]) ∧ w = w') : AnsE 29 V (.float .f64 n) false := by
  intro w hw h2
  go_enter Tryz.func29, Tryz.ntmps29
  go_wp2_with (go_at_call 69; refine (ne69_ok V n _ (h _)).mono ?_; rintro e w' ⟨rfl, rfl⟩)
  go_ret2
  exact ⟨_, rfl, Or.inl ⟨rfl, rfl⟩, Below.refl _ _⟩
theorem xe29_s (s : ByteArray) (hs : s.size ≤ 400) : ∃ (n : Nat) (bad : Bool), AnsE 29 (.iface 9 (.string s)) (.float .f64 n) bad ∧ (bad = true → n = 0) := by
  by_cases h0 : s.size = 0
  · obtain rfl := str_e s h0
    refine ⟨0, false, fun w hw h2 => ?_, by simp⟩
    go_enter Tryz.func29, Tryz.ntmps29
    go_wp2_with (go_at_call 69; refine (ne69_e _).mono ?_; rintro e w' ⟨rfl, rfl⟩)
    go_ret2
    exact ⟨_, rfl, Or.inl ⟨rfl, rfl⟩, Below.refl _ _⟩
  · obtain ⟨n, bad, hp⟩ := spfF_some 20000 (by omega) s (by omega)
    have A := fun (w : World) hw h2 => ne69_s 20000 s n bad w hw h2 (by omega) h0 hp
    clear hp
    refine ⟨if bad = true then 0 else n, bad, fun w hw h2 => ?_, fun h => by rw [if_pos h]⟩
    have A := A w hw h2
    cases bad
    · go_enter Tryz.func29, Tryz.ntmps29
      go_wp2_with (go_at_call 69; refine A.mono ?_; rintro e w' ⟨ev, rfl, hev, hb⟩)
      go_ret2
      exact ⟨_, rfl, hev, hb⟩
    · go_enter Tryz.func29, Tryz.ntmps29
      go_wp2_with (go_at_call 69; refine A.mono ?_; rintro e w' ⟨ev, rfl, hev, hb⟩)
      go_ret2
      exact ⟨_, rfl, hev, hb⟩
theorem f64E (c j : Nat) (p : PV) (hp : p.ok c j) (hc : c < 16777216) (hj : j ≤ 80) : ∃ (n : Nat) (bad : Bool), AnsE 29 p.val (.float .f64 n) bad ∧ (bad = true → n = 0) := by
  cases p with
  | nil => exact ⟨_, false, xe29_ok _ _ (fun w => tn_f64_nil w), by simp⟩
  | tt => exact ⟨_, false, xe29_ok _ _ (fun w => tn_f64_true w), by simp⟩
  | ff => exact ⟨_, false, xe29_ok _ _ (fun w => tn_f64_false w), by simp⟩
  | int n => exact ⟨_, false, xe29_ok _ _ (fun w => tn_f64_int n w), by simp⟩
  | i8 n => exact ⟨_, false, xe29_ok _ _ (fun w => tn_f64_i8 n w), by simp⟩
  | i16 n => exact ⟨_, false, xe29_ok _ _ (fun w => tn_f64_i16 n w), by simp⟩
  | i32 n => exact ⟨_, false, xe29_ok _ _ (fun w => tn_f64_i32 n w), by simp⟩
  | i64 n => exact ⟨_, false, xe29_ok _ _ (fun w => tn_f64_i64 n w), by simp⟩
  | uint n => exact ⟨_, false, xe29_ok _ _ (fun w => tn_f64_uint n w), by simp⟩
  | u8 n => exact ⟨_, false, xe29_ok _ _ (fun w => tn_f64_u8 n w), by simp⟩
  | u16 n => exact ⟨_, false, xe29_ok _ _ (fun w => tn_f64_u16 n w), by simp⟩
  | u32 n => exact ⟨_, false, xe29_ok _ _ (fun w => tn_f64_u32 n w), by simp⟩
  | u64 n => exact ⟨_, false, xe29_ok _ _ (fun w => tn_f64_u64 n w), by simp⟩
  | f32 x =>
    obtain ⟨y, hy, _⟩ := fb_conv .f32 .f64 c j x hc hj hp.1
    exact ⟨_, false, xe29_ok _ _ (fun w => tn_f64_f32 x y hy w), by simp⟩
  | f64 x => exact ⟨_, false, xe29_ok _ _ (fun w => tn_f64_f64 x w), by simp⟩
  | str s => exact xe29_s s hp
end Go.Proofs.YtnggkkdcddpjlaaGreatDoor
