/- ToBoolE and ToStringE at a plain value. -/
import Derived.Test.YtnggkkdcddpjlaaGreatDoorPe
import Derived.Test.YtnggkkdcddpjlaaGreatDoorFq
import Derived.Test.YtnggkkdcddpjlaaGreatDoorFf
import Derived.Test.YtnggkkdcddpjlaaGreatDoorFu
namespace Go.Proofs.YtnggkkdcddpjlaaGreatDoor
set_option linter.unusedVariables false
set_option linter.unusedSimpArgs false
open Go.RowKit
theorem grow_below (w : World) (q : Nat) (os : Array Obj) : Below w.heap.size w (Go.Sort.grow (w.drewN q) os) := below_grow_drew w q os
set_option maxRecDepth 100000 in
theorem bo_nil : AnsE 25 (.nilIface) (.bool (false)) false := by
  intro w hw h2
  go_enter Tryz.func25, Tryz.ntmps25
  go_wp2_with (go_at_call 45; refine (indirect_nil _).mono ?_; rintro e w' ⟨rfl, rfl⟩)
  go_ret2
  exact ⟨_, rfl, Or.inl ⟨rfl, rfl⟩, Below.refl _ _⟩
set_option maxRecDepth 100000 in
theorem bo_tt : AnsE 25 (.iface 4 (.bool true)) (.bool (true)) false := by
  intro w hw h2
  go_enter Tryz.func25, Tryz.ntmps25
  go_wp2_with (go_at_call 45; refine (ind_any 4 _ (by decide) (by decide) _).mono ?_; rintro e w' ⟨rfl, rfl⟩)
  go_ret2
  exact ⟨_, rfl, Or.inl ⟨rfl, rfl⟩, Below.refl _ _⟩
set_option maxRecDepth 100000 in
theorem bo_ff : AnsE 25 (.iface 4 (.bool false)) (.bool (false)) false := by
  intro w hw h2
  go_enter Tryz.func25, Tryz.ntmps25
  go_wp2_with (go_at_call 45; refine (ind_any 4 _ (by decide) (by decide) _).mono ?_; rintro e w' ⟨rfl, rfl⟩)
  go_ret2
  exact ⟨_, rfl, Or.inl ⟨rfl, rfl⟩, Below.refl _ _⟩
set_option maxRecDepth 100000 in
theorem bo_int (n : Int) : AnsE 25 (.iface 3 (.int .i64 n)) (.bool (n != 0)) false := by
  intro w hw h2
  go_enter Tryz.func25, Tryz.ntmps25
  go_wp2_with (go_at_call 45; refine (ind_any 3 _ (by decide) (by decide) _).mono ?_; rintro e w' ⟨rfl, rfl⟩)
  go_ret2
  exact ⟨_, rfl, Or.inl ⟨rfl, rfl⟩, Below.refl _ _⟩
set_option maxRecDepth 100000 in
theorem bo_i8 (n : Int) : AnsE 25 (.iface 73 (.int .i8 n)) (.bool (n != 0)) false := by
  intro w hw h2
  go_enter Tryz.func25, Tryz.ntmps25
  go_wp2_with (go_at_call 45; refine (ind_any 73 _ (by decide) (by decide) _).mono ?_; rintro e w' ⟨rfl, rfl⟩)
  go_ret2
  exact ⟨_, rfl, Or.inl ⟨rfl, rfl⟩, Below.refl _ _⟩
set_option maxRecDepth 100000 in
theorem bo_i16 (n : Int) : AnsE 25 (.iface 74 (.int .i16 n)) (.bool (n != 0)) false := by
  intro w hw h2
  go_enter Tryz.func25, Tryz.ntmps25
  go_wp2_with (go_at_call 45; refine (ind_any 74 _ (by decide) (by decide) _).mono ?_; rintro e w' ⟨rfl, rfl⟩)
  go_ret2
  exact ⟨_, rfl, Or.inl ⟨rfl, rfl⟩, Below.refl _ _⟩
set_option maxRecDepth 100000 in
theorem bo_i32 (n : Int) : AnsE 25 (.iface 21 (.int .i32 n)) (.bool (n != 0)) false := by
  intro w hw h2
  go_enter Tryz.func25, Tryz.ntmps25
  go_wp2_with (go_at_call 45; refine (ind_any 21 _ (by decide) (by decide) _).mono ?_; rintro e w' ⟨rfl, rfl⟩)
  go_ret2
  exact ⟨_, rfl, Or.inl ⟨rfl, rfl⟩, Below.refl _ _⟩
set_option maxRecDepth 100000 in
theorem bo_i64 (n : Int) : AnsE 25 (.iface 2 (.int .i64 n)) (.bool (n != 0)) false := by
  intro w hw h2
  go_enter Tryz.func25, Tryz.ntmps25
  go_wp2_with (go_at_call 45; refine (ind_any 2 _ (by decide) (by decide) _).mono ?_; rintro e w' ⟨rfl, rfl⟩)
  go_ret2
  exact ⟨_, rfl, Or.inl ⟨rfl, rfl⟩, Below.refl _ _⟩
set_option maxRecDepth 100000 in
theorem bo_uint (n : Int) : AnsE 25 (.iface 58 (.int .u64 n)) (.bool (n != 0)) false := by
  intro w hw h2
  go_enter Tryz.func25, Tryz.ntmps25
  go_wp2_with (go_at_call 45; refine (ind_any 58 _ (by decide) (by decide) _).mono ?_; rintro e w' ⟨rfl, rfl⟩)
  go_ret2
  exact ⟨_, rfl, Or.inl ⟨rfl, rfl⟩, Below.refl _ _⟩
set_option maxRecDepth 100000 in
theorem bo_u8 (n : Int) : AnsE 25 (.iface 5 (.int .u8 n)) (.bool (n != 0)) false := by
  intro w hw h2
  go_enter Tryz.func25, Tryz.ntmps25
  go_wp2_with (go_at_call 45; refine (ind_any 5 _ (by decide) (by decide) _).mono ?_; rintro e w' ⟨rfl, rfl⟩)
  go_ret2
  exact ⟨_, rfl, Or.inl ⟨rfl, rfl⟩, Below.refl _ _⟩
set_option maxRecDepth 100000 in
theorem bo_u16 (n : Int) : AnsE 25 (.iface 75 (.int .u16 n)) (.bool (n != 0)) false := by
  intro w hw h2
  go_enter Tryz.func25, Tryz.ntmps25
  go_wp2_with (go_at_call 45; refine (ind_any 75 _ (by decide) (by decide) _).mono ?_; rintro e w' ⟨rfl, rfl⟩)
  go_ret2
  exact ⟨_, rfl, Or.inl ⟨rfl, rfl⟩, Below.refl _ _⟩
set_option maxRecDepth 100000 in
theorem bo_u32 (n : Int) : AnsE 25 (.iface 76 (.int .u32 n)) (.bool (n != 0)) false := by
  intro w hw h2
  go_enter Tryz.func25, Tryz.ntmps25
  go_wp2_with (go_at_call 45; refine (ind_any 76 _ (by decide) (by decide) _).mono ?_; rintro e w' ⟨rfl, rfl⟩)
  go_ret2
  exact ⟨_, rfl, Or.inl ⟨rfl, rfl⟩, Below.refl _ _⟩
set_option maxRecDepth 100000 in
theorem bo_u64 (n : Int) : AnsE 25 (.iface 22 (.int .u64 n)) (.bool (n != 0)) false := by
  intro w hw h2
  go_enter Tryz.func25, Tryz.ntmps25
  go_wp2_with (go_at_call 45; refine (ind_any 22 _ (by decide) (by decide) _).mono ?_; rintro e w' ⟨rfl, rfl⟩)
  go_ret2
  exact ⟨_, rfl, Or.inl ⟨rfl, rfl⟩, Below.refl _ _⟩
set_option maxRecDepth 100000 in
theorem bo_f32 (x : Nat) : AnsE 25 (.iface 77 (.float .f32 x)) (.bool (FloatKind.f32.format.order x 0 != some .eq)) false := by
  intro w hw h2
  go_enter Tryz.func25, Tryz.ntmps25
  go_wp2_with (go_at_call 45; refine (ind_any 77 _ (by decide) (by decide) _).mono ?_; rintro e w' ⟨rfl, rfl⟩)
  go_ret2
  exact ⟨_, rfl, Or.inl ⟨rfl, rfl⟩, Below.refl _ _⟩
set_option maxRecDepth 100000 in
theorem bo_f64 (x : Nat) : AnsE 25 (.iface 23 (.float .f64 x)) (.bool (FloatKind.f64.format.order x 0 != some .eq)) false := by
  intro w hw h2
  go_enter Tryz.func25, Tryz.ntmps25
  go_wp2_with (go_at_call 45; refine (ind_any 23 _ (by decide) (by decide) _).mono ?_; rintro e w' ⟨rfl, rfl⟩)
  go_ret2
  exact ⟨_, rfl, Or.inl ⟨rfl, rfl⟩, Below.refl _ _⟩
set_option maxRecDepth 100000 in
theorem bo_str (s : ByteArray) (hs : s.size ≤ 400) : ∃ (b bad : Bool), AnsE 25 (.iface 9 (.string s)) (.bool b) bad ∧ (bad = true → b = false) := by
  cases hp : Lib.parseBool s.data.toList with
  | some b =>
    refine ⟨b, false, fun w hw h2 => ?_, by simp⟩
    have P := fun w : World => Tryz.strconv_ParseBool s b hp w
    go_enter Tryz.func25, Tryz.ntmps25
    go_wp2_with (first | (go_at_call 45; refine (ind_any 9 _ (by decide) (by decide) _).mono ?_; rintro e w' ⟨rfl, rfl⟩) | (go_at_call 46; refine (P _).mono ?_; rintro e w' ⟨rfl, rfl⟩))
    go_ret2
    exact ⟨_, rfl, Or.inl ⟨rfl, rfl⟩, Below.refl _ _⟩
  | none =>
    refine ⟨false, true, fun w hw h2 => ?_, fun _ => rfl⟩
    obtain ⟨t, p, hE⟩ := hw.esyn
    have P := Tryz.strconv_ParseBool_err s (by omega) hp _ w hE (Or.inr ⟨t, p, rfl⟩)
    go_enter Tryz.func25, Tryz.ntmps25
    go_wp2_with (first | (go_at_call 45; refine (ind_any 9 _ (by decide) (by decide) _).mono ?_; rintro e w' ⟨rfl, rfl⟩) | (go_at_call 46; refine P.mono ?_; rintro e w' ⟨M, rfl, -, -, hb⟩))
    go_ret2
    exact ⟨_, rfl, Or.inr ⟨rfl, _, _, rfl⟩, hb⟩
theorem boolE (c j : Nat) (p : PV) (hp : p.ok c j) : ∃ (b bad : Bool), AnsE 25 p.val (.bool b) bad ∧ (bad = true → b = false) := by
  cases p with
  | nil => exact ⟨_, false, bo_nil, by simp⟩
  | tt => exact ⟨_, false, bo_tt, by simp⟩
  | ff => exact ⟨_, false, bo_ff, by simp⟩
  | int n => exact ⟨_, false, bo_int n, by simp⟩
  | i8 n => exact ⟨_, false, bo_i8 n, by simp⟩
  | i16 n => exact ⟨_, false, bo_i16 n, by simp⟩
  | i32 n => exact ⟨_, false, bo_i32 n, by simp⟩
  | i64 n => exact ⟨_, false, bo_i64 n, by simp⟩
  | uint n => exact ⟨_, false, bo_uint n, by simp⟩
  | u8 n => exact ⟨_, false, bo_u8 n, by simp⟩
  | u16 n => exact ⟨_, false, bo_u16 n, by simp⟩
  | u32 n => exact ⟨_, false, bo_u32 n, by simp⟩
  | u64 n => exact ⟨_, false, bo_u64 n, by simp⟩
  | f32 n => exact ⟨_, false, bo_f32 n, by simp⟩
  | f64 n => exact ⟨_, false, bo_f64 n, by simp⟩
  | str s => exact bo_str s hp
set_option maxRecDepth 100000 in
theorem st_nil : AnsE 30 (.nilIface) (.string ByteArray.empty) false := by
  intro w hw h2
  go_enter Tryz.func30, Tryz.ntmps30
  go_wp2_with fail
  go_ret2
  exact ⟨_, rfl, Or.inl ⟨rfl, rfl⟩, Below.refl _ _⟩
set_option maxRecDepth 100000 in
theorem st_tt : AnsE 30 (.iface 4 (.bool true)) (.string ⟨(Lib.formatBool true).toArray⟩) false := by
  intro w hw h2
  go_enter Tryz.func30, Tryz.ntmps30
  go_wp2_with (go_at_call 71; refine (Tryz.strconv_FormatBool _ _).mono ?_; rintro e w' ⟨rfl, rfl⟩)
  go_ret2
  exact ⟨_, rfl, Or.inl ⟨rfl, rfl⟩, Below.refl _ _⟩
set_option maxRecDepth 100000 in
theorem st_ff : AnsE 30 (.iface 4 (.bool false)) (.string ⟨(Lib.formatBool false).toArray⟩) false := by
  intro w hw h2
  go_enter Tryz.func30, Tryz.ntmps30
  go_wp2_with (go_at_call 71; refine (Tryz.strconv_FormatBool _ _).mono ?_; rintro e w' ⟨rfl, rfl⟩)
  go_ret2
  exact ⟨_, rfl, Or.inl ⟨rfl, rfl⟩, Below.refl _ _⟩
set_option maxRecDepth 100000 in
theorem st_int (n : Int) (h0 : -9223372036854775808 ≤ n) (h1 : n ≤ 9223372036854775807) : AnsE 30 (.iface 3 (.int .i64 n)) (.string ⟨(Lib.itoa n).toArray⟩) false := by
  intro w hw h2
  have A := fun (w : World) (hw : Tabs w) => Tryz.strconv_Itoa n (by omega) (by omega) w hw.pow
  go_enter Tryz.func30, Tryz.ntmps30
  go_wp2_with (go_at_call 73; refine (A _ hw).mono ?_; rintro e w' ⟨rfl, k, os, rfl⟩)
  go_ret2
  exact ⟨_, rfl, Or.inl ⟨rfl, rfl⟩, grow_below _ _ _⟩
set_option maxRecDepth 100000 in
theorem st_i8 (n : Int) (h0 : -128 ≤ n) (h1 : n ≤ 127) : AnsE 30 (.iface 73 (.int .i8 n)) (.string ⟨(Lib.itoa n).toArray⟩) false := by
  intro w hw h2
  have A := fun (w : World) (hw : Tabs w) => Tryz.strconv_FormatInt_10 n (by omega) (by omega) w hw.pow
  go_enter Tryz.func30, Tryz.ntmps30
  go_wp2_with (go_at_call 74; refine (A _ hw).mono ?_; rintro e w' ⟨rfl, k, os, rfl⟩)
  go_ret2
  exact ⟨_, rfl, Or.inl ⟨rfl, rfl⟩, grow_below _ _ _⟩
set_option maxRecDepth 100000 in
theorem st_i16 (n : Int) (h0 : -32768 ≤ n) (h1 : n ≤ 32767) : AnsE 30 (.iface 74 (.int .i16 n)) (.string ⟨(Lib.itoa n).toArray⟩) false := by
  intro w hw h2
  have A := fun (w : World) (hw : Tabs w) => Tryz.strconv_FormatInt_10 n (by omega) (by omega) w hw.pow
  go_enter Tryz.func30, Tryz.ntmps30
  go_wp2_with (go_at_call 74; refine (A _ hw).mono ?_; rintro e w' ⟨rfl, k, os, rfl⟩)
  go_ret2
  exact ⟨_, rfl, Or.inl ⟨rfl, rfl⟩, grow_below _ _ _⟩
set_option maxRecDepth 100000 in
theorem st_i32 (n : Int) (h0 : -2147483648 ≤ n) (h1 : n ≤ 2147483647) : AnsE 30 (.iface 21 (.int .i32 n)) (.string ⟨(Lib.itoa n).toArray⟩) false := by
  intro w hw h2
  have A := fun (w : World) (hw : Tabs w) => Tryz.strconv_FormatInt_10 n (by omega) (by omega) w hw.pow
  go_enter Tryz.func30, Tryz.ntmps30
  go_wp2_with (go_at_call 74; refine (A _ hw).mono ?_; rintro e w' ⟨rfl, k, os, rfl⟩)
  go_ret2
  exact ⟨_, rfl, Or.inl ⟨rfl, rfl⟩, grow_below _ _ _⟩
set_option maxRecDepth 100000 in
theorem st_i64 (n : Int) (h0 : -9223372036854775808 ≤ n) (h1 : n ≤ 9223372036854775807) : AnsE 30 (.iface 2 (.int .i64 n)) (.string ⟨(Lib.itoa n).toArray⟩) false := by
  intro w hw h2
  have A := fun (w : World) (hw : Tabs w) => Tryz.strconv_FormatInt_10 n (by omega) (by omega) w hw.pow
  go_enter Tryz.func30, Tryz.ntmps30
  go_wp2_with (go_at_call 74; refine (A _ hw).mono ?_; rintro e w' ⟨rfl, k, os, rfl⟩)
  go_ret2
  exact ⟨_, rfl, Or.inl ⟨rfl, rfl⟩, grow_below _ _ _⟩
set_option maxRecDepth 100000 in
theorem st_uint (n : Nat) (h1 : (n : Int) ≤ 18446744073709551615) : AnsE 30 (.iface 58 (.int .u64 n)) (.string ⟨(Lib.decDigits n).toArray⟩) false := by
  intro w hw h2
  have A := fun (w : World) (hw : Tabs w) => fu75_calls n (by omega) w hw
  go_enter Tryz.func30, Tryz.ntmps30
  go_wp2_with (go_at_call 75; refine (A _ hw).mono ?_; rintro e w' ⟨rfl, hb⟩)
  go_ret2
  exact ⟨_, rfl, Or.inl ⟨rfl, rfl⟩, hb⟩
set_option maxRecDepth 100000 in
theorem st_u8 (n : Nat) (h1 : (n : Int) ≤ 255) : AnsE 30 (.iface 5 (.int .u8 n)) (.string ⟨(Lib.decDigits n).toArray⟩) false := by
  intro w hw h2
  have A := fun (w : World) (hw : Tabs w) => fu75_calls n (by omega) w hw
  go_enter Tryz.func30, Tryz.ntmps30
  go_wp2_with (go_at_call 75; refine (A _ hw).mono ?_; rintro e w' ⟨rfl, hb⟩)
  go_ret2
  exact ⟨_, rfl, Or.inl ⟨rfl, rfl⟩, hb⟩
set_option maxRecDepth 100000 in
theorem st_u16 (n : Nat) (h1 : (n : Int) ≤ 65535) : AnsE 30 (.iface 75 (.int .u16 n)) (.string ⟨(Lib.decDigits n).toArray⟩) false := by
  intro w hw h2
  have A := fun (w : World) (hw : Tabs w) => fu75_calls n (by omega) w hw
  go_enter Tryz.func30, Tryz.ntmps30
  go_wp2_with (go_at_call 75; refine (A _ hw).mono ?_; rintro e w' ⟨rfl, hb⟩)
  go_ret2
  exact ⟨_, rfl, Or.inl ⟨rfl, rfl⟩, hb⟩
set_option maxRecDepth 100000 in
theorem st_u32 (n : Nat) (h1 : (n : Int) ≤ 4294967295) : AnsE 30 (.iface 76 (.int .u32 n)) (.string ⟨(Lib.decDigits n).toArray⟩) false := by
  intro w hw h2
  have A := fun (w : World) (hw : Tabs w) => fu75_calls n (by omega) w hw
  go_enter Tryz.func30, Tryz.ntmps30
  go_wp2_with (go_at_call 75; refine (A _ hw).mono ?_; rintro e w' ⟨rfl, hb⟩)
  go_ret2
  exact ⟨_, rfl, Or.inl ⟨rfl, rfl⟩, hb⟩
set_option maxRecDepth 100000 in
theorem st_u64 (n : Nat) (h1 : (n : Int) ≤ 18446744073709551615) : AnsE 30 (.iface 22 (.int .u64 n)) (.string ⟨(Lib.decDigits n).toArray⟩) false := by
  intro w hw h2
  have A := fun (w : World) (hw : Tabs w) => fu75_calls n (by omega) w hw
  go_enter Tryz.func30, Tryz.ntmps30
  go_wp2_with (go_at_call 75; refine (A _ hw).mono ?_; rintro e w' ⟨rfl, hb⟩)
  go_ret2
  exact ⟨_, rfl, Or.inl ⟨rfl, rfl⟩, hb⟩
set_option maxRecDepth 100000 in
theorem st_str (s : ByteArray) : AnsE 30 (.iface 9 (.string s)) (.string s) false := by
  intro w hw h2
  go_enter Tryz.func30, Tryz.ntmps30
  go_wp2_with fail
  go_ret2
  exact ⟨_, rfl, Or.inl ⟨rfl, rfl⟩, Below.refl _ _⟩
theorem read_exp64 (x : Nat) (h : ∃ s m p, FloatKind.f64.format.read x = .number s m p) : ftE126 x < 2047 := by
  obtain ⟨s, m, p, h⟩ := h
  have e1 : FloatKind.f64.format.signWeight = 9223372036854775808 := by decide
  have e2 : FloatKind.f64.format.binade = 4503599627370496 := by decide
  have e3 : FloatKind.f64.format.infRung = 9218868437227405312 := by decide
  simp only [Ieee.Format.read, e1, e2, e3] at h
  unfold ftE126
  by_cases c1 : x % 9223372036854775808 < 4503599627370496
  · omega
  rw [if_neg c1] at h
  by_cases c2 : x % 9223372036854775808 < 9218868437227405312
  · omega
  rw [if_neg c2] at h
  split at h <;> cases h
theorem read_exp32 (x : Nat) (h : ∃ s m p, FloatKind.f32.format.read x = .number s m p) : ftE125 x < 255 := by
  obtain ⟨s, m, p, h⟩ := h
  have e1 : FloatKind.f32.format.signWeight = 2147483648 := by decide
  have e2 : FloatKind.f32.format.binade = 8388608 := by decide
  have e3 : FloatKind.f32.format.infRung = 2139095040 := by decide
  simp only [Ieee.Format.read, e1, e2, e3] at h
  unfold ftE125
  by_cases c1 : x % 2147483648 < 8388608
  · omega
  rw [if_neg c1] at h
  by_cases c2 : x % 2147483648 < 2139095040
  · omega
  rw [if_neg c2] at h
  split at h <;> cases h
theorem write32_lt (d : Ieee.Datum) (hd : ∀ s t, d ≠ .nan s t) : FloatKind.f32.format.write d < 4294967296 := by
  have e1 : FloatKind.f32.format.signWeight = 2147483648 := by decide
  have e3 : FloatKind.f32.format.infRung = 2139095040 := by decide
  have key : ∀ (b : Bool) r, r ≤ FloatKind.f32.format.infRung → FloatKind.f32.format.word b r < 4294967296 := by
    intro b r hr
    rw [e3] at hr
    unfold Ieee.Format.word
    rw [e1]
    split <;> omega
  cases d with
  | number neg mag place =>
    show FloatKind.f32.format.nearest neg mag place < _
    unfold Ieee.Format.nearest
    split
    · exact key _ _ (Nat.zero_le _)
    · exact key _ _ (Nat.min_le_right _ _)
  | infinity neg => exact key _ _ (Nat.le_refl _)
  | nan s t => exact absurd rfl (hd s t)
theorem ft126_ne (x : Nat) : ft126 x ≠ [] := by
  unfold ft126; split
  · exact ftZ_ne _
  · exact ftO_ne _ _
theorem ft125_ne (x : Nat) : ft125 x ≠ [] := by
  unfold ft125; split
  · exact ftZ_ne _
  · exact ftO_ne _ _
set_option maxRecDepth 100000 in
theorem st_f64 (c j x : Nat) (h : FB .f64 c j x) (hx : x < 18446744073709551616) : AnsE 30 (.iface 23 (.float .f64 x)) (.string ⟨(ft126 x).toArray⟩) false := by
  intro w hw h2
  obtain ⟨s, m, p, hr, _⟩ := h
  have hE := read_exp64 x ⟨s, m, p, hr⟩
  obtain ⟨d, d2⟩ := ft126_some x hE
  have A := fun (w : World) (hw : Tabs w) => ff72_64 x (ft126 x) (ft126_ne x) w hw (fun B v w hw hB hown => ft126_calls x B v w hw hx hE hB hown d d2)
  clear hr d d2
  go_enter Tryz.func30, Tryz.ntmps30
  go_wp2_with (go_at_call 72; refine (A _ hw).mono ?_; rintro e w' ⟨rfl, hb⟩)
  go_ret2
  exact ⟨_, rfl, Or.inl ⟨rfl, rfl⟩, hb⟩
set_option maxRecDepth 100000 in
theorem st_f32 (c j x : Nat) (h : FB .f32 c j x) (hc : c < 16777216) (hj : j ≤ 80) : ∃ s, AnsE 30 (.iface 77 (.float .f32 x)) (.string s) false := by
  obtain ⟨y, hy, hy2⟩ := fb_conv .f32 .f64 c j x hc hj h
  obtain ⟨z, hz, hz2⟩ := fb_conv .f64 .f32 c j y hc hj hy2
  obtain ⟨s, m, p, hr, _⟩ := hz2
  have hE := read_exp32 z ⟨s, m, p, hr⟩
  have hzl : z < 4294967296 := by
    obtain ⟨s', m', p', hr', _⟩ := hy2
    have e' : FloatKind.f64.decode y = .number s' m' p' := hr'
    unfold floatToFloatBits at hz
    rw [if_neg (by decide), e'] at hz
    dsimp only at hz
    split at hz
    · cases hz
    · obtain rfl := Option.some.inj hz
      exact write32_lt _ (by intro s t h; cases h)
  obtain ⟨d, d2⟩ := ft125_some z hE
  refine ⟨⟨(ft125 z).toArray⟩, fun w hw h2 => ?_⟩
  have A := fun (w : World) (hw : Tabs w) => ff72_32 y z hz (ft125 z) (ft125_ne z) w hw (fun B v w hw hB hown => ft125_calls z B v w hw hzl hE hB hown d d2)
  have hcf : ∀ w, (convert 77 23 (.float .f32 x)).run Tryz.prog w = .ok (.float .f64 y) w := fun w => run_convert_float_float w 77 23 .f32 .f64 x y (by rw [Tryz.underlying77]; rfl) Tryz.underlying23 hy
  clear hr d d2 hy hz hy2 hzl
  go_enter Tryz.func30, Tryz.ntmps30
  go_wp2_with (go_at_call 72; refine (A _ hw).mono ?_; rintro e w' ⟨rfl, hb⟩)
  go_ret2
  exact ⟨_, rfl, Or.inl ⟨rfl, rfl⟩, hb⟩
theorem strE (c j : Nat) (p : PV) (hp : p.ok c j) (hc : c < 16777216) (hj : j ≤ 80) : ∃ s, AnsE 30 p.val (.string s) false := by
  cases p with
  | nil => exact ⟨_, st_nil⟩
  | tt => exact ⟨_, st_tt⟩
  | ff => exact ⟨_, st_ff⟩
  | int n => exact ⟨_, st_int n hp.1 hp.2⟩
  | i8 n => exact ⟨_, st_i8 n hp.1 hp.2⟩
  | i16 n => exact ⟨_, st_i16 n hp.1 hp.2⟩
  | i32 n => exact ⟨_, st_i32 n hp.1 hp.2⟩
  | i64 n => exact ⟨_, st_i64 n hp.1 hp.2⟩
  | uint n =>
    obtain ⟨u, rfl⟩ : ∃ u : Nat, n = (u : Int) := ⟨n.toNat, by have := hp.1; omega⟩
    exact ⟨_, st_uint u (by have := hp.2; omega)⟩
  | u8 n =>
    obtain ⟨u, rfl⟩ : ∃ u : Nat, n = (u : Int) := ⟨n.toNat, by have := hp.1; omega⟩
    exact ⟨_, st_u8 u (by have := hp.2; omega)⟩
  | u16 n =>
    obtain ⟨u, rfl⟩ : ∃ u : Nat, n = (u : Int) := ⟨n.toNat, by have := hp.1; omega⟩
    exact ⟨_, st_u16 u (by have := hp.2; omega)⟩
  | u32 n =>
    obtain ⟨u, rfl⟩ : ∃ u : Nat, n = (u : Int) := ⟨n.toNat, by have := hp.1; omega⟩
    exact ⟨_, st_u32 u (by have := hp.2; omega)⟩
  | u64 n =>
    obtain ⟨u, rfl⟩ : ∃ u : Nat, n = (u : Int) := ⟨n.toNat, by have := hp.1; omega⟩
    exact ⟨_, st_u64 u (by have := hp.2; omega)⟩
  | f32 x => exact st_f32 c j x hp.1 hc hj
  | f64 x => exact ⟨_, st_f64 c j x hp.1 hp.2⟩
  | str s => exact ⟨_, st_str s⟩
end Go.Proofs.YtnggkkdcddpjlaaGreatDoor
