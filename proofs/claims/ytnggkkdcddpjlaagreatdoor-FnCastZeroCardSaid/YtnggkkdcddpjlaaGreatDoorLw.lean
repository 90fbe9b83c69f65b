/- The thin package's doors at a plain value: what they answer. -/
import Derived.Test.YtnggkkdcddpjlaaGreatDoorBs
namespace Go.Proofs.YtnggkkdcddpjlaaGreatDoor
set_option linter.unusedVariables false
set_option linter.unusedSimpArgs false
open Go.RowKit
/-- An impl.Any without elements and pairs. -/
def anyV (k I U : Int) (F : Nat) (S : ByteArray) : Value := .agg #[.int .i64 k, .int .i64 I, .int .u64 U, .float .f64 F, .string S, .slice none 0 0, .slice none 0 0]
/-- What impl.value makes of it, whatever the world. -/
def ValIs (A V : Value) : Prop := ∀ w, Calls Tryz.prog 26 #[A] w fun e w' => e = .returned V ∧ Below w.heap.size w w'
set_option maxRecDepth 100000 in
theorem val_0 (I U : Int) (F : Nat) (S : ByteArray) : ValIs (anyV 0 I U F S) (.nilIface) := by
  intro w
  have hb : Below w.heap.size w (w.alloc (.cells #[.int .i64 0, .int .i64 I, .int .u64 U, .float .f64 F, .string S, .slice none 0 0, .slice none 0 0] 27)) := (Below.refl _ _).alloc (Nat.le_refl _) _
  unfold anyV
  go_enter Tryz.func26, Tryz.ntmps26
  go_wp2
  go_ret
  exact ⟨rfl, hb⟩
set_option maxRecDepth 100000 in
theorem val_1 (I U : Int) (F : Nat) (S : ByteArray) : ValIs (anyV 1 I U F S) (.iface 4 (.bool (I != 0))) := by
  intro w
  have hb : Below w.heap.size w (w.alloc (.cells #[.int .i64 1, .int .i64 I, .int .u64 U, .float .f64 F, .string S, .slice none 0 0, .slice none 0 0] 27)) := (Below.refl _ _).alloc (Nat.le_refl _) _
  unfold anyV
  go_enter Tryz.func26, Tryz.ntmps26
  go_wp2
  go_ret
  exact ⟨rfl, hb⟩
set_option maxRecDepth 100000 in
theorem val_2 (I U : Int) (F : Nat) (S : ByteArray) : ValIs (anyV 2 I U F S) (.iface 3 (.int .i64 I)) := by
  intro w
  have hb : Below w.heap.size w (w.alloc (.cells #[.int .i64 2, .int .i64 I, .int .u64 U, .float .f64 F, .string S, .slice none 0 0, .slice none 0 0] 27)) := (Below.refl _ _).alloc (Nat.le_refl _) _
  unfold anyV
  go_enter Tryz.func26, Tryz.ntmps26
  go_wp2
  go_ret
  exact ⟨rfl, hb⟩
set_option maxRecDepth 100000 in
theorem val_3 (I U : Int) (F : Nat) (S : ByteArray) : ValIs (anyV 3 I U F S) (.iface 73 (.int .i8 (IntKind.i8.wrap I))) := by
  intro w
  have hb : Below w.heap.size w (w.alloc (.cells #[.int .i64 3, .int .i64 I, .int .u64 U, .float .f64 F, .string S, .slice none 0 0, .slice none 0 0] 27)) := (Below.refl _ _).alloc (Nat.le_refl _) _
  unfold anyV
  go_enter Tryz.func26, Tryz.ntmps26
  go_wp2
  go_ret
  exact ⟨rfl, hb⟩
set_option maxRecDepth 100000 in
theorem val_4 (I U : Int) (F : Nat) (S : ByteArray) : ValIs (anyV 4 I U F S) (.iface 74 (.int .i16 (IntKind.i16.wrap I))) := by
  intro w
  have hb : Below w.heap.size w (w.alloc (.cells #[.int .i64 4, .int .i64 I, .int .u64 U, .float .f64 F, .string S, .slice none 0 0, .slice none 0 0] 27)) := (Below.refl _ _).alloc (Nat.le_refl _) _
  unfold anyV
  go_enter Tryz.func26, Tryz.ntmps26
  go_wp2
  go_ret
  exact ⟨rfl, hb⟩
set_option maxRecDepth 100000 in
theorem val_5 (I U : Int) (F : Nat) (S : ByteArray) : ValIs (anyV 5 I U F S) (.iface 21 (.int .i32 (wrap32 I))) := by
  intro w
  have hb : Below w.heap.size w (w.alloc (.cells #[.int .i64 5, .int .i64 I, .int .u64 U, .float .f64 F, .string S, .slice none 0 0, .slice none 0 0] 27)) := (Below.refl _ _).alloc (Nat.le_refl _) _
  unfold anyV
  go_enter Tryz.func26, Tryz.ntmps26
  go_wp2
  go_ret
  exact ⟨rfl, hb⟩
set_option maxRecDepth 100000 in
theorem val_6 (I U : Int) (F : Nat) (S : ByteArray) : ValIs (anyV 6 I U F S) (.iface 2 (.int .i64 I)) := by
  intro w
  have hb : Below w.heap.size w (w.alloc (.cells #[.int .i64 6, .int .i64 I, .int .u64 U, .float .f64 F, .string S, .slice none 0 0, .slice none 0 0] 27)) := (Below.refl _ _).alloc (Nat.le_refl _) _
  unfold anyV
  go_enter Tryz.func26, Tryz.ntmps26
  go_wp2
  go_ret
  exact ⟨rfl, hb⟩
set_option maxRecDepth 100000 in
theorem val_7 (I U : Int) (F : Nat) (S : ByteArray) : ValIs (anyV 7 I U F S) (.iface 58 (.int .u64 U)) := by
  intro w
  have hb : Below w.heap.size w (w.alloc (.cells #[.int .i64 7, .int .i64 I, .int .u64 U, .float .f64 F, .string S, .slice none 0 0, .slice none 0 0] 27)) := (Below.refl _ _).alloc (Nat.le_refl _) _
  unfold anyV
  go_enter Tryz.func26, Tryz.ntmps26
  go_wp2
  go_ret
  exact ⟨rfl, hb⟩
set_option maxRecDepth 100000 in
theorem val_8 (I U : Int) (F : Nat) (S : ByteArray) : ValIs (anyV 8 I U F S) (.iface 5 (.int .u8 (IntKind.u8.wrap U))) := by
  intro w
  have hb : Below w.heap.size w (w.alloc (.cells #[.int .i64 8, .int .i64 I, .int .u64 U, .float .f64 F, .string S, .slice none 0 0, .slice none 0 0] 27)) := (Below.refl _ _).alloc (Nat.le_refl _) _
  unfold anyV
  go_enter Tryz.func26, Tryz.ntmps26
  go_wp2
  go_ret
  exact ⟨rfl, hb⟩
set_option maxRecDepth 100000 in
theorem val_9 (I U : Int) (F : Nat) (S : ByteArray) : ValIs (anyV 9 I U F S) (.iface 75 (.int .u16 (IntKind.u16.wrap U))) := by
  intro w
  have hb : Below w.heap.size w (w.alloc (.cells #[.int .i64 9, .int .i64 I, .int .u64 U, .float .f64 F, .string S, .slice none 0 0, .slice none 0 0] 27)) := (Below.refl _ _).alloc (Nat.le_refl _) _
  unfold anyV
  go_enter Tryz.func26, Tryz.ntmps26
  go_wp2
  go_ret
  exact ⟨rfl, hb⟩
set_option maxRecDepth 100000 in
theorem val_10 (I U : Int) (F : Nat) (S : ByteArray) : ValIs (anyV 10 I U F S) (.iface 76 (.int .u32 (IntKind.u32.wrap U))) := by
  intro w
  have hb : Below w.heap.size w (w.alloc (.cells #[.int .i64 10, .int .i64 I, .int .u64 U, .float .f64 F, .string S, .slice none 0 0, .slice none 0 0] 27)) := (Below.refl _ _).alloc (Nat.le_refl _) _
  unfold anyV
  go_enter Tryz.func26, Tryz.ntmps26
  go_wp2
  go_ret
  exact ⟨rfl, hb⟩
set_option maxRecDepth 100000 in
theorem val_11 (I U : Int) (F : Nat) (S : ByteArray) : ValIs (anyV 11 I U F S) (.iface 22 (.int .u64 U)) := by
  intro w
  have hb : Below w.heap.size w (w.alloc (.cells #[.int .i64 11, .int .i64 I, .int .u64 U, .float .f64 F, .string S, .slice none 0 0, .slice none 0 0] 27)) := (Below.refl _ _).alloc (Nat.le_refl _) _
  unfold anyV
  go_enter Tryz.func26, Tryz.ntmps26
  go_wp2
  go_ret
  exact ⟨rfl, hb⟩
set_option maxRecDepth 100000 in
theorem val_12 (I U : Int) (F : Nat) (S : ByteArray) (y : Nat) (hy : floatToFloatBits .f64 F .f32 = some y) : ValIs (anyV 12 I U F S) (.iface 77 (.float .f32 y)) := by
  intro w
  have hb : Below w.heap.size w (w.alloc (.cells #[.int .i64 12, .int .i64 I, .int .u64 U, .float .f64 F, .string S, .slice none 0 0, .slice none 0 0] 27)) := (Below.refl _ _).alloc (Nat.le_refl _) _
  have hcf : ∀ w, (convert 23 77 (.float .f64 F)).run Tryz.prog w = .ok (.float .f32 y) w := fun w => run_convert_float_float w 23 77 .f64 .f32 F y (by rw [Tryz.underlying23]; rfl) Tryz.underlying77 hy
  unfold anyV
  go_enter Tryz.func26, Tryz.ntmps26
  go_wp2
  go_ret
  exact ⟨rfl, hb⟩
set_option maxRecDepth 100000 in
theorem val_13 (I U : Int) (F : Nat) (S : ByteArray) : ValIs (anyV 13 I U F S) (.iface 23 (.float .f64 F)) := by
  intro w
  have hb : Below w.heap.size w (w.alloc (.cells #[.int .i64 13, .int .i64 I, .int .u64 U, .float .f64 F, .string S, .slice none 0 0, .slice none 0 0] 27)) := (Below.refl _ _).alloc (Nat.le_refl _) _
  unfold anyV
  go_enter Tryz.func26, Tryz.ntmps26
  go_wp2
  go_ret
  exact ⟨rfl, hb⟩
set_option maxRecDepth 100000 in
theorem val_14 (I U : Int) (F : Nat) (S : ByteArray) : ValIs (anyV 14 I U F S) (.iface 9 (.string S)) := by
  intro w
  have hb : Below w.heap.size w (w.alloc (.cells #[.int .i64 14, .int .i64 I, .int .u64 U, .float .f64 F, .string S, .slice none 0 0, .slice none 0 0] 27)) := (Below.refl _ _).alloc (Nat.le_refl _) _
  unfold anyV
  go_enter Tryz.func26, Tryz.ntmps26
  go_wp2
  go_ret
  exact ⟨rfl, hb⟩
theorem value_pv (c j : Nat) (hc : c < 16777216) (hj : j ≤ 80) (k I U : Int) (F : Nat) (S : ByteArray) (hk0 : 0 ≤ k) (hk : k < 15) (hI0 : -9223372036854775808 ≤ I) (hI1 : I ≤ 9223372036854775807)
    (hU0 : 0 ≤ U) (hU1 : U < 18446744073709551616) (hF : FB .f64 c j F) (hF1 : F < 18446744073709551616) (hS : S.size ≤ 400) : ∃ p : PV, p.ok c j ∧ ValIs (anyV k I U F S) p.val := by
  have hcase : k = 0 ∨ k = 1 ∨ k = 2 ∨ k = 3 ∨ k = 4 ∨ k = 5 ∨ k = 6 ∨ k = 7 ∨ k = 8 ∨ k = 9 ∨ k = 10 ∨ k = 11 ∨ k = 12 ∨ k = 13 ∨ k = 14 := by omega
  rcases hcase with rfl | rfl | rfl | rfl | rfl | rfl | rfl | rfl | rfl | rfl | rfl | rfl | rfl | rfl | rfl
  · exact ⟨.nil, trivial, val_0 I U F S⟩
  · have h := val_1 I U F S
    cases hb : (I != 0)
    · rw [hb] at h; exact ⟨.ff, trivial, h⟩
    · rw [hb] at h; exact ⟨.tt, trivial, h⟩
  · exact ⟨.int I, ⟨hI0, hI1⟩, val_2 I U F S⟩
  · exact ⟨.i8 (IntKind.i8.wrap I), bounds_i8 (wf_wrap _ _), val_3 I U F S⟩
  · exact ⟨.i16 (IntKind.i16.wrap I), bounds_i16 (wf_wrap _ _), val_4 I U F S⟩
  · exact ⟨.i32 (wrap32 I), by unfold PV.ok wrap32; omega, val_5 I U F S⟩
  · exact ⟨.i64 I, ⟨hI0, hI1⟩, val_6 I U F S⟩
  · exact ⟨.uint U, ⟨hU0, hU1⟩, val_7 I U F S⟩
  · exact ⟨.u8 (IntKind.u8.wrap U), bounds_u8 (wf_wrap _ _), val_8 I U F S⟩
  · exact ⟨.u16 (IntKind.u16.wrap U), bounds_u16 (wf_wrap _ _), val_9 I U F S⟩
  · exact ⟨.u32 (IntKind.u32.wrap U), bounds_u32 (wf_wrap _ _), val_10 I U F S⟩
  · exact ⟨.u64 U, ⟨hU0, hU1⟩, val_11 I U F S⟩
  · obtain ⟨y, hy, hy2⟩ := fb_conv .f64 .f32 c j F hc hj hF
    refine ⟨.f32 y, ⟨hy2, ?_⟩, val_12 I U F S y hy⟩
    obtain ⟨s', m', p', hr', _⟩ := hF
    have e' : FloatKind.f64.decode F = .number s' m' p' := hr'
    unfold floatToFloatBits at hy
    rw [if_neg (by decide), e'] at hy
    dsimp only at hy
    split at hy
    · cases hy
    · obtain rfl := Option.some.inj hy
      exact write32_lt _ (by intro s t h; cases h)
  · exact ⟨.f64 F, ⟨hF, hF1⟩, val_13 I U F S⟩
  · exact ⟨.str S, hS, val_14 I U F S⟩
/-- What a door with an error answers. -/
def AnsI (N : Nat) (A r : Value) (bad : Bool) : Prop := ∀ w, Tabs w → Two w → Calls Tryz.prog N #[A] w fun e w' => e = .returned (.tuple #[r, .bool (!bad)]) ∧ Below w.heap.size w w'
/-- What a door without an error answers. -/
def AnsC (N : Nat) (A r : Value) : Prop := ∀ w, Tabs w → Two w → Calls Tryz.prog N #[A] w fun e w' => e = .returned r ∧ Below w.heap.size w w'
theorem ErrIs_false {ev : Value} (h : ErrIs false ev) : ev = .nilIface := by
  rcases h with h | h
  · exact h.2
  · cases h.1
theorem ErrIs_true {ev : Value} (h : ErrIs true ev) : ∃ t p, ev = .iface t p := by
  rcases h with h | h
  · cases h.1
  · exact h.2
theorem two_below {w w' : World} (h : Two w) (hb : Below w.heap.size w w') : Two w' := by
  obtain ⟨ca, cb, ta, tb, h5, h6⟩ := h
  exact ⟨ca, cb, ta, tb, (hb.block 5 (Array.getElem?_eq_some_iff.1 h5).1).trans h5, (hb.block 6 (Array.getElem?_eq_some_iff.1 h6).1).trans h6⟩
theorem bel_box (w : World) (k I U : Int) (F : Nat) (S : ByteArray) : Below w.heap.size w (w.alloc (.cells #[.int .i64 k, .int .i64 I, .int .u64 U, .float .f64 F, .string S, .slice none 0 0, .slice none 0 0] 27)) := (Below.refl _ _).alloc (Nat.le_refl _) _
set_option maxRecDepth 100000 in
theorem to7 (k I U : Int) (F : Nat) (S : ByteArray) (V : Value) (n : Bool) (bad : Bool) (HV : ValIs (anyV k I U F S) V) (HE : AnsE 25 V (.bool n) bad) : AnsI 7 (anyV k I U F S) (.bool n) bad := by
  intro w hw h2
  have hb0 := bel_box w k I U F S
  have hw0 := hw.belowTop hb0
  have h20 := two_below h2 hb0
  unfold anyV at *

  cases bad
  · go_enter Tryz.func7, Tryz.ntmps7
    go_upto_region 2 with (first | (go_at_call 26; refine (HV _).mono ?_; rintro e w' ⟨rfl, hb⟩; have hw1 := hw0.belowTop hb; have h21 := two_below h20 hb) | (go_at_call 25; refine (HE _ hw1 h21).mono ?_; rintro e w'' ⟨ev, rfl, hev, hb2⟩))
    obtain rfl := ErrIs_false hev
    go_quiet (fail)
    go_wp2
    go_ret2
    exact ⟨rfl, hb0.trans (((hb.trans (hb2.mono hb.size)).mono hb0.size).trans ⟨rfl, rfl, rfl, Nat.le_refl _, fun _ _ => rfl⟩)⟩
  · go_enter Tryz.func7, Tryz.ntmps7
    go_upto_region 2 with (first | (go_at_call 26; refine (HV _).mono ?_; rintro e w' ⟨rfl, hb⟩; have hw1 := hw0.belowTop hb; have h21 := two_below h20 hb) | (go_at_call 25; refine (HE _ hw1 h21).mono ?_; rintro e w'' ⟨ev, rfl, hev, hb2⟩))
    obtain ⟨te, pe, rfl⟩ := ErrIs_true hev
    go_quiet (fail)
    go_wp2
    go_ret2
    exact ⟨rfl, hb0.trans (((hb.trans (hb2.mono hb.size)).mono hb0.size).trans ⟨rfl, rfl, rfl, Nat.le_refl _, fun _ _ => rfl⟩)⟩
set_option maxRecDepth 100000 in
theorem to8 (k I U : Int) (F : Nat) (S : ByteArray) (V : Value) (n : Int) (bad : Bool) (HV : ValIs (anyV k I U F S) V) (HE : AnsE 27 V (.int .i64 n) bad) : AnsI 8 (anyV k I U F S) (.int .i64 n) bad := by
  intro w hw h2
  have hb0 := bel_box w k I U F S
  have hw0 := hw.belowTop hb0
  have h20 := two_below h2 hb0
  unfold anyV at *

  cases bad
  · go_enter Tryz.func8, Tryz.ntmps8
    go_upto_region 2 with (first | (go_at_call 26; refine (HV _).mono ?_; rintro e w' ⟨rfl, hb⟩; have hw1 := hw0.belowTop hb; have h21 := two_below h20 hb) | (go_at_call 27; refine (HE _ hw1 h21).mono ?_; rintro e w'' ⟨ev, rfl, hev, hb2⟩))
    obtain rfl := ErrIs_false hev
    go_quiet (fail)
    go_wp2
    go_ret2
    exact ⟨rfl, hb0.trans (((hb.trans (hb2.mono hb.size)).mono hb0.size).trans ⟨rfl, rfl, rfl, Nat.le_refl _, fun _ _ => rfl⟩)⟩
  · go_enter Tryz.func8, Tryz.ntmps8
    go_upto_region 2 with (first | (go_at_call 26; refine (HV _).mono ?_; rintro e w' ⟨rfl, hb⟩; have hw1 := hw0.belowTop hb; have h21 := two_below h20 hb) | (go_at_call 27; refine (HE _ hw1 h21).mono ?_; rintro e w'' ⟨ev, rfl, hev, hb2⟩))
    obtain ⟨te, pe, rfl⟩ := ErrIs_true hev
    go_quiet (fail)
    go_wp2
    go_ret2
    exact ⟨rfl, hb0.trans (((hb.trans (hb2.mono hb.size)).mono hb0.size).trans ⟨rfl, rfl, rfl, Nat.le_refl _, fun _ _ => rfl⟩)⟩
set_option maxRecDepth 100000 in
theorem to9 (k I U : Int) (F : Nat) (S : ByteArray) (V : Value) (n : Int) (bad : Bool) (HV : ValIs (anyV k I U F S) V) (HE : AnsE 28 V (.int .u64 n) bad) : AnsI 9 (anyV k I U F S) (.int .u64 n) bad := by
  intro w hw h2
  have hb0 := bel_box w k I U F S
  have hw0 := hw.belowTop hb0
  have h20 := two_below h2 hb0
  unfold anyV at *

  cases bad
  · go_enter Tryz.func9, Tryz.ntmps9
    go_upto_region 2 with (first | (go_at_call 26; refine (HV _).mono ?_; rintro e w' ⟨rfl, hb⟩; have hw1 := hw0.belowTop hb; have h21 := two_below h20 hb) | (go_at_call 28; refine (HE _ hw1 h21).mono ?_; rintro e w'' ⟨ev, rfl, hev, hb2⟩))
    obtain rfl := ErrIs_false hev
    go_quiet (fail)
    go_wp2
    go_ret2
    exact ⟨rfl, hb0.trans (((hb.trans (hb2.mono hb.size)).mono hb0.size).trans ⟨rfl, rfl, rfl, Nat.le_refl _, fun _ _ => rfl⟩)⟩
  · go_enter Tryz.func9, Tryz.ntmps9
    go_upto_region 2 with (first | (go_at_call 26; refine (HV _).mono ?_; rintro e w' ⟨rfl, hb⟩; have hw1 := hw0.belowTop hb; have h21 := two_below h20 hb) | (go_at_call 28; refine (HE _ hw1 h21).mono ?_; rintro e w'' ⟨ev, rfl, hev, hb2⟩))
    obtain ⟨te, pe, rfl⟩ := ErrIs_true hev
    go_quiet (fail)
    go_wp2
    go_ret2
    exact ⟨rfl, hb0.trans (((hb.trans (hb2.mono hb.size)).mono hb0.size).trans ⟨rfl, rfl, rfl, Nat.le_refl _, fun _ _ => rfl⟩)⟩
set_option maxRecDepth 100000 in
theorem to10 (k I U : Int) (F : Nat) (S : ByteArray) (V : Value) (n : Nat) (bad : Bool) (HV : ValIs (anyV k I U F S) V) (HE : AnsE 29 V (.float .f64 n) bad) : AnsI 10 (anyV k I U F S) (.float .f64 n) bad := by
  intro w hw h2
  have hb0 := bel_box w k I U F S
  have hw0 := hw.belowTop hb0
  have h20 := two_below h2 hb0
  unfold anyV at *

  cases bad
  · go_enter Tryz.func10, Tryz.ntmps10
    go_upto_region 2 with (first | (go_at_call 26; refine (HV _).mono ?_; rintro e w' ⟨rfl, hb⟩; have hw1 := hw0.belowTop hb; have h21 := two_below h20 hb) | (go_at_call 29; refine (HE _ hw1 h21).mono ?_; rintro e w'' ⟨ev, rfl, hev, hb2⟩))
    obtain rfl := ErrIs_false hev
    go_quiet (fail)
    go_wp2
    go_ret2
    exact ⟨rfl, hb0.trans (((hb.trans (hb2.mono hb.size)).mono hb0.size).trans ⟨rfl, rfl, rfl, Nat.le_refl _, fun _ _ => rfl⟩)⟩
  · go_enter Tryz.func10, Tryz.ntmps10
    go_upto_region 2 with (first | (go_at_call 26; refine (HV _).mono ?_; rintro e w' ⟨rfl, hb⟩; have hw1 := hw0.belowTop hb; have h21 := two_below h20 hb) | (go_at_call 29; refine (HE _ hw1 h21).mono ?_; rintro e w'' ⟨ev, rfl, hev, hb2⟩))
    obtain ⟨te, pe, rfl⟩ := ErrIs_true hev
    go_quiet (fail)
    go_wp2
    go_ret2
    exact ⟨rfl, hb0.trans (((hb.trans (hb2.mono hb.size)).mono hb0.size).trans ⟨rfl, rfl, rfl, Nat.le_refl _, fun _ _ => rfl⟩)⟩
set_option maxRecDepth 100000 in
theorem to11 (k I U : Int) (F : Nat) (S : ByteArray) (V : Value) (n : ByteArray) (bad : Bool) (HV : ValIs (anyV k I U F S) V) (HE : AnsE 30 V (.string n) bad) : AnsI 11 (anyV k I U F S) (.string n) bad := by
  intro w hw h2
  have hb0 := bel_box w k I U F S
  have hw0 := hw.belowTop hb0
  have h20 := two_below h2 hb0
  unfold anyV at *

  cases bad
  · go_enter Tryz.func11, Tryz.ntmps11
    go_upto_region 2 with (first | (go_at_call 26; refine (HV _).mono ?_; rintro e w' ⟨rfl, hb⟩; have hw1 := hw0.belowTop hb; have h21 := two_below h20 hb) | (go_at_call 30; refine (HE _ hw1 h21).mono ?_; rintro e w'' ⟨ev, rfl, hev, hb2⟩))
    obtain rfl := ErrIs_false hev
    go_quiet (fail)
    go_wp2
    go_ret2
    exact ⟨rfl, hb0.trans (((hb.trans (hb2.mono hb.size)).mono hb0.size).trans ⟨rfl, rfl, rfl, Nat.le_refl _, fun _ _ => rfl⟩)⟩
  · go_enter Tryz.func11, Tryz.ntmps11
    go_upto_region 2 with (first | (go_at_call 26; refine (HV _).mono ?_; rintro e w' ⟨rfl, hb⟩; have hw1 := hw0.belowTop hb; have h21 := two_below h20 hb) | (go_at_call 30; refine (HE _ hw1 h21).mono ?_; rintro e w'' ⟨ev, rfl, hev, hb2⟩))
    obtain ⟨te, pe, rfl⟩ := ErrIs_true hev
    go_quiet (fail)
    go_wp2
    go_ret2
    exact ⟨rfl, hb0.trans (((hb.trans (hb2.mono hb.size)).mono hb0.size).trans ⟨rfl, rfl, rfl, Nat.le_refl _, fun _ _ => rfl⟩)⟩
set_option maxRecDepth 100000 in
theorem to37 (k I U : Int) (F : Nat) (S : ByteArray) (V : Value) (n : Int) (bad : Bool) (HV : ValIs (anyV k I U F S) V) (HE : AnsE 76 V (.int .i8 n) bad) : AnsI 37 (anyV k I U F S) (.int .i64 (wrap64 n)) bad := by
  intro w hw h2
  have hb0 := bel_box w k I U F S
  have hw0 := hw.belowTop hb0
  have h20 := two_below h2 hb0
  unfold anyV at *

  cases bad
  · go_enter Tryz.func37, Tryz.ntmps37
    go_upto_region 2 with (first | (go_at_call 26; refine (HV _).mono ?_; rintro e w' ⟨rfl, hb⟩; have hw1 := hw0.belowTop hb; have h21 := two_below h20 hb) | (go_at_call 76; refine (HE _ hw1 h21).mono ?_; rintro e w'' ⟨ev, rfl, hev, hb2⟩))
    obtain rfl := ErrIs_false hev
    go_quiet (fail)
    go_wp2
    go_ret2
    exact ⟨rfl, hb0.trans (((hb.trans (hb2.mono hb.size)).mono hb0.size).trans ⟨rfl, rfl, rfl, Nat.le_refl _, fun _ _ => rfl⟩)⟩
  · go_enter Tryz.func37, Tryz.ntmps37
    go_upto_region 2 with (first | (go_at_call 26; refine (HV _).mono ?_; rintro e w' ⟨rfl, hb⟩; have hw1 := hw0.belowTop hb; have h21 := two_below h20 hb) | (go_at_call 76; refine (HE _ hw1 h21).mono ?_; rintro e w'' ⟨ev, rfl, hev, hb2⟩))
    obtain ⟨te, pe, rfl⟩ := ErrIs_true hev
    go_quiet (fail)
    go_wp2
    go_ret2
    exact ⟨rfl, hb0.trans (((hb.trans (hb2.mono hb.size)).mono hb0.size).trans ⟨rfl, rfl, rfl, Nat.le_refl _, fun _ _ => rfl⟩)⟩
set_option maxRecDepth 100000 in
theorem to38 (k I U : Int) (F : Nat) (S : ByteArray) (V : Value) (n : Int) (bad : Bool) (HV : ValIs (anyV k I U F S) V) (HE : AnsE 77 V (.int .i16 n) bad) : AnsI 38 (anyV k I U F S) (.int .i64 (wrap64 n)) bad := by
  intro w hw h2
  have hb0 := bel_box w k I U F S
  have hw0 := hw.belowTop hb0
  have h20 := two_below h2 hb0
  unfold anyV at *

  cases bad
  · go_enter Tryz.func38, Tryz.ntmps38
    go_upto_region 2 with (first | (go_at_call 26; refine (HV _).mono ?_; rintro e w' ⟨rfl, hb⟩; have hw1 := hw0.belowTop hb; have h21 := two_below h20 hb) | (go_at_call 77; refine (HE _ hw1 h21).mono ?_; rintro e w'' ⟨ev, rfl, hev, hb2⟩))
    obtain rfl := ErrIs_false hev
    go_quiet (fail)
    go_wp2
    go_ret2
    exact ⟨rfl, hb0.trans (((hb.trans (hb2.mono hb.size)).mono hb0.size).trans ⟨rfl, rfl, rfl, Nat.le_refl _, fun _ _ => rfl⟩)⟩
  · go_enter Tryz.func38, Tryz.ntmps38
    go_upto_region 2 with (first | (go_at_call 26; refine (HV _).mono ?_; rintro e w' ⟨rfl, hb⟩; have hw1 := hw0.belowTop hb; have h21 := two_below h20 hb) | (go_at_call 77; refine (HE _ hw1 h21).mono ?_; rintro e w'' ⟨ev, rfl, hev, hb2⟩))
    obtain ⟨te, pe, rfl⟩ := ErrIs_true hev
    go_quiet (fail)
    go_wp2
    go_ret2
    exact ⟨rfl, hb0.trans (((hb.trans (hb2.mono hb.size)).mono hb0.size).trans ⟨rfl, rfl, rfl, Nat.le_refl _, fun _ _ => rfl⟩)⟩
set_option maxRecDepth 100000 in
theorem to39 (k I U : Int) (F : Nat) (S : ByteArray) (V : Value) (n : Int) (bad : Bool) (HV : ValIs (anyV k I U F S) V) (HE : AnsE 78 V (.int .i32 n) bad) : AnsI 39 (anyV k I U F S) (.int .i64 (wrap64 n)) bad := by
  intro w hw h2
  have hb0 := bel_box w k I U F S
  have hw0 := hw.belowTop hb0
  have h20 := two_below h2 hb0
  unfold anyV at *

  cases bad
  · go_enter Tryz.func39, Tryz.ntmps39
    go_upto_region 2 with (first | (go_at_call 26; refine (HV _).mono ?_; rintro e w' ⟨rfl, hb⟩; have hw1 := hw0.belowTop hb; have h21 := two_below h20 hb) | (go_at_call 78; refine (HE _ hw1 h21).mono ?_; rintro e w'' ⟨ev, rfl, hev, hb2⟩))
    obtain rfl := ErrIs_false hev
    go_quiet (fail)
    go_wp2
    go_ret2
    exact ⟨rfl, hb0.trans (((hb.trans (hb2.mono hb.size)).mono hb0.size).trans ⟨rfl, rfl, rfl, Nat.le_refl _, fun _ _ => rfl⟩)⟩
  · go_enter Tryz.func39, Tryz.ntmps39
    go_upto_region 2 with (first | (go_at_call 26; refine (HV _).mono ?_; rintro e w' ⟨rfl, hb⟩; have hw1 := hw0.belowTop hb; have h21 := two_below h20 hb) | (go_at_call 78; refine (HE _ hw1 h21).mono ?_; rintro e w'' ⟨ev, rfl, hev, hb2⟩))
    obtain ⟨te, pe, rfl⟩ := ErrIs_true hev
    go_quiet (fail)
    go_wp2
    go_ret2
    exact ⟨rfl, hb0.trans (((hb.trans (hb2.mono hb.size)).mono hb0.size).trans ⟨rfl, rfl, rfl, Nat.le_refl _, fun _ _ => rfl⟩)⟩
set_option maxRecDepth 100000 in
theorem to40 (k I U : Int) (F : Nat) (S : ByteArray) (V : Value) (n : Int) (bad : Bool) (HV : ValIs (anyV k I U F S) V) (HE : AnsE 79 V (.int .i64 n) bad) : AnsI 40 (anyV k I U F S) (.int .i64 n) bad := by
  intro w hw h2
  have hb0 := bel_box w k I U F S
  have hw0 := hw.belowTop hb0
  have h20 := two_below h2 hb0
  unfold anyV at *

  cases bad
  · go_enter Tryz.func40, Tryz.ntmps40
    go_upto_region 2 with (first | (go_at_call 26; refine (HV _).mono ?_; rintro e w' ⟨rfl, hb⟩; have hw1 := hw0.belowTop hb; have h21 := two_below h20 hb) | (go_at_call 79; refine (HE _ hw1 h21).mono ?_; rintro e w'' ⟨ev, rfl, hev, hb2⟩))
    obtain rfl := ErrIs_false hev
    go_quiet (fail)
    go_wp2
    go_ret2
    exact ⟨rfl, hb0.trans (((hb.trans (hb2.mono hb.size)).mono hb0.size).trans ⟨rfl, rfl, rfl, Nat.le_refl _, fun _ _ => rfl⟩)⟩
  · go_enter Tryz.func40, Tryz.ntmps40
    go_upto_region 2 with (first | (go_at_call 26; refine (HV _).mono ?_; rintro e w' ⟨rfl, hb⟩; have hw1 := hw0.belowTop hb; have h21 := two_below h20 hb) | (go_at_call 79; refine (HE _ hw1 h21).mono ?_; rintro e w'' ⟨ev, rfl, hev, hb2⟩))
    obtain ⟨te, pe, rfl⟩ := ErrIs_true hev
    go_quiet (fail)
    go_wp2
    go_ret2
    exact ⟨rfl, hb0.trans (((hb.trans (hb2.mono hb.size)).mono hb0.size).trans ⟨rfl, rfl, rfl, Nat.le_refl _, fun _ _ => rfl⟩)⟩
set_option maxRecDepth 100000 in
theorem to41 (k I U : Int) (F : Nat) (S : ByteArray) (V : Value) (n : Int) (bad : Bool) (HV : ValIs (anyV k I U F S) V) (HE : AnsE 80 V (.int .u8 n) bad) : AnsI 41 (anyV k I U F S) (.int .u64 (IntKind.u64.wrap n)) bad := by
  intro w hw h2
  have hb0 := bel_box w k I U F S
  have hw0 := hw.belowTop hb0
  have h20 := two_below h2 hb0
  unfold anyV at *

  cases bad
  · go_enter Tryz.func41, Tryz.ntmps41
    go_upto_region 2 with (first | (go_at_call 26; refine (HV _).mono ?_; rintro e w' ⟨rfl, hb⟩; have hw1 := hw0.belowTop hb; have h21 := two_below h20 hb) | (go_at_call 80; refine (HE _ hw1 h21).mono ?_; rintro e w'' ⟨ev, rfl, hev, hb2⟩))
    obtain rfl := ErrIs_false hev
    go_quiet (fail)
    go_wp2
    go_ret2
    exact ⟨rfl, hb0.trans (((hb.trans (hb2.mono hb.size)).mono hb0.size).trans ⟨rfl, rfl, rfl, Nat.le_refl _, fun _ _ => rfl⟩)⟩
  · go_enter Tryz.func41, Tryz.ntmps41
    go_upto_region 2 with (first | (go_at_call 26; refine (HV _).mono ?_; rintro e w' ⟨rfl, hb⟩; have hw1 := hw0.belowTop hb; have h21 := two_below h20 hb) | (go_at_call 80; refine (HE _ hw1 h21).mono ?_; rintro e w'' ⟨ev, rfl, hev, hb2⟩))
    obtain ⟨te, pe, rfl⟩ := ErrIs_true hev
    go_quiet (fail)
    go_wp2
    go_ret2
    exact ⟨rfl, hb0.trans (((hb.trans (hb2.mono hb.size)).mono hb0.size).trans ⟨rfl, rfl, rfl, Nat.le_refl _, fun _ _ => rfl⟩)⟩
set_option maxRecDepth 100000 in
theorem to42 (k I U : Int) (F : Nat) (S : ByteArray) (V : Value) (n : Int) (bad : Bool) (HV : ValIs (anyV k I U F S) V) (HE : AnsE 81 V (.int .u16 n) bad) : AnsI 42 (anyV k I U F S) (.int .u64 (IntKind.u64.wrap n)) bad := by
  intro w hw h2
  have hb0 := bel_box w k I U F S
  have hw0 := hw.belowTop hb0
  have h20 := two_below h2 hb0
  unfold anyV at *

  cases bad
  · go_enter Tryz.func42, Tryz.ntmps42
    go_upto_region 2 with (first | (go_at_call 26; refine (HV _).mono ?_; rintro e w' ⟨rfl, hb⟩; have hw1 := hw0.belowTop hb; have h21 := two_below h20 hb) | (go_at_call 81; refine (HE _ hw1 h21).mono ?_; rintro e w'' ⟨ev, rfl, hev, hb2⟩))
    obtain rfl := ErrIs_false hev
    go_quiet (fail)
    go_wp2
    go_ret2
    exact ⟨rfl, hb0.trans (((hb.trans (hb2.mono hb.size)).mono hb0.size).trans ⟨rfl, rfl, rfl, Nat.le_refl _, fun _ _ => rfl⟩)⟩
  · go_enter Tryz.func42, Tryz.ntmps42
    go_upto_region 2 with (first | (go_at_call 26; refine (HV _).mono ?_; rintro e w' ⟨rfl, hb⟩; have hw1 := hw0.belowTop hb; have h21 := two_below h20 hb) | (go_at_call 81; refine (HE _ hw1 h21).mono ?_; rintro e w'' ⟨ev, rfl, hev, hb2⟩))
    obtain ⟨te, pe, rfl⟩ := ErrIs_true hev
    go_quiet (fail)
    go_wp2
    go_ret2
    exact ⟨rfl, hb0.trans (((hb.trans (hb2.mono hb.size)).mono hb0.size).trans ⟨rfl, rfl, rfl, Nat.le_refl _, fun _ _ => rfl⟩)⟩
set_option maxRecDepth 100000 in
theorem to43 (k I U : Int) (F : Nat) (S : ByteArray) (V : Value) (n : Int) (bad : Bool) (HV : ValIs (anyV k I U F S) V) (HE : AnsE 82 V (.int .u32 n) bad) : AnsI 43 (anyV k I U F S) (.int .u64 (IntKind.u64.wrap n)) bad := by
  intro w hw h2
  have hb0 := bel_box w k I U F S
  have hw0 := hw.belowTop hb0
  have h20 := two_below h2 hb0
  unfold anyV at *

  cases bad
  · go_enter Tryz.func43, Tryz.ntmps43
    go_upto_region 2 with (first | (go_at_call 26; refine (HV _).mono ?_; rintro e w' ⟨rfl, hb⟩; have hw1 := hw0.belowTop hb; have h21 := two_below h20 hb) | (go_at_call 82; refine (HE _ hw1 h21).mono ?_; rintro e w'' ⟨ev, rfl, hev, hb2⟩))
    obtain rfl := ErrIs_false hev
    go_quiet (fail)
    go_wp2
    go_ret2
    exact ⟨rfl, hb0.trans (((hb.trans (hb2.mono hb.size)).mono hb0.size).trans ⟨rfl, rfl, rfl, Nat.le_refl _, fun _ _ => rfl⟩)⟩
  · go_enter Tryz.func43, Tryz.ntmps43
    go_upto_region 2 with (first | (go_at_call 26; refine (HV _).mono ?_; rintro e w' ⟨rfl, hb⟩; have hw1 := hw0.belowTop hb; have h21 := two_below h20 hb) | (go_at_call 82; refine (HE _ hw1 h21).mono ?_; rintro e w'' ⟨ev, rfl, hev, hb2⟩))
    obtain ⟨te, pe, rfl⟩ := ErrIs_true hev
    go_quiet (fail)
    go_wp2
    go_ret2
    exact ⟨rfl, hb0.trans (((hb.trans (hb2.mono hb.size)).mono hb0.size).trans ⟨rfl, rfl, rfl, Nat.le_refl _, fun _ _ => rfl⟩)⟩
set_option maxRecDepth 100000 in
theorem to44 (k I U : Int) (F : Nat) (S : ByteArray) (V : Value) (n : Int) (bad : Bool) (HV : ValIs (anyV k I U F S) V) (HE : AnsE 83 V (.int .u64 n) bad) : AnsI 44 (anyV k I U F S) (.int .u64 n) bad := by
  intro w hw h2
  have hb0 := bel_box w k I U F S
  have hw0 := hw.belowTop hb0
  have h20 := two_below h2 hb0
  unfold anyV at *

  cases bad
  · go_enter Tryz.func44, Tryz.ntmps44
    go_upto_region 2 with (first | (go_at_call 26; refine (HV _).mono ?_; rintro e w' ⟨rfl, hb⟩; have hw1 := hw0.belowTop hb; have h21 := two_below h20 hb) | (go_at_call 83; refine (HE _ hw1 h21).mono ?_; rintro e w'' ⟨ev, rfl, hev, hb2⟩))
    obtain rfl := ErrIs_false hev
    go_quiet (fail)
    go_wp2
    go_ret2
    exact ⟨rfl, hb0.trans (((hb.trans (hb2.mono hb.size)).mono hb0.size).trans ⟨rfl, rfl, rfl, Nat.le_refl _, fun _ _ => rfl⟩)⟩
  · go_enter Tryz.func44, Tryz.ntmps44
    go_upto_region 2 with (first | (go_at_call 26; refine (HV _).mono ?_; rintro e w' ⟨rfl, hb⟩; have hw1 := hw0.belowTop hb; have h21 := two_below h20 hb) | (go_at_call 83; refine (HE _ hw1 h21).mono ?_; rintro e w'' ⟨ev, rfl, hev, hb2⟩))
    obtain ⟨te, pe, rfl⟩ := ErrIs_true hev
    go_quiet (fail)
    go_wp2
    go_ret2
    exact ⟨rfl, hb0.trans (((hb.trans (hb2.mono hb.size)).mono hb0.size).trans ⟨rfl, rfl, rfl, Nat.le_refl _, fun _ _ => rfl⟩)⟩
set_option maxRecDepth 100000 in
theorem x31c (V : Value) (n : Bool) (bad : Bool) (HE : AnsE 25 V (.bool n) bad) : AnsC 31 V (.bool n) := by
  intro w hw h2
  go_enter Tryz.func31, Tryz.ntmps31
  go_wp2_with (go_at_call 25; refine (HE _ hw h2).mono ?_; rintro e w'' ⟨ev, rfl, hev, hb2⟩)
  go_ret
  exact ⟨rfl, hb2⟩
set_option maxRecDepth 100000 in
theorem c12 (k I U : Int) (F : Nat) (S : ByteArray) (V : Value) (n : Bool) (bad : Bool) (HV : ValIs (anyV k I U F S) V) (HE : AnsE 25 V (.bool n) bad) : AnsC 12 (anyV k I U F S) (.bool n) := by
  intro w hw h2
  have HX := x31c V n bad HE
  have hb0 := bel_box w k I U F S
  have hw0 := hw.belowTop hb0
  have h20 := two_below h2 hb0
  unfold anyV at *

  go_enter Tryz.func12, Tryz.ntmps12
  go_wp2_with (first | (go_at_call 26; refine (HV _).mono ?_; rintro e w' ⟨rfl, hb⟩; have hw1 := hw0.belowTop hb; have h21 := two_below h20 hb) | (go_at_call 31; refine (HX _ hw1 h21).mono ?_; rintro e w'' ⟨rfl, hb2⟩))
  go_ret
  exact ⟨rfl, hb0.trans ((hb.trans (hb2.mono hb.size)).mono hb0.size)⟩
set_option maxRecDepth 100000 in
theorem x32c (V : Value) (n : Int) (bad : Bool) (HE : AnsE 27 V (.int .i64 n) bad) : AnsC 32 V (.int .i64 n) := by
  intro w hw h2
  go_enter Tryz.func32, Tryz.ntmps32
  go_wp2_with (go_at_call 27; refine (HE _ hw h2).mono ?_; rintro e w'' ⟨ev, rfl, hev, hb2⟩)
  go_ret
  exact ⟨rfl, hb2⟩
set_option maxRecDepth 100000 in
theorem c13 (k I U : Int) (F : Nat) (S : ByteArray) (V : Value) (n : Int) (bad : Bool) (HV : ValIs (anyV k I U F S) V) (HE : AnsE 27 V (.int .i64 n) bad) : AnsC 13 (anyV k I U F S) (.int .i64 n) := by
  intro w hw h2
  have HX := x32c V n bad HE
  have hb0 := bel_box w k I U F S
  have hw0 := hw.belowTop hb0
  have h20 := two_below h2 hb0
  unfold anyV at *

  go_enter Tryz.func13, Tryz.ntmps13
  go_wp2_with (first | (go_at_call 26; refine (HV _).mono ?_; rintro e w' ⟨rfl, hb⟩; have hw1 := hw0.belowTop hb; have h21 := two_below h20 hb) | (go_at_call 32; refine (HX _ hw1 h21).mono ?_; rintro e w'' ⟨rfl, hb2⟩))
  go_ret
  exact ⟨rfl, hb0.trans ((hb.trans (hb2.mono hb.size)).mono hb0.size)⟩
set_option maxRecDepth 100000 in
theorem x33c (V : Value) (n : Int) (bad : Bool) (HE : AnsE 28 V (.int .u64 n) bad) : AnsC 33 V (.int .u64 n) := by
  intro w hw h2
  go_enter Tryz.func33, Tryz.ntmps33
  go_wp2_with (go_at_call 28; refine (HE _ hw h2).mono ?_; rintro e w'' ⟨ev, rfl, hev, hb2⟩)
  go_ret
  exact ⟨rfl, hb2⟩
set_option maxRecDepth 100000 in
theorem c14 (k I U : Int) (F : Nat) (S : ByteArray) (V : Value) (n : Int) (bad : Bool) (HV : ValIs (anyV k I U F S) V) (HE : AnsE 28 V (.int .u64 n) bad) : AnsC 14 (anyV k I U F S) (.int .u64 n) := by
  intro w hw h2
  have HX := x33c V n bad HE
  have hb0 := bel_box w k I U F S
  have hw0 := hw.belowTop hb0
  have h20 := two_below h2 hb0
  unfold anyV at *

  go_enter Tryz.func14, Tryz.ntmps14
  go_wp2_with (first | (go_at_call 26; refine (HV _).mono ?_; rintro e w' ⟨rfl, hb⟩; have hw1 := hw0.belowTop hb; have h21 := two_below h20 hb) | (go_at_call 33; refine (HX _ hw1 h21).mono ?_; rintro e w'' ⟨rfl, hb2⟩))
  go_ret
  exact ⟨rfl, hb0.trans ((hb.trans (hb2.mono hb.size)).mono hb0.size)⟩
set_option maxRecDepth 100000 in
theorem x35c (V : Value) (n : Nat) (bad : Bool) (HE : AnsE 29 V (.float .f64 n) bad) : AnsC 35 V (.float .f64 n) := by
  intro w hw h2
  go_enter Tryz.func35, Tryz.ntmps35
  go_wp2_with (go_at_call 29; refine (HE _ hw h2).mono ?_; rintro e w'' ⟨ev, rfl, hev, hb2⟩)
  go_ret
  exact ⟨rfl, hb2⟩
set_option maxRecDepth 100000 in
theorem c16 (k I U : Int) (F : Nat) (S : ByteArray) (V : Value) (n : Nat) (bad : Bool) (HV : ValIs (anyV k I U F S) V) (HE : AnsE 29 V (.float .f64 n) bad) : AnsC 16 (anyV k I U F S) (.float .f64 n) := by
  intro w hw h2
  have HX := x35c V n bad HE
  have hb0 := bel_box w k I U F S
  have hw0 := hw.belowTop hb0
  have h20 := two_below h2 hb0
  unfold anyV at *

  go_enter Tryz.func16, Tryz.ntmps16
  go_wp2_with (first | (go_at_call 26; refine (HV _).mono ?_; rintro e w' ⟨rfl, hb⟩; have hw1 := hw0.belowTop hb; have h21 := two_below h20 hb) | (go_at_call 35; refine (HX _ hw1 h21).mono ?_; rintro e w'' ⟨rfl, hb2⟩))
  go_ret
  exact ⟨rfl, hb0.trans ((hb.trans (hb2.mono hb.size)).mono hb0.size)⟩
set_option maxRecDepth 100000 in
theorem x36c (V : Value) (n : ByteArray) (bad : Bool) (HE : AnsE 30 V (.string n) bad) : AnsC 36 V (.string n) := by
  intro w hw h2
  go_enter Tryz.func36, Tryz.ntmps36
  go_wp2_with (go_at_call 30; refine (HE _ hw h2).mono ?_; rintro e w'' ⟨ev, rfl, hev, hb2⟩)
  go_ret
  exact ⟨rfl, hb2⟩
set_option maxRecDepth 100000 in
theorem c17 (k I U : Int) (F : Nat) (S : ByteArray) (V : Value) (n : ByteArray) (bad : Bool) (HV : ValIs (anyV k I U F S) V) (HE : AnsE 30 V (.string n) bad) : AnsC 17 (anyV k I U F S) (.string n) := by
  intro w hw h2
  have HX := x36c V n bad HE
  have hb0 := bel_box w k I U F S
  have hw0 := hw.belowTop hb0
  have h20 := two_below h2 hb0
  unfold anyV at *

  go_enter Tryz.func17, Tryz.ntmps17
  go_wp2_with (first | (go_at_call 26; refine (HV _).mono ?_; rintro e w' ⟨rfl, hb⟩; have hw1 := hw0.belowTop hb; have h21 := two_below h20 hb) | (go_at_call 36; refine (HX _ hw1 h21).mono ?_; rintro e w'' ⟨rfl, hb2⟩))
  go_ret
  exact ⟨rfl, hb0.trans ((hb.trans (hb2.mono hb.size)).mono hb0.size)⟩
end Go.Proofs.YtnggkkdcddpjlaaGreatDoor
