/- atof64exact: what it answers. -/
import Derived.Test.YtnggkkdcddpjlaaGreatDoorUsc
import Derived.Laws.ComplexArith
namespace Go.Proofs.YtnggkkdcddpjlaaGreatDoor
set_option linter.unusedVariables false
set_option linter.unusedSimpArgs false
open Go.RowKit
theorem fl_mul {a b r : Nat} (h : FloatKind.f64.format.mul a b = some r) (w : World) : (binOp .mul 23 (.float .f64 a) (.float .f64 b)).run Tryz.prog w = .ok (.float .f64 r) w := by
  have := run_floatArith (P := Tryz.prog) (op := .mul) (k := .f64) (w := w) (by simpa [floatBits] using h)
  simpa [binOp] using this
theorem fl_div {a b r : Nat} (h : FloatKind.f64.format.div a b = some r) (w : World) : (binOp .quo 23 (.float .f64 a) (.float .f64 b)).run Tryz.prog w = .ok (.float .f64 r) w := by
  have := run_floatArith (P := Tryz.prog) (op := .quo) (k := .f64) (w := w) (by simpa [floatBits] using h)
  simpa [binOp] using this
theorem fl_neg (a : Nat) (w : World) : (Op.unary .neg (.float .f64 a)).run Tryz.prog w = .ok (.float .f64 (Op.negFloat .f64 a)) w := rfl
/-- The number, with its sign. -/
def exN (d : Nat) (neg : Bool) : Nat := if neg = true then Op.negFloat .f64 (floatOfInt FloatKind.f64 (d : Int)) else floatOfInt FloatKind.f64 (d : Int)
/-- Beyond 10^15. -/
def exBig (f : Nat) : Bool := FloatKind.f64.format.order f 4831355200913801216 == some Ordering.gt || FloatKind.f64.format.order f 14054727237768577024 == some Ordering.lt
def exF (d : Nat) (p : Int) (neg : Bool) : Option (Nat × Bool) :=
  if 4503599627370496 ≤ d then some (0, false)
  else if p = 0 then some (exN d neg, true)
  else if 0 < p then (if p ≤ 37 then
      (if 22 < p then (FloatKind.f64.format.mul (exN d neg) (ftD (p - 22).toNat)).bind fun f2 => if exBig f2 = true then some (f2, false) else (FloatKind.f64.format.mul f2 (ftD 22)).bind fun f3 => some (f3, true)
       else if exBig (exN d neg) = true then some (exN d neg, false) else (FloatKind.f64.format.mul (exN d neg) (ftD p.toNat)).bind fun f3 => some (f3, true))
    else some (exN d neg, false))
  else if -22 ≤ p then (FloatKind.f64.format.div (exN d neg) (ftD (-p).toNat)).bind fun f3 => some (f3, true)
  else some (exN d neg, false)
theorem ex_huge (d : Nat) (p : Int) (neg : Bool) (w : World) (hw : Tabs w) (hd : 4503599627370496 ≤ d) :
    Calls Tryz.prog 194 #[.int .u64 d, .int .i64 p, .bool neg] w fun e w' => e = .returned (.tuple #[.float .f64 0, .bool false]) ∧ w = w' := by
  have f0 := hw.fi0
  have b1 : ((d : Int) / 4503599627370496 != 0) = true := by rw [bne_iff_ne]; omega
  clear hw hd
  go_enter Tryz.func194, Tryz.ntmps194
  go_wp2
  go_ret2
  exact ⟨rfl, rfl⟩
set_option maxHeartbeats 8000000 in
set_option maxRecDepth 100000 in
theorem ex_calls (d : Nat) (p : Int) (neg : Bool) (r : Nat) (ok : Bool) (w : World) (hw : Tabs w) (h : exF d p neg = some (r, ok)) :
    Calls Tryz.prog 194 #[.int .u64 d, .int .i64 p, .bool neg] w fun e w' => e = .returned (.tuple #[.float .f64 r, .bool ok]) ∧ w = w' := by
  unfold exF at h
  by_cases c0 : 4503599627370496 ≤ d
  · rw [if_pos c0] at h
    obtain ⟨rfl, rfl⟩ := Prod.mk.inj (Option.some.inj h)
    exact ex_huge d p neg w hw c0
  rw [if_neg c0] at h
  have f0 := hw.fi0
  obtain ⟨b, o, c, l1, l2⟩ := hw.f10
  have b0 : ((d : Int) / 4503599627370496 != 0) = false := by rw [bne_eq_false_iff_eq]; omega
  clear hw c0
  have hN : exN d neg = if neg = true then Op.negFloat .f64 (floatOfInt FloatKind.f64 (d : Int)) else floatOfInt FloatKind.f64 (d : Int) := rfl
  have hneg := fl_neg (floatOfInt FloatKind.f64 (d : Int)) w
  generalize exN d neg = x at *
  generalize hx0 : floatOfInt FloatKind.f64 (d : Int) = x0 at *
  have AN := Lib.hid hN
  have AH := Lib.hid h
  clear hN h
  go_enter Tryz.func194, Tryz.ntmps194
  go_upto_if 15 with fail
  go_cut [6] from 16 to 17 (fun s6 wc => s6 = .float .f64 x ∧ w = wc)
  case first =>
    cases neg
    · have e := AN.out
      rw [if_neg (by simp)] at e
      subst e
      go_wp2
      go_meet
      exact ⟨rfl, rfl⟩
    · have e := AN.out
      rw [if_pos rfl] at e
      subst e
      go_wp2
      go_meet
      exact ⟨rfl, rfl⟩
  case rest =>
    obtain ⟨rfl, rfl⟩ := hcut
    have h := AH.out
    clear AH AN hneg
    by_cases c1 : p = 0
    · rw [if_pos c1] at h
      obtain ⟨rfl, rfl⟩ := Prod.mk.inj (Option.some.inj h)
      subst c1
      clear h
      go_wp2
      go_ret2
      exact ⟨rfl, rfl⟩
    rw [if_neg c1] at h
    have b1 : (p == 0) = false := beq_eq_false_iff_ne.2 c1
    by_cases c2 : 0 < p
    · rw [if_pos c2] at h
      by_cases c3 : p ≤ 37
      · rw [if_pos c3] at h
        by_cases c4 : 22 < p
        · rw [if_pos c4] at h
          obtain ⟨f2, h2, h⟩ := Option.bind_eq_some_iff.1 h
          have m2 := fl_mul h2 w
          by_cases c5 : exBig f2 = true
          · rw [if_pos c5] at h
            obtain ⟨rfl, rfl⟩ := Prod.mk.inj (Option.some.inj h)
            unfold exBig at c5
            rcases Bool.or_eq_true_iff.1 c5 with k | k
            · clear h h2 c5
              go_wp2
              go_ret2
              exact ⟨rfl, rfl⟩
            · cases k2 : (FloatKind.f64.format.order f2 4831355200913801216 == some Ordering.gt) <;>
              (clear h h2 c5
               go_wp2
               go_ret2
               exact ⟨rfl, rfl⟩)
          · rw [if_neg c5] at h
            obtain ⟨f3, h3, h⟩ := Option.bind_eq_some_iff.1 h
            obtain ⟨rfl, rfl⟩ := Prod.mk.inj (Option.some.inj h)
            have m3 := fl_mul h3 w
            unfold exBig at c5
            rw [Bool.not_eq_true, Bool.or_eq_false_iff] at c5
            obtain ⟨k1, k2⟩ := c5
            clear h h2 h3
            go_wp2
            go_ret2
            exact ⟨rfl, rfl⟩
        · rw [if_neg c4] at h
          by_cases c5 : exBig x = true
          · rw [if_pos c5] at h
            obtain ⟨rfl, rfl⟩ := Prod.mk.inj (Option.some.inj h)
            unfold exBig at c5
            rcases Bool.or_eq_true_iff.1 c5 with k | k
            · clear h c5
              go_wp2
              go_ret2
              exact ⟨rfl, rfl⟩
            · cases k2 : (FloatKind.f64.format.order x 4831355200913801216 == some Ordering.gt) <;>
              (clear h c5
               go_wp2
               go_ret2
               exact ⟨rfl, rfl⟩)
          · rw [if_neg c5] at h
            obtain ⟨f3, h3, h⟩ := Option.bind_eq_some_iff.1 h
            obtain ⟨rfl, rfl⟩ := Prod.mk.inj (Option.some.inj h)
            have m3 := fl_mul h3 w
            unfold exBig at c5
            rw [Bool.not_eq_true, Bool.or_eq_false_iff] at c5
            obtain ⟨k1, k2⟩ := c5
            clear h h3
            go_wp2
            go_ret2
            exact ⟨rfl, rfl⟩
      · rw [if_neg c3] at h
        obtain ⟨rfl, rfl⟩ := Prod.mk.inj (Option.some.inj h)
        clear h
        go_wp2
        go_ret2
        exact ⟨rfl, rfl⟩
    · rw [if_neg c2] at h
      by_cases c3 : -22 ≤ p
      · rw [if_pos c3] at h
        obtain ⟨f3, h3, h⟩ := Option.bind_eq_some_iff.1 h
        obtain ⟨rfl, rfl⟩ := Prod.mk.inj (Option.some.inj h)
        have m3 := fl_div h3 w
        clear h h3
        go_wp2
        go_ret2
        exact ⟨rfl, rfl⟩
      · rw [if_neg c3] at h
        obtain ⟨rfl, rfl⟩ := Prod.mk.inj (Option.some.inj h)
        clear h
        go_wp2
        go_ret2
        exact ⟨rfl, rfl⟩
end Go.Proofs.YtnggkkdcddpjlaaGreatDoor
