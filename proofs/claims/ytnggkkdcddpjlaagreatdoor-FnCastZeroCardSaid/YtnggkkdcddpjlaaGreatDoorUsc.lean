/- uscale.go: the scaling by powers of ten: what each answers. -/
import Derived.Test.YtnggkkdcddpjlaaGreatDoorHex
namespace Go.Proofs.YtnggkkdcddpjlaaGreatDoor
set_option linter.unusedVariables false
set_option linter.unusedSimpArgs false
open Go.RowKit
theorem b192 (b : Bool) (w : World) : Calls Tryz.prog 192 #[.bool b] w fun e w' => e = .returned (.int .u64 (if b then 1 else 0)) ∧ w' = w := by
  cases b <;> (go_enter Tryz.func192, Tryz.ntmps192; go_wp2; go_ret; exact ⟨rfl, rfl⟩)
theorem b197 (b : Bool) (w : World) : Calls Tryz.prog 197 #[.bool b] w fun e w' => e = .returned (.int .u64 (if b then 1 else 0)) ∧ w' = w := by
  cases b <;> (go_enter Tryz.func197, Tryz.ntmps197; go_wp2; go_ret; exact ⟨rfl, rfl⟩)
theorem l2p10 (x : Int) (h1 : -10000 ≤ x) (h2 : x ≤ 10000) (w : World) : Calls Tryz.prog 167 #[.int .i64 x] w fun e w' => e = .returned (.int .i64 (x * 108853 / 32768)) ∧ w' = w := by
  go_enter Tryz.func167, Tryz.ntmps167
  go_wp2
  go_ret
  exact ⟨rfl, rfl⟩
theorem l10p2 (x : Int) (h1 : -10000 ≤ x) (h2 : x ≤ 10000) (w : World) : Calls Tryz.prog 152 #[.int .i64 x] w fun e w' => e = .returned (.int .i64 (x * 78913 / 262144)) ∧ w' = w := by
  go_enter Tryz.func152, Tryz.ntmps152
  go_wp2
  go_ret
  exact ⟨rfl, rfl⟩
theorem unmin53 (w : World) : Calls Tryz.prog 173 #[.int .u64 9007199254740992] w fun e w' => e = .returned (.int .u64 36028797018963966) ∧ w' = w := by
  go_enter Tryz.func173, Tryz.ntmps173
  go_wp2
  go_ret
  exact ⟨rfl, rfl⟩
/-- A number cut to 64 bits. -/
def wr (z : Int) : Nat := (IntKind.u64.wrap z).toNat
theorem wr_eq (z : Int) : IntKind.u64.wrap z = (wr z : Int) := by
  have := wrap_u64_nonneg z
  unfold wr; omega
theorem wr_lt (z : Int) : wr z < 18446744073709551616 := by
  unfold wr; rw [IntKind.wrap_u64]; omega
def rdU (u : Nat) : Nat := wr ((wr ((u : Int) + 1) : Int) + bits .and .u64 ((u : Int) / 4) 1) / 4
theorem round172 (u : Nat) (w : World) : Calls Tryz.prog 172 #[.int .u64 u] w fun e w' => e = .returned (.int .u64 (rdU u)) ∧ w' = w := by
  go_enter Tryz.func172, Tryz.ntmps172
  go_wp2
  go_ret
  refine ⟨?_, rfl⟩
  show Ending.returned (.int .u64 (IntKind.u64.wrap (IntKind.u64.wrap ((u : Int) + 1) + bits .and .u64 ((u : Int) / 4) 1) / 4)) = _
  rw [wr_eq ((u : Int) + 1), wr_eq]; rfl
def ceU (u : Nat) : Nat := wr ((u : Int) + 3) / 4
theorem ceil170 (u : Nat) (w : World) : Calls Tryz.prog 170 #[.int .u64 u] w fun e w' => e = .returned (.int .u64 (ceU u)) ∧ w' = w := by
  go_enter Tryz.func170, Tryz.ntmps170
  go_wp2
  go_ret
  refine ⟨?_, rfl⟩
  show Ending.returned (.int .u64 (IntKind.u64.wrap ((u : Int) + 3) / 4)) = _
  rw [wr_eq]; rfl
theorem floor171 (u : Nat) (hu : u < 18446744073709551616) (w : World) : Calls Tryz.prog 171 #[.int .u64 u] w fun e w' => e = .returned (.int .u64 ((u / 4 : Nat) : Int)) ∧ w' = w := by
  go_enter Tryz.func171, Tryz.ntmps171
  go_wp2
  go_ret
  exact ⟨rfl, rfl⟩
theorem nudge169 (u : Nat) (d : Int) (w : World) : Calls Tryz.prog 169 #[.int .u64 u, .int .i64 d] w fun e w' => e = .returned (.int .u64 (wr ((u : Int) + wr d))) ∧ w' = w := by
  go_enter Tryz.func169, Tryz.ntmps169
  go_wp2
  go_ret
  refine ⟨?_, rfl⟩
  show Ending.returned (.int .u64 (IntKind.u64.wrap ((u : Int) + IntKind.u64.wrap d))) = _
  rw [wr_eq d, wr_eq]
def pkF (m e : Int) : Int × Bool :=
  if bits .and .u64 m 4503599627370496 = 0 then (m, false) else if 972 ≤ e then (bits .or .u64 (bits .and .u64 m 9223372036854775808) 9218868437227405312, true)
  else (bits .or .u64 (bits .andNot .u64 m 4503599627370496) (IntKind.u64.wrap (IntKind.u64.wrap (1075 + e) * 4503599627370496)), false)
theorem pack64 (m e : Int) (h1 : -10000 ≤ e) (h2 : e ≤ 10000) (w : World) : Calls Tryz.prog 204 #[.int .u64 m, .int .i64 e] w fun e' w' => e' = .returned (.tuple #[.float .f64 (pkF m e).1.toNat, evOf (pkF m e).2]) ∧ w' = w := by
  unfold pkF
  by_cases c1 : bits .and .u64 m 4503599627370496 = 0
  · rw [if_pos c1]
    have b1 : (bits .and .u64 m 4503599627370496 == 0) = true := beq_iff_eq.2 c1
    clear c1
    go_enter Tryz.func204, Tryz.ntmps204
    go_wp2
    go_ret2
    exact ⟨rfl, rfl⟩
  rw [if_neg c1]
  have b1 : (bits .and .u64 m 4503599627370496 == 0) = false := beq_eq_false_iff_ne.2 c1
  by_cases c2 : 972 ≤ e
  · rw [if_pos c2]
    clear c1
    go_enter Tryz.func204, Tryz.ntmps204
    go_wp2
    go_ret2
    exact ⟨rfl, rfl⟩
  · rw [if_neg c2]
    clear c1
    go_enter Tryz.func204, Tryz.ntmps204
    go_wp2
    go_ret2
    exact ⟨rfl, rfl⟩
/-- The three cells of a scaler. -/
structure PreAt (w : World) (b : Nat) (hi lo : Nat) (s : Int) : Prop where
  h : w.cell? ⟨b, 0, none⟩ = some (.int .u64 hi)
  l : w.cell? ⟨b, 1, none⟩ = some (.int .u64 lo)
  s : w.cell? ⟨b, 2, none⟩ = some (.int .i64 s)
  f : ∀ i, w.frozen? ⟨b, i, none⟩ = false
theorem PreAt.drewN {w : World} {b hi lo : Nat} {s : Int} (h : PreAt w b hi lo s) (n : Nat) : PreAt (w.drewN n) b hi lo s := ⟨h.h, h.l, h.s, h.f⟩
set_option maxHeartbeats 2000000 in
theorem presc_calls (b q hi0 lo0 : Nat) (e lp s0 : Int) (w : World) (hw : TabsUnder b w) (hq : q < 696) (hp : PreAt w b hi0 lo0 s0) (h1 : -10000 ≤ e) (h2 : e ≤ 10000) (h3 : -10000 ≤ lp) (h4 : lp ≤ 10000) :
    Calls Tryz.prog 166 #[.pointer (some ⟨b, 0, none⟩), .int .i64 e, .int .i64 ((q : Int) - 348), .int .i64 lp] w fun e' w' => e' = .returned (.tuple #[]) ∧ PreAt w' b (pwHi q) (pwLo q) (-(e + lp + 3)) ∧ Only b w w' := by
  obtain ⟨t1, t2⟩ := hw.tabs.p10 q hq
  have hb := hw.gt
  have hb7 : ¬ b = 7 := by omega
  have c0 := hp.h
  have c1 := hp.l
  have c2 := hp.s
  have f0 := hp.f 0
  have f1 := hp.f 1
  have f2 := hp.f 2
  have hqi : (q : Int) < 696 := by omega
  have t2' : (w.setCell ⟨b, 0, none⟩ (.int .u64 (pwHi q))).cell? ⟨7, q * 2 + 1, none⟩ = some (.int .u64 (pwLo q)) := by
    rw [World.cell?_setCell_other _ _ _ _ (by intro k; have := (Addr.mk.inj k).1; omega)]; exact t2
  go_enter Tryz.func166, Tryz.ntmps166
  go_wp2
  go_end0
  refine ⟨rfl, ⟨?_, ?_, ?_, ?_⟩, ((Only.refl _ _).setCell _ _).setCell _ _ |>.setCell _ _⟩
  · rw [cell_far (by omega), cell_far (by omega)]; exact cell_here c0
  · rw [cell_far (by omega)]; exact cell_here (by rw [cell_far (by omega)]; exact c1)
  · exact cell_here (by rw [cell_far (by omega), cell_far (by omega)]; exact c2)
  · intro i; rw [World.frozen?_setCell, World.frozen?_setCell, World.frozen?_setCell]; exact hp.f i
/-- uscale. -/
def usF (x hi lo k : Nat) : Nat :=
  if x * hi / 18446744073709551616 / 2 ^ k * 2 ^ k ≠ x * hi / 18446744073709551616 then x * hi / 18446744073709551616 / 2 ^ k ||| 1
  else wr (((x * hi / 18446744073709551616 : Nat) : Int) - (if x * hi % 18446744073709551616 < x * lo / 18446744073709551616 then 1 else 0)) / 2 ^ k |||
    (if 1 < wr (((x * hi % 18446744073709551616 : Nat) : Int) - ((x * lo / 18446744073709551616 : Nat) : Int)) then 1 else 0)
theorem and63 (k : Nat) (h : k < 64) : bits .and .i64 (k : Int) 63 = (k : Int) := by
  have : ∀ k : Fin 64, bits .and .i64 ((k : Nat) : Int) 63 = ((k : Nat) : Int) := by decide
  exact this ⟨k, h⟩
theorem hi_lt (N x y : Nat) (hx : x < N) (hy : y < N) : x * y / N < N := Nat.div_lt_of_lt_mul (Nat.mul_lt_mul'' hx hy)
set_option maxHeartbeats 2000000 in
set_option maxRecDepth 100000 in
theorem us_calls (b x hi lo k : Nat) (w : World) (hp : PreAt w b hi lo k) (hx : x < 18446744073709551616) (hh : hi < 18446744073709551616) (hl : lo < 18446744073709551616) (hk : k < 64) :
    Calls Tryz.prog 168 #[.int .u64 x, .pointer (some ⟨b, 0, none⟩)] w fun e w' => e = .returned (.int .u64 (usF x hi lo k)) ∧ ∃ n, w' = w.drewN n := by
  have c0 := hp.h
  have c1 := hp.l
  have c2 := hp.s
  have h63 := and63 k hk
  have M1 := fun w : World => Tryz.bits_Mul64 x hi hx hh w
  have M2 := fun w : World => Tryz.bits_Mul64 x lo hx hl w
  unfold usF
  have hq1 : x * hi / 18446744073709551616 < 18446744073709551616 := hi_lt 18446744073709551616 x hi hx hh
  have hq2 : x * hi % 18446744073709551616 < 18446744073709551616 := Nat.mod_lt _ (by omega)
  have hq3 : x * lo / 18446744073709551616 < 18446744073709551616 := hi_lt 18446744073709551616 x lo hx hl
  generalize x * hi / 18446744073709551616 = h1 at *
  generalize x * hi % 18446744073709551616 = m1 at *
  generalize x * lo / 18446744073709551616 = m2 at *
  generalize x * lo % 18446744073709551616 = m3 at *
  have hsh : IntKind.u64.wrap ((h1 : Int) / 2 ^ k * 2 ^ k) = ((h1 / 2 ^ k * 2 ^ k : Nat) : Int) := by
    have : h1 / 2 ^ k * 2 ^ k ≤ h1 := Nat.div_mul_le_self _ _
    have := wrap_u64_nat (h1 / 2 ^ k * 2 ^ k) (by omega)
    simpa using this
  by_cases c3 : h1 / 2 ^ k * 2 ^ k = h1
  rotate_left
  · rw [if_pos c3]
    have b3 : (((h1 / 2 ^ k * 2 ^ k : Nat) : Int) != (h1 : Int)) = true := by rw [bne_iff_ne]; omega
    rw [show ((h1 / 2 ^ k * 2 ^ k : Nat) : Int) = (h1 : Int) / 2 ^ k * 2 ^ k by simp] at b3
    clear c3
    go_enter Tryz.func168, Tryz.ntmps168
    go_upto_if 30 with (go_at_call 196; refine (M1 _).mono ?_; rintro e w' ⟨rfl, rfl⟩)
    have hor : bits .or .u64 ((h1 : Int) / 2 ^ k) 1 = ((h1 / 2 ^ k ||| 1 : Nat) : Int) := by
      have := u64_or_nat (h1 / 2 ^ k) 1 (Nat.lt_of_le_of_lt (Nat.div_le_self _ _) hq1) (by omega)
      simpa using this
    go_wp2
    go_ret
    exact ⟨rfl, 0, rfl⟩
  · rw [if_neg (by omega)]
    have b3 : (((h1 / 2 ^ k * 2 ^ k : Nat) : Int) != (h1 : Int)) = false := by rw [bne_eq_false_iff_eq]; omega
    rw [show ((h1 / 2 ^ k * 2 ^ k : Nat) : Int) = (h1 : Int) / 2 ^ k * 2 ^ k by simp] at b3
    have r1 : IntKind.u64.wrap ((h1 : Int) - if m1 < m2 then 1 else 0) = (wr ((h1 : Int) - if m1 < m2 then 1 else 0) : Int) := wr_eq _
    have r2 : IntKind.u64.wrap ((m1 : Int) - (m2 : Int)) = (wr ((m1 : Int) - (m2 : Int)) : Int) := wr_eq _
    have ra : wr ((h1 : Int) - if m1 < m2 then 1 else 0) < 18446744073709551616 := wr_lt _
    generalize wr ((h1 : Int) - if m1 < m2 then 1 else 0) = a at *
    generalize wr ((m1 : Int) - (m2 : Int)) = d at *
    clear c3
    go_enter Tryz.func168, Tryz.ntmps168
    go_upto_if 30 with (go_at_call 196; refine (M1 _).mono ?_; rintro e w' ⟨rfl, rfl⟩)
    by_cases c : 1 < d
    · have hor : bits .or .u64 ((a : Int) / 2 ^ k) 1 = ((a / 2 ^ k ||| 1 : Nat) : Int) := by
        have := u64_or_nat (a / 2 ^ k) 1 (Nat.lt_of_le_of_lt (Nat.div_le_self _ _) ra) (by omega)
        simpa using this
      have d1 : decide ((1 : Int) < (d : Int)) = true := decide_eq_true (by omega)
      have d2 : (1 : Int) < (d : Int) := by omega
      go_upto_region 7 with (first | (go_at_call 196; refine (M2 _).mono ?_; rintro e w' ⟨rfl, rfl⟩) | (go_at_call 192; refine (b192 _ _).mono ?_; rintro e w' ⟨rfl, rfl⟩))
      go_quiet ((go_at_call 192; exact Calls.quiet_of_same (b192 _ _)))
      go_wp2
      all_goals first | (exfalso; omega) | (go_ret; exact ⟨rfl, _, rfl⟩)
    · have hor : bits .or .u64 ((a : Int) / 2 ^ k) 0 = ((a / 2 ^ k ||| 0 : Nat) : Int) := by
        have := u64_or_nat (a / 2 ^ k) 0 (Nat.lt_of_le_of_lt (Nat.div_le_self _ _) ra) (by omega)
        simpa using this
      have d1 : decide ((1 : Int) < (d : Int)) = false := decide_eq_false (by omega)
      have d2 : ¬ (1 : Int) < (d : Int) := by omega
      go_upto_region 7 with (first | (go_at_call 196; refine (M2 _).mono ?_; rintro e w' ⟨rfl, rfl⟩) | (go_at_call 192; refine (b192 _ _).mono ?_; rintro e w' ⟨rfl, rfl⟩))
      go_quiet ((go_at_call 192; exact Calls.quiet_of_same (b192 _ _)))
      go_wp2
      all_goals first | (exfalso; omega) | (go_ret; exact ⟨rfl, _, rfl⟩)
end Go.Proofs.YtnggkkdcddpjlaaGreatDoor
