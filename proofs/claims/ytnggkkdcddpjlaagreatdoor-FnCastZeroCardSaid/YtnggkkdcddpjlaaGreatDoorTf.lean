/- decimal to a float: it answers for every decimal. No program is read. -/
import Derived.Test.YtnggkkdcddpjlaaGreatDoorTe
namespace Go.Proofs.YtnggkkdcddpjlaaGreatDoor
set_option linter.unusedVariables false
set_option linter.unusedSimpArgs false
open Go.RowKit
theorem shrL_one (f j k : Nat) (x : Dec) (h1 : 1 ≤ k) (hk : k ≤ 60) (hj : 0 < j) : shrL f j k x = rshF f k x := by
  obtain ⟨j, rfl⟩ : ∃ g, j = g + 1 := ⟨j - 1, by omega⟩
  rw [shrL, if_neg (by omega), if_pos h1]
theorem shlL_one (f j k : Nat) (x : Dec) (h1 : 1 ≤ k) (hk : k ≤ 60) (hj : 0 < j) : shlL f j k x = lshF f k x := by
  obtain ⟨j, rfl⟩ : ∃ g, j = g + 1 := ⟨j - 1, by omega⟩
  rw [shlL, if_neg (by omega), if_pos h1]
theorem shrL_some (f : Nat) (hf : 2000 < f) : ∀ (j k : Nat) (x : Dec), DOK x → 1 ≤ k → k ≤ 60 * j → -1000000000 + (k : Int) ≤ x.dp → x.dp ≤ 1000000000 →
    ∃ y, shrL f j k x = some y ∧ DOK y ∧ x.dp - k ≤ y.dp ∧ y.dp ≤ x.dp := by
  intro j
  induction j with
  | zero => intro k x _ h1 h2; omega
  | succ j ih =>
    intro k x hx h1 h2 h3 h4
    rw [shrL]
    by_cases c : 60 < k
    · rw [if_pos c]
      obtain ⟨y, e, hy, t, ht, ht2, _⟩ := rshF_some 60 x hx (by omega) (by omega) h4 f hf
      obtain ⟨z, e2, hz, a, b⟩ := ih (k - 60) y hy (by omega) (by omega) (by omega) (by omega)
      exact ⟨z, by rw [e]; exact e2, hz, by omega, by omega⟩
    · rw [if_neg c, if_pos h1]
      obtain ⟨y, e, hy, t, ht, ht2, _⟩ := rshF_some k x hx (by omega) (by omega) h4 f hf
      exact ⟨y, e, hy, by omega, by omega⟩
theorem ptD_tab : ∀ d, d < 9 → 1 ≤ d → 3 ≤ ptD d ∧ ptD d ≤ 27 := by decide
theorem ptN_tab (d : Nat) (h : 1 ≤ d) : 3 ≤ ptN d ∧ ptN d ≤ 27 := by
  unfold ptN
  by_cases c : 9 ≤ d
  · rw [if_pos c]; omega
  · rw [if_neg c]; exact ptD_tab d (by omega) h
theorem ptN_tab0 (d : Nat) : 1 ≤ ptN d ∧ ptN d ≤ 27 := by
  by_cases h : 1 ≤ d
  · have := ptN_tab d h; omega
  · obtain rfl : d = 0 := by omega
    decide
def mR (x : Dec) : Nat := if 0 < x.dp then 2 * x.dp.toNat + (if 56 ≤ x.dg 0 then 1 else 0) else 0
theorem fl1_some (f : Nat) (hf : 2000 < f) : ∀ j x (e : Int), DOK x → mR x < j → x.dp ≤ 1000000 → -330 ≤ x.dp → 0 ≤ e → e + 27 * (mR x : Int) ≤ 100000 →
    ∃ y e', fl1 f j x e = some (y, e') ∧ DOK y ∧ y.dp ≤ 0 ∧ -330 ≤ y.dp ∧ 0 ≤ e' ∧ e' ≤ 100000 := by
  intro j
  induction j with
  | zero => intro x e _ h; omega
  | succ j ih =>
    intro x e hx hj h1 h2 h3 h4
    rw [fl1]
    by_cases c : 0 < x.dp
    · have n1 := hx.n1
      have hm : mR x = 2 * x.dp.toNat + (if 56 ≤ x.dg 0 then 1 else 0) := by unfold mR; rw [if_pos c]
      rw [if_pos c, if_pos (by omega), if_pos (by omega), if_pos (by omega)]
      obtain ⟨k1, k2⟩ := ptN_tab x.dp.toNat (by omega)
      generalize ptN x.dp.toNat = k at *
      rw [shrL_one f f k x (by omega) (by omega) (by omega)]
      obtain ⟨y, ey, hy, t, ht, ht2, ht0⟩ := rshF_some k x hx (by omega) (by omega) (by omega) f hf
      rw [ey]; dsimp only [Option.bind_some]
      have hlt : mR y < mR x := by
        rw [hm]
        unfold mR
        by_cases t0 : t = 0
        · obtain ⟨z1, z2⟩ := ht0 t0
          obtain ⟨z3, z4⟩ := hx.d 0 (by omega)
          have p8 : 8 ≤ 2 ^ k := by
            calc 8 = 2 ^ 3 := rfl
              _ ≤ _ := Nat.pow_le_pow_right (by omega) k1
          have q1 : (x.dg 0 - 48) / 2 ^ k < 2 := by
            rw [Nat.div_lt_iff_lt_mul (by omega)]; omega
          have g1 : ¬ 56 ≤ y.dg 0 := by omega
          have g2 : 56 ≤ x.dg 0 := by omega
          rw [if_neg g1, if_pos g2]
          by_cases c2 : 0 < y.dp
          · rw [if_pos c2]; omega
          · rw [if_neg c2]; omega
        · by_cases c2 : 0 < y.dp
          · rw [if_pos c2]
            have : (if 56 ≤ y.dg 0 then 1 else 0) ≤ 1 := by split <;> omega
            omega
          · rw [if_neg c2]; omega
      exact ih y (e + (k : Nat)) hy (by omega) (by omega) (by omega) (by omega) (by omega)
    · rw [if_neg c]
      have hm : mR x = 0 := by unfold mR; rw [if_neg c]
      exact ⟨x, e, rfl, hx, by omega, h2, h3, by omega⟩
def mL (x : Dec) : Nat := if x.dp ≤ 0 then 10 * (-x.dp).toNat + (58 - x.dg 0) else 0
theorem fl2_some (f : Nat) (hf : 2000 < f) : ∀ j x (e : Int), DOK x → mL x < j → x.dp ≤ 19 → -330 ≤ x.dp → e ≤ 100000 → -100000 ≤ e - 27 * (mL x : Int) →
    ∃ y e', fl2 f j x e = some (y, e') ∧ DOK y ∧ y.dp ≤ 19 ∧ -330 ≤ y.dp ∧ -100000 ≤ e' ∧ e' ≤ 100000 := by
  intro j
  induction j with
  | zero => intro x e _ h; omega
  | succ j ih =>
    intro x e hx hj h1 h2 h3 h4
    rw [fl2]
    by_cases c : x.dp < 0 ∨ (x.dp = 0 ∧ x.dg 0 < 53)
    · have n1 := hx.n1
      obtain ⟨z3, z4⟩ := hx.d 0 (by omega)
      have z0 := hx.z
      have hm : mL x = 10 * (-x.dp).toNat + (58 - x.dg 0) := by unfold mL; rw [if_pos (by omega)]
      rw [if_pos c, if_pos (by omega), if_pos (by omega), if_pos (by omega), if_pos (by omega)]
      obtain ⟨k1, k2⟩ := ptN_tab0 (-x.dp).toNat
      generalize ptN (-x.dp).toNat = k at *
      rw [shlL_one f f k x (by omega) (by omega) (by omega)]
      obtain ⟨y, ey, hy, t, ht, ht2, ht0⟩ := lshF_some k x hx (by omega) (by omega) (by omega) (by omega) f hf
      rw [ey]; dsimp only [Option.bind_some]
      have hlt : mL y < mL x := by
        rw [hm]
        unfold mL
        have y1 := hy.n1
        obtain ⟨y3, y4⟩ := hy.d 0 (by omega)
        have y0 := hy.z
        by_cases t0 : t = 0
        · have := ht0 t0
          rw [if_pos (by omega)]; omega
        · by_cases c2 : y.dp ≤ 0
          · rw [if_pos c2]; omega
          · rw [if_neg c2]; omega
      exact ih y (e - (k : Nat)) hy (by omega) (by omega) (by omega) (by omega) (by omega)
    · rw [if_neg c]
      exact ⟨x, e, rfl, hx, h1, h2, by omega, h3⟩
theorem sruF_some (x : Dec) (hx : DOK x) (n : Nat) : ∃ b, sruF x n = some b := by
  unfold sruF
  have n8 := hx.n8
  by_cases c1 : x.nd ≤ n
  · rw [if_pos c1]; exact ⟨_, rfl⟩
  rw [if_neg c1, if_neg (by omega)]
  by_cases c2 : x.dg n = 53 ∧ n + 1 = x.nd
  · rw [if_pos c2]
    cases x.trunc
    · rw [if_neg (by simp)]
      by_cases c3 : n = 0
      · rw [if_pos c3]; exact ⟨_, rfl⟩
      · obtain ⟨d1, d2⟩ := hx.d (n - 1) (by omega)
        rw [if_neg c3, if_neg (by omega), if_neg (by omega)]; exact ⟨_, rfl⟩
    · rw [if_pos rfl]; exact ⟨_, rfl⟩
  · rw [if_neg c2]; exact ⟨_, rfl⟩
theorem ri1_some (x : Dec) (hx : DOK x) (hdp : x.dp ≤ 20) : ∀ f i n, i ≤ 20 → 20 - i < f → ∃ i' n', ri1 x f i n = some (i', n') ∧ i' ≤ 20 := by
  intro f
  induction f with
  | zero => intro i n _ h; omega
  | succ f ih =>
    intro i n hi hf
    rw [ri1]
    by_cases c : (i : Int) < x.dp ∧ i < x.nd
    · obtain ⟨d1, d2⟩ := hx.d i c.2
      have := hx.n8
      rw [if_pos c, if_neg (by omega), if_neg (by omega), if_neg (by omega)]
      exact ih (i + 1) _ (by omega) (by omega)
    · rw [if_neg c]; exact ⟨i, n, rfl, hi⟩
theorem ri2_some (x : Dec) (hdp : x.dp ≤ 20) : ∀ f i n, i ≤ 20 → 20 - i < f → ∃ n', ri2 x f i n = some n' := by
  intro f
  induction f with
  | zero => intro i n _ h; omega
  | succ f ih =>
    intro i n hi hf
    rw [ri2]
    by_cases c : (i : Int) < x.dp
    · rw [if_pos c, if_neg (by omega)]
      exact ih (i + 1) _ (by omega) (by omega)
    · rw [if_neg c]; exact ⟨n, rfl⟩
theorem riF_some (f : Nat) (hf : 2000 < f) (x : Dec) (hx : DOK x) : ∃ r, riF f x = some r := by
  unfold riF
  by_cases c : 20 < x.dp
  · rw [if_pos c]; exact ⟨_, rfl⟩
  rw [if_neg c]
  obtain ⟨i', n', e, hi⟩ := ri1_some x hx (by omega) f 0 0 (by omega) (by omega)
  rw [e]; dsimp only [Option.bind_some]
  obtain ⟨n2, e2⟩ := ri2_some x (by omega) f i' n' hi (by omega)
  rw [e2]; dsimp only [Option.bind_some]
  by_cases c2 : x.dp < 0
  · rw [if_pos c2]; exact ⟨_, rfl⟩
  rw [if_neg c2]
  obtain ⟨b, e3⟩ := sruF_some x hx x.dp.toNat
  rw [e3]; exact ⟨_, rfl⟩
theorem fbF_some (f : Nat) (hf : 10000 < f) (x : Dec) (hx : x.nd = 0 ∨ DOK x) : ∃ r, fbF f x = some r := by
  unfold fbF
  by_cases c0 : x.nd = 0
  · rw [if_pos c0]; exact ⟨_, rfl⟩
  have hx : DOK x := hx.resolve_left c0
  rw [if_neg c0]
  by_cases c1 : 310 < x.dp
  · rw [if_pos c1]; exact ⟨_, rfl⟩
  rw [if_neg c1]
  by_cases c2 : x.dp < -330
  · rw [if_pos c2]; exact ⟨_, rfl⟩
  rw [if_neg c2]
  have hmR : mR x ≤ 621 := by
    unfold mR
    have : (if 56 ≤ x.dg 0 then 1 else 0) ≤ 1 := by split <;> omega
    split <;> omega
  obtain ⟨y, e1, ey, hy, y1, y2, y3, y4⟩ := fl1_some f (by omega) f x 0 hx (by omega) (by omega) (by omega) (by omega) (by omega)
  rw [ey]; dsimp only [Option.bind_some]
  have hmL : mL y ≤ 3358 := by unfold mL; split <;> omega
  obtain ⟨z, e2, ez, hz, z1, z2, z3, z4⟩ := fl2_some f (by omega) f y e1 hy (by omega) (by omega) y2 y4 (by omega)
  rw [ez]; dsimp only [Option.bind_some]
  rw [if_neg (by omega), if_neg (by omega)]
  have n1 := hz.n1
  have hd : ∃ d : Dec × Int, (if e2 - 1 < -1022 then (if z.nd = 0 then none else (shrL f f (-1022 - (e2 - 1)).toNat z).bind fun y => some (y, -1022)) else some (z, e2 - 1)) = some d ∧ DOK d.1 ∧ -1000000 ≤ d.1.dp ∧ d.1.dp ≤ 19 := by
    by_cases c3 : e2 - 1 < -1022
    · rw [if_pos c3, if_neg (by omega)]
      obtain ⟨u, eu, hu, u1, u2⟩ := shrL_some f (by omega) f (-1022 - (e2 - 1)).toNat z hz (by omega) (by omega) (by omega) (by omega)
      rw [eu]
      exact ⟨(u, -1022), rfl, hu, by dsimp only; omega, by dsimp only; omega⟩
    · rw [if_neg c3]
      exact ⟨(z, e2 - 1), rfl, hz, by dsimp only; omega, z1⟩
  obtain ⟨d, ed, hd, hd1, hd2⟩ := hd
  rw [ed]; dsimp only [Option.bind_some]
  by_cases c4 : 1024 ≤ d.2
  · rw [if_pos c4]; exact ⟨_, rfl⟩
  have n2 := hd.n1
  rw [if_neg c4, if_neg (by omega), shlL_one f f 53 d.1 (by omega) (by omega) (by omega)]
  obtain ⟨u, eu, hu, _⟩ := lshF_some 53 d.1 hd (by omega) (by omega) (by omega) (by omega) f (by omega)
  rw [eu]; dsimp only [Option.bind_some]
  obtain ⟨m, em⟩ := riF_some f (by omega) u hu
  rw [em]; dsimp only [Option.bind_some]
  split
  · split <;> exact ⟨_, rfl⟩
  · split <;> exact ⟨_, rfl⟩
end Go.Proofs.YtnggkkdcddpjlaaGreatDoor
