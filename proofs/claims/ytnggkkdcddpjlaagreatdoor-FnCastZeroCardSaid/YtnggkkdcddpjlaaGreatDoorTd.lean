/- decimal: the shifts answer for every decimal that is no zero; what they leave. No program is read. -/
import Derived.Test.YtnggkkdcddpjlaaGreatDoorFb
namespace Go.Proofs.YtnggkkdcddpjlaaGreatDoor
set_option linter.unusedVariables false
set_option linter.unusedSimpArgs false
open Go.RowKit
/-- A decimal that is no zero: digits, the first of them no zero. -/
structure DOK (x : Dec) : Prop where
  n1 : 1 ≤ x.nd
  n8 : x.nd ≤ 800
  d : ∀ i, i < x.nd → 48 ≤ x.dg i ∧ x.dg i ≤ 57
  z : x.dg 0 ≠ 48
theorem trimL_some (dg : Nat → Nat) (hz : dg 0 ≠ 48) : ∀ f nd, 1 ≤ nd → nd ≤ 800 → nd < f → ∃ m, trimL f dg nd = some m ∧ 1 ≤ m ∧ m ≤ nd := by
  intro f
  induction f with
  | zero => intro nd _ _ h; omega
  | succ f ih =>
    intro nd h1 h8 hf
    rw [trimL, if_pos (by omega), if_pos (by omega)]
    by_cases h : dg (nd - 1) = 48
    · rw [if_pos h]
      have : nd ≠ 1 := by intro e; subst e; exact hz h
      obtain ⟨m, e, a, b⟩ := ih (nd - 1) (by omega) (by omega) (by omega)
      exact ⟨m, e, a, by omega⟩
    · rw [if_neg h]; exact ⟨nd, rfl, h1, Nat.le_refl _⟩
theorem div_zero_iff (n k : Nat) : n / 2 ^ k = 0 ↔ n < 2 ^ k := by
  have : 0 < 2 ^ k := Nat.two_pow_pos _
  rw [Nat.div_eq_zero_iff]; omega
theorem rs1b_some (k : Nat) : ∀ j f r n, n < 10 * 2 ^ k → 2 ^ k ≤ n * 2 ^ j → j < f → r + j ≤ 1000 →
    ∃ r' n', rs1b k f r n = some (r', n') ∧ 2 ^ k ≤ n' ∧ n' < 10 * 2 ^ k ∧ r ≤ r' ∧ r' ≤ r + j ∧ (r' = r → n' = n) := by
  intro j
  induction j with
  | zero =>
    intro f r n h1 h2 hf _
    obtain ⟨f, rfl⟩ : ∃ g, f = g + 1 := ⟨f - 1, by omega⟩
    rw [Nat.pow_zero, Nat.mul_one] at h2
    rw [rs1b, if_neg (by rw [div_zero_iff]; omega)]
    exact ⟨r, n, rfl, h2, h1, Nat.le_refl _, Nat.le_refl _, fun _ => rfl⟩
  | succ j ih =>
    intro f r n h1 h2 hf hr
    obtain ⟨f, rfl⟩ : ∃ g, f = g + 1 := ⟨f - 1, by omega⟩
    by_cases h : n < 2 ^ k
    · rw [rs1b, if_pos ((div_zero_iff _ _).2 h), if_pos (by omega)]
      have h3 : 2 ^ k ≤ n * 10 * 2 ^ j := by
        refine Nat.le_trans h2 ?_
        rw [Nat.pow_succ, Nat.mul_comm (2 ^ j) 2, ← Nat.mul_assoc]
        exact Nat.mul_le_mul_right _ (by omega)
      obtain ⟨r', n', e, a, b, c, d, _⟩ := ih f (r + 1) (n * 10) (by omega) h3 (by omega) (by omega)
      exact ⟨r', n', e, a, b, by omega, by omega, fun x => by omega⟩
    · rw [rs1b, if_neg (by rw [div_zero_iff]; exact h)]
      exact ⟨r, n, rfl, by omega, h1, Nat.le_refl _, by omega, fun _ => rfl⟩
theorem rs1_from (k nd : Nat) (dg : Nat → Nat) (hd : ∀ i, i < nd → 48 ≤ dg i ∧ dg i ≤ 57) (h8 : nd ≤ 800) (hk : k ≤ 60) :
    ∀ f r n, 1 ≤ r → 2 ^ (r - 1) ≤ n → n < 10 * 2 ^ k → r ≤ nd → r ≤ k + 1 → nd - r + k + 3 < f →
    ∃ r' n', rs1 k nd dg f r n = some (r', n') ∧ 2 ^ k ≤ n' ∧ n' < 10 * 2 ^ k ∧ r ≤ r' ∧ r' ≤ k + 1 ∧ (r' = r → n' = n) := by
  intro f
  induction f with
  | zero => intro r n _ _ _ _ _ h; omega
  | succ f ih =>
    intro r n h1 h2 h3 h4 h5 hf
    have hp : 0 < 2 ^ (r - 1) := Nat.two_pow_pos _
    rw [rs1]
    by_cases h : n < 2 ^ k
    · rw [if_pos ((div_zero_iff _ _).2 h)]
      have hrk : r ≤ k := by
        apply Nat.le_of_not_lt
        intro hlt
        have : 2 ^ k ≤ 2 ^ (r - 1) := Nat.pow_le_pow_right (by omega) (by omega)
        omega
      by_cases hn : nd ≤ r
      · rw [if_pos hn, if_neg (by omega)]
        have h6 : 2 ^ k ≤ n * 2 ^ (k - (r - 1)) := by
          calc 2 ^ k = 2 ^ (r - 1) * 2 ^ (k - (r - 1)) := by rw [← Nat.pow_add]; congr 1; omega
            _ ≤ _ := Nat.mul_le_mul_right _ h2
        obtain ⟨r', n', e, a, b, c, d, g⟩ := rs1b_some k (k - (r - 1)) f r n h3 h6 (by omega) (by omega)
        exact ⟨r', n', e, a, b, c, by omega, g⟩
      · obtain ⟨d1, d2⟩ := hd r (by omega)
        rw [if_neg hn, if_pos (by omega), if_pos d1, if_pos d2]
        have h6 : 2 ^ (r + 1 - 1) ≤ n * 10 + dg r - 48 := by
          have : 2 ^ (r + 1 - 1) = 2 * 2 ^ (r - 1) := by
            rw [show r + 1 - 1 = r - 1 + 1 from by omega, Nat.pow_succ, Nat.mul_comm]
          omega
        obtain ⟨r', n', e, a, b, c, d, g⟩ := ih (r + 1) (n * 10 + dg r - 48) (by omega) h6 (by omega) (by omega) (by omega) (by omega)
        exact ⟨r', n', e, a, b, by omega, d, fun x => by omega⟩
    · rw [if_neg (by rw [div_zero_iff]; exact h)]
      exact ⟨r, n, rfl, by omega, h3, Nat.le_refl _, h5, fun _ => rfl⟩
theorem rs1_some (k : Nat) (x : Dec) (hx : DOK x) (hk : k ≤ 60) (f : Nat) (hf : 1000 < f) :
    ∃ r' n', rs1 k x.nd x.dg f 0 0 = some (r', n') ∧ 2 ^ k ≤ n' ∧ n' < 10 * 2 ^ k ∧ 1 ≤ r' ∧ r' ≤ k + 1 ∧ (r' = 1 → n' = x.dg 0 - 48) := by
  obtain ⟨f, rfl⟩ : ∃ g, f = g + 1 := ⟨f - 1, by omega⟩
  have h1 := hx.n1
  have h8 := hx.n8
  obtain ⟨d1, d2⟩ := hx.d 0 (by omega)
  have hz := hx.z
  have hp : 0 < 2 ^ k := Nat.two_pow_pos _
  rw [rs1, if_pos ((div_zero_iff _ _).2 hp), if_neg (by omega), if_pos (by omega), if_pos d1, if_pos d2]
  have e0 : 0 * 10 + x.dg 0 - 48 = x.dg 0 - 48 := by omega
  rw [e0]
  exact rs1_from k x.nd x.dg hx.d h8 hk f 1 (x.dg 0 - 48) (by omega) (by simp; omega) (by omega) h1 (by omega) (by omega)
theorem rs2_some (k nd : Nat) (h8 : nd ≤ 800) : ∀ f r w n dg, w < r → n < 10 * 2 ^ k → (∀ i, i < w → 48 ≤ dg i ∧ dg i ≤ 57) → (∀ i, r ≤ i → i < nd → 48 ≤ dg i ∧ dg i ≤ 57) → nd - r < f → w ≤ 800 →
    ∃ w' n' dg', rs2 k nd f r w n dg = some (w', n', dg') ∧ n' < 10 * 2 ^ k ∧ (∀ i, i < w' → 48 ≤ dg' i ∧ dg' i ≤ 57) ∧ w ≤ w' ∧ w' ≤ 800 ∧ (0 < w → dg' 0 = dg 0) ∧ (w = 0 → (w' = 0 ∧ n' = n) ∨ (0 < w' ∧ dg' 0 = n / 2 ^ k + 48)) := by
  intro f
  induction f with
  | zero => intro r w n dg _ _ _ _ h; omega
  | succ f ih =>
    intro r w n dg hw hn hd1 hd2 hf hw8
    have hp : 0 < 2 ^ k := Nat.two_pow_pos _
    rw [rs2]
    by_cases h : r < nd
    · obtain ⟨d1, d2⟩ := hd2 r (Nat.le_refl _) h
      have h9 : n / 2 ^ k ≤ 9 := by
        have : n / 2 ^ k < 10 := (Nat.div_lt_iff_lt_mul hp).2 hn
        omega
      rw [if_pos h, if_pos (by omega), if_pos (by omega), if_pos h9, if_pos d1, if_pos d2]
      have hm : n % 2 ^ k < 2 ^ k := Nat.mod_lt _ hp
      obtain ⟨w', n', dg', e, a, b, c, d, g, i⟩ := ih (r + 1) (w + 1) (n % 2 ^ k * 10 + dg r - 48) (dput dg w (n / 2 ^ k + 48)) (by omega) (by omega)
        (fun i hi => by
          by_cases e : i = w
          · simp only [dput, if_pos e]; exact ⟨Nat.le_add_left _ _, Nat.add_le_add_right h9 48⟩
          · simp only [dput, if_neg e]; exact hd1 i (by omega))
        (fun i hi hi2 => by
          have e : i ≠ w := by omega
          simp only [dput, if_neg e]; exact hd2 i (by omega) hi2) (by omega) (by omega)
      refine ⟨w', n', dg', e, a, b, by omega, d, fun hw0 => ?_, fun hw0 => Or.inr ⟨by omega, ?_⟩⟩
      · rw [g (by omega)]; simp only [dput]; rw [if_neg (by omega)]
      · rw [g (by omega), hw0]; simp [dput]
    · rw [if_neg h]
      exact ⟨w, n, dg, rfl, hn, hd1, Nat.le_refl _, hw8, fun _ => rfl, fun e => Or.inl ⟨e, rfl⟩⟩
theorem rs3_some (k : Nat) : ∀ f j w n dg t, n < 10 * 2 ^ k → 2 ^ j ∣ n → j ≤ k + 1 → (j = k + 1 → n = 0) → k + 2 - j < f → (∀ i, i < w → 48 ≤ dg i ∧ dg i ≤ 57) → w ≤ 800 →
    ∃ w' dg' t', rs3 k f w n dg t = some (w', dg', t') ∧ (∀ i, i < w' → 48 ≤ dg' i ∧ dg' i ≤ 57) ∧ w ≤ w' ∧ w' ≤ 800 ∧ (0 < w → dg' 0 = dg 0) ∧ (w = 0 → 0 < n → 0 < w' ∧ dg' 0 = n / 2 ^ k + 48) := by
  intro f
  induction f with
  | zero => intro j w n dg t _ _ _ _ h; omega
  | succ f ih =>
    intro j w n dg t hn hj hjk hj0 hf hd hw
    have hp : 0 < 2 ^ k := Nat.two_pow_pos _
    rw [rs3]
    by_cases h : 0 < n
    · have h9 : n / 2 ^ k ≤ 9 := by
        have : n / 2 ^ k < 10 := (Nat.div_lt_iff_lt_mul hp).2 hn
        omega
      have hm : n % 2 ^ k < 2 ^ k := Nat.mod_lt _ hp
      have hjk' : j ≤ k := by
        apply Nat.le_of_not_lt
        intro hlt
        have := hj0 (by omega)
        omega
      have hdv : 2 ^ j ∣ n % 2 ^ k := (Nat.dvd_mod_iff (Nat.pow_dvd_pow 2 hjk')).2 hj
      have hdv2 : 2 ^ (j + 1) ∣ n % 2 ^ k * 10 := by
        obtain ⟨c, hc⟩ := hdv
        exact ⟨c * 5, by rw [hc, Nat.pow_succ, Nat.mul_assoc, Nat.mul_assoc]; congr 1; omega⟩
      have hz : j + 1 = k + 1 → n % 2 ^ k * 10 = 0 := by
        intro e
        have e2 : j = k := by omega
        subst e2
        rw [Nat.mod_eq_zero_of_dvd hj]
      rw [if_pos h, if_pos h9]
      by_cases hw8 : w < 800
      · rw [if_pos hw8]
        obtain ⟨w', dg', t', e, b, c, d, g, i⟩ := ih (j + 1) (w + 1) (n % 2 ^ k * 10) (dput dg w (n / 2 ^ k + 48)) t (by omega) hdv2 (by omega) hz (by omega)
          (fun i hi => by
            by_cases e : i = w
            · simp only [dput, if_pos e]; exact ⟨Nat.le_add_left _ _, Nat.add_le_add_right h9 48⟩
            · simp only [dput, if_neg e]; exact hd i (by omega)) (by omega)
        refine ⟨w', dg', t', e, b, by omega, d, fun hw0 => ?_, fun hw0 _ => ⟨by omega, ?_⟩⟩
        · rw [g (by omega)]; simp only [dput]; rw [if_neg (by omega)]
        · rw [g (by omega), hw0]; simp [dput]
      · rw [if_neg hw8]
        have key : ∀ t, ∃ w' dg' t', rs3 k f w (n % 2 ^ k * 10) dg t = some (w', dg', t') ∧ (∀ i, i < w' → 48 ≤ dg' i ∧ dg' i ≤ 57) ∧ w ≤ w' ∧ w' ≤ 800 ∧ (0 < w → dg' 0 = dg 0) ∧ (w = 0 → 0 < n → 0 < w' ∧ dg' 0 = n / 2 ^ k + 48) := by
          intro t
          obtain ⟨w', dg', t', e, b, c, d, g, i⟩ := ih (j + 1) w (n % 2 ^ k * 10) dg t (by omega) hdv2 (by omega) hz (by omega) hd hw
          exact ⟨w', dg', t', e, b, c, d, g, fun hw0 => by omega⟩
        by_cases hq : 0 < n / 2 ^ k
        · rw [if_pos hq]; exact key true
        · rw [if_neg hq]; exact key t
    · rw [if_neg h]
      exact ⟨w, dg, t, rfl, hd, Nat.le_refl _, hw, fun _ => rfl, fun _ hn => absurd hn h⟩
theorem rshF_some (k : Nat) (x : Dec) (hx : DOK x) (hk : k ≤ 60) (h1 : -1000000000 ≤ x.dp) (h2 : x.dp ≤ 1000000000) (f : Nat) (hf : 2000 < f) :
    ∃ y, rshF f k x = some y ∧ DOK y ∧ ∃ t : Nat, y.dp = x.dp - t ∧ t ≤ k ∧ (t = 0 → y.dg 0 = (x.dg 0 - 48) / 2 ^ k + 48 ∧ 2 ^ k ≤ x.dg 0 - 48) := by
  have hp : 0 < 2 ^ k := Nat.two_pow_pos _
  obtain ⟨r0, n0, e1, a1, b1, c1, d1, g1⟩ := rs1_some k x hx hk f (by omega)
  obtain ⟨w2, n2, dg2, e2, a2, b2, c2, d2, g2, i2⟩ := rs2_some k x.nd hx.n8 f r0 0 n0 x.dg (by omega) b1 (fun i h => by omega) (fun i _ h => hx.d i h) (by have := hx.n8; omega) (by omega)
  obtain ⟨w3, dg3, t3, e3, b3, c3, d3, g3, i3⟩ := rs3_some k f 0 w2 n2 dg2 x.trunc a2 (by simp) (by omega) (by omega) (by omega) b2 d2
  have hw3 : 0 < w3 ∧ dg3 0 = n0 / 2 ^ k + 48 := by
    rcases i2 rfl with ⟨h, h'⟩ | ⟨h, h'⟩
    · subst h'
      exact i3 h (by omega)
    · exact ⟨by omega, by rw [g3 h, h']⟩
  have hq : 1 ≤ n0 / 2 ^ k := (Nat.le_div_iff_mul_le hp).2 (by omega)
  obtain ⟨m, e4, a4, b4⟩ := trimL_some dg3 (by rw [hw3.2]; omega) f w3 (by omega) d3 (by omega)
  refine ⟨⟨dg3, m, x.dp - ((r0 : Int) - 1), x.neg, t3⟩, ?_, ⟨a4, Nat.le_trans b4 d3, fun i hi => b3 i (by dsimp only at hi; omega), by dsimp only; rw [hw3.2]; omega⟩, r0 - 1, by dsimp only; omega, by omega, fun ht => ?_⟩
  · unfold rshF
    rw [e1]; dsimp only [Option.bind_some]
    rw [if_pos (by omega), if_pos h1, if_pos h2, e2]; dsimp only [Option.bind_some]
    rw [e3]; dsimp only [Option.bind_some]
    rw [e4]; dsimp only [Option.bind_some]
    rw [if_neg (by omega)]
  · have e := g1 (by omega)
    subst e
    exact ⟨hw3.2, a1⟩
end Go.Proofs.YtnggkkdcddpjlaaGreatDoor
