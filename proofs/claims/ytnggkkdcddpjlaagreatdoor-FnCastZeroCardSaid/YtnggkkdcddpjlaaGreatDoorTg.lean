/- A text of at most 400 bytes read as a float: it always answers. No program is read. -/
import Derived.Test.YtnggkkdcddpjlaaGreatDoorTf
import Derived.Test.YtnggkkdcddpjlaaGreatDoorPz
import Derived.OpenShut
namespace Go.Proofs.YtnggkkdcddpjlaaGreatDoor
set_option linter.unusedVariables false
set_option linter.unusedSimpArgs false
open Go.RowKit
theorem expL_some (s : ByteArray) : ∀ f i e us, i ≤ s.size → e ≤ 200000 → s.size - i < f → ∃ i' e' us', expL s f i e us = some (i', e', us') ∧ i ≤ i' ∧ i' ≤ s.size ∧ e' ≤ 200000 := by
  intro f
  induction f with
  | zero => intro i e us _ _ h; omega
  | succ f ih =>
    intro i e us hi he hf
    rw [expL]
    by_cases c : i < s.size
    · rw [if_pos c]
      have step : ∀ e us, e ≤ 200000 → ∃ i' e' us', expL s f (i + 1) e us = some (i', e', us') ∧ i ≤ i' ∧ i' ≤ s.size ∧ e' ≤ 200000 := by
        intro e us he
        obtain ⟨a, b, d, h1, h2, h3, h4⟩ := ih (i + 1) e us (by omega) he (by omega)
        exact ⟨a, b, d, h1, by omega, h3, h4⟩
      by_cases c1 : sb s i = 95
      · rw [if_pos c1]; exact step e true he
      rw [if_neg c1]
      by_cases c2 : 48 ≤ sb s i
      · rw [if_pos c2]
        by_cases c3 : sb s i ≤ 57
        · rw [if_pos c3]
          by_cases c4 : e < 10000
          · rw [if_pos c4]; exact step _ _ (by omega)
          · rw [if_neg c4, if_pos (by omega)]; exact step _ _ he
        · rw [if_neg c3]; exact ⟨i, e, us, rfl, Nat.le_refl _, hi, he⟩
      · rw [if_neg c2]; exact ⟨i, e, us, rfl, Nat.le_refl _, hi, he⟩
    · rw [if_neg c]; exact ⟨i, e, us, rfl, Nat.le_refl _, hi, he⟩
/-- No digit yet, or a decimal that is no zero. -/
def D0 (x : Dec) : Prop := x.nd = 0 ∨ DOK x
theorem D0.n8 {x : Dec} (h : D0 x) : x.nd ≤ 800 := by
  rcases h with h | h
  · omega
  · exact h.n8
theorem setL_some (s : ByteArray) (hs : s.size ≤ 1000) : ∀ f i sd sg x, i ≤ s.size → D0 x → -(i : Int) ≤ x.dp → x.dp ≤ 800 → s.size - i < f →
    ∃ r i' sd' sg' y, setL s f i sd sg x = some (r, i', sd', sg', y) ∧ D0 y ∧ -1000 ≤ y.dp ∧ y.dp ≤ 800 := by
  intro f
  induction f with
  | zero => intro i sd sg x _ _ _ _ h; omega
  | succ f ih =>
    intro i sd sg x hi hx h1 h2 hf
    have n8 := hx.n8
    rw [setL]
    by_cases c : i < s.size
    · rw [if_pos c]
      by_cases c1 : sb s i = 95
      · rw [if_pos c1]; exact ih (i + 1) sd sg x (by omega) hx (by omega) h2 (by omega)
      rw [if_neg c1]
      by_cases c2 : sb s i = 46
      · rw [if_pos c2]
        by_cases c3 : sd = true
        · rw [if_pos c3]; exact ⟨_, _, _, _, x, rfl, hx, by omega, h2⟩
        · rw [if_neg c3]
          refine ih (i + 1) true sg _ (by omega) ?_ (by dsimp only; omega) (by dsimp only; omega) (by omega)
          rcases hx with hx | hx
          · exact Or.inl hx
          · exact Or.inr ⟨hx.n1, hx.n8, hx.d, hx.z⟩
      rw [if_neg c2]
      by_cases c3 : 48 ≤ sb s i
      · rw [if_pos c3]
        by_cases c4 : sb s i ≤ 57
        · rw [if_pos c4, if_pos n8]
          by_cases c5 : sb s i = 48 ∧ x.nd = 0
          · rw [if_pos c5, if_pos (by omega), if_pos (by omega)]
            exact ih (i + 1) sd true _ (by omega) (Or.inl c5.2) (by dsimp only; omega) (by dsimp only; omega) (by omega)
          · rw [if_neg c5]
            by_cases c6 : x.nd < 800
            · rw [if_pos c6]
              refine ih (i + 1) sd true _ (by omega) (Or.inr ⟨by dsimp only; omega, by dsimp only; omega, fun j hj => ?_, ?_⟩) (by dsimp only; omega) h2 (by omega)
              · dsimp only at hj ⊢
                by_cases e : j = x.nd
                · simp only [dput, if_pos e]; omega
                · simp only [dput, if_neg e]
                  rcases hx with hx | hx
                  · omega
                  · exact hx.d j (by omega)
              · dsimp only
                by_cases e : 0 = x.nd
                · simp only [dput, if_pos e]; omega
                · simp only [dput, if_neg e]
                  rcases hx with hx | hx
                  · omega
                  · exact hx.z
            · rw [if_neg c6]
              by_cases c7 : sb s i = 48
              · rw [if_pos c7]; exact ih (i + 1) sd true x (by omega) hx (by omega) h2 (by omega)
              · rw [if_neg c7]
                refine ih (i + 1) sd true _ (by omega) ?_ (by dsimp only; omega) h2 (by omega)
                rcases hx with hx | hx
                · exact Or.inl hx
                · exact Or.inr ⟨hx.n1, hx.n8, hx.d, hx.z⟩
        · rw [if_neg c4]; exact ⟨_, _, _, _, x, rfl, hx, by omega, h2⟩
      · rw [if_neg c3]; exact ⟨_, _, _, _, x, rfl, hx, by omega, h2⟩
    · rw [if_neg c]; exact ⟨_, _, _, _, x, rfl, hx, by omega, h2⟩
theorem setE_some (s : ByteArray) (hs : s.size ≤ 1000) (f : Nat) (hf : 2000 < f) (r : Bool) (i : Nat) (sd sg : Bool) (x : Dec) (hx : D0 x) (h1 : -1000 ≤ x.dp) (h2 : x.dp ≤ 800) :
    ∃ ok y, setE s f r i sd sg x = some (ok, y) ∧ D0 y := by
  have n8 := hx.n8
  unfold setE
  by_cases c1 : r = true
  · rw [if_pos c1]; exact ⟨_, _, rfl, hx⟩
  rw [if_neg c1]
  by_cases c2 : sg = false
  · rw [if_pos c2]; exact ⟨_, _, rfl, hx⟩
  rw [if_neg c2, if_pos (by omega), if_pos (by omega), if_pos n8]
  have hy : ∀ p : Int, D0 { dotDone sd x with dp := p } := by
    intro p
    rcases hx with hx | hx
    · exact Or.inl hx
    · exact Or.inr ⟨hx.n1, hx.n8, hx.d, hx.z⟩
  have hy0 : D0 (dotDone sd x) := hy _
  generalize dotDone sd x = y at *
  unfold setX
  by_cases c3 : i < s.size
  · rw [if_pos c3]
    by_cases c4 : bits .or .u8 (sb s i) 32 = 101
    · rw [if_pos c4]
      by_cases c5 : i + 1 < s.size
      · rw [if_pos c5]
        by_cases c6 : expAt s i < s.size
        · rw [if_pos c6]
          by_cases c7 : 48 ≤ sb s (expAt s i)
          · rw [if_pos c7]
            by_cases c8 : sb s (expAt s i) ≤ 57
            · rw [if_pos c8]
              obtain ⟨a, b, u, e, e1, e2, e3⟩ := expL_some s f (expAt s i) 0 false (by omega) (by omega) (by omega)
              rw [e]; dsimp only [Option.bind_some]
              rw [if_pos (by omega), if_pos (by omega)]
              exact ⟨_, _, rfl, hy _⟩
            · rw [if_neg c8]; exact ⟨_, _, rfl, hy0⟩
          · rw [if_neg c7]; exact ⟨_, _, rfl, hy0⟩
        · rw [if_neg c6]; exact ⟨_, _, rfl, hy0⟩
      · rw [if_neg c5]; exact ⟨_, _, rfl, hy0⟩
    · rw [if_neg c4]; exact ⟨_, _, rfl, hy0⟩
  · rw [if_neg c3]; exact ⟨_, _, rfl, hy0⟩
theorem ovK_le (b : Bool) : ovK b ≤ 1 := by cases b <;> decide
theorem atSlow_some (f : Nat) (hf : 10000 < f) (s : ByteArray) (hs : s.size ≤ 1000) (i : Nat) (hi : 1 ≤ i) (h0 : i ≤ s.size) : ∃ x n k, atSlow f s i = some (x, n, k) ∧ k ≤ 2 := by
  unfold atSlow
  have hz : (s.extract 0 i).size = i := by simp only [ByteArray.size_extract]; omega
  generalize s.extract 0 i = u at *
  rw [if_neg (by omega)]
  have h1 : (if sb u 0 = 43 ∨ sb u 0 = 45 then 1 else 0) ≤ u.size := by split <;> omega
  generalize (if sb u 0 = 43 ∨ sb u 0 = 45 then 1 else 0) = i0 at *
  obtain ⟨r, i', sd', sg', y, e, hy, y1, y2⟩ := setL_some u (by omega) f i0 false false { decZ with neg := decide (sb u 0 = 45), trunc := false } h1 (Or.inl rfl) (by show -(i0 : Int) ≤ 0; omega) (by show (0 : Int) ≤ 800; omega) (by omega)
  rw [e]; dsimp only [Option.bind_some]
  obtain ⟨ok, z, e2, hz2⟩ := setE_some u (by omega) f (by omega) r i' sd' sg' y hy y1 y2
  rw [e2]; dsimp only [Option.bind_some]
  by_cases c : ok = false
  · rw [if_pos c]; exact ⟨_, _, _, rfl, by omega⟩
  · rw [if_neg c]
    obtain ⟨x, e3⟩ := fbF_some f hf z hz2
    rw [e3]; exact ⟨_, _, _, rfl, by have := ovK_le x.2; omega⟩
/-! The hexadecimal road. -/
theorem hxd_lt (m j : Nat) (h : m < 2 ^ (j + 2)) : hxd m < 2 ^ (j + 1) := by
  have h0 : 0 < 2 ^ j := Nat.two_pow_pos _
  have e1 : 2 ^ (j + 1) = 2 * 2 ^ j := by rw [Nat.pow_succ, Nat.mul_comm]
  have e2 : 2 ^ (j + 2) = 4 * 2 ^ j := by rw [Nat.pow_succ, Nat.pow_succ]; omega
  exact Nat.or_lt_two_pow (by omega) (by omega)
theorem hx1_some : ∀ (f j m : Nat) (e : Int), (m = 0 ∨ 18014398509481984 ≤ m * 2 ^ j) → j < f → m < 18446744073709551616 → -100000000 + (j : Int) ≤ e →
    ∃ m' e', hx1 f m e = some (m', e') ∧ m' < 18446744073709551616 ∧ e - j ≤ e' ∧ e' ≤ e := by
  intro f
  induction f with
  | zero => intro j m e _ h; omega
  | succ f ih =>
    intro j m e hm hj h64 he
    rw [hx1]
    by_cases c : m = 0
    · rw [if_pos c]; exact ⟨m, e, rfl, h64, by omega, by omega⟩
    rw [if_neg c]
    by_cases c2 : 18014398509481984 ≤ m
    · rw [if_pos c2]; exact ⟨m, e, rfl, h64, by omega, by omega⟩
    rw [if_neg c2, if_pos (by omega)]
    have hm := hm.resolve_left c
    obtain ⟨u, rfl⟩ : ∃ u, j = u + 1 := ⟨j - 1, by
      have : j ≠ 0 := by intro e0; subst e0; simp at hm; omega
      omega⟩
    obtain ⟨m', e', h1, h2, h3, h4⟩ := ih u (m * 2) (e - 1) (Or.inr (by rw [Nat.pow_succ, Nat.mul_comm (2 ^ u) 2, ← Nat.mul_assoc] at hm; exact hm)) (by omega) (by omega) (by omega)
    exact ⟨m', e', h1, h2, by omega, by omega⟩
theorem hx2_some : ∀ (f j m : Nat) (e : Int), m < 2 ^ (55 + j) → j ≤ 9 → j < f → e + j ≤ 100000000 →
    ∃ m' e', hx2 f m e = some (m', e') ∧ m' < 36028797018963968 ∧ e ≤ e' ∧ e' ≤ e + j := by
  intro f
  induction f with
  | zero => intro j m e _ _ h; omega
  | succ f ih =>
    intro j m e hm hj9 hj he
    have h64 : (2 : Nat) ^ (55 + j) ≤ 18446744073709551616 := by
      calc (2 : Nat) ^ (55 + j) ≤ 2 ^ 64 := Nat.pow_le_pow_right (by omega) (by omega)
        _ = _ := by decide
    rw [hx2]
    by_cases c : m < 36028797018963968
    · rw [if_pos c]; exact ⟨m, e, rfl, c, by omega, by omega⟩
    obtain ⟨u, rfl⟩ : ∃ u, j = u + 1 := ⟨j - 1, by
      have : j ≠ 0 := by intro e0; subst e0; simp at hm; omega
      omega⟩
    rw [if_neg c, if_pos (by omega), if_pos (by omega)]
    obtain ⟨m', e', h1, h2, h3, h4⟩ := ih u (hxd m) (e + 1) (by
      have := hxd_lt m (54 + u) (by rw [show 54 + u + 2 = 55 + (u + 1) from by omega]; exact hm)
      rwa [show 54 + u + 1 = 55 + u from by omega] at this) (by omega) (by omega) (by omega)
    exact ⟨m', e', h1, h2, by omega, by omega⟩
theorem hx3_some : ∀ (f j m : Nat) (e : Int), m < 2 ^ (j + 1) → j ≤ 63 → j < f → -1000000000 ≤ e →
    ∃ m' e', hx3 f m e = some (m', e') ∧ m' < 18446744073709551616 ∧ e ≤ e' ∧ e' ≤ e + j := by
  intro f
  induction f with
  | zero => intro j m e _ _ h; omega
  | succ f ih =>
    intro j m e hm hj9 hj he
    have h64 : (2 : Nat) ^ (j + 1) ≤ 18446744073709551616 := by
      calc (2 : Nat) ^ (j + 1) ≤ 2 ^ 64 := Nat.pow_le_pow_right (by omega) (by omega)
        _ = _ := by decide
    rw [hx3]
    by_cases c : m ≤ 1
    · rw [if_pos c]; exact ⟨m, e, rfl, by omega, by omega, by omega⟩
    rw [if_neg c]
    by_cases c2 : -1024 ≤ e
    · rw [if_pos c2]; exact ⟨m, e, rfl, by omega, by omega, by omega⟩
    obtain ⟨u, rfl⟩ : ∃ u, j = u + 1 := ⟨j - 1, by
      have : j ≠ 0 := by intro e0; subst e0; simp at hm; omega
      omega⟩
    rw [if_neg c2, if_pos (by omega), if_pos he]
    obtain ⟨m', e', h1, h2, h3, h4⟩ := ih u (hxd m) (e + 1) (hxd_lt m u hm) (by omega) (by omega) (by omega)
    exact ⟨m', e', h1, h2, by omega, by omega⟩
theorem bits64_lt (op : BinOp) (x y : Int) : 0 ≤ bits op .u64 x y ∧ bits op .u64 x y < 18446744073709551616 := by
  have := bounds_u64 (wf_bits op .u64 x y)
  omega
theorem hxF_some (f : Nat) (hf : 1000 < f) (m : Nat) (e : Int) (neg tr : Bool) (hm : m < 18446744073709551616) (h1 : -5000000 ≤ e) (h2 : e ≤ 5000000) : ∃ r, hxF f m e neg tr = some r := by
  unfold hxF
  rw [if_pos hm, if_pos (by omega), if_pos (by omega)]
  obtain ⟨a, b, e1, a1, a2, a3⟩ := hx1_some f 54 m (e + 52) (by
    by_cases c : m = 0
    · exact Or.inl c
    · right
      have : 1 * 2 ^ 54 ≤ m * 2 ^ 54 := Nat.mul_le_mul_right _ (by omega)
      have e : (2 : Nat) ^ 54 = 18014398509481984 := by decide
      omega) (by omega) hm (by omega)
  rw [e1]; dsimp only [Option.bind_some]
  rw [if_pos a1, if_pos (by omega), if_pos (by omega)]
  have hb := bits64_lt .or (a : Int) 1
  have hn : (if tr = true then (bits .or .u64 (a : Int) 1).toNat else a) < 18446744073709551616 := by split <;> omega
  generalize (if tr = true then (bits .or .u64 (a : Int) 1).toNat else a) = n at *
  obtain ⟨c, d, e2, c1, c2, c3⟩ := hx2_some f 9 n b (by
    have e : (2 : Nat) ^ (55 + 9) = 18446744073709551616 := by decide
    omega) (by omega) (by omega) (by omega)
  rw [e2]; dsimp only [Option.bind_some]
  rw [if_pos (by omega), if_pos (by omega), if_pos (by omega)]
  obtain ⟨g, h, e3, g1, g2, g3⟩ := hx3_some f 63 c d (by
    have e : (2 : Nat) ^ (63 + 1) = 18446744073709551616 := by decide
    omega) (by omega) (by omega) (by omega)
  rw [e3]; dsimp only [Option.bind_some]
  rw [if_pos (by omega), if_pos (by omega), if_pos (by omega)]
  exact ⟨_, rfl⟩
/-! Underscores. -/
theorem uoL_some (s : ByteArray) (hex : Bool) : ∀ f i saw, s.size - i < f → ∃ b, uoL s hex f i saw = some b := by
  intro f
  induction f with
  | zero => intro i saw h; omega
  | succ f ih =>
    intro i saw hf
    rw [uoL]
    by_cases c : i < s.size
    · rw [if_pos c]
      have step : ∀ saw, ∃ b, uoL s hex f (i + 1) saw = some b := fun saw => ih (i + 1) saw (by omega)
      by_cases c1 : 48 ≤ sb s i ∧ sb s i ≤ 57
      · rw [if_pos c1]; exact step _
      rw [if_neg c1]
      by_cases c2 : hex = true ∧ 97 ≤ lw (sb s i) ∧ lw (sb s i) ≤ 102
      · rw [if_pos c2]; exact step _
      rw [if_neg c2]
      by_cases c3 : sb s i = 95
      · rw [if_pos c3]
        by_cases c4 : saw = 48
        · rw [if_pos c4]; exact step _
        · rw [if_neg c4]; exact ⟨_, rfl⟩
      rw [if_neg c3]
      by_cases c4 : saw = 95
      · rw [if_pos c4]; exact ⟨_, rfl⟩
      · rw [if_neg c4]; exact step _
    · rw [if_neg c]; exact ⟨_, rfl⟩
theorem uoF_some (f : Nat) (s : ByteArray) (h : s.size < f) : ∃ b, uoF f s = some b := by
  unfold uoF
  have : (uoS s).size ≤ s.size := by
    unfold uoS
    split
    · simp only [ByteArray.size_extract]; omega
    · exact Nat.le_refl _
  exact uoL_some _ _ _ _ _ (by omega)
/-! Words. -/
theorem cpL_some (s p : ByteArray) (n : Nat) : ∀ f i, i ≤ n → n - i < f → ∃ r, cpL s p n f i = some r ∧ r ≤ n := by
  intro f
  induction f with
  | zero => intro i _ h; omega
  | succ f ih =>
    intro i hi hf
    rw [cpL]
    by_cases c : i < n
    · rw [if_pos c]
      by_cases c1 : lcB (sb s i) = sb p i
      · rw [if_pos c1]; exact ih (i + 1) (by omega) (by omega)
      · rw [if_neg c1]; exact ⟨i, rfl, hi⟩
    · rw [if_neg c]; exact ⟨n, rfl, Nat.le_refl _⟩
theorem spI_some (f : Nat) (hf : 100 < f) (t : ByteArray) (ng : Bool) (ns : Nat) : ∃ r, spI f t ng ns = some r := by
  unfold spI
  have h8 : infinityB.size = 8 := by decide
  obtain ⟨r, e, h⟩ := cpL_some t infinityB (min infinityB.size t.size) f 0 (by omega) (by omega)
  rw [e]; dsimp only [Option.bind_some]
  rw [if_pos (by omega)]
  split <;> exact ⟨_, rfl⟩
theorem spF_some (f : Nat) (hf : 100 < f) (s : ByteArray) : ∃ r, spF f s = some r := by
  unfold spF
  have h3 : nanB.size = 3 := by decide
  split
  · exact ⟨_, rfl⟩
  split
  · exact spI_some f hf _ _ _
  split
  · exact spI_some f hf _ _ _
  split
  · exact spI_some f hf _ _ _
  split
  · obtain ⟨r, e, h⟩ := cpL_some s nanB (min nanB.size s.size) f 0 (by omega) (by omega)
    rw [e]; dsimp only [Option.bind_some]
    split <;> exact ⟨_, rfl⟩
  · exact ⟨_, rfl⟩
/-! The exact road. -/
def isNum (d : Ieee.Datum) : Prop := ∃ s m p, d = .number s m p
def isNumB : Ieee.Datum → Bool
  | .number _ m _ => m != 0
  | _ => false
theorem ft_num : ∀ k, k < 23 → isNumB (FloatKind.f64.format.read (ftD k)) = true := by decide +kernel
theorem ft_num' (k : Nat) (h : k < 23) : ∃ s m p, FloatKind.f64.format.read (ftD k) = .number s m p ∧ m ≠ 0 := by
  have := ft_num k h
  generalize FloatKind.f64.format.read (ftD k) = d at *
  cases d with
  | number s m p => exact ⟨s, m, p, rfl, by simpa [isNumB] using this⟩
  | infinity s => simp [isNumB] at this
  | nan s t => simp [isNumB] at this

theorem nearest_num (f : Ieee.Format) (neg : Bool) (r : Nat) (h : r ≤ f.infRung) : ∀ s t, f.read (f.word neg r) ≠ .nan s t := by
  have hsw := f.infRung_lt
  have hs : 0 < f.signWeight := by omega
  have e : f.word neg r % f.signWeight = r := by
    cases neg
    · simp only [Ieee.Format.word, Bool.false_eq_true, if_false]; exact Nat.mod_eq_of_lt (by omega)
    · simp only [Ieee.Format.word, if_true]; rw [Nat.add_mod_left, Nat.mod_eq_of_lt (by omega)]
  intro s t
  simp only [Ieee.Format.read, e]
  split
  · intro h; cases h
  split
  · intro h; cases h
  split
  · intro h; cases h
  · omega
theorem write_num (f : Ieee.Format) (d : Ieee.Datum) (hd : ∀ s t, d ≠ .nan s t) : ∀ s t, f.read (f.write d) ≠ .nan s t := by
  cases d with
  | number neg mag place =>
    show ∀ s t, f.read (f.nearest neg mag place) ≠ .nan s t
    unfold Ieee.Format.nearest
    split
    · exact nearest_num f neg 0 (Nat.zero_le _)
    · exact nearest_num f neg _ (Nat.min_le_right _ _)
  | infinity neg => exact nearest_num f neg _ (Nat.le_refl _)
  | nan s t => exact absurd rfl (hd s t)
theorem neg_num (x : Nat) (hx : ∀ s t, FloatKind.f64.format.read x ≠ .nan s t) : ∀ s t, FloatKind.f64.format.read (Op.negFloat .f64 x) ≠ .nan s t := by
  have e1 : Op.negFloat .f64 x % FloatKind.f64.format.signWeight = x % FloatKind.f64.format.signWeight := by
    show (x ^^^ 2 ^ 63) % 2 ^ 63 = x % 2 ^ 63
    rw [Nat.xor_mod_two_pow, Nat.mod_self, Nat.xor_zero]
  intro s t
  have hx := fun s => hx s
  simp only [Ieee.Format.read, e1] at hx ⊢
  by_cases c1 : x % FloatKind.f64.format.signWeight < FloatKind.f64.format.binade
  · rw [if_pos c1]; intro h; cases h
  rw [if_neg c1]
  simp only [if_neg c1] at hx
  by_cases c2 : x % FloatKind.f64.format.signWeight < FloatKind.f64.format.infRung
  · rw [if_pos c2]; intro h; cases h
  rw [if_neg c2]
  simp only [if_neg c2] at hx
  by_cases c3 : x % FloatKind.f64.format.signWeight = FloatKind.f64.format.infRung
  · rw [if_pos c3]; intro h; cases h
  · simp only [if_neg c3] at hx
    exact absurd rfl (hx _ _)
theorem mul_some (x k : Nat) (hx : ∀ s t, FloatKind.f64.format.read x ≠ .nan s t) (hk : k < 23) : ∃ y, FloatKind.f64.format.mul x (ftD k) = some y ∧ ∀ s t, FloatKind.f64.format.read y ≠ .nan s t := by
  obtain ⟨s, m, p, e, hm⟩ := ft_num' k hk
  unfold Ieee.Format.mul
  rw [e]
  generalize FloatKind.f64.format.read x = d at *
  cases d with
  | number s' m' p' => exact ⟨_, rfl, write_num _ _ (by intro s t h; cases h)⟩
  | infinity s' =>
    simp only [Ieee.Datum.product, if_neg hm]
    exact ⟨_, rfl, write_num _ _ (by intro s t h; cases h)⟩
  | nan s' t' => exact absurd rfl (hx s' t')
theorem div_some (x k : Nat) (hx : ∀ s t, FloatKind.f64.format.read x ≠ .nan s t) (hk : k < 23) : ∃ y, FloatKind.f64.format.div x (ftD k) = some y := by
  obtain ⟨s, m, p, e, hm⟩ := ft_num' k hk
  unfold Ieee.Format.div
  rw [e]
  generalize FloatKind.f64.format.read x = d at *
  cases d with
  | number s' m' p' => simp only [Ieee.Datum.quotient, if_neg hm]; exact ⟨_, rfl⟩
  | infinity s' => exact ⟨_, rfl⟩
  | nan s' t' => exact absurd rfl (hx s' t')
theorem exN_num (d : Nat) (neg : Bool) : ∀ s t, FloatKind.f64.format.read (exN d neg) ≠ .nan s t := by
  have h : ∀ s t, FloatKind.f64.format.read (floatOfInt FloatKind.f64 (d : Int)) ≠ .nan s t :=
    write_num FloatKind.f64.format (.number (decide ((d : Int) < 0)) (d : Int).natAbs 0) (by intro s t h; cases h)
  unfold exN
  split
  · exact neg_num _ h
  · exact h
theorem exF_some (d : Nat) (p : Int) (neg : Bool) : ∃ x ok, exF d p neg = some (x, ok) := by
  have hN := exN_num d neg
  unfold exF
  by_cases c0 : 4503599627370496 ≤ d
  · rw [if_pos c0]; exact ⟨_, _, rfl⟩
  rw [if_neg c0]
  by_cases c1 : p = 0
  · rw [if_pos c1]; exact ⟨_, _, rfl⟩
  rw [if_neg c1]
  by_cases c2 : 0 < p
  · rw [if_pos c2]
    by_cases c3 : p ≤ 37
    · rw [if_pos c3]
      by_cases c4 : 22 < p
      · rw [if_pos c4]
        obtain ⟨y, e, hy⟩ := mul_some (exN d neg) (p - 22).toNat hN (by omega)
        rw [e]; dsimp only [Option.bind_some]
        split
        · exact ⟨_, _, rfl⟩
        · obtain ⟨z, e2, hz⟩ := mul_some y 22 hy (by omega)
          rw [e2]; exact ⟨_, _, rfl⟩
      · rw [if_neg c4]
        split
        · exact ⟨_, _, rfl⟩
        · obtain ⟨z, e2, hz⟩ := mul_some (exN d neg) p.toNat hN (by omega)
          rw [e2]; exact ⟨_, _, rfl⟩
    · rw [if_neg c3]; exact ⟨_, _, rfl⟩
  · rw [if_neg c2]
    by_cases c3 : -22 ≤ p
    · rw [if_pos c3]
      obtain ⟨z, e2⟩ := div_some (exN d neg) (-p).toNat hN (by omega)
      rw [e2]; exact ⟨_, _, rfl⟩
    · rw [if_neg c3]; exact ⟨_, _, rfl⟩
/-! The reading. -/
structure RfOk (s : ByteArray) (q : RfS) : Prop where
  i : q.i ≤ s.size
  nd : q.nd ≤ q.i
  nm : q.nm ≤ q.i
  dp0 : -(q.i : Int) ≤ q.dp
  dp1 : q.dp ≤ (q.i : Int)
  m0 : 0 ≤ q.m
  m1 : q.m < 18446744073709551616
  sg : q.sg = true → 1 ≤ q.i
theorem wrap64_b (z : Int) : 0 ≤ IntKind.u64.wrap z ∧ IntKind.u64.wrap z < 18446744073709551616 := by
  rw [wr_eq]; have := wr_lt z; omega
theorem rfL_some (s : ByteArray) (hex : Bool) : ∀ f q, RfOk s q → s.size - q.i < f → ∃ q', rfL s hex f q = some q' ∧ RfOk s q' := by
  intro f
  induction f with
  | zero => intro q _ h; omega
  | succ f ih =>
    intro q hq hf
    obtain ⟨q1, q2, q3, q4, q5, q6, q7, q8⟩ := hq
    rw [rfL]
    by_cases c : q.i < s.size
    · rw [if_pos c]
      have w1 := wrap64_b (IntKind.u64.wrap (q.m * rfBase hex) + ((sb s q.i : Int) - 48))
      have w2 := wrap64_b (IntKind.u64.wrap (q.m * 16) + (lw (sb s q.i) - 97 + 10))
      generalize IntKind.u64.wrap (IntKind.u64.wrap (q.m * rfBase hex) + ((sb s q.i : Int) - 48)) = m1 at *
      generalize IntKind.u64.wrap (IntKind.u64.wrap (q.m * 16) + (lw (sb s q.i) - 97 + 10)) = m2 at *
      have ok : ∀ q' : RfS, q'.i = q.i + 1 → q'.nd ≤ q.i + 1 → q'.nm ≤ q.i + 1 → -((q.i : Int) + 1) ≤ q'.dp → q'.dp ≤ (q.i : Int) + 1 → 0 ≤ q'.m → q'.m < 18446744073709551616 → ∃ r, rfL s hex f q' = some r ∧ RfOk s r := by
        intro q' h1 h2 h3 h4 h5 h6 h7
        exact ih q' ⟨by omega, by omega, by omega, by omega, by omega, h6, h7, fun _ => by omega⟩ (by omega)
      split
      · exact ok _ rfl (by dsimp only; omega) (by dsimp only; omega) (by dsimp only; omega) (by dsimp only; omega) (by dsimp only; omega) (by dsimp only; omega)
      split
      · split
        · exact ⟨q, rfl, q1, q2, q3, q4, q5, q6, q7, q8⟩
        · exact ok _ rfl (by dsimp only; omega) (by dsimp only; omega) (by dsimp only; omega) (by dsimp only; omega) (by dsimp only; omega) (by dsimp only; omega)
      split
      · split
        · exact ok _ rfl (by dsimp only; omega) (by dsimp only; omega) (by dsimp only; omega) (by dsimp only; omega) (by dsimp only; omega) (by dsimp only; omega)
        split
        · exact ok _ rfl (by dsimp only; omega) (by dsimp only; omega) (by dsimp only; omega) (by dsimp only; omega) (by dsimp only; omega) (by dsimp only; omega)
        split
        · exact ok _ rfl (by dsimp only; omega) (by dsimp only; omega) (by dsimp only; omega) (by dsimp only; omega) (by dsimp only; omega) (by dsimp only; omega)
        · exact ok _ rfl (by dsimp only; omega) (by dsimp only; omega) (by dsimp only; omega) (by dsimp only; omega) (by dsimp only; omega) (by dsimp only; omega)
      split
      · split
        · exact ok _ rfl (by dsimp only; omega) (by dsimp only; omega) (by dsimp only; omega) (by dsimp only; omega) (by dsimp only; omega) (by dsimp only; omega)
        · exact ok _ rfl (by dsimp only; omega) (by dsimp only; omega) (by dsimp only; omega) (by dsimp only; omega) (by dsimp only; omega) (by dsimp only; omega)
      · exact ⟨q, rfl, q1, q2, q3, q4, q5, q6, q7, q8⟩
    · rw [if_neg c]
      exact ⟨q, rfl, q1, q2, q3, q4, q5, q6, q7, q8⟩
theorem xpF_some (s : ByteArray) (f i : Nat) (us : Bool) (hf : s.size < f) (hi : i < s.size) :
    ∃ ok j e us', xpF s f i us = some (ok, j, e, us') ∧ i ≤ j ∧ j ≤ s.size ∧ -200000 ≤ e ∧ e ≤ 200000 := by
  unfold xpF
  have hA : i + 1 ≤ expAt s i ∧ expAt s i ≤ i + 2 := by unfold expAt; split <;> omega
  have hS : expSg s i = 1 ∨ expSg s i = -1 := by
    unfold expSg; split
    · exact Or.inr rfl
    · exact Or.inl rfl
  by_cases c1 : i + 1 < s.size
  · rw [if_pos c1]
    have out : ∃ ok j e us', some (false, expAt s i, (0 : Int), us) = some (ok, j, e, us') ∧ i ≤ j ∧ j ≤ s.size ∧ -200000 ≤ e ∧ e ≤ 200000 := ⟨_, _, _, _, rfl, by omega, by omega, by omega, by omega⟩
    by_cases c2 : expAt s i < s.size
    · rw [if_pos c2]
      by_cases c3 : 48 ≤ sb s (expAt s i)
      · rw [if_pos c3]
        by_cases c4 : sb s (expAt s i) ≤ 57
        · rw [if_pos c4]
          obtain ⟨a, b, u, e, e1, e2, e3⟩ := expL_some s f (expAt s i) 0 us (by omega) (by omega) (by omega)
          rw [e]; dsimp only [Option.bind_some]
          rw [if_pos e2, if_pos (by omega)]
          refine ⟨_, _, _, _, rfl, by omega, e2, ?_⟩
          rcases hS with h | h <;> rw [h] <;> omega
        · rw [if_neg c4]; exact out
      · rw [if_neg c3]; exact out
    · rw [if_neg c2]; exact out
  · rw [if_neg c1]; exact ⟨_, _, _, _, rfl, by omega, by omega, by omega, by omega⟩
structure RrOk (s : ByteArray) (r : RfR) : Prop where
  i : r.i ≤ s.size
  ok : r.ok = true → 1 ≤ r.i
  m0 : 0 ≤ r.m
  m1 : r.m < 18446744073709551616
  e0 : -5000000 ≤ r.exp
  e1 : r.exp ≤ 5000000
theorem rfZ_some (s : ByteArray) (f : Nat) (hf : s.size < f) (neg hex : Bool) (m : Int) (tr : Bool) (i : Nat) (us : Bool) (dp : Int) (nm : Nat) (hi : i ≤ s.size) (h1 : 1 ≤ i)
    (m0 : 0 ≤ m) (m1 : m < 18446744073709551616) (d0 : -4000000 ≤ dp) (d1 : dp ≤ 4000000) (hn : nm ≤ 1000000) : ∃ r, rfZ s f neg hex m tr i us dp nm = some r ∧ RrOk s r := by
  unfold rfZ
  have hz : (s.extract 0 i).size < f := by simp only [ByteArray.size_extract]; omega
  have he : -5000000 ≤ (if m = 0 then 0 else dp - (nm : Int)) ∧ (if m = 0 then 0 else dp - (nm : Int)) ≤ 5000000 := by split <;> omega
  split
  · obtain ⟨b, e⟩ := uoF_some f (s.extract 0 i) hz
    rw [e]
    exact ⟨_, rfl, hi, fun _ => h1, m0, m1, he.1, he.2⟩
  · exact ⟨_, rfl, hi, fun _ => h1, m0, m1, he.1, he.2⟩
theorem rfE_some (s : ByteArray) (hs : s.size ≤ 1000) (f : Nat) (hf : s.size < f) (neg hex : Bool) (q : RfS) (hq : RfOk s q) : ∃ r, rfE s f neg hex q = some r ∧ RrOk s r := by
  obtain ⟨q1, q2, q3, q4, q5, q6, q7, q8⟩ := hq
  have hD : -4000 ≤ rfD hex q ∧ rfD hex q ≤ 4000 := by
    unfold rfD
    have : -1000 ≤ (if q.sd = true then q.dp else (q.nd : Int)) ∧ (if q.sd = true then q.dp else (q.nd : Int)) ≤ 1000 := by split <;> omega
    split <;> omega
  have hN : rfN hex q ≤ 4000 := by unfold rfN; split <;> omega
  unfold rfE
  rw [if_pos q1]
  split
  · exact ⟨_, rfl, q1, fun h => (by cases h), q6, q7, by dsimp only; omega, by dsimp only; omega⟩
  · rename_i hsg
    have hi := q8 (by simpa using hsg)
    split
    · rename_i c
      obtain ⟨ok, j, e, us', h, h1, h2, h3, h4⟩ := xpF_some s f q.i q.us hf c.1
      rw [h]; dsimp only [Option.bind_some]
      split
      · exact rfZ_some s f hf neg hex q.m q.tr j us' (rfD hex q + e) (rfN hex q) h2 (by omega) q6 q7 (by omega) (by omega) (by omega)
      · exact ⟨_, rfl, h2, fun h => (by cases h), q6, q7, by dsimp only; omega, by dsimp only; omega⟩
    split
    · exact ⟨_, rfl, q1, fun h => (by cases h), q6, q7, by dsimp only; omega, by dsimp only; omega⟩
    · exact rfZ_some s f hf neg hex q.m q.tr q.i q.us (rfD hex q) (rfN hex q) q1 hi q6 q7 (by omega) (by omega) (by omega)
theorem rfF_some (s : ByteArray) (hs : s.size ≤ 1000) (f : Nat) (hf : s.size < f) : ∃ r, rfF f s = some r ∧ RrOk s r := by
  unfold rfF
  by_cases c : s.size = 0
  · rw [if_pos c]; exact ⟨_, rfl, Nat.zero_le _, fun h => (by cases h), by dsimp only; omega, by dsimp only; omega, by dsimp only; omega, by dsimp only; omega⟩
  rw [if_neg c]
  have hI : rfI s ≤ 1 := by unfold rfI; split <;> omega
  have hX : rfX s (rfI s) = true → rfI s + 2 < s.size := by
    intro h
    unfold rfX at h
    rw [Bool.and_eq_true] at h
    exact of_decide_eq_true h.1
  have h0 : (if rfX s (rfI s) = true then rfI s + 2 else rfI s) ≤ s.size := by
    split
    · rename_i h; have := hX h; omega
    · omega
  obtain ⟨q, e, hq⟩ := rfL_some s (rfX s (rfI s)) f ⟨0, false, if rfX s (rfI s) = true then rfI s + 2 else rfI s, false, false, false, 0, 0, 0⟩
    ⟨h0, Nat.zero_le _, Nat.zero_le _, by dsimp only; omega, by dsimp only; omega, by dsimp only; omega, by dsimp only; omega, fun h => (by cases h)⟩ (by omega)
  rw [e]; dsimp only [Option.bind_some]
  exact rfE_some s hs f hf _ _ q hq
theorem atF_some (f : Nat) (hf : 10000 < f) (s : ByteArray) (hs : s.size ≤ 1000) : ∃ x n k, atF f s = some (x, n, k) ∧ k ≤ 2 := by
  unfold atF
  obtain ⟨sp, e1⟩ := spF_some f (by omega) s
  rw [e1]; dsimp only [Option.bind_some]
  by_cases c8 : sp.2.2 = true
  · rw [if_pos c8]; exact ⟨_, _, _, rfl, by omega⟩
  rw [if_neg c8]
  obtain ⟨r, e2, r1, r2, r3, r4, r5, r6⟩ := rfF_some s hs f (by omega)
  rw [e2]; dsimp only [Option.bind_some]
  rw [if_pos r1]
  by_cases hok : r.ok = false
  · rw [if_pos hok]; exact ⟨_, _, _, rfl, by omega⟩
  rw [if_neg hok]
  have hi := r2 (by simpa using hok)
  rw [if_pos r3, if_pos r4]
  have hX := exF_some r.m.toNat r.exp r.neg
  have hH := hxF_some f (by omega) r.m.toNat r.exp r.neg r.tr (by omega) r5 r6
  have hS := atSlow_some f hf s hs r.i hi r1
  generalize hxF f r.m.toNat r.exp r.neg r.tr = H at *
  generalize exF r.m.toNat r.exp r.neg = X at *
  generalize atSlow f s r.i = S at *
  generalize (if r.neg = true then (9223372036854775808 : Int) else 0) = sg at *
  generalize pfF r.m.toNat (r.exp + 348).toNat sg = A at *
  generalize pfF (wr (r.m + 1)) (r.exp + 348).toNat sg = B at *
  have hA := ovK_le A.2
  by_cases c1 : r.hex = true
  · rw [if_pos c1]
    obtain ⟨z, rfl⟩ := hH
    exact ⟨_, _, _, rfl, by have := ovK_le z.2; omega⟩
  rw [if_neg c1]
  by_cases c2 : r.m = 0
  · rw [if_pos c2]; exact ⟨_, _, _, rfl, by omega⟩
  rw [if_neg c2]
  by_cases c3 : 310 < r.exp
  · rw [if_pos c3]; exact ⟨_, _, _, rfl, by omega⟩
  rw [if_neg c3]
  by_cases c4 : r.exp < -345
  · rw [if_pos c4]; exact ⟨_, _, _, rfl, by omega⟩
  rw [if_neg c4]
  by_cases c5 : r.tr = false
  · rw [if_pos c5]
    obtain ⟨x, ok, rfl⟩ := hX
    dsimp only [Option.bind_some]
    by_cases c6 : ok = true
    · rw [if_pos c6]; exact ⟨_, _, _, rfl, by omega⟩
    · rw [if_neg c6]; exact ⟨_, _, _, rfl, by omega⟩
  rw [if_neg c5]
  by_cases c7 : (FloatKind.f64.format.order A.1.toNat B.1.toNat == some Ordering.eq) = true
  · rw [if_pos c7]; exact ⟨_, _, _, rfl, by omega⟩
  · rw [if_neg c7]; exact hS
theorem spfF_some (f : Nat) (hf : 10000 < f) (s : ByteArray) (hs : s.size ≤ 1000) : ∃ x bad, spfF f s = some (x, bad) := by
  unfold spfF pzF
  obtain ⟨x, n, k, e, hk⟩ := atF_some f hf s hs
  rw [e]; dsimp only [Option.bind_some]
  split
  · dsimp only [Option.bind_some]
    split
    · exact ⟨_, _, rfl⟩
    split
    · exact ⟨_, _, rfl⟩
    split
    · exact ⟨_, _, rfl⟩
    · omega
  · exact ⟨_, _, rfl⟩
end Go.Proofs.YtnggkkdcddpjlaaGreatDoor
