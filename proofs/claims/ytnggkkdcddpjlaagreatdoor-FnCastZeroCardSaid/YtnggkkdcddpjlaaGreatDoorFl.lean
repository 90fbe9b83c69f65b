/- Plain facts on Ieee's words: rounding keeps a bound that the format has; a bounded number is cut to a bounded integer. No program is read. -/
import Derived.Laws.FloatArith
namespace Go.Proofs.YtnggkkdcddpjlaaGreatDoor
open Ieee

/-- A number's size in units of 2^-1100. -/
def mg (m : Nat) (p : Int) : Nat := m * 2 ^ (p + 1100).toNat

theorem shl1 (n : Nat) : 1 <<< n = 2 ^ n := by rw [Nat.shiftLeft_eq, Nat.one_mul]

theorem cut_zero_drop (way : Toward) (neg : Bool) (n : Nat) : way.cut neg n 0 = n := by
  cases way <;> simp [Toward.cut, Nat.mod_one]

theorem log2_lt (n : Nat) : n < 2 ^ (n.log2 + 1) := by
  by_cases h : n = 0
  · subst h; simp
  · exact (Nat.log2_lt h).1 (Nat.lt_succ_self _)

theorem le_log2 {n : Nat} (h : n ≠ 0) : 2 ^ n.log2 ≤ n := Nat.log2_self_le h

/-- Where all digits are dropped nothing is left. -/
theorem even_cut_far (neg : Bool) (n drop : Nat) (h : n.log2 + 2 ≤ drop) : Toward.even.cut neg n drop = 0 := by
  have hm : min drop (n.log2 + 2) = n.log2 + 2 := Nat.min_eq_right h
  have hlt := log2_lt n
  have hp : 2 ^ (n.log2 + 2) = 2 * 2 ^ (n.log2 + 1) := by rw [Nat.pow_succ]; omega
  simp only [Toward.cut, hm, shl1]
  rw [Nat.div_eq_of_lt (by omega), Nat.mod_eq_of_lt (by omega)]
  have h1 : ¬ (2 ^ (n.log2 + 2) < 2 * n) := by omega
  simp [h1]

theorem even_cut_near (neg : Bool) (n drop : Nat) (h : drop ≤ n.log2 + 2) :
    n / 2 ^ drop ≤ Toward.even.cut neg n drop ∧ Toward.even.cut neg n drop ≤ n / 2 ^ drop + 1 ∧ (n % 2 ^ drop = 0 → Toward.even.cut neg n drop = n / 2 ^ drop) := by
  have hm : min drop (n.log2 + 2) = drop := Nat.min_eq_left h
  simp only [Toward.cut, hm, shl1]
  refine ⟨Nat.le_add_right _ _, ?_, ?_⟩
  · have : ∀ b : Bool, b.toNat ≤ 1 := by intro b; cases b <;> decide
    exact Nat.add_le_add_left (this _) _
  · intro hz
    have h0 : 0 < 2 ^ drop := Nat.two_pow_pos _
    have h1 : ¬ (2 ^ drop < 2 * (n % 2 ^ drop)) := by omega
    have h2 : (2 ^ drop == 2 * (n % 2 ^ drop)) = false := by
      rw [beq_eq_false_iff_ne]; omega
    simp [h1, h2]

/-- Rounding to even keeps a bound that is a multiple of the unit. -/
theorem even_cut_bound (neg : Bool) (n drop q : Nat) (h : n ≤ q * 2 ^ drop) : Toward.even.cut neg n drop ≤ q := by
  by_cases hf : n.log2 + 2 ≤ drop
  · rw [even_cut_far neg n drop hf]; exact Nat.zero_le _
  · obtain ⟨_, h2, h3⟩ := even_cut_near neg n drop (by omega)
    have h0 : 0 < 2 ^ drop := Nat.two_pow_pos _
    by_cases he : n = q * 2 ^ drop
    · rw [h3 (by rw [he]; exact Nat.mul_mod_left _ _), he, Nat.mul_div_cancel _ h0]
      exact Nat.le_refl _
    · have : n / 2 ^ drop < q := (Nat.div_lt_iff_lt_mul h0).2 (by omega)
      omega

theorem pow_split {a b : Nat} (h : a ≤ b) : 2 ^ b = 2 ^ (b - a) * 2 ^ a := by
  rw [← Nat.pow_add]; congr 1; omega

/-- What 'nearest' reads as, where the number is at most c * 2^j. -/
theorem read_nearest (f : Format) (neg : Bool) (mag : Nat) (place : Int) (c j : Nat)
    (hp : -1100 ≤ place) (hlp0 : -1100 ≤ f.leastPlace) (hlp1 : f.leastPlace < 0) (hc : c < 2 ^ (f.fractionBits + 1))
    (hL : ((j : Int) - f.leastPlace).toNat + 3 < 2 ^ f.exponentBits) (h : mg mag place ≤ c * 2 ^ (j + 1100)) :
    ∃ m' p', f.read (f.nearest neg mag place) = .number neg m' p' ∧ -1100 ≤ p' ∧ mg m' p' ≤ c * 2 ^ (j + 1100) := by
  have hb : 0 < f.binade := Nat.two_pow_pos _
  have hsw := f.infRung_lt
  have word_read : ∀ rung, rung < f.signWeight → (f.word neg rung / f.signWeight % 2 == 1) = neg ∧ f.word neg rung % f.signWeight = rung := by
    intro rung hr
    have hs : 0 < f.signWeight := by omega
    cases neg
    · simp only [Format.word, Bool.false_eq_true, if_false]
      rw [Nat.div_eq_of_lt hr, Nat.mod_eq_of_lt hr]; simp
    · simp only [Format.word, if_true]
      rw [Nat.add_div_left _ hs, Nat.div_eq_of_lt hr, Nat.add_mod_left, Nat.mod_eq_of_lt hr]; simp
  have hinf : f.binade < f.infRung := by
    unfold Format.infRung
    have : 1 < 2 ^ f.exponentBits - 1 := by omega
    calc f.binade = 1 * f.binade := (Nat.one_mul _).symm
      _ < _ := Nat.mul_lt_mul_of_pos_right this hb
  by_cases hm : mag = 0
  · subst hm
    refine ⟨0, f.leastPlace, ?_, hlp0, by simp [mg]⟩
    obtain ⟨e1, e2⟩ := word_read 0 (by omega)
    simp only [Format.nearest, if_true, Format.read, e1, e2, hb]
  -- the last place
  obtain ⟨last, hlast⟩ : ∃ l : Int, l = max (place + mag.log2 - f.fractionBits) f.leastPlace := ⟨_, rfl⟩
  obtain ⟨kept, hkept⟩ : ∃ k : Nat, k = Toward.even.cut neg (mag <<< (place - last).toNat) (last - place).toNat := ⟨_, rfl⟩
  have hlog := le_log2 hm
  have hlog2 := log2_lt mag
  -- last ≤ j
  have hlj : last ≤ j := by
    apply Classical.byContradiction
    intro hn
    have he : last = place + mag.log2 - f.fractionBits := by omega
    have h1 : (2 ^ mag.log2) * 2 ^ (place + 1100).toNat ≤ c * 2 ^ (j + 1100) := Nat.le_trans (Nat.mul_le_mul_right _ hlog) h
    rw [← Nat.pow_add] at h1
    have h2 : f.fractionBits + 1 + (j + 1100) ≤ mag.log2 + (place + 1100).toNat := by omega
    have h3 : 2 ^ (f.fractionBits + 1 + (j + 1100)) ≤ 2 ^ (mag.log2 + (place + 1100).toNat) := Nat.pow_le_pow_right (by omega) h2
    have h4 : c * 2 ^ (j + 1100) < 2 ^ (f.fractionBits + 1 + (j + 1100)) := by
      rw [Nat.pow_add 2 (f.fractionBits + 1)]
      exact Nat.mul_lt_mul_of_pos_right hc (Nat.two_pow_pos _)
    omega
  have hl1 : f.leastPlace ≤ last := by omega
  -- what is kept
  have hkb : kept ≤ 2 * f.binade := by
    have hb2 : 2 * f.binade = 2 ^ (f.fractionBits + 1) := by rw [Nat.pow_succ]; simp [Format.binade, Nat.mul_comm]
    rw [hb2, hkept]
    by_cases hle : last ≤ place
    · have e0 : (last - place).toNat = 0 := by omega
      rw [e0, cut_zero_drop, Nat.shiftLeft_eq]
      have h5 : mag.log2 + 1 + (place - last).toNat ≤ f.fractionBits + 1 := by omega
      calc mag * 2 ^ (place - last).toNat ≤ 2 ^ (mag.log2 + 1) * 2 ^ (place - last).toNat := Nat.mul_le_mul_right _ (Nat.le_of_lt hlog2)
        _ = 2 ^ (mag.log2 + 1 + (place - last).toNat) := (Nat.pow_add _ _ _).symm
        _ ≤ _ := Nat.pow_le_pow_right (by omega) h5
    · have e0 : (place - last).toNat = 0 := by omega
      rw [e0, Nat.shiftLeft_zero]
      apply even_cut_bound
      have h5 : mag.log2 + 1 ≤ f.fractionBits + 1 + (last - place).toNat := by omega
      calc mag ≤ 2 ^ (mag.log2 + 1) := Nat.le_of_lt hlog2
        _ ≤ 2 ^ (f.fractionBits + 1 + (last - place).toNat) := Nat.pow_le_pow_right (by omega) h5
        _ = _ := Nat.pow_add _ _ _
  have hkl : f.leastPlace < last → f.binade ≤ kept := by
    intro hlt
    have he : last = place + mag.log2 - f.fractionBits := by omega
    rw [hkept]
    by_cases hle : last ≤ place
    · have e0 : (last - place).toNat = 0 := by omega
      rw [e0, cut_zero_drop, Nat.shiftLeft_eq]
      have h5 : f.fractionBits = mag.log2 + (place - last).toNat := by omega
      unfold Format.binade
      rw [h5, Nat.pow_add]
      exact Nat.mul_le_mul_right _ hlog
    · have e0 : (place - last).toNat = 0 := by omega
      rw [e0, Nat.shiftLeft_zero]
      refine Nat.le_trans ?_ (even_cut_near neg mag _ (by omega)).1
      rw [Nat.le_div_iff_mul_le (Nat.two_pow_pos _)]
      unfold Format.binade
      rw [← Nat.pow_add]
      exact Nat.le_trans (Nat.pow_le_pow_right (by omega) (by omega)) hlog
  -- its size
  have hsize : kept * 2 ^ (last + 1100).toNat ≤ c * 2 ^ (j + 1100) := by
    rw [hkept]
    by_cases hle : last ≤ place
    · have e0 : (last - place).toNat = 0 := by omega
      rw [e0, cut_zero_drop, Nat.shiftLeft_eq, Nat.mul_assoc, ← Nat.pow_add]
      have h5 : (place - last).toNat + (last + 1100).toNat = (place + 1100).toNat := by omega
      rw [h5]; exact h
    · have e0 : (place - last).toNat = 0 := by omega
      rw [e0, Nat.shiftLeft_zero]
      have hj : j + 1100 = (j - last).toNat + (last + 1100).toNat := by omega
      have hq : Toward.even.cut neg mag (last - place).toNat ≤ c * 2 ^ ((j : Int) - last).toNat := by
        apply even_cut_bound
        have h6 : mag * 2 ^ (place + 1100).toNat ≤ c * 2 ^ ((j : Int) - last).toNat * 2 ^ (last - place).toNat * 2 ^ (place + 1100).toNat := by
          refine Nat.le_trans h (Nat.le_of_eq ?_)
          rw [Nat.mul_assoc c, Nat.mul_assoc c, ← Nat.pow_add, ← Nat.pow_add]
          congr 2; omega
        exact Nat.le_of_mul_le_mul_right h6 (Nat.two_pow_pos _)
      calc _ ≤ c * 2 ^ ((j : Int) - last).toNat * 2 ^ (last + 1100).toNat := Nat.mul_le_mul_right _ hq
        _ = _ := by rw [Nat.mul_assoc, ← Nat.pow_add]; congr 2; omega
  -- the rung
  obtain ⟨L, hLd⟩ : ∃ L : Nat, L = (last - f.leastPlace).toNat := ⟨_, rfl⟩
  have hrl : L * f.binade + kept < f.infRung := by
    have : L + 3 < 2 ^ f.exponentBits := by omega
    unfold Format.infRung
    have h7 : L * f.binade + kept ≤ (L + 2) * f.binade := by rw [Nat.add_mul]; omega
    have h8 : (L + 2) * f.binade < (2 ^ f.exponentBits - 1) * f.binade := Nat.mul_lt_mul_of_pos_right (by omega) hb
    omega
  have hn : f.nearest neg mag place = f.word neg (L * f.binade + kept) := by
    unfold Format.nearest
    rw [if_neg hm]
    simp only [← hlast, ← hkept, ← hLd]
    rw [Nat.min_eq_left (Nat.le_of_lt hrl)]
  obtain ⟨e1, e2⟩ := word_read (L * f.binade + kept) (by omega)
  rw [hn]
  simp only [Format.read, e1, e2]
  by_cases hs : L * f.binade + kept < f.binade
  · rw [if_pos hs]
    have hL0 : L = 0 := by
      apply Classical.byContradiction
      intro h0
      have : f.binade ≤ L * f.binade := Nat.le_mul_of_pos_left _ (by omega)
      omega
    have : last = f.leastPlace := by omega
    refine ⟨_, _, rfl, hlp0, ?_⟩
    rw [hL0, Nat.zero_mul, Nat.zero_add, ← this]
    exact hsize
  · rw [if_neg hs, if_pos hrl]
    have hkb2 : f.binade ≤ kept := by
      by_cases h0 : f.leastPlace < last
      · exact hkl h0
      · have : L = 0 := by omega
        rw [this] at hs; omega
    by_cases h2 : kept = 2 * f.binade
    · have e3 : L * f.binade + kept = (L + 2) * f.binade := by rw [Nat.add_mul, h2]
      refine ⟨_, _, rfl, by omega, ?_⟩
      rw [e3, Nat.mul_mod_left, Nat.mul_div_cancel _ hb]
      have e4 : f.leastPlace + ((L + 2 - 1 : Nat) : Int) = last + 1 := by omega
      rw [e4]
      refine Nat.le_trans (Nat.le_of_eq ?_) hsize
      have e5 : (last + 1 + 1100).toNat = (last + 1100).toNat + 1 := by omega
      simp only [mg]
      rw [e5, h2, Nat.pow_succ, Nat.add_zero, Nat.mul_comm (2 ^ _) 2, ← Nat.mul_assoc, Nat.mul_comm f.binade 2]
    · have e3 : (L * f.binade + kept) / f.binade = L + 1 := by
        rw [Nat.add_comm, Nat.mul_comm, Nat.add_mul_div_left _ _ hb]
        have : kept / f.binade = 1 := by
          apply Nat.div_eq_of_lt_le <;> omega
        omega
      have e6 : (L * f.binade + kept) % f.binade = kept - f.binade := by
        rw [Nat.add_comm, Nat.mul_comm, Nat.add_mul_mod_self_left, Nat.mod_eq_sub_mod hkb2, Nat.mod_eq_of_lt (by omega)]
      refine ⟨_, _, rfl, by omega, ?_⟩
      rw [e3, e6]
      have e4 : f.leastPlace + ((L + 1 - 1 : Nat) : Int) = last := by omega
      have e7 : f.binade + (kept - f.binade) = kept := by omega
      rw [e4, e7]
      exact hsize
end Go.Proofs.YtnggkkdcddpjlaaGreatDoor
