/- decimal: the left shift answers for every decimal that is no zero: the cheat table tells how many digits are new. No program is read. -/
import Derived.Test.YtnggkkdcddpjlaaGreatDoorTd
namespace Go.Proofs.YtnggkkdcddpjlaaGreatDoor
set_option linter.unusedVariables false
set_option linter.unusedSimpArgs false
open Go.RowKit
/-- The number that the first digits tell. -/
def pv (dg : Nat → Nat) : Nat → Nat
  | 0 => 0
  | i + 1 => pv dg i * 10 + (dg i - 48)
/-- The number that the last c digits of nd tell. -/
def sv (dg : Nat → Nat) (nd : Nat) : Nat → Nat
  | 0 => 0
  | c + 1 => (dg (nd - 1 - c) - 48) * 10 ^ c + sv dg nd c
theorem pv_split (dg : Nat → Nat) (nd : Nat) : ∀ c, c ≤ nd → pv dg nd = pv dg (nd - c) * 10 ^ c + sv dg nd c := by
  intro c
  induction c with
  | zero => intro _; simp [sv]
  | succ c ih =>
    intro h
    rw [ih (by omega)]
    have e : nd - c = (nd - (c + 1)) + 1 := by omega
    rw [e, pv, sv]
    have e2 : nd - 1 - c = nd - (c + 1) := by omega
    rw [e2, Nat.add_mul, Nat.pow_succ, Nat.mul_assoc, Nat.mul_comm 10 (10 ^ c), Nat.add_assoc]
theorem pv_sv (dg : Nat → Nat) (nd : Nat) : pv dg nd = sv dg nd nd := by
  rw [pv_split dg nd nd (Nat.le_refl _)]; simp [pv]
theorem pv_low (dg : Nat → Nat) (i : Nat) : ∀ j, pv dg i * 10 ^ j ≤ pv dg (i + j) := by
  intro j
  induction j with
  | zero => simp
  | succ j ih => rw [← Nat.add_assoc, pv, Nat.pow_succ, ← Nat.mul_assoc]; omega
theorem pv_high (dg : Nat → Nat) (i : Nat) : ∀ j, (∀ m, m < i + j → dg m ≤ 57) → pv dg (i + j) < (pv dg i + 1) * 10 ^ j := by
  intro j
  induction j with
  | zero => intro _; simp
  | succ j ih =>
    intro h
    have h1 := ih (fun m hm => h m (by omega))
    have h2 := h (i + j) (by omega)
    rw [← Nat.add_assoc, pv, Nat.pow_succ, ← Nat.mul_assoc]; omega
theorem pv_low' (dg : Nat → Nat) {i n : Nat} (h : i ≤ n) : pv dg i * 10 ^ (n - i) ≤ pv dg n := by
  have := pv_low dg i (n - i)
  rwa [show i + (n - i) = n from by omega] at this
theorem pv_high' (dg : Nat → Nat) {i n : Nat} (h : i ≤ n) (hd : ∀ m, m < n → dg m ≤ 57) : pv dg n < (pv dg i + 1) * 10 ^ (n - i) := by
  have := pv_high dg i (n - i) (fun m hm => hd m (by omega))
  rwa [show i + (n - i) = n from by omega] at this
theorem pw_add {a b c : Nat} (h : a + b = c) : 10 ^ a * 10 ^ b = 10 ^ c := by rw [← Nat.pow_add, h]
theorem plT_some (dg : Nat → Nat) (nd : Nat) (s : ByteArray) (hd : ∀ i, i < nd → 48 ≤ dg i ∧ dg i ≤ 57) (hs : ∀ i, i < s.size → 48 ≤ sb s i ∧ sb s i ≤ 57)
    (hl : ∀ i, i < s.size → pv (sb s) i * 10 ^ (s.size - i) < pv (sb s) s.size) : ∀ f i, i ≤ nd → i ≤ s.size → pv dg i = pv (sb s) i → s.size - i < f →
    ∃ b, plT dg nd s f i = some b ∧ (b = true → pv dg nd * 10 ^ s.size < pv (sb s) s.size * 10 ^ nd) ∧ (b = false → pv (sb s) s.size * 10 ^ nd ≤ pv dg nd * 10 ^ s.size) := by
  intro f
  induction f with
  | zero => intro i _ _ _ h; omega
  | succ f ih =>
    intro i h1 h2 he hf
    have t0 : ∀ n, 0 < 10 ^ n := fun n => Nat.pow_pos (by omega)
    rw [plT]
    by_cases c1 : i < s.size
    · rw [if_pos c1]
      by_cases c2 : nd ≤ i
      · obtain rfl : nd = i := by omega
        rw [if_pos c2]
        refine ⟨true, rfl, fun _ => ?_, fun h => by cases h⟩
        have h3 := Nat.mul_lt_mul_of_pos_right (hl nd c1) (t0 nd)
        rwa [Nat.mul_assoc, pw_add (show s.size - nd + nd = s.size by omega), ← he] at h3
      · rw [if_neg c2]
        obtain ⟨d1, d2⟩ := hd i (by omega)
        obtain ⟨s1, s2⟩ := hs i c1
        by_cases c3 : dg i = sb s i
        · rw [if_pos c3]
          exact ih (i + 1) (by omega) (by omega) (by rw [pv, pv, he, c3]) (by omega)
        · rw [if_neg c3]
          refine ⟨_, rfl, fun h => ?_, fun h => ?_⟩
          · have h4 := of_decide_eq_true h
            have h5 : pv dg (i + 1) + 1 ≤ pv (sb s) (i + 1) := by rw [pv, pv, he]; omega
            have h6 := pv_high' dg (show i + 1 ≤ nd by omega) (fun m hm => (hd m hm).2)
            have h7 := pv_low' (sb s) (show i + 1 ≤ s.size by omega)
            calc pv dg nd * 10 ^ s.size < (pv dg (i + 1) + 1) * 10 ^ (nd - (i + 1)) * 10 ^ s.size := Nat.mul_lt_mul_of_pos_right h6 (t0 _)
              _ ≤ pv (sb s) (i + 1) * 10 ^ (nd - (i + 1)) * 10 ^ s.size := Nat.mul_le_mul_right _ (Nat.mul_le_mul_right _ h5)
              _ = pv (sb s) (i + 1) * 10 ^ (s.size - (i + 1)) * 10 ^ nd := by
                rw [Nat.mul_assoc, Nat.mul_assoc, ← Nat.pow_add, ← Nat.pow_add]; congr 2; omega
              _ ≤ _ := Nat.mul_le_mul_right _ h7
          · have h4 := of_decide_eq_false h
            have h5 : pv (sb s) (i + 1) + 1 ≤ pv dg (i + 1) := by rw [pv, pv, he]; omega
            have h6 := pv_high' (sb s) (show i + 1 ≤ s.size by omega) (fun m hm => (hs m hm).2)
            have h7 := pv_low' dg (show i + 1 ≤ nd by omega)
            refine Nat.le_of_lt ?_
            calc pv (sb s) s.size * 10 ^ nd < (pv (sb s) (i + 1) + 1) * 10 ^ (s.size - (i + 1)) * 10 ^ nd := Nat.mul_lt_mul_of_pos_right h6 (t0 _)
              _ ≤ pv dg (i + 1) * 10 ^ (s.size - (i + 1)) * 10 ^ nd := Nat.mul_le_mul_right _ (Nat.mul_le_mul_right _ h5)
              _ = pv dg (i + 1) * 10 ^ (nd - (i + 1)) * 10 ^ s.size := by
                rw [Nat.mul_assoc, Nat.mul_assoc, ← Nat.pow_add, ← Nat.pow_add]; congr 2; omega
              _ ≤ _ := Nat.mul_le_mul_right _ h7
    · rw [if_neg c1]
      obtain rfl : i = s.size := by omega
      refine ⟨false, rfl, fun h => (by cases h), fun _ => ?_⟩
      rw [← he]
      have h7 := Nat.mul_le_mul_right (10 ^ s.size) (pv_low' dg h1)
      rwa [Nat.mul_assoc, pw_add (show nd - s.size + s.size = nd by omega)] at h7
theorem lc_tab : ∀ k, k < 61 → 1 ≤ k → (lcS k).size ≤ 50 ∧ (∀ i, i < (lcS k).size → 48 ≤ sb (lcS k) i ∧ sb (lcS k) i ≤ 57) ∧
    (∀ i, i < (lcS k).size → pv (sb (lcS k)) i * 10 ^ ((lcS k).size - i) < pv (sb (lcS k)) (lcS k).size) ∧ pv (sb (lcS k)) (lcS k).size = 5 ^ k ∧
    (lcS k).size + lcD k = k + 1 ∧ 10 ^ lcD k ≤ 2 ^ k * 10 ∧ 2 ^ k < 10 ^ lcD k ∧ 1 ≤ lcD k ∧ lcD k ≤ 19 := by decide +kernel
theorem sv_step (dg : Nat → Nat) (nd c k : Nat) : sv dg nd (c + 1) * 2 ^ k / 10 ^ c = sv dg nd c * 2 ^ k / 10 ^ c + (dg (nd - 1 - c) - 48) * 2 ^ k := by
  have t0 : 0 < 10 ^ c := Nat.pow_pos (by omega)
  rw [sv, Nat.add_mul, show (dg (nd - 1 - c) - 48) * 10 ^ c * 2 ^ k = 10 ^ c * ((dg (nd - 1 - c) - 48) * 2 ^ k) from by
    rw [Nat.mul_comm (dg (nd - 1 - c) - 48) (10 ^ c), Nat.mul_assoc], Nat.add_comm, Nat.add_mul_div_left _ _ t0]
theorem ls1_some (k nd δ : Nat) (dg0 : Nat → Nat) (hd : ∀ i, i < nd → 48 ≤ dg0 i ∧ dg0 i ≤ 57) (h8 : nd ≤ 800) (hk : k ≤ 60) :
    ∀ f r n dg t, r ≤ nd → n = sv dg0 nd (nd - r) * 2 ^ k / 10 ^ (nd - r) → n < 2 ^ k → (∀ i, i < r → dg i = dg0 i) →
    (∀ i, r + δ ≤ i → i < nd + δ → i < 800 → 48 ≤ dg i ∧ dg i ≤ 57) → r < f →
    ∃ n' dg' t', ls1 k f r (r + δ) n dg t = some (δ, n', dg', t') ∧ n' = sv dg0 nd nd * 2 ^ k / 10 ^ nd ∧ n' < 2 ^ k ∧ (∀ i, δ ≤ i → i < nd + δ → i < 800 → 48 ≤ dg' i ∧ dg' i ≤ 57) ∧
      (0 < r → δ = 0 → dg' 0 = sv dg0 nd nd * 2 ^ k / 10 ^ (nd - 1) % 10 + 48) ∧ (r = 0 → dg' = dg) := by
  intro f
  induction f with
  | zero => intro r n dg t _ _ _ _ _ h; omega
  | succ f ih =>
    intro r n dg t hr hn hnk hdg hin hf
    rw [ls1]
    by_cases h : 0 < r
    · have e0 := hdg (r - 1) (by omega)
      obtain ⟨d1, d2⟩ := hd (r - 1) (by omega)
      have hk60 : 2 ^ k ≤ 1152921504606846976 := by
        calc 2 ^ k ≤ 2 ^ 60 := Nat.pow_le_pow_right (by omega) hk
          _ = _ := by decide
      rw [if_pos h, if_pos (by omega), if_pos (by omega), if_pos (by omega), if_pos (by omega), if_pos (by omega), e0]
      have hq : n + (dg0 (r - 1) - 48) * 2 ^ k = sv dg0 nd (nd - r + 1) * 2 ^ k / 10 ^ (nd - r) := by
        rw [sv_step, ← hn, show nd - 1 - (nd - r) = r - 1 from by omega]
      generalize hqq : n + (dg0 (r - 1) - 48) * 2 ^ k = q at *
      have h9 : (dg0 (r - 1) - 48) * 2 ^ k ≤ 9 * 2 ^ k := Nat.mul_le_mul_right _ (by omega)
      have hq2 : q / 10 < 2 ^ k := by omega
      have hn' : q / 10 = sv dg0 nd (nd - (r - 1)) * 2 ^ k / 10 ^ (nd - (r - 1)) := by
        rw [hq, show nd - (r - 1) = nd - r + 1 from by omega, Nat.div_div_eq_div_mul, Nat.pow_succ]
      have hv : r + δ - 1 = r - 1 + δ := by omega
      rw [hv]
      have hlast : r = 1 → q = sv dg0 nd nd * 2 ^ k / 10 ^ (nd - 1) := by
        intro e; subst e; rw [hq, show nd - 1 + 1 = nd from by omega]
      by_cases hw : r - 1 + δ < 800
      · rw [if_pos hw]
        obtain ⟨n', dg', t', e, a, b, c, d, g⟩ := ih (r - 1) (q / 10) (dput dg (r - 1 + δ) (q % 10 + 48)) t (by omega) hn' hq2
          (fun i hi => by
            have : i ≠ r - 1 + δ := by omega
            simp only [dput, if_neg this]; exact hdg i (by omega))
          (fun i hi hi2 hi3 => by
            by_cases e : i = r - 1 + δ
            · simp only [dput, if_pos e]; omega
            · simp only [dput, if_neg e]; exact hin i (by omega) hi2 hi3) (by omega)
        refine ⟨n', dg', t', e, a, b, c, fun _ hδ => ?_, fun e => by omega⟩
        by_cases hr1 : r = 1
        · rw [g (by omega), ← hlast hr1]
          simp only [dput]; rw [if_pos (by omega)]
        · exact d (by omega) hδ
      · rw [if_neg hw]
        have key : ∀ t, ∃ n' dg' t', ls1 k f (r - 1) (r - 1 + δ) (q / 10) dg t = some (δ, n', dg', t') ∧ n' = sv dg0 nd nd * 2 ^ k / 10 ^ nd ∧ n' < 2 ^ k ∧ (∀ i, δ ≤ i → i < nd + δ → i < 800 → 48 ≤ dg' i ∧ dg' i ≤ 57) ∧
            (0 < r → δ = 0 → dg' 0 = sv dg0 nd nd * 2 ^ k / 10 ^ (nd - 1) % 10 + 48) ∧ (r = 0 → dg' = dg) := by
          intro t
          obtain ⟨n', dg', t', e, a, b, c, d, g⟩ := ih (r - 1) (q / 10) dg t (by omega) hn' hq2 (fun i hi => hdg i (by omega))
            (fun i hi hi2 hi3 => hin i (by omega) hi2 hi3) (by omega)
          exact ⟨n', dg', t', e, a, b, c, fun _ hδ => by omega, fun e => by omega⟩
        by_cases hz : q % 10 = 0
        · rw [if_pos hz]; exact key t
        · rw [if_neg hz]; exact key true
    · obtain rfl : r = 0 := by omega
      rw [if_neg h]
      refine ⟨n, dg, t, by simp, by simpa using hn, hnk, fun i hi hi2 hi3 => hin i (by omega) hi2 hi3, fun h0 => absurd h0 h, fun _ => rfl⟩
theorem ls2_some (N : Nat) : ∀ f v n dg t, n < 1152921504606846976 → n < 10 ^ v → (v = 0 ∨ 10 ^ v ≤ n * 10) → v ≤ 700 →
    (∀ i, v ≤ i → i < N → i < 800 → 48 ≤ dg i ∧ dg i ≤ 57) → v < f →
    ∃ dg' t', ls2 f v n dg t = some (dg', t') ∧ (∀ i, i < N → i < 800 → 48 ≤ dg' i ∧ dg' i ≤ 57) ∧ (0 < v → dg' 0 ≠ 48) ∧ (v = 0 → dg' = dg) := by
  intro f
  induction f with
  | zero => intro v n dg t _ _ _ _ _ h; omega
  | succ f ih =>
    intro v n dg t h6 hv hl hv8 hin hf
    rw [ls2]
    by_cases h : 0 < n
    · have hv1 : 1 ≤ v := by
        apply Nat.le_of_not_lt
        intro hlt
        obtain rfl : v = 0 := by omega
        simp at hv; omega
      obtain ⟨u, rfl⟩ : ∃ u, v = u + 1 := ⟨v - 1, by omega⟩
      rw [if_pos h, if_pos h6, if_pos hv1, Nat.add_sub_cancel, if_pos (by omega)]
      have hp := Nat.pow_succ (n := 10) (m := u)
      have hl' : 10 ^ u ≤ n := by omega
      have hstep : u = 0 ∨ 10 ^ u ≤ n / 10 * 10 := by
        by_cases hu : u = 0
        · exact Or.inl hu
        · right
          obtain ⟨z, rfl⟩ : ∃ z, u = z + 1 := ⟨u - 1, by omega⟩
          have hp2 := Nat.pow_succ (n := 10) (m := z)
          omega
      obtain ⟨dg', t', e, a, b, c⟩ := ih u (n / 10) (dput dg u (n % 10 + 48)) t (by omega) (by omega) hstep (by omega)
        (fun i hi hi2 hi3 => by
          by_cases e : i = u
          · simp only [dput, if_pos e]; omega
          · simp only [dput, if_neg e]; exact hin i (by omega) hi2 hi3) (by omega)
      refine ⟨dg', t', e, a, fun _ => ?_, fun e => by omega⟩
      by_cases hu : u = 0
      · subst hu
        rw [c rfl]
        simp only [dput, if_pos]
        simp at hv hl'
        omega
      · exact b (by omega)
    · obtain rfl : n = 0 := by omega
      have hv0 : v = 0 := by
        rcases hl with h | h
        · exact h
        · have : 0 < 10 ^ v := Nat.pow_pos (by omega)
          omega
      subst hv0
      rw [if_neg h]
      exact ⟨dg, t, rfl, fun i hi hi2 => hin i (by omega) hi hi2, fun h => by omega, fun _ => rfl⟩
theorem lshF_some (k : Nat) (x : Dec) (hx : DOK x) (hk1 : 1 ≤ k) (hk : k ≤ 60) (h1 : -1000000000 ≤ x.dp) (h2 : x.dp ≤ 1000000000) (f : Nat) (hf : 2000 < f) :
    ∃ y, lshF f k x = some y ∧ DOK y ∧ ∃ t : Nat, y.dp = x.dp + t ∧ t ≤ 19 ∧ (t = 0 → x.dg 0 < y.dg 0) := by
  obtain ⟨L1, L2, L3, L4, L5, L6, L7, L8, L9⟩ := lc_tab k (by omega) hk1
  have n1 := hx.n1
  have n8 := hx.n8
  obtain ⟨z1, z2⟩ := hx.d 0 (by omega)
  have z := hx.z
  have t0 : ∀ n, 0 < 10 ^ n := fun n => Nat.pow_pos (by omega)
  have w0 : 0 < 2 ^ k := Nat.two_pow_pos _
  obtain ⟨less, hp, hp1, hp2⟩ := plT_some x.dg x.nd (lcS k) hx.d L2 L3 f 0 (by omega) (by omega) rfl (by omega)
  rw [L4] at hp1 hp2
  have D1 : (x.dg 0 - 48) * 10 ^ (x.nd - 1) ≤ pv x.dg x.nd := by
    have := pv_low' x.dg n1
    simpa [pv] using this
  have D2 : pv x.dg x.nd < 10 ^ x.nd := by
    have := pv_high' x.dg (Nat.zero_le x.nd) (fun m hm => (hx.d m hm).2)
    simpa [pv] using this
  have D3 : 10 ^ (x.nd - 1) ≤ pv x.dg x.nd := by
    refine Nat.le_trans ?_ D1
    exact Nat.le_mul_of_pos_left _ (by omega)
  have hten : (10 : Nat) ^ k = 5 ^ k * 2 ^ k := by rw [← Nat.mul_pow]
  obtain ⟨δ, hδ⟩ : ∃ δ, δ = lcD k - (if less then 1 else 0) := ⟨_, rfl⟩
  have key : pv x.dg x.nd * 2 ^ k < 10 ^ (x.nd + δ) ∧ 10 ^ (x.nd + δ) ≤ pv x.dg x.nd * 2 ^ k * 10 := by
    generalize pv x.dg x.nd = D at *
    cases less
    · have hp2 := hp2 rfl
      obtain rfl : δ = lcD k := by simpa using hδ
      refine ⟨?_, ?_⟩
      · rw [Nat.pow_add]
        exact Nat.mul_lt_mul_of_lt_of_lt D2 L7
      · have h3 := Nat.mul_le_mul_right (2 ^ k) hp2
        have e1 : 5 ^ k * 10 ^ x.nd * 2 ^ k = 10 ^ (x.nd + lcD k - 1) * 10 ^ (lcS k).size := by
          rw [pw_add (show x.nd + lcD k - 1 + (lcS k).size = k + x.nd by omega), Nat.pow_add, hten]
          simp [Nat.mul_assoc, Nat.mul_comm, Nat.mul_left_comm]
        have e2 : D * 10 ^ (lcS k).size * 2 ^ k = D * 2 ^ k * 10 ^ (lcS k).size := by simp [Nat.mul_assoc, Nat.mul_comm, Nat.mul_left_comm]
        rw [e1, e2] at h3
        have h4 := Nat.le_of_mul_le_mul_right h3 (t0 _)
        rw [show x.nd + lcD k = x.nd + lcD k - 1 + 1 from by omega, Nat.pow_succ]
        omega
    · have hp1 := hp1 rfl
      have hδ' : δ + 1 = lcD k := by
        have : δ = lcD k - 1 := by simpa using hδ
        omega
      refine ⟨?_, ?_⟩
      · have h3 := Nat.mul_lt_mul_of_pos_right hp1 w0
        have e1 : 5 ^ k * 10 ^ x.nd * 2 ^ k = 10 ^ (x.nd + δ) * 10 ^ (lcS k).size := by
          rw [pw_add (show x.nd + δ + (lcS k).size = k + x.nd by omega), Nat.pow_add, hten]
          simp [Nat.mul_assoc, Nat.mul_comm, Nat.mul_left_comm]
        have e2 : D * 10 ^ (lcS k).size * 2 ^ k = D * 2 ^ k * 10 ^ (lcS k).size := by simp [Nat.mul_assoc, Nat.mul_comm, Nat.mul_left_comm]
        rw [e1, e2] at h3
        exact Nat.lt_of_mul_lt_mul_right h3
      · rw [show x.nd + δ = x.nd - 1 + lcD k from by omega, Nat.pow_add, Nat.mul_assoc]
        exact Nat.mul_le_mul D3 L6
  obtain ⟨K1, K2⟩ := key
  obtain ⟨n', dg1, t1, e1, a1, b1, c1, d1, _⟩ := ls1_some k x.nd δ x.dg hx.d n8 hk f x.nd 0 x.dg x.trunc (Nat.le_refl _) (by simp [sv]) w0 (fun _ _ => rfl) (fun i hi hi2 => by omega) (by omega)
  rw [← pv_sv] at a1 d1
  have hk60 : 2 ^ k ≤ 1152921504606846976 := by
    calc 2 ^ k ≤ 2 ^ 60 := Nat.pow_le_pow_right (by omega) hk
      _ = _ := by decide
  have N1 : n' < 10 ^ δ := by
    rw [a1, Nat.div_lt_iff_lt_mul (t0 _), ← Nat.pow_add, Nat.add_comm]; exact K1
  have N2 : δ = 0 ∨ 10 ^ δ ≤ n' * 10 := by
    by_cases h0 : δ = 0
    · exact Or.inl h0
    · right
      obtain ⟨u, rfl⟩ : ∃ u, δ = u + 1 := ⟨δ - 1, by omega⟩
      have : 10 ^ u ≤ n' := by
        rw [a1, Nat.le_div_iff_mul_le (t0 _), ← Nat.pow_add]
        rw [← Nat.add_assoc, Nat.pow_succ] at K2
        rw [Nat.add_comm u]
        omega
      rw [Nat.pow_succ]; omega
  obtain ⟨dg2, t2, e2, a2, b2, c2⟩ := ls2_some (x.nd + δ) f δ n' dg1 t1 (by omega) N1 N2 (by omega) (fun i hi hi2 hi3 => c1 i hi hi2 hi3) (by omega)
  have hz : dg2 0 ≠ 48 ∧ (δ = 0 → x.dg 0 < dg2 0) := by
    by_cases h0 : δ = 0
    · have hlo : (x.dg 0 - 48) * 2 ^ k ≤ pv x.dg x.nd * 2 ^ k / 10 ^ (x.nd - 1) := by
        rw [Nat.le_div_iff_mul_le (t0 _)]
        have := Nat.mul_le_mul_right (2 ^ k) D1
        rw [Nat.mul_assoc, Nat.mul_comm (2 ^ k), ← Nat.mul_assoc]; exact this
      have hhi : pv x.dg x.nd * 2 ^ k / 10 ^ (x.nd - 1) < 10 := by
        rw [Nat.div_lt_iff_lt_mul (t0 _)]
        have e5 : 10 ^ (x.nd + δ) = 10 * 10 ^ (x.nd - 1) := by
          rw [Nat.mul_comm, ← Nat.pow_succ]; congr 1; omega
        rw [← e5]; exact K1
      have h2k : 2 ≤ 2 ^ k := by
        calc 2 = 2 ^ 1 := rfl
          _ ≤ _ := Nat.pow_le_pow_right (by omega) hk1
      have hlo2 : (x.dg 0 - 48) * 2 ≤ (x.dg 0 - 48) * 2 ^ k := Nat.mul_le_mul_left _ h2k
      have e3 : dg2 0 = pv x.dg x.nd * 2 ^ k / 10 ^ (x.nd - 1) + 48 := by
        rw [c2 h0, d1 (by omega) h0, Nat.mod_eq_of_lt hhi]
      rw [e3]
      exact ⟨by omega, fun _ => by omega⟩
    · exact ⟨b2 (by omega), fun h => absurd h h0⟩
  have hlim : (if 800 ≤ x.nd + δ then 800 else x.nd + δ) ≤ 800 ∧ 1 ≤ (if 800 ≤ x.nd + δ then 800 else x.nd + δ) ∧ (if 800 ≤ x.nd + δ then 800 else x.nd + δ) ≤ x.nd + δ := by
    by_cases h : 800 ≤ x.nd + δ
    · simp only [if_pos h]; omega
    · simp only [if_neg h]; omega
  obtain ⟨m, e4, a4, b4⟩ := trimL_some dg2 hz.1 f (if 800 ≤ x.nd + δ then 800 else x.nd + δ) hlim.2.1 hlim.1 (by omega)
  refine ⟨⟨dg2, m, x.dp + ((δ : Nat) : Int), x.neg, t2⟩, ?_, ⟨a4, Nat.le_trans b4 hlim.1, fun i hi => a2 i (by dsimp only at hi; omega) (by dsimp only at hi; omega), hz.1⟩, δ, rfl, by omega, hz.2⟩
  unfold lshF
  rw [if_pos n8, if_pos (by omega), if_pos L8, if_pos (by omega), if_pos h1, if_pos h2, hp]
  dsimp only [Option.bind_some]
  rw [← hδ, e1]; dsimp only [Option.bind_some]
  rw [e2]; dsimp only [Option.bind_some]
  rw [e4]; dsimp only [Option.bind_some]
  rw [if_neg (by omega)]
end Go.Proofs.YtnggkkdcddpjlaaGreatDoor
