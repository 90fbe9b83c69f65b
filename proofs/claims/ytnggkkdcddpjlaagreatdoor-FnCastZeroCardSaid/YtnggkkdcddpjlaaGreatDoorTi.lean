/- A text of at most 400 bytes read as an integer: it always answers. No program is read. -/
import Derived.Test.YtnggkkdcddpjlaaGreatDoorPi
import Derived.Test.YtnggkkdcddpjlaaGreatDoorTg
namespace Go.Proofs.YtnggkkdcddpjlaaGreatDoor
set_option linter.unusedVariables false
set_option linter.unusedSimpArgs false
open Go.RowKit
theorem dgL_some (s : ByteArray) : ∀ f i, i ≤ s.size → s.size - i < f → ∃ j, dgL s f i = some j ∧ j ≤ s.size := by
  intro f
  induction f with
  | zero => intro i _ h; omega
  | succ f ih =>
    intro i hi hf
    rw [dgL]
    by_cases c : i < s.size
    · rw [if_pos c]
      by_cases c1 : 48 ≤ sb s i
      · rw [if_pos c1]
        by_cases c2 : sb s i ≤ 57
        · rw [if_pos c2]; exact ih (i + 1) (by omega) (by omega)
        · rw [if_neg c2]; exact ⟨i, rfl, hi⟩
      · rw [if_neg c1]; exact ⟨i, rfl, hi⟩
    · rw [if_neg c]; exact ⟨i, rfl, hi⟩
theorem nbF_some (s : ByteArray) (f : Nat) (hf : s.size < f) : ∃ r ok, nbF f s = some (r, ok) := by
  unfold nbF
  have hG : nbG s = true → 0 < s.size := by
    intro e; unfold nbG at e; rw [Bool.and_eq_true] at e; exact of_decide_eq_true e.1
  have h0 : (if nbG s = true then 1 else 0) ≤ s.size := by
    split
    · rename_i h; have := hG h; omega
    · omega
  obtain ⟨j, e, hj⟩ := dgL_some s f _ h0 (by omega)
  rw [e]; dsimp only [Option.bind_some]
  rw [if_pos hj]
  by_cases c : nbP s j = true
  · rw [if_pos c]
    have hj2 : j < s.size := by
      unfold nbP at c; rw [Bool.and_eq_true] at c; exact of_decide_eq_true c.1
    obtain ⟨k, e2, _⟩ := dgL_some s f (j + 1) (by omega) (by omega)
    rw [e2]; exact ⟨_, _, rfl⟩
  · rw [if_neg c]; exact ⟨_, _, rfl⟩
theorem tdW_size (r : ByteArray) : (tdW r).size ≤ r.size + 1 := by
  unfold tdW
  repeat' split
  all_goals (try simp only [ByteArray.size_append])
  all_goals (try (show _ ≤ _; decide))
  all_goals first | omega | skip
  all_goals (have : (ByteArray.mk #[48]).size = 1 := rfl; omega)
theorem tdF_some (s : ByteArray) (f : Nat) (hf : s.size < f) : ∃ r, tdF f s = some r ∧ r.size ≤ s.size + 1 := by
  unfold tdF
  by_cases c : dotF s = true
  · rw [if_pos c]
    obtain ⟨r, ok, e⟩ := nbF_some s f hf
    rw [e]; dsimp only [Option.bind_some]
    refine ⟨_, rfl, ?_⟩
    have h1 := nbF_size f s r ok e
    have h2 := tdW_size r
    split <;> omega
  · rw [if_neg c]; exact ⟨s, rfl, by omega⟩
theorem puL_some (s : ByteArray) (b : Nat) (cut : Int) : ∀ f i n us, s.size - i < f → ∃ v k u, puL s b cut f i n us = some (v, k, u) ∧ k ≤ 2 := by
  intro f
  induction f with
  | zero => intro i n us h; omega
  | succ f ih =>
    intro i n us hf
    rw [puL]
    by_cases c : i < s.size
    · rw [if_pos c]
      by_cases c1 : sb s i = 95
      · rw [if_pos c1]; exact ih (i + 1) _ _ (by omega)
      · rw [if_neg c1]
        cases puD (sb s i) with
        | none => exact ⟨_, _, _, rfl, by omega⟩
        | some d =>
          dsimp only
          by_cases c2 : (b : Int) ≤ d
          · rw [if_pos c2]; exact ⟨_, _, _, rfl, by omega⟩
          rw [if_neg c2]
          by_cases c3 : cut ≤ n
          · rw [if_pos c3]; exact ⟨_, _, _, rfl, by omega⟩
          rw [if_neg c3]
          by_cases c4 : IntKind.u64.wrap (IntKind.u64.wrap (n * b) + d) < IntKind.u64.wrap (n * b)
          · rw [if_pos c4]; exact ⟨_, _, _, rfl, by omega⟩
          · rw [if_neg c4]; exact ih (i + 1) _ _ (by omega)
    · rw [if_neg c]; exact ⟨_, _, _, rfl, by omega⟩
theorem puF_some (s : ByteArray) (f : Nat) (hf : s.size < f) : ∃ v k, puF f s = some (v, k) := by
  unfold puF
  by_cases c : s.size = 0
  · rw [if_pos c]; exact ⟨_, _, rfl⟩
  rw [if_neg c]
  have := puB_size s
  obtain ⟨v, k, u, e, hk⟩ := puL_some (puB s).2 (puB s).1 (puC (puB s).1) f 0 0 false (by omega)
  rw [e]; dsimp only [Option.bind_some]
  by_cases c0 : k = 0
  · rw [if_pos c0]
    by_cases c1 : u = true
    · rw [if_pos c1]
      obtain ⟨b, e2⟩ := uoF_some f s hf
      rw [e2]; exact ⟨_, _, rfl⟩
    · rw [if_neg c1]; exact ⟨_, _, rfl⟩
  rw [if_neg c0]
  by_cases c1 : k = 1
  · rw [if_pos c1]; exact ⟨_, _, rfl⟩
  · rw [if_neg c1, if_pos (by omega)]; exact ⟨_, _, rfl⟩
theorem piF_some (s : ByteArray) (f : Nat) (hf : s.size < f) : ∃ v k, piF f s = some (v, k) := by
  unfold piF
  by_cases c : s.size = 0
  · rw [if_pos c]; exact ⟨_, _, rfl⟩
  rw [if_neg c]
  have hz : (piS s).size ≤ s.size := by
    unfold piS; repeat' split
    all_goals (try simp only [ByteArray.size_extract])
    all_goals omega
  obtain ⟨v, k, e⟩ := puF_some (piS s) f (by omega)
  rw [e]; dsimp only [Option.bind_some]
  repeat' split
  all_goals exact ⟨_, _, rfl⟩
theorem tlL_some (s : ByteArray) : ∀ f i, s.size - i < f → ∃ r, tlL s f i = some r ∧ r.size ≤ s.size := by
  intro f
  induction f with
  | zero => intro i h; omega
  | succ f ih =>
    intro i hf
    rw [tlL]
    by_cases c : i < s.size
    · rw [if_pos c]
      by_cases c1 : sb s i = 43
      · rw [if_pos c1]; exact ih (i + 1) (by omega)
      · rw [if_neg c1]; exact ⟨_, rfl, by simp only [ByteArray.size_extract]; omega⟩
    · rw [if_neg c]; exact ⟨_, rfl, Nat.zero_le _⟩
theorem ikF_z (a : Int × Nat) : (ikF a).2 = true → (ikF a).1 = 0 := by
  unfold ikF; split <;> simp
theorem cpiF_some (s : ByteArray) (f : Nat) (hs : s.size ≤ 900) (hf : 1000 < f) : ∃ v bad, cpiF f s = some (v, bad) := by
  unfold cpiF
  obtain ⟨t, e, h⟩ := tdF_some s f (by omega)
  rw [e]; dsimp only [Option.bind_some]
  rw [if_pos (by omega)]
  obtain ⟨v, k, e2⟩ := piF_some t f (by omega)
  rw [e2]; exact ⟨_, _, rfl⟩
theorem cpuF_some (s : ByteArray) (f : Nat) (hs : s.size ≤ 900) (hf : 1000 < f) : ∃ v bad, cpuF f s = some (v, bad) := by
  unfold cpuF
  obtain ⟨t, e, h⟩ := tdF_some s f (by omega)
  rw [e]; dsimp only [Option.bind_some]
  rw [if_pos (by omega)]
  obtain ⟨u, e3, h3⟩ := tlL_some t f 0 (by omega)
  rw [e3]; dsimp only [Option.bind_some]
  rw [if_pos (by omega)]
  obtain ⟨v, k, e2⟩ := puF_some u f (by omega)
  rw [e2]; exact ⟨_, _, rfl⟩
end Go.Proofs.YtnggkkdcddpjlaaGreatDoor
