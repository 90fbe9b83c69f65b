/- ParseFloat: what it answers. -/
import Derived.Test.YtnggkkdcddpjlaaGreatDoorAt
namespace Go.Proofs.YtnggkkdcddpjlaaGreatDoor
set_option linter.unusedVariables false
set_option linter.unusedSimpArgs false
open Go.RowKit
def pzF (f : Nat) (s : ByteArray) : Option (Nat × Nat) := (atF f s).bind fun a => if a.2.1 = s.size then some (a.1, a.2.2) else some (0, 2)
theorem pfp_calls (f : Nat) (s : ByteArray) (x n k : Nat) (w : World) (hw : Tabs w) (h2w : Two w) (hs : s.size ≤ 1000) (h : atF f s = some (x, n, k)) :
    Calls Tryz.prog 143 #[.string s, .int .i64 64] w fun e w' => e = .returned (.tuple #[.float .f64 x, .int .i64 n, erOf k]) ∧ Below w.heap.size w w' := by
  have A := at_calls f s x n k w hw h2w hs h
  clear h
  go_enter Tryz.func143, Tryz.ntmps143
  go_wp2_with (go_at_call 162; refine A.mono ?_; rintro e w' ⟨rfl, hb⟩)
  go_ret3
  exact ⟨rfl, hb⟩
theorem ipf_calls (f : Nat) (s : ByteArray) (x k : Nat) (w : World) (hw : Tabs w) (h2w : Two w) (hs : s.size ≤ 1000) (h : pzF f s = some (x, k)) :
    Calls Tryz.prog 124 #[.string s, .int .i64 64] w fun e w' => e = .returned (.tuple #[.float .f64 x, erOf k]) ∧ Below w.heap.size w w' := by
  unfold pzF at h
  obtain ⟨⟨y, n, j⟩, h1, h⟩ := Option.bind_eq_some_iff.1 h
  have A := pfp_calls f s y n j w hw h2w hs h1
  dsimp only at h
  by_cases c : n = s.size
  · rw [if_pos c] at h
    obtain ⟨rfl, rfl⟩ := Prod.mk.inj (Option.some.inj h)
    have b1 : ((n : Int) != (s.size : Int)) = false := by rw [bne_eq_false_iff_eq]; omega
    clear h h1 c
    go_enter Tryz.func124, Tryz.ntmps124
    go_wp2_with (go_at_call 143; refine A.mono ?_; rintro e w' ⟨rfl, hb⟩)
    go_ret2
    exact ⟨rfl, hb⟩
  · rw [if_neg c] at h
    obtain ⟨rfl, rfl⟩ := Prod.mk.inj (Option.some.inj h)
    have b1 : ((n : Int) != (s.size : Int)) = true := by rw [bne_iff_ne]; omega
    clear h h1 c
    go_enter Tryz.func124, Tryz.ntmps124
    go_wp2_with (go_at_call 143; refine A.mono ?_; rintro e w' ⟨rfl, hb⟩)
    go_ret2
    exact ⟨rfl, hb⟩
/-- An error, or none. -/
def ErrIs (bad : Bool) (ev : Value) : Prop := (bad = false ∧ ev = .nilIface) ∨ (bad = true ∧ ∃ t v, ev = .iface t v)
def spfF (f : Nat) (s : ByteArray) : Option (Nat × Bool) := (pzF f s).bind fun a => if a.2 = 0 then some (a.1, false) else if a.2 = 1 then some (a.1, true) else if a.2 = 2 then some (a.1, true) else none
theorem spf_calls (f : Nat) (s : ByteArray) (x : Nat) (bad : Bool) (w : World) (hw : Tabs w) (h2w : Two w) (hs : s.size ≤ 1000) (h : spfF f s = some (x, bad)) :
    Calls Tryz.prog 93 #[.string s, .int .i64 64] w fun e w' => ∃ ev, e = .returned (.tuple #[.float .f64 x, ev]) ∧ ErrIs bad ev ∧ Below w.heap.size w w' := by
  unfold spfF at h
  obtain ⟨⟨y, k⟩, h1, h⟩ := Option.bind_eq_some_iff.1 h
  have A := ipf_calls f s y k w hw h2w hs h1
  dsimp only at h
  by_cases c0 : k = 0
  · rw [if_pos c0] at h
    obtain ⟨rfl, rfl⟩ := Prod.mk.inj (Option.some.inj h)
    subst c0
    rw [show erOf 0 = .nilIface from rfl] at A
    clear h h1
    go_enter Tryz.func93, Tryz.ntmps93
    go_wp2_with (go_at_call 124; refine A.mono ?_; rintro e w' ⟨rfl, hb⟩)
    go_ret2
    exact ⟨_, rfl, Or.inl ⟨rfl, rfl⟩, hb⟩
  rw [if_neg c0] at h
  by_cases c1 : k = 1
  · rw [if_pos c1] at h
    obtain ⟨rfl, rfl⟩ := Prod.mk.inj (Option.some.inj h)
    subst c1
    rw [show erOf 1 = .iface 172 (.int .i64 1) from rfl] at A
    clear h h1 c0
    go_enter Tryz.func93, Tryz.ntmps93
    go_wp2_with (go_at_call 124; refine A.mono ?_; rintro e w' ⟨rfl, hb⟩)
    obtain ⟨t, p, hE⟩ := (hw.belowTop hb).erng
    refine (Tryz.strconv_toError_range _ s 0 64 _ w' (by omega) hE (Or.inr ⟨t, p, rfl⟩)).mono ?_
    rintro e w2 ⟨N, rfl, -, -, hb2⟩
    go_wp2
    go_ret2
    exact ⟨_, rfl, Or.inr ⟨rfl, _, _, rfl⟩, hb.trans (hb2.mono hb.size)⟩
  rw [if_neg c1] at h
  by_cases c2 : k = 2
  · rw [if_pos c2] at h
    obtain ⟨rfl, rfl⟩ := Prod.mk.inj (Option.some.inj h)
    subst c2
    rw [show erOf 2 = .iface 172 (.int .i64 2) from rfl] at A
    clear h h1 c0 c1
    go_enter Tryz.func93, Tryz.ntmps93
    go_wp2_with (go_at_call 124; refine A.mono ?_; rintro e w' ⟨rfl, hb⟩)
    obtain ⟨t, p, hE⟩ := (hw.belowTop hb).esyn
    refine (Tryz.strconv_toError_syntax _ s 0 64 _ w' (by omega) hE (Or.inr ⟨t, p, rfl⟩)).mono ?_
    rintro e w2 ⟨N, rfl, -, -, hb2⟩
    go_wp2
    go_ret2
    exact ⟨_, rfl, Or.inr ⟨rfl, _, _, rfl⟩, hb.trans (hb2.mono hb.size)⟩
  · rw [if_neg c2] at h; cases h
end Go.Proofs.YtnggkkdcddpjlaaGreatDoor
