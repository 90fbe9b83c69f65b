/- ParseInt, ParseUint of package strconv, cast's parseInt and parseUint: what they answer. -/
import Derived.Test.YtnggkkdcddpjlaaGreatDoorPu
import Derived.Test.YtnggkkdcddpjlaaGreatDoorTx
import Derived.Test.YtnggkkdcddpjlaaGreatDoorPz
namespace Go.Proofs.YtnggkkdcddpjlaaGreatDoor
set_option linter.unusedVariables false
set_option linter.unusedSimpArgs false
open Go.RowKit
theorem info172 : ((Tryz.prog.info? 172).any fun i => i.comparable) = true := by kernel_rfl
theorem run_neq_err (a b : Int) (w : World) : (binOp .neq 52 (.iface 172 (.int .i64 a)) (.iface 172 (.int .i64 b))).run Tryz.prog w = .ok (.bool (!(a == b))) w := by
  have h1 : ∃ ms, Tryz.prog.underlying 52 = some (.interface ms) := ⟨_, Tryz.underlying52⟩
  obtain ⟨ms, hi⟩ := h1
  have h3 := info172
  cases hj : Tryz.prog.info? 172 with
  | none => simp [hj] at h3
  | some i =>
  have hc : i.comparable = true := by simpa [hj] using h3
  have h2 : ∀ d : Nat, (Op.equalIn (d + 2) 52 (.iface 172 (.int .i64 a)) (.iface 172 (.int .i64 b))).run Tryz.prog w = .ok (a == b) w := fun d => by
    simp [Op.equalIn, run_underlying hi, run_underlying Tryz.underlying172, typeInfo, hj, hc]
  simp only [binOp]
  simp [Op.equal, Op.maxDepth, h2 9998]
@[go_sem] theorem run_neq_err_one (w : World) : (binOp .neq 52 (.iface 172 (.int .i64 1)) (.iface 172 (.int .i64 1))).run Tryz.prog w = .ok (.bool false) w := run_neq_err 1 1 w
@[go_sem] theorem run_neq_err_two (w : World) : (binOp .neq 52 (.iface 172 (.int .i64 2)) (.iface 172 (.int .i64 1))).run Tryz.prog w = .ok (.bool true) w := run_neq_err 2 1 w
theorem pu_calls (f : Nat) (s : ByteArray) (v : Int) (k : Nat) (w : World) (hs : s.size ≤ 1000) (h : puF f s = some (v, k)) :
    Calls Tryz.prog 122 #[.string s, .int .i64 0, .int .i64 0] w fun e w' => e = .returned (.tuple #[.int .u64 v, erV k]) ∧ Below w.heap.size w w' := by
  unfold puF at h
  by_cases c0 : s.size = 0
  · rw [if_pos c0] at h
    obtain ⟨rfl, rfl⟩ := Prod.mk.inj (Option.some.inj h)
    exact (pu_empty s w c0).mono fun e w' ⟨he, hw⟩ => ⟨he, by subst hw; exact Below.refl _ _⟩
  rw [if_neg c0] at h
  obtain ⟨⟨v1, k1, us⟩, h1, h⟩ := Option.bind_eq_some_iff.1 h
  dsimp only at h
  have M := fun (o : Option Bool) ho hk => pu_main f s (puB s).2 (puB s).1 v1 k1 us o w hs (by omega) rfl h1 ho hk
  by_cases c1 : k1 = 0
  · rw [if_pos c1] at h
    subst c1
    cases us
    · rw [if_neg (by simp)] at h
      obtain ⟨rfl, rfl⟩ := Prod.mk.inj (Option.some.inj h)
      have := M none (by intro _ e; cases e) (by omega)
      rw [if_neg (by simp)] at this
      exact this
    · rw [if_pos rfl] at h
      obtain ⟨ok, h2, h⟩ := Option.bind_eq_some_iff.1 h
      have := M (some ok) (fun _ _ => ⟨ok, rfl, h2⟩) (by omega)
      cases ok
      · obtain ⟨rfl, rfl⟩ := Prod.mk.inj (Option.some.inj h)
        rw [if_pos (by simp)] at this
        exact this
      · obtain ⟨rfl, rfl⟩ := Prod.mk.inj (Option.some.inj h)
        rw [if_neg (by simp)] at this
        exact this
  rw [if_neg c1] at h
  have M := M none (fun e => absurd e c1)
  by_cases c2 : k1 = 1
  · rw [if_pos c2] at h
    obtain ⟨rfl, rfl⟩ := Prod.mk.inj (Option.some.inj h)
    subst c2
    have := M (by omega)
    rw [if_neg (by simp)] at this
    exact this
  rw [if_neg c2] at h
  by_cases c3 : k1 = 2
  · rw [if_pos c3] at h
    obtain ⟨rfl, rfl⟩ := Prod.mk.inj (Option.some.inj h)
    subst c3
    have := M (by omega)
    rw [if_neg (by simp)] at this
    exact this
  · rw [if_neg c3] at h; cases h
/-- The text without a sign. -/
def piS (s : ByteArray) : ByteArray := if sb s 0 = 43 then s.extract 1 s.size else if sb s 0 = 45 then s.extract 1 s.size else s
def piF (f : Nat) (s : ByteArray) : Option (Int × Nat) :=
  if s.size = 0 then some (0, 2) else
  (puF f (piS s)).bind fun a =>
    if a.2 = 2 then some (0, 2)
    else if sb s 0 = 45 then (if 9223372036854775808 < a.1 then some (wrap64 (-wrap64 9223372036854775808), 1) else some (wrap64 (-wrap64 a.1), 0))
    else if 9223372036854775808 ≤ a.1 then some (9223372036854775807, 1) else some (wrap64 a.1, 0)
theorem puF_k (f : Nat) (s : ByteArray) (v : Int) (k : Nat) (h : puF f s = some (v, k)) : k = 0 ∨ k = 1 ∨ k = 2 := by
  unfold puF at h
  by_cases c0 : s.size = 0
  · rw [if_pos c0] at h
    obtain ⟨rfl, rfl⟩ := Prod.mk.inj (Option.some.inj h)
    simp
  rw [if_neg c0] at h
  obtain ⟨⟨v1, k1, us⟩, h1, h⟩ := Option.bind_eq_some_iff.1 h
  dsimp only at h
  by_cases c1 : k1 = 0
  · rw [if_pos c1] at h
    cases us
    · rw [if_neg (by simp)] at h
      obtain ⟨rfl, rfl⟩ := Prod.mk.inj (Option.some.inj h)
      simp
    · rw [if_pos rfl] at h
      obtain ⟨ok, h2, h⟩ := Option.bind_eq_some_iff.1 h
      cases ok
      · obtain ⟨rfl, rfl⟩ := Prod.mk.inj (Option.some.inj h)
        simp
      · obtain ⟨rfl, rfl⟩ := Prod.mk.inj (Option.some.inj h)
        simp
  rw [if_neg c1] at h
  by_cases c2 : k1 = 1
  · rw [if_pos c2] at h
    obtain ⟨rfl, rfl⟩ := Prod.mk.inj (Option.some.inj h)
    simp
  rw [if_neg c2] at h
  by_cases c3 : k1 = 2
  · rw [if_pos c3] at h
    obtain ⟨rfl, rfl⟩ := Prod.mk.inj (Option.some.inj h)
    simp
  · rw [if_neg c3] at h; cases h
set_option maxHeartbeats 2000000 in
set_option maxRecDepth 100000 in
theorem pi_calls (f : Nat) (s : ByteArray) (v : Int) (k : Nat) (w : World) (hs : s.size ≤ 1000) (h : piF f s = some (v, k)) :
    Calls Tryz.prog 119 #[.string s, .int .i64 0, .int .i64 0] w fun e w' => e = .returned (.tuple #[.int .i64 v, erV k]) ∧ Below w.heap.size w w' := by
  unfold piF at h
  by_cases c0 : s.size = 0
  · rw [if_pos c0] at h
    obtain ⟨rfl, rfl⟩ := Prod.mk.inj (Option.some.inj h)
    obtain rfl : s = ByteArray.empty := by
      obtain ⟨⟨l⟩⟩ := s
      cases l with
      | nil => rfl
      | cons x l => simp [ByteArray.size] at c0
    clear h c0 hs
    go_enter Tryz.func119, Tryz.ntmps119
    go_wp2
    go_ret2
    exact ⟨rfl, Below.refl _ _⟩
  rw [if_neg c0] at h
  obtain ⟨⟨u, j⟩, h1, h⟩ := Option.bind_eq_some_iff.1 h
  have hj := puF_k f _ u j h1
  have hz : (piS s).size ≤ 1000 := by
    unfold piS; repeat' split
    all_goals (try simp only [ByteArray.size_extract])
    all_goals omega
  have A := fun w => pu_calls f (piS s) u j w hz h1
  dsimp only at h
  have hsn : ¬ s = ByteArray.empty := by intro e; subst e; simp at c0
  have hse : s.toList.isEmpty = false := by
    rw [Lib.toList_data, List.isEmpty_eq_false_iff]
    intro e
    have : s.data.toList.length = s.size := rfl
    rw [e] at this; simp at this; omega
  have h0i : (0 : Int) < (s.size : Int) := by omega
  have h0k : (1 : Int) ≤ (s.size : Int) := by omega
  have hb := sb_at (show 0 < s.size by omega)
  have AS : Hid (piS s = if sb s 0 = 43 then s.extract 1 s.size else if sb s 0 = 45 then s.extract 1 s.size else s) := Lib.hid rfl
  have HH := Lib.hid h
  clear h h1 c0 hz
  generalize sb s 0 = c at *
  generalize piS s = t at *
  go_enter Tryz.func119, Tryz.ntmps119
  go_upto_block 0 with fail
  go_cut [0, 8] (fun s0 s8 wc => s0 = .string t ∧ s8 = .bool (decide (c = 45)) ∧ w = wc)
  case first =>
    clear A HH hj
    have e := AS.out
    by_cases c1 : c = 43
    · rw [if_pos c1] at e
      subst e
      have b1 : ((c : Int) == 43) = true := beq_iff_eq.2 (by omega)
      have hd : decide (c = 45) = false := decide_eq_false (by omega)
      have D := Lib.hid hd
      clear c1 hd AS
      go_wp2
      go_meet
      exact ⟨rfl, by rw [D.out], rfl⟩
    rw [if_neg c1] at e
    have b1 : ((c : Int) == 43) = false := beq_eq_false_iff_ne.2 (by omega)
    by_cases c2 : c = 45
    · rw [if_pos c2] at e
      subst e
      have b2 : ((c : Int) == 45) = true := beq_iff_eq.2 (by omega)
      have hd : decide (c = 45) = true := decide_eq_true c2
      have D := Lib.hid hd
      clear c2 hd AS c1
      go_wp2
      go_meet
      exact ⟨rfl, by rw [D.out], rfl⟩
    · rw [if_neg c2] at e
      subst e
      have b2 : ((c : Int) == 45) = false := beq_eq_false_iff_ne.2 (by omega)
      have hd : decide (c = 45) = false := decide_eq_false c2
      have D := Lib.hid hd
      clear c2 hd AS c1
      go_wp2
      go_meet
      exact ⟨rfl, by rw [D.out], rfl⟩
  case rest =>
    obtain ⟨rfl, rfl, rfl⟩ := hcut
    clear AS hse hsn h0i h0k hb
    have h := HH.out
    clear HH
    have hM : ¬ (1 : Int) = 2 := by decide
    rcases hj with rfl | rfl | rfl
    rotate_left 2
    · rw [if_pos rfl] at h
      obtain ⟨rfl, rfl⟩ := Prod.mk.inj (Option.some.inj h)
      rw [show erV 2 = .iface 172 (.int .i64 2) from rfl] at A
      clear h
      go_wp2_with (go_at_call 122; refine (A _).mono ?_; rintro e w' ⟨rfl, hb⟩)
      go_ret2
      exact ⟨rfl, hb⟩
    all_goals
      rw [if_neg (by omega)] at h
      first | rw [show erV 0 = .nilIface from rfl] at A | rw [show erV 1 = .iface 172 (.int .i64 1) from rfl] at A
      by_cases c3 : c = 45
      · rw [if_pos c3] at h
        rw [decide_eq_true c3]
        clear c3
        by_cases c4 : 9223372036854775808 < u
        · rw [if_pos c4] at h
          obtain ⟨rfl, rfl⟩ := Prod.mk.inj (Option.some.inj h)
          have b4 : decide (9223372036854775808 < u) = true := decide_eq_true c4
          clear h
          go_wp2_with (go_at_call 122; refine (A _).mono ?_; rintro e w' ⟨rfl, hb⟩)
          go_ret2
          exact ⟨rfl, hb⟩
        · rw [if_neg c4] at h
          obtain ⟨rfl, rfl⟩ := Prod.mk.inj (Option.some.inj h)
          have b4 : decide (9223372036854775808 < u) = false := decide_eq_false c4
          clear h
          go_wp2_with (go_at_call 122; refine (A _).mono ?_; rintro e w' ⟨rfl, hb⟩)
          go_ret2
          exact ⟨rfl, hb⟩
      · rw [if_neg c3] at h
        rw [decide_eq_false c3]
        clear c3
        by_cases c4 : 9223372036854775808 ≤ u
        · rw [if_pos c4] at h
          obtain ⟨rfl, rfl⟩ := Prod.mk.inj (Option.some.inj h)
          have b4 : decide (9223372036854775808 ≤ u) = true := decide_eq_true c4
          clear h
          go_wp2_with (go_at_call 122; refine (A _).mono ?_; rintro e w' ⟨rfl, hb⟩)
          go_ret2
          exact ⟨rfl, hb⟩
        · rw [if_neg c4] at h
          obtain ⟨rfl, rfl⟩ := Prod.mk.inj (Option.some.inj h)
          have b4 : decide (9223372036854775808 ≤ u) = false := decide_eq_false c4
          clear h
          go_wp2_with (go_at_call 122; refine (A _).mono ?_; rintro e w' ⟨rfl, hb⟩)
          go_ret2
          exact ⟨rfl, hb⟩

/-- A number, or none. -/
def ikF (a : Int × Nat) : Int × Bool := if a.2 = 0 then (a.1, false) else (0, true)
theorem serr (k : Nat) (hk : k = 1 ∨ k = 2) (fn s : ByteArray) (w : World) (hw : Tabs w) (hs : s.size ≤ 1000) :
    Calls Tryz.prog 85 #[.string fn, .string s, .int .i64 0, .int .i64 0, erV k] w fun e w' => ∃ t v, e = .returned (.iface t v) ∧ Below w.heap.size w w' := by
  rcases hk with rfl | rfl
  · obtain ⟨t, p, hE⟩ := hw.erng
    refine (Tryz.strconv_toError_range fn s 0 0 _ w (by omega) hE (Or.inr ⟨t, p, rfl⟩)).mono ?_
    rintro e w2 ⟨N, rfl, -, -, hb2⟩
    exact ⟨_, _, rfl, hb2⟩
  · obtain ⟨t, p, hE⟩ := hw.esyn
    refine (Tryz.strconv_toError_syntax fn s 0 0 _ w (by omega) hE (Or.inr ⟨t, p, rfl⟩)).mono ?_
    rintro e w2 ⟨N, rfl, -, -, hb2⟩
    exact ⟨_, _, rfl, hb2⟩
theorem spu_calls (f : Nat) (s : ByteArray) (v : Int) (k : Nat) (w : World) (hw : Tabs w) (hs : s.size ≤ 1000) (h : puF f s = some (v, k)) :
    Calls Tryz.prog 90 #[.string s, .int .i64 0, .int .i64 0] w fun e w' => ∃ ev, e = .returned (.tuple #[.int .u64 v, ev]) ∧ ErrIs (decide (k ≠ 0)) ev ∧ Below w.heap.size w w' := by
  have A := pu_calls f s v k w hs h
  have hk := puF_k f s v k h
  by_cases c0 : k = 0
  · subst c0
    rw [show erV 0 = .nilIface from rfl] at A
    clear h
    go_enter Tryz.func90, Tryz.ntmps90
    go_wp2_with (go_at_call 122; refine A.mono ?_; rintro e w' ⟨rfl, hb⟩)
    go_ret2
    exact ⟨_, rfl, Or.inl ⟨rfl, rfl⟩, hb⟩
  · have S := fun (w : World) hw => serr k (by omega) ⟨#[80, 97, 114, 115, 101, 85, 105, 110, 116]⟩ s w hw hs
    have e : erV k = .iface 172 (.int .i64 k) := by unfold erV; rw [if_neg c0]
    rw [e] at A S
    have D : decide (k ≠ 0) = true := decide_eq_true c0
    rw [D]
    clear h c0 e D hk
    go_enter Tryz.func90, Tryz.ntmps90
    go_wp2_with (first | (go_at_call 122; refine A.mono ?_; rintro e w' ⟨rfl, hb⟩; have hw2 := hw.belowTop hb) | (go_at_call 85; refine (S _ hw2).mono ?_; rintro e w2 ⟨t, p, rfl, hb2⟩))
    go_ret2
    exact ⟨_, rfl, Or.inr ⟨rfl, _, _, rfl⟩, hb.trans (hb2.mono hb.size)⟩
theorem piF_k (f : Nat) (s : ByteArray) (v : Int) (k : Nat) (h : piF f s = some (v, k)) : k = 0 ∨ k = 1 ∨ k = 2 := by
  unfold piF at h
  by_cases c0 : s.size = 0
  · rw [if_pos c0] at h
    obtain ⟨rfl, rfl⟩ := Prod.mk.inj (Option.some.inj h)
    simp
  rw [if_neg c0] at h
  obtain ⟨⟨u, j⟩, h1, h⟩ := Option.bind_eq_some_iff.1 h
  dsimp only at h
  repeat' split at h
  all_goals
    obtain ⟨rfl, rfl⟩ := Prod.mk.inj (Option.some.inj h)
    simp
theorem spi_calls (f : Nat) (s : ByteArray) (v : Int) (k : Nat) (w : World) (hw : Tabs w) (hs : s.size ≤ 1000) (h : piF f s = some (v, k)) :
    Calls Tryz.prog 87 #[.string s, .int .i64 0, .int .i64 0] w fun e w' => ∃ ev, e = .returned (.tuple #[.int .i64 v, ev]) ∧ ErrIs (decide (k ≠ 0)) ev ∧ Below w.heap.size w w' := by
  have A := pi_calls f s v k w hs h
  have hk := piF_k f s v k h
  by_cases c0 : k = 0
  · subst c0
    rw [show erV 0 = .nilIface from rfl] at A
    clear h
    go_enter Tryz.func87, Tryz.ntmps87
    go_wp2_with (go_at_call 119; refine A.mono ?_; rintro e w' ⟨rfl, hb⟩)
    go_ret2
    exact ⟨_, rfl, Or.inl ⟨rfl, rfl⟩, hb⟩
  · have S := fun (w : World) hw => serr k (by omega) ⟨#[80, 97, 114, 115, 101, 73, 110, 116]⟩ s w hw hs
    have e : erV k = .iface 172 (.int .i64 k) := by unfold erV; rw [if_neg c0]
    rw [e] at A S
    have D : decide (k ≠ 0) = true := decide_eq_true c0
    rw [D]
    clear h c0 e D hk
    go_enter Tryz.func87, Tryz.ntmps87
    go_wp2_with (first | (go_at_call 119; refine A.mono ?_; rintro e w' ⟨rfl, hb⟩; have hw2 := hw.belowTop hb) | (go_at_call 85; refine (S _ hw2).mono ?_; rintro e w2 ⟨t, p, rfl, hb2⟩))
    go_ret2
    exact ⟨_, rfl, Or.inr ⟨rfl, _, _, rfl⟩, hb.trans (hb2.mono hb.size)⟩
/-- cast's parseInt: the number (0 with an error), whether there is an error. -/
def cpiF (f : Nat) (s : ByteArray) : Option (Int × Bool) := (tdF f s).bind fun t => if t.size ≤ 1000 then (piF f t).bind fun a => some (ikF a) else none
def cpuF (f : Nat) (s : ByteArray) : Option (Int × Bool) := (tdF f s).bind fun t => if t.size ≤ 1000 then (tlL t f 0).bind fun u => if u.size ≤ 1000 then (puF f u).bind fun a => some (ikF a) else none else none
theorem ErrIs_neg (k : Nat) (v : Value) (h : ErrIs (decide (k ≠ 0)) v) : (k = 0 ∧ v = .nilIface) ∨ (k ≠ 0 ∧ ∃ t p, v = .iface t p) := by
  rcases h with ⟨h1, h2⟩ | ⟨h1, h2⟩
  · exact Or.inl ⟨by simpa using h1, h2⟩
  · exact Or.inr ⟨by simpa using h1, h2⟩
theorem cpi66_calls (f : Nat) (s : ByteArray) (v : Int) (bad : Bool) (w : World) (hw : Tabs w) (hs : s.size ≤ 1000) (h : cpiF f s = some (v, bad)) :
    Calls Tryz.prog 66 #[.string s] w fun e w' => ∃ ev, e = .returned (.tuple #[.int .i64 v, ev]) ∧ ErrIs bad ev ∧ Below w.heap.size w w' := by
  unfold cpiF at h
  obtain ⟨t, h1, h⟩ := Option.bind_eq_some_iff.1 h
  have T := td_calls f s t w hs h1
  by_cases ht : t.size ≤ 1000
  rotate_left
  · rw [if_neg ht] at h; cases h
  rw [if_pos ht] at h
  obtain ⟨⟨u, k⟩, h2, h⟩ := Option.bind_eq_some_iff.1 h
  have P := spi_calls f t u k w hw ht h2
  have h := Option.some.inj h
  unfold ikF at h
  dsimp only at h
  clear h1 h2
  by_cases c : k = 0
  · rw [if_pos c] at h
    obtain ⟨rfl, rfl⟩ := Prod.mk.inj h
    clear h
    go_enter Tryz.func66, Tryz.ntmps66
    go_wp2_with (first | (go_at_call 88; refine T.mono ?_; rintro e w' ⟨rfl, rfl⟩) | (go_at_call 87; refine P.mono ?_; rintro e w2 ⟨ev, rfl, hev, hb2⟩; obtain ⟨-, rfl⟩ := (ErrIs_neg _ _ hev).resolve_right (fun h => h.1 c)))
    go_ret2
    exact ⟨_, rfl, Or.inl ⟨rfl, rfl⟩, hb2⟩
  · rw [if_neg c] at h
    obtain ⟨rfl, rfl⟩ := Prod.mk.inj h
    clear h
    go_enter Tryz.func66, Tryz.ntmps66
    go_wp2_with (first | (go_at_call 88; refine T.mono ?_; rintro e w' ⟨rfl, rfl⟩) | (go_at_call 87; refine P.mono ?_; rintro e w2 ⟨ev, rfl, hev, hb2⟩; obtain ⟨-, te, pe, rfl⟩ := (ErrIs_neg _ _ hev).resolve_left (fun h => c h.1)))
    go_ret2
    exact ⟨_, rfl, Or.inr ⟨rfl, _, _, rfl⟩, hb2⟩
theorem cpi100_calls (f : Nat) (s : ByteArray) (v : Int) (bad : Bool) (w : World) (hw : Tabs w) (hs : s.size ≤ 1000) (h : cpiF f s = some (v, bad)) :
    Calls Tryz.prog 100 #[.string s] w fun e w' => ∃ ev, e = .returned (.tuple #[.int .i8 (IntKind.i8.wrap v), ev]) ∧ ErrIs bad ev ∧ Below w.heap.size w w' := by
  unfold cpiF at h
  obtain ⟨t, h1, h⟩ := Option.bind_eq_some_iff.1 h
  have T := td_calls f s t w hs h1
  by_cases ht : t.size ≤ 1000
  rotate_left
  · rw [if_neg ht] at h; cases h
  rw [if_pos ht] at h
  obtain ⟨⟨u, k⟩, h2, h⟩ := Option.bind_eq_some_iff.1 h
  have P := spi_calls f t u k w hw ht h2
  have h := Option.some.inj h
  unfold ikF at h
  dsimp only at h
  clear h1 h2
  by_cases c : k = 0
  · rw [if_pos c] at h
    obtain ⟨rfl, rfl⟩ := Prod.mk.inj h
    clear h
    go_enter Tryz.func100, Tryz.ntmps100
    go_wp2_with (first | (go_at_call 88; refine T.mono ?_; rintro e w' ⟨rfl, rfl⟩) | (go_at_call 87; refine P.mono ?_; rintro e w2 ⟨ev, rfl, hev, hb2⟩; obtain ⟨-, rfl⟩ := (ErrIs_neg _ _ hev).resolve_right (fun h => h.1 c)))
    go_ret2
    exact ⟨_, rfl, Or.inl ⟨rfl, rfl⟩, hb2⟩
  · rw [if_neg c] at h
    obtain ⟨rfl, rfl⟩ := Prod.mk.inj h
    clear h
    go_enter Tryz.func100, Tryz.ntmps100
    go_wp2_with (first | (go_at_call 88; refine T.mono ?_; rintro e w' ⟨rfl, rfl⟩) | (go_at_call 87; refine P.mono ?_; rintro e w2 ⟨ev, rfl, hev, hb2⟩; obtain ⟨-, te, pe, rfl⟩ := (ErrIs_neg _ _ hev).resolve_left (fun h => c h.1)))
    go_ret2
    exact ⟨_, rfl, Or.inr ⟨rfl, _, _, rfl⟩, hb2⟩
theorem cpi102_calls (f : Nat) (s : ByteArray) (v : Int) (bad : Bool) (w : World) (hw : Tabs w) (hs : s.size ≤ 1000) (h : cpiF f s = some (v, bad)) :
    Calls Tryz.prog 102 #[.string s] w fun e w' => ∃ ev, e = .returned (.tuple #[.int .i16 (IntKind.i16.wrap v), ev]) ∧ ErrIs bad ev ∧ Below w.heap.size w w' := by
  unfold cpiF at h
  obtain ⟨t, h1, h⟩ := Option.bind_eq_some_iff.1 h
  have T := td_calls f s t w hs h1
  by_cases ht : t.size ≤ 1000
  rotate_left
  · rw [if_neg ht] at h; cases h
  rw [if_pos ht] at h
  obtain ⟨⟨u, k⟩, h2, h⟩ := Option.bind_eq_some_iff.1 h
  have P := spi_calls f t u k w hw ht h2
  have h := Option.some.inj h
  unfold ikF at h
  dsimp only at h
  clear h1 h2
  by_cases c : k = 0
  · rw [if_pos c] at h
    obtain ⟨rfl, rfl⟩ := Prod.mk.inj h
    clear h
    go_enter Tryz.func102, Tryz.ntmps102
    go_wp2_with (first | (go_at_call 88; refine T.mono ?_; rintro e w' ⟨rfl, rfl⟩) | (go_at_call 87; refine P.mono ?_; rintro e w2 ⟨ev, rfl, hev, hb2⟩; obtain ⟨-, rfl⟩ := (ErrIs_neg _ _ hev).resolve_right (fun h => h.1 c)))
    go_ret2
    exact ⟨_, rfl, Or.inl ⟨rfl, rfl⟩, hb2⟩
  · rw [if_neg c] at h
    obtain ⟨rfl, rfl⟩ := Prod.mk.inj h
    clear h
    go_enter Tryz.func102, Tryz.ntmps102
    go_wp2_with (first | (go_at_call 88; refine T.mono ?_; rintro e w' ⟨rfl, rfl⟩) | (go_at_call 87; refine P.mono ?_; rintro e w2 ⟨ev, rfl, hev, hb2⟩; obtain ⟨-, te, pe, rfl⟩ := (ErrIs_neg _ _ hev).resolve_left (fun h => c h.1)))
    go_ret2
    exact ⟨_, rfl, Or.inr ⟨rfl, _, _, rfl⟩, hb2⟩
theorem cpi104_calls (f : Nat) (s : ByteArray) (v : Int) (bad : Bool) (w : World) (hw : Tabs w) (hs : s.size ≤ 1000) (h : cpiF f s = some (v, bad)) :
    Calls Tryz.prog 104 #[.string s] w fun e w' => ∃ ev, e = .returned (.tuple #[.int .i32 (wrap32 v), ev]) ∧ ErrIs bad ev ∧ Below w.heap.size w w' := by
  unfold cpiF at h
  obtain ⟨t, h1, h⟩ := Option.bind_eq_some_iff.1 h
  have T := td_calls f s t w hs h1
  by_cases ht : t.size ≤ 1000
  rotate_left
  · rw [if_neg ht] at h; cases h
  rw [if_pos ht] at h
  obtain ⟨⟨u, k⟩, h2, h⟩ := Option.bind_eq_some_iff.1 h
  have P := spi_calls f t u k w hw ht h2
  have h := Option.some.inj h
  unfold ikF at h
  dsimp only at h
  clear h1 h2
  by_cases c : k = 0
  · rw [if_pos c] at h
    obtain ⟨rfl, rfl⟩ := Prod.mk.inj h
    clear h
    go_enter Tryz.func104, Tryz.ntmps104
    go_wp2_with (first | (go_at_call 88; refine T.mono ?_; rintro e w' ⟨rfl, rfl⟩) | (go_at_call 87; refine P.mono ?_; rintro e w2 ⟨ev, rfl, hev, hb2⟩; obtain ⟨-, rfl⟩ := (ErrIs_neg _ _ hev).resolve_right (fun h => h.1 c)))
    go_ret2
    exact ⟨_, rfl, Or.inl ⟨rfl, rfl⟩, hb2⟩
  · rw [if_neg c] at h
    obtain ⟨rfl, rfl⟩ := Prod.mk.inj h
    clear h
    go_enter Tryz.func104, Tryz.ntmps104
    go_wp2_with (first | (go_at_call 88; refine T.mono ?_; rintro e w' ⟨rfl, rfl⟩) | (go_at_call 87; refine P.mono ?_; rintro e w2 ⟨ev, rfl, hev, hb2⟩; obtain ⟨-, te, pe, rfl⟩ := (ErrIs_neg _ _ hev).resolve_left (fun h => c h.1)))
    go_ret2
    exact ⟨.iface te pe, by rw [show wrap32 0 = 0 from by simp [wrap32]]; rfl, Or.inr ⟨rfl, _, _, rfl⟩, hb2⟩
theorem cpi106_calls (f : Nat) (s : ByteArray) (v : Int) (bad : Bool) (w : World) (hw : Tabs w) (hs : s.size ≤ 1000) (h : cpiF f s = some (v, bad)) :
    Calls Tryz.prog 106 #[.string s] w fun e w' => ∃ ev, e = .returned (.tuple #[.int .i64 v, ev]) ∧ ErrIs bad ev ∧ Below w.heap.size w w' := by
  unfold cpiF at h
  obtain ⟨t, h1, h⟩ := Option.bind_eq_some_iff.1 h
  have T := td_calls f s t w hs h1
  by_cases ht : t.size ≤ 1000
  rotate_left
  · rw [if_neg ht] at h; cases h
  rw [if_pos ht] at h
  obtain ⟨⟨u, k⟩, h2, h⟩ := Option.bind_eq_some_iff.1 h
  have P := spi_calls f t u k w hw ht h2
  have h := Option.some.inj h
  unfold ikF at h
  dsimp only at h
  clear h1 h2
  by_cases c : k = 0
  · rw [if_pos c] at h
    obtain ⟨rfl, rfl⟩ := Prod.mk.inj h
    clear h
    go_enter Tryz.func106, Tryz.ntmps106
    go_wp2_with (first | (go_at_call 88; refine T.mono ?_; rintro e w' ⟨rfl, rfl⟩) | (go_at_call 87; refine P.mono ?_; rintro e w2 ⟨ev, rfl, hev, hb2⟩; obtain ⟨-, rfl⟩ := (ErrIs_neg _ _ hev).resolve_right (fun h => h.1 c)))
    go_ret2
    exact ⟨_, rfl, Or.inl ⟨rfl, rfl⟩, hb2⟩
  · rw [if_neg c] at h
    obtain ⟨rfl, rfl⟩ := Prod.mk.inj h
    clear h
    go_enter Tryz.func106, Tryz.ntmps106
    go_wp2_with (first | (go_at_call 88; refine T.mono ?_; rintro e w' ⟨rfl, rfl⟩) | (go_at_call 87; refine P.mono ?_; rintro e w2 ⟨ev, rfl, hev, hb2⟩; obtain ⟨-, te, pe, rfl⟩ := (ErrIs_neg _ _ hev).resolve_left (fun h => c h.1)))
    go_ret2
    exact ⟨_, rfl, Or.inr ⟨rfl, _, _, rfl⟩, hb2⟩
theorem cpu68_calls (f : Nat) (s : ByteArray) (v : Int) (bad : Bool) (w : World) (hw : Tabs w) (hs : s.size ≤ 1000) (h : cpuF f s = some (v, bad)) :
    Calls Tryz.prog 68 #[.string s] w fun e w' => ∃ ev, e = .returned (.tuple #[.int .u64 v, ev]) ∧ ErrIs bad ev ∧ Below w.heap.size w w' := by
  unfold cpuF at h
  obtain ⟨t, h1, h⟩ := Option.bind_eq_some_iff.1 h
  have T := td_calls f s t w hs h1
  by_cases ht : t.size ≤ 1000
  rotate_left
  · rw [if_neg ht] at h; cases h
  rw [if_pos ht] at h
  obtain ⟨r, h3, h⟩ := Option.bind_eq_some_iff.1 h
  have L := tl_calls f t r w ht h3
  by_cases hr : r.size ≤ 1000
  rotate_left
  · rw [if_neg hr] at h; cases h
  rw [if_pos hr] at h
  obtain ⟨⟨u, k⟩, h2, h⟩ := Option.bind_eq_some_iff.1 h
  have P := fun (w : World) hw => spu_calls f r u k w hw hr h2
  have h := Option.some.inj h
  unfold ikF at h
  dsimp only at h
  clear h1 h2 h3
  by_cases c : k = 0
  · rw [if_pos c] at h
    obtain ⟨rfl, rfl⟩ := Prod.mk.inj h
    clear h
    go_enter Tryz.func68, Tryz.ntmps68
    go_wp2_with (first | (go_at_call 88; refine T.mono ?_; rintro e w' ⟨rfl, rfl⟩) | (go_at_call 91; refine L.mono ?_; rintro e w1 ⟨rfl, hb⟩; have hw1 := hw.belowTop hb) | (go_at_call 90; refine (P _ hw1).mono ?_; rintro e w2 ⟨ev, rfl, hev, hb2⟩; obtain ⟨-, rfl⟩ := (ErrIs_neg _ _ hev).resolve_right (fun h => h.1 c)))
    go_ret2
    exact ⟨_, rfl, Or.inl ⟨rfl, rfl⟩, hb.trans (hb2.mono hb.size)⟩
  · rw [if_neg c] at h
    obtain ⟨rfl, rfl⟩ := Prod.mk.inj h
    clear h
    go_enter Tryz.func68, Tryz.ntmps68
    go_wp2_with (first | (go_at_call 88; refine T.mono ?_; rintro e w' ⟨rfl, rfl⟩) | (go_at_call 91; refine L.mono ?_; rintro e w1 ⟨rfl, hb⟩; have hw1 := hw.belowTop hb) | (go_at_call 90; refine (P _ hw1).mono ?_; rintro e w2 ⟨ev, rfl, hev, hb2⟩; obtain ⟨-, te, pe, rfl⟩ := (ErrIs_neg _ _ hev).resolve_left (fun h => c h.1)))
    go_ret2
    exact ⟨_, rfl, Or.inr ⟨rfl, _, _, rfl⟩, hb.trans (hb2.mono hb.size)⟩
theorem cpu108_calls (f : Nat) (s : ByteArray) (v : Int) (bad : Bool) (w : World) (hw : Tabs w) (hs : s.size ≤ 1000) (h : cpuF f s = some (v, bad)) :
    Calls Tryz.prog 108 #[.string s] w fun e w' => ∃ ev, e = .returned (.tuple #[.int .u8 (IntKind.u8.wrap v), ev]) ∧ ErrIs bad ev ∧ Below w.heap.size w w' := by
  unfold cpuF at h
  obtain ⟨t, h1, h⟩ := Option.bind_eq_some_iff.1 h
  have T := td_calls f s t w hs h1
  by_cases ht : t.size ≤ 1000
  rotate_left
  · rw [if_neg ht] at h; cases h
  rw [if_pos ht] at h
  obtain ⟨r, h3, h⟩ := Option.bind_eq_some_iff.1 h
  have L := tl_calls f t r w ht h3
  by_cases hr : r.size ≤ 1000
  rotate_left
  · rw [if_neg hr] at h; cases h
  rw [if_pos hr] at h
  obtain ⟨⟨u, k⟩, h2, h⟩ := Option.bind_eq_some_iff.1 h
  have P := fun (w : World) hw => spu_calls f r u k w hw hr h2
  have h := Option.some.inj h
  unfold ikF at h
  dsimp only at h
  clear h1 h2 h3
  by_cases c : k = 0
  · rw [if_pos c] at h
    obtain ⟨rfl, rfl⟩ := Prod.mk.inj h
    clear h
    go_enter Tryz.func108, Tryz.ntmps108
    go_wp2_with (first | (go_at_call 88; refine T.mono ?_; rintro e w' ⟨rfl, rfl⟩) | (go_at_call 91; refine L.mono ?_; rintro e w1 ⟨rfl, hb⟩; have hw1 := hw.belowTop hb) | (go_at_call 90; refine (P _ hw1).mono ?_; rintro e w2 ⟨ev, rfl, hev, hb2⟩; obtain ⟨-, rfl⟩ := (ErrIs_neg _ _ hev).resolve_right (fun h => h.1 c)))
    go_ret2
    exact ⟨_, rfl, Or.inl ⟨rfl, rfl⟩, hb.trans (hb2.mono hb.size)⟩
  · rw [if_neg c] at h
    obtain ⟨rfl, rfl⟩ := Prod.mk.inj h
    clear h
    go_enter Tryz.func108, Tryz.ntmps108
    go_wp2_with (first | (go_at_call 88; refine T.mono ?_; rintro e w' ⟨rfl, rfl⟩) | (go_at_call 91; refine L.mono ?_; rintro e w1 ⟨rfl, hb⟩; have hw1 := hw.belowTop hb) | (go_at_call 90; refine (P _ hw1).mono ?_; rintro e w2 ⟨ev, rfl, hev, hb2⟩; obtain ⟨-, te, pe, rfl⟩ := (ErrIs_neg _ _ hev).resolve_left (fun h => c h.1)))
    go_ret2
    exact ⟨_, rfl, Or.inr ⟨rfl, _, _, rfl⟩, hb.trans (hb2.mono hb.size)⟩
theorem cpu110_calls (f : Nat) (s : ByteArray) (v : Int) (bad : Bool) (w : World) (hw : Tabs w) (hs : s.size ≤ 1000) (h : cpuF f s = some (v, bad)) :
    Calls Tryz.prog 110 #[.string s] w fun e w' => ∃ ev, e = .returned (.tuple #[.int .u16 (IntKind.u16.wrap v), ev]) ∧ ErrIs bad ev ∧ Below w.heap.size w w' := by
  unfold cpuF at h
  obtain ⟨t, h1, h⟩ := Option.bind_eq_some_iff.1 h
  have T := td_calls f s t w hs h1
  by_cases ht : t.size ≤ 1000
  rotate_left
  · rw [if_neg ht] at h; cases h
  rw [if_pos ht] at h
  obtain ⟨r, h3, h⟩ := Option.bind_eq_some_iff.1 h
  have L := tl_calls f t r w ht h3
  by_cases hr : r.size ≤ 1000
  rotate_left
  · rw [if_neg hr] at h; cases h
  rw [if_pos hr] at h
  obtain ⟨⟨u, k⟩, h2, h⟩ := Option.bind_eq_some_iff.1 h
  have P := fun (w : World) hw => spu_calls f r u k w hw hr h2
  have h := Option.some.inj h
  unfold ikF at h
  dsimp only at h
  clear h1 h2 h3
  by_cases c : k = 0
  · rw [if_pos c] at h
    obtain ⟨rfl, rfl⟩ := Prod.mk.inj h
    clear h
    go_enter Tryz.func110, Tryz.ntmps110
    go_wp2_with (first | (go_at_call 88; refine T.mono ?_; rintro e w' ⟨rfl, rfl⟩) | (go_at_call 91; refine L.mono ?_; rintro e w1 ⟨rfl, hb⟩; have hw1 := hw.belowTop hb) | (go_at_call 90; refine (P _ hw1).mono ?_; rintro e w2 ⟨ev, rfl, hev, hb2⟩; obtain ⟨-, rfl⟩ := (ErrIs_neg _ _ hev).resolve_right (fun h => h.1 c)))
    go_ret2
    exact ⟨_, rfl, Or.inl ⟨rfl, rfl⟩, hb.trans (hb2.mono hb.size)⟩
  · rw [if_neg c] at h
    obtain ⟨rfl, rfl⟩ := Prod.mk.inj h
    clear h
    go_enter Tryz.func110, Tryz.ntmps110
    go_wp2_with (first | (go_at_call 88; refine T.mono ?_; rintro e w' ⟨rfl, rfl⟩) | (go_at_call 91; refine L.mono ?_; rintro e w1 ⟨rfl, hb⟩; have hw1 := hw.belowTop hb) | (go_at_call 90; refine (P _ hw1).mono ?_; rintro e w2 ⟨ev, rfl, hev, hb2⟩; obtain ⟨-, te, pe, rfl⟩ := (ErrIs_neg _ _ hev).resolve_left (fun h => c h.1)))
    go_ret2
    exact ⟨_, rfl, Or.inr ⟨rfl, _, _, rfl⟩, hb.trans (hb2.mono hb.size)⟩
theorem cpu112_calls (f : Nat) (s : ByteArray) (v : Int) (bad : Bool) (w : World) (hw : Tabs w) (hs : s.size ≤ 1000) (h : cpuF f s = some (v, bad)) :
    Calls Tryz.prog 112 #[.string s] w fun e w' => ∃ ev, e = .returned (.tuple #[.int .u32 (IntKind.u32.wrap v), ev]) ∧ ErrIs bad ev ∧ Below w.heap.size w w' := by
  unfold cpuF at h
  obtain ⟨t, h1, h⟩ := Option.bind_eq_some_iff.1 h
  have T := td_calls f s t w hs h1
  by_cases ht : t.size ≤ 1000
  rotate_left
  · rw [if_neg ht] at h; cases h
  rw [if_pos ht] at h
  obtain ⟨r, h3, h⟩ := Option.bind_eq_some_iff.1 h
  have L := tl_calls f t r w ht h3
  by_cases hr : r.size ≤ 1000
  rotate_left
  · rw [if_neg hr] at h; cases h
  rw [if_pos hr] at h
  obtain ⟨⟨u, k⟩, h2, h⟩ := Option.bind_eq_some_iff.1 h
  have P := fun (w : World) hw => spu_calls f r u k w hw hr h2
  have h := Option.some.inj h
  unfold ikF at h
  dsimp only at h
  clear h1 h2 h3
  by_cases c : k = 0
  · rw [if_pos c] at h
    obtain ⟨rfl, rfl⟩ := Prod.mk.inj h
    clear h
    go_enter Tryz.func112, Tryz.ntmps112
    go_wp2_with (first | (go_at_call 88; refine T.mono ?_; rintro e w' ⟨rfl, rfl⟩) | (go_at_call 91; refine L.mono ?_; rintro e w1 ⟨rfl, hb⟩; have hw1 := hw.belowTop hb) | (go_at_call 90; refine (P _ hw1).mono ?_; rintro e w2 ⟨ev, rfl, hev, hb2⟩; obtain ⟨-, rfl⟩ := (ErrIs_neg _ _ hev).resolve_right (fun h => h.1 c)))
    go_ret2
    exact ⟨_, rfl, Or.inl ⟨rfl, rfl⟩, hb.trans (hb2.mono hb.size)⟩
  · rw [if_neg c] at h
    obtain ⟨rfl, rfl⟩ := Prod.mk.inj h
    clear h
    go_enter Tryz.func112, Tryz.ntmps112
    go_wp2_with (first | (go_at_call 88; refine T.mono ?_; rintro e w' ⟨rfl, rfl⟩) | (go_at_call 91; refine L.mono ?_; rintro e w1 ⟨rfl, hb⟩; have hw1 := hw.belowTop hb) | (go_at_call 90; refine (P _ hw1).mono ?_; rintro e w2 ⟨ev, rfl, hev, hb2⟩; obtain ⟨-, te, pe, rfl⟩ := (ErrIs_neg _ _ hev).resolve_left (fun h => c h.1)))
    go_ret2
    exact ⟨_, rfl, Or.inr ⟨rfl, _, _, rfl⟩, hb.trans (hb2.mono hb.size)⟩
theorem cpu114_calls (f : Nat) (s : ByteArray) (v : Int) (bad : Bool) (w : World) (hw : Tabs w) (hs : s.size ≤ 1000) (h : cpuF f s = some (v, bad)) :
    Calls Tryz.prog 114 #[.string s] w fun e w' => ∃ ev, e = .returned (.tuple #[.int .u64 v, ev]) ∧ ErrIs bad ev ∧ Below w.heap.size w w' := by
  unfold cpuF at h
  obtain ⟨t, h1, h⟩ := Option.bind_eq_some_iff.1 h
  have T := td_calls f s t w hs h1
  by_cases ht : t.size ≤ 1000
  rotate_left
  · rw [if_neg ht] at h; cases h
  rw [if_pos ht] at h
  obtain ⟨r, h3, h⟩ := Option.bind_eq_some_iff.1 h
  have L := tl_calls f t r w ht h3
  by_cases hr : r.size ≤ 1000
  rotate_left
  · rw [if_neg hr] at h; cases h
  rw [if_pos hr] at h
  obtain ⟨⟨u, k⟩, h2, h⟩ := Option.bind_eq_some_iff.1 h
  have P := fun (w : World) hw => spu_calls f r u k w hw hr h2
  have h := Option.some.inj h
  unfold ikF at h
  dsimp only at h
  clear h1 h2 h3
  by_cases c : k = 0
  · rw [if_pos c] at h
    obtain ⟨rfl, rfl⟩ := Prod.mk.inj h
    clear h
    go_enter Tryz.func114, Tryz.ntmps114
    go_wp2_with (first | (go_at_call 88; refine T.mono ?_; rintro e w' ⟨rfl, rfl⟩) | (go_at_call 91; refine L.mono ?_; rintro e w1 ⟨rfl, hb⟩; have hw1 := hw.belowTop hb) | (go_at_call 90; refine (P _ hw1).mono ?_; rintro e w2 ⟨ev, rfl, hev, hb2⟩; obtain ⟨-, rfl⟩ := (ErrIs_neg _ _ hev).resolve_right (fun h => h.1 c)))
    go_ret2
    exact ⟨_, rfl, Or.inl ⟨rfl, rfl⟩, hb.trans (hb2.mono hb.size)⟩
  · rw [if_neg c] at h
    obtain ⟨rfl, rfl⟩ := Prod.mk.inj h
    clear h
    go_enter Tryz.func114, Tryz.ntmps114
    go_wp2_with (first | (go_at_call 88; refine T.mono ?_; rintro e w' ⟨rfl, rfl⟩) | (go_at_call 91; refine L.mono ?_; rintro e w1 ⟨rfl, hb⟩; have hw1 := hw.belowTop hb) | (go_at_call 90; refine (P _ hw1).mono ?_; rintro e w2 ⟨ev, rfl, hev, hb2⟩; obtain ⟨-, te, pe, rfl⟩ := (ErrIs_neg _ _ hev).resolve_left (fun h => c h.1)))
    go_ret2
    exact ⟨_, rfl, Or.inr ⟨rfl, _, _, rfl⟩, hb.trans (hb2.mono hb.size)⟩
end Go.Proofs.YtnggkkdcddpjlaaGreatDoor
