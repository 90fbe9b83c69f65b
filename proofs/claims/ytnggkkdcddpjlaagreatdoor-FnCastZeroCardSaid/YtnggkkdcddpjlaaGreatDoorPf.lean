/- parseFloat64: what it answers. -/
import Derived.Test.YtnggkkdcddpjlaaGreatDoorUsc
namespace Go.Proofs.YtnggkkdcddpjlaaGreatDoor
set_option linter.unusedVariables false
set_option linter.unusedSimpArgs false
open Go.RowKit
def pfE (d : Nat) (p : Int) : Int := min 1074 (53 - (Lib.bitLen d : Int) - p * 108853 / 32768)
def pfS (d : Nat) (p : Int) : Int := -(pfE d p - (64 - (Lib.bitLen d : Int)) + p * 108853 / 32768 + 3)
def pfU (d q : Nat) : Nat := usF (wr ((d : Int) * 2 ^ (64 - Lib.bitLen d))) (pwHi q) (pwLo q) (pfS d ((q : Int) - 348)).toNat
def pfF (d q : Nat) (sg : Int) : Int × Bool :=
  if 64 ≤ pfS d ((q : Int) - 348) then (bits .or .u64 sg 0, false)
  else if 36028797018963966 ≤ pfU d q then pkF (bits .or .u64 sg (rdU (pfU d q / 2 ||| pfU d q % 2))) (-(pfE d ((q : Int) - 348) - 1))
  else pkF (bits .or .u64 sg (rdU (pfU d q ||| pfU d q % 2))) (-(pfE d ((q : Int) - 348)))
theorem pw_lt (q : Nat) : pwHi q < 18446744073709551616 ∧ pwLo q < 18446744073709551616 := by
  have key : (List.range 696).all (fun q => decide (pwHi q < 18446744073709551616) && decide (pwLo q < 18446744073709551616)) = true := by kernel_rfl
  rcases Nat.lt_or_ge q 696 with h | h
  · have := List.all_eq_true.1 key q (List.mem_range.2 h)
    rw [Bool.and_eq_true, decide_eq_true_eq, decide_eq_true_eq] at this
    exact this
  · have hz : Go.Pinned.pow10Rows.length = 696 := by kernel_rfl
    have : Go.Pinned.pow10Rows.getD q (0, 0) = (0, 0) := by
      rw [List.getD_eq_getElem?_getD, List.getElem?_eq_none (by omega)]; rfl
    unfold pwHi pwLo; rw [this]; omega
theorem usF_lt (x hi lo k : Nat) (hx : x < 18446744073709551616) (hh : hi < 18446744073709551616) : usF x hi lo k < 18446744073709551616 := by
  have h := hi_lt 18446744073709551616 x hi hx hh
  unfold usF
  split
  · exact Nat.or_lt_two_pow (n := 64) (Nat.lt_of_le_of_lt (Nat.div_le_self _ _) h) (by omega)
  · exact Nat.or_lt_two_pow (n := 64) (Nat.lt_of_le_of_lt (Nat.div_le_self _ _) (wr_lt _)) (by split <;> omega)
set_option maxHeartbeats 4000000 in
set_option maxRecDepth 100000 in
theorem pf_main (d q : Nat) (sg rb : Int) (ro : Bool) (w : World) (hw : Tabs w) (hd : d < 18446744073709551616) (hq : q < 696) (hr : pfF d q sg = (rb, ro)) :
    Calls Tryz.prog 195 #[.int .u64 d, .int .i64 ((q : Int) - 348), .int .u64 sg] w fun e w' => e = .returned (.tuple #[.float .f64 rb.toNat, evOf ro]) ∧ Below w.heap.size w w' := by
  have hbl : Lib.bitLen d ≤ 64 := Lib.bitLen_le d 64 (by omega) (by omega)
  have L := fun w : World => Tryz.bits_Len64 (d : Int) w (by omega) (by omega)
  have L2 := fun w : World => l2p10 ((q : Int) - 348) (by omega) (by omega) w
  have hE1 : pfE d ((q : Int) - 348) ≤ 1074 := by unfold pfE; omega
  have hE2 : -3000 ≤ pfE d ((q : Int) - 348) := by unfold pfE; omega
  have hS0 : 0 ≤ pfS d ((q : Int) - 348) := by unfold pfS pfE; omega
  have hS1 : pfS d ((q : Int) - 348) ≤ 10000 := by unfold pfS pfE; omega
  have hEd : min 1074 (53 - (Lib.bitLen d : Int) - ((q : Int) - 348) * 108853 / 32768) = pfE d ((q : Int) - 348) := rfl
  have hSd : pfS d ((q : Int) - 348) = -(pfE d ((q : Int) - 348) - (64 - (Lib.bitLen d : Int)) + ((q : Int) - 348) * 108853 / 32768 + 3) := rfl
  have hUd : pfU d q = usF (wr ((d : Int) * 2 ^ (64 - Lib.bitLen d))) (pwHi q) (pwLo q) (pfS d ((q : Int) - 348)).toNat := rfl
  have hX := wr_lt ((d : Int) * 2 ^ (64 - Lib.bitLen d))
  have hXe := wr_eq ((d : Int) * 2 ^ (64 - Lib.bitLen d))
  have hU := usF_lt (wr ((d : Int) * 2 ^ (64 - Lib.bitLen d))) (pwHi q) (pwLo q) (pfS d ((q : Int) - 348)).toNat hX (pw_lt q).1
  rw [← hUd] at hU
  have hlp1 : -3000 ≤ ((q : Int) - 348) * 108853 / 32768 := by omega
  have hlp2 : ((q : Int) - 348) * 108853 / 32768 ≤ 3000 := by omega
  have hdn : ((d : Int)).toNat = d := by omega
  simp only [hdn] at L
  unfold pfF at hr
  generalize pfU d q = u at *
  generalize wr ((d : Int) * 2 ^ (64 - Lib.bitLen d)) = X at *
  generalize Lib.bitLen d = b at *
  generalize ((q : Int) - 348) * 108853 / 32768 = lp at *
  generalize pfS d ((q : Int) - 348) = S at *
  generalize pfE d ((q : Int) - 348) = E at *
  have AR := Lib.hid hr
  clear hr
  go_enter Tryz.func195, Tryz.ntmps195
  go_upto_region 5 with (first | (go_at_call 149; refine (L _).mono ?_; rintro e w' ⟨rfl, rfl⟩) | (go_at_call 167; refine (L2 _).mono ?_; rintro e w' ⟨rfl, rfl⟩))
  have hT : TabsUnder w'.heap.size (w'.alloc (Obj.cells #[Value.int IntKind.u64 0, Value.int IntKind.u64 0, Value.int IntKind.i64 0] 238)) := ⟨w', hw, Nat.le_refl _, (Below.refl _ _).alloc (Nat.le_refl _) _⟩
  have hP : PreAt (w'.alloc (Obj.cells #[Value.int IntKind.u64 0, Value.int IntKind.u64 0, Value.int IntKind.i64 0] 238)) w'.heap.size 0 0 0 :=
    ⟨by simp, by simp, by simp, fun i => World.frozen?_alloc_new _ _ _ _⟩
  have hB : Below w'.heap.size w' (w'.alloc (Obj.cells #[Value.int IntKind.u64 0, Value.int IntKind.u64 0, Value.int IntKind.i64 0] 238)) := (Below.refl _ _).alloc (Nat.le_refl _) _
  generalize w'.alloc (Obj.cells #[Value.int IntKind.u64 0, Value.int IntKind.u64 0, Value.int IntKind.i64 0] 238) = w1 at *
  have hbi : (b : Int) ≤ 64 := by omega
  have hb1 : -10000 ≤ E - (64 - (b : Int)) := by omega
  have hb2 : E - (64 - (b : Int)) ≤ 10000 := by omega
  have hb3 : -10000 ≤ lp := by omega
  have hb4 : lp ≤ 10000 := by omega
  have hC := presc_calls w'.heap.size q 0 0 (E - (64 - (b : Int))) lp 0 w1 hT hq hP hb1 hb2 hb3 hb4
  rw [← hSd] at hC
  clear hT hP hb1 hb2 hb3 hb4
  by_cases c1 : 64 ≤ S
  · have d1 : decide (64 ≤ S) = true := decide_eq_true c1
    go_wp2_with (go_at_call 166; refine hC.mono ?_; rintro e w2 ⟨rfl, hp2, ho2⟩; have cS := hp2.s)
    go_ret2
    have r := AR.out
    rw [if_pos c1] at r
    obtain ⟨rfl, rfl⟩ := Prod.mk.inj r
    exact ⟨rfl, hB.trans (ho2.below (Nat.le_refl _))⟩
  · have d1 : decide (64 ≤ S) = false := decide_eq_false c1
    obtain ⟨k, rfl⟩ : ∃ k : Nat, S = (k : Int) := ⟨S.toNat, by omega⟩
    have hkn : ((k : Int)).toNat = k := by omega
    rw [hkn] at hUd
    have hk : k < 64 := by omega
    obtain ⟨j, hj⟩ : ∃ j : Nat, (64 : Int) - (b : Int) = (j : Int) := ⟨64 - b, by omega⟩
    have hj2 : 64 - b = j := by omega
    rw [hj2] at hXe
    rw [hj] at hC
    have hC2 : ∀ (w2 : World), PreAt w2 w'.heap.size (pwHi q) (pwLo q) (k : Int) → Calls Tryz.prog 168 #[.int .u64 X, .pointer (some ⟨w'.heap.size, 0, none⟩)] w2 fun e w' => e = .returned (.int .u64 u) ∧ ∃ n, w' = w2.drewN n := by
      intro w2 h2
      rw [hUd]
      exact us_calls _ X _ _ k w2 h2 hX (pw_lt q).1 (pw_lt q).2 hk
    clear hUd
    by_cases c2 : 36028797018963966 ≤ u
    · have d2 : (36028797018963966 : Int) ≤ (u : Int) := by omega
      have r := AR.out
      rw [if_neg c1, if_pos c2] at r
      have hP := fun w : World => pack64 (bits .or .u64 sg (rdU (u / 2 ||| u % 2))) (-(E - 1)) (by omega) (by omega) w
      rw [r] at hP
      have A3 := Lib.hid r
      clear AR r
      have hdx : bits .or .u64 ((u : Int) / 2) (bits .and .u64 (u : Int) 1) = ((u / 2 ||| u % 2 : Nat) : Int) := hxd_bits u hU
      go_wp2_with (first | (go_at_call 166; refine hC.mono ?_; rintro e w2 ⟨rfl, hp2, ho2⟩; have cS := hp2.s) | (go_at_call 168; refine (hC2 _ hp2).mono ?_; rintro e w3 ⟨rfl, n, rfl⟩) | (go_at_call 173; refine (unmin53 _).mono ?_; rintro e w3 ⟨rfl, rfl⟩) | (go_at_call 158; refine (Tryz.internal_strconv_bool2_int _ _).mono ?_; rintro e w3 ⟨rfl, rfl⟩) | (go_at_call 172; refine (round172 _ _).mono ?_; rintro e w3 ⟨rfl, rfl⟩) | (go_at_call 204; refine (hP _).mono ?_; rintro e w3 ⟨rfl, rfl⟩))
      go_ret2
      refine ⟨rfl, hB.trans ((ho2.below (Nat.le_refl _)).trans ?_)⟩
      exact ⟨rfl, rfl, rfl, Nat.le_refl _, fun _ _ => rfl⟩
    · have d2 : decide ((36028797018963966 : Int) ≤ (u : Int)) = false := decide_eq_false (by omega)
      have r := AR.out
      rw [if_neg c1, if_neg c2] at r
      have hP := fun w : World => pack64 (bits .or .u64 sg (rdU (u ||| u % 2))) (-E) (by omega) (by omega) w
      rw [r] at hP
      have A3 := Lib.hid r
      clear AR r c2
      have hdx : bits .or .u64 (u : Int) (bits .and .u64 (u : Int) 1) = ((u ||| u % 2 : Nat) : Int) := by
        have h1 : bits .and .u64 (u : Int) 1 = ((u % 2 : Nat) : Int) := by
          have := u64_and_nat u 1 hU (by omega)
          rw [show ((1 : Nat) : Int) = 1 from rfl] at this
          rw [this, Nat.and_one_is_mod]
        rw [h1, u64_or_nat _ _ hU (by omega)]
      go_wp2_with (first | (go_at_call 166; refine hC.mono ?_; rintro e w2 ⟨rfl, hp2, ho2⟩; have cS := hp2.s) | (go_at_call 168; refine (hC2 _ hp2).mono ?_; rintro e w3 ⟨rfl, n, rfl⟩) | (go_at_call 173; refine (unmin53 _).mono ?_; rintro e w3 ⟨rfl, rfl⟩) | (go_at_call 158; refine (Tryz.internal_strconv_bool2_int _ _).mono ?_; rintro e w3 ⟨rfl, rfl⟩) | (go_at_call 172; refine (round172 _ _).mono ?_; rintro e w3 ⟨rfl, rfl⟩) | (go_at_call 204; refine (hP _).mono ?_; rintro e w3 ⟨rfl, rfl⟩))
      go_ret2
      refine ⟨rfl, hB.trans ((ho2.below (Nat.le_refl _)).trans ?_)⟩
      exact ⟨rfl, rfl, rfl, Nat.le_refl _, fun _ _ => rfl⟩
theorem pf_calls (d q : Nat) (sg : Int) (w : World) (hw : Tabs w) (hd : d < 18446744073709551616) (hq : q < 696) :
    Calls Tryz.prog 195 #[.int .u64 d, .int .i64 ((q : Int) - 348), .int .u64 sg] w fun e w' => e = .returned (.tuple #[.float .f64 (pfF d q sg).1.toNat, evOf (pfF d q sg).2]) ∧ Below w.heap.size w w' :=
  pf_main d q sg _ _ w hw hd hq rfl
end Go.Proofs.YtnggkkdcddpjlaaGreatDoor
