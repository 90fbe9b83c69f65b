/- shortFloat: what it answers. -/
import Derived.Test.YtnggkkdcddpjlaaGreatDoorPf
namespace Go.Proofs.YtnggkkdcddpjlaaGreatDoor
set_option linter.unusedVariables false
set_option linter.unusedSimpArgs false
open Go.RowKit
theorem skew165 (x : Int) (h1 : -10000 ≤ x) (h2 : x ≤ 10000) (w : World) : Calls Tryz.prog 165 #[.int .i64 x] w fun e w' => e = .returned (.int .i64 ((x * 631305 - 261663) / 2097152)) ∧ w' = w := by
  go_enter Tryz.func165, Tryz.ntmps165
  go_wp2
  go_ret
  exact ⟨rfl, rfl⟩
theorem and1_b (x : Int) : 0 ≤ bits .and .i64 x 1 ∧ bits .and .i64 x 1 ≤ 1 := by
  have key : ∀ a : BitVec 64, (a &&& 1#64).toNat ≤ 1 := by
    intro a
    rw [BitVec.toNat_and]
    exact Nat.le_trans Nat.and_le_right (by decide)
  have h := key (BitVec.ofInt 64 x)
  have e : bits .and .i64 x 1 = IntKind.i64.wrap ((BitVec.ofInt 64 x &&& 1#64).toNat : Int) := rfl
  rw [e]
  generalize (BitVec.ofInt 64 x &&& 1#64).toNat = n at *
  have : n = 0 ∨ n = 1 := by omega
  rcases this with rfl | rfl
  · decide
  · decide
/-- The scale's row, and how far it shifts. -/
def sfQ (p : Int) : Nat := (p + 348).toNat
def sfK (e p : Int) : Nat := (-(e + p * 108853 / 32768 + 3)).toNat
def sfU (x : Nat) (e p : Int) : Nat := usF x (pwHi (sfQ p)) (pwLo (sfQ p)) (sfK e p)
def sfDn (mn : Nat) (e p od : Int) : Nat := ceU (wr ((sfU mn e p : Int) + wr od))
def sfDx (mx : Nat) (e p od : Int) : Nat := wr ((sfU mx e p : Int) + wr (-od)) / 4
/-- The digits, and where they stand. -/
def sfD (m mn mx : Nat) (e p od : Int) : Nat × Int :=
  if sfDn mn e p od ≤ sfDx mx e p od / 10 * 10 then (sfDx mx e p od / 10, -(p - 1))
  else if sfDn mn e p od < sfDx mx e p od then (rdU (sfU m e p), -p) else (sfDn mn e p od, -p)
/-- The power, the least, the greatest, the odd bit. -/
def sfT157 (m : Nat) (e : Int) : Int × Int × Int × Int :=
  if (-1085) ≤ e then
    (if m = 9223372036854775808 ∧ (-1085) < e then (-(((e + 11) * 631305 - 261663) / 2097152), (m : Int) - 512, IntKind.u64.wrap ((m : Int) + 1024), bits .and .i64 ((m : Int) / 2048) 1)
     else (-((e + 11) * 78913 / 262144), (m : Int) - 1024, IntKind.u64.wrap ((m : Int) + 1024), bits .and .i64 ((m : Int) / 2048) 1))
  else (-((e + (11 + ((-1085) - e))) * 78913 / 262144), IntKind.u64.wrap ((m : Int) - IntKind.u64.wrap (2 ^ ((11 + ((-1085) - e)).toNat - 1))),
    IntKind.u64.wrap ((m : Int) + IntKind.u64.wrap (2 ^ ((11 + ((-1085) - e)).toNat - 1))), bits .and .i64 (wrap64 ((m : Int) / 2 ^ (11 + ((-1085) - e)).toNat)) 1)
theorem sfT157_ok (m : Nat) (e : Int) (hm0 : 9223372036854775808 ≤ m) (hm : m < 18446744073709551616) (he0 : (-1137) ≤ e) (he1 : e ≤ 1000) (p mn mx od : Int) (h : sfT157 m e = (p, mn, mx, od)) :
    0 ≤ mn ∧ mn < 18446744073709551616 ∧ 0 ≤ mx ∧ mx < 18446744073709551616 ∧ 0 ≤ od ∧ od ≤ 1 ∧ -348 ≤ p ∧ p ≤ 347 ∧ 0 ≤ -(e + p * 108853 / 32768 + 3) ∧ -(e + p * 108853 / 32768 + 3) < 64 := by
  unfold sfT157 at h
  by_cases c1 : (-1085) ≤ e
  · rw [if_pos c1] at h
    have w1 := wr_eq ((m : Int) + 1024)
    have w2 := wr_lt ((m : Int) + 1024)
    have o1 := and1_b ((m : Int) / 2048)
    by_cases c2 : m = 9223372036854775808 ∧ (-1085) < e
    · rw [if_pos c2] at h
      simp only [Prod.mk.injEq] at h
      obtain ⟨rfl, rfl, rfl, rfl⟩ := h
      omega
    · rw [if_neg c2] at h
      simp only [Prod.mk.injEq] at h
      obtain ⟨rfl, rfl, rfl, rfl⟩ := h
      clear c2
      omega
  · rw [if_neg c1] at h
    simp only [Prod.mk.injEq] at h
    obtain ⟨rfl, rfl, rfl, rfl⟩ := h
    have w1 := wr_eq ((m : Int) - IntKind.u64.wrap (2 ^ ((11 + ((-1085) - e)).toNat - 1)))
    have w2 := wr_lt ((m : Int) - IntKind.u64.wrap (2 ^ ((11 + ((-1085) - e)).toNat - 1)))
    have w3 := wr_eq ((m : Int) + IntKind.u64.wrap (2 ^ ((11 + ((-1085) - e)).toNat - 1)))
    have w4 := wr_lt ((m : Int) + IntKind.u64.wrap (2 ^ ((11 + ((-1085) - e)).toNat - 1)))
    have o1 := and1_b (wrap64 ((m : Int) / 2 ^ (11 + ((-1085) - e)).toNat))
    rw [w1, w3]
    refine ⟨by omega, by omega, by omega, by omega, o1.1, o1.2, by omega, by omega, by omega, by omega⟩
def sfF157 (m : Nat) (e : Int) : Nat × Int := sfD m (sfT157 m e).2.1.toNat (sfT157 m e).2.2.1.toNat e (sfT157 m e).1 (sfT157 m e).2.2.2
set_option maxHeartbeats 8000000 in
set_option maxRecDepth 100000 in
theorem sf157_calls (m : Nat) (e : Int) (w : World) (hw : Tabs w) (hm0 : 9223372036854775808 ≤ m) (hm : m < 18446744073709551616) (he0 : (-1137) ≤ e) (he1 : e ≤ 1000) :
    Calls Tryz.prog 157 #[.int .u64 m, .int .i64 e] w fun e' w' => e' = .returned (.tuple #[.int .u64 (sfF157 m e).1, .int .i64 (sfF157 m e).2]) ∧ Below w.heap.size w w' := by
  obtain ⟨p, mn, mx, od, hT⟩ : ∃ p mn mx od, sfT157 m e = (p, mn, mx, od) := ⟨_, _, _, _, rfl⟩
  obtain ⟨n0, n1, x0, x1, o0, o1, p0, p1, k0, k1⟩ := sfT157_ok m e hm0 hm he0 he1 p mn mx od hT
  have hF : sfF157 m e = sfD m mn.toNat mx.toNat e p od := by unfold sfF157; rw [hT]
  rw [hF]
  obtain ⟨mnN, hmn'⟩ : ∃ x : Nat, mn = (x : Int) := ⟨mn.toNat, by omega⟩
  obtain ⟨mxN, hmx'⟩ : ∃ x : Nat, mx = (x : Int) := ⟨mx.toNat, by omega⟩
  rw [show mn.toNat = mnN from by omega, show mx.toNat = mxN from by omega]
  have HMN := Lib.hid hmn'
  have HMX := Lib.hid hmx'
  obtain ⟨⟨rd, rp⟩, hR⟩ : ∃ r, sfD m mnN mxN e p od = r := ⟨_, rfl⟩
  rw [hR]
  have HR := Lib.hid hR
  have HT := Lib.hid hT
  dsimp only
  clear hT hF hR hmn' hmx'
  go_enter Tryz.func157, Tryz.ntmps157
  go_upto_region 12 with fail
  go_cut [28] (fun s28 wc => s28 = .bool (decide (m = 9223372036854775808 ∧ (-1085) < e)) ∧ w = wc)
  case first =>
    clear HT n0 n1 x0 x1 o0 o1 p0 p1 k0 k1
    by_cases cM : m = 9223372036854775808
    · have q1 : ((m : Int) == 9223372036854775808) = true := beq_iff_eq.2 (by omega)
      have D : decide (m = 9223372036854775808 ∧ (-1085) < e) = decide ((-1085) < e) := by simp [cM]
      have DD := Lib.hid D
      clear cM D hm0 hm
      go_wp2
      go_meet
      exact ⟨by rw [DD.out], rfl⟩
    · have q1 : ((m : Int) == 9223372036854775808) = false := beq_eq_false_iff_ne.2 (by omega)
      have D : decide (m = 9223372036854775808 ∧ (-1085) < e) = false := by simp [cM]
      have DD := Lib.hid D
      clear cM D
      go_wp2
      go_meet
      exact ⟨by rw [DD.out], rfl⟩
  case rest =>
    obtain ⟨rfl, rfl⟩ := hcut
    go_upto_if 28 with fail
    go_cut [5, 8, 9, 10, 11] (fun s5 s8 s9 s10 s11 wc => s5 = .int .i64 p ∧ s8 = .int .u64 mn ∧ s9 = .int .u64 mx ∧ s10 = .int .i64 od ∧ w = wc)
    case first =>
      have hT := HT.out
      clear HT n0 n1 x0 x1 o0 o1 p0 p1 k0 k1
      unfold sfT157 at hT
      by_cases cB : (-1085) ≤ e
      · rw [if_pos cB] at hT
        have S1 := fun w : World => l10p2 (e + 11) (by omega) (by omega) w
        have S2 := fun w : World => skew165 (e + 11) (by omega) (by omega) w
        have q2 : decide ((-1085) ≤ e) = true := decide_eq_true cB
        by_cases cA : m = 9223372036854775808 ∧ (-1085) < e
        · rw [if_pos cA] at hT
          simp only [Prod.mk.injEq] at hT
          obtain ⟨rfl, rfl, rfl, rfl⟩ := hT
          rw [decide_eq_true cA]
          clear cA cB
          go_wp2_with (go_at_call 165; refine (S2 _).mono ?_; rintro e w' ⟨rfl, rfl⟩)
          go_meet
          exact ⟨rfl, rfl, rfl, rfl, rfl⟩
        · rw [if_neg cA] at hT
          simp only [Prod.mk.injEq] at hT
          obtain ⟨rfl, rfl, rfl, rfl⟩ := hT
          rw [decide_eq_false cA]
          clear cA cB
          go_wp2_with (go_at_call 152; refine (S1 _).mono ?_; rintro e w' ⟨rfl, rfl⟩)
          go_meet
          exact ⟨rfl, rfl, rfl, rfl, rfl⟩
      · rw [if_neg cB] at hT
        have cA : ¬ (m = 9223372036854775808 ∧ (-1085) < e) := by omega
        rw [decide_eq_false cA]
        obtain ⟨z, hz2, hz0, hz1⟩ : ∃ z : Nat, (11 : Int) + ((-1085) - e) = z ∧ 11 ≤ z ∧ z ≤ 63 := ⟨(11 + ((-1085) - e)).toNat, by omega, by omega, by omega⟩
        have S1 := fun w : World => l10p2 (e + z) (by omega) (by omega) w
        have q2 : decide ((-1085) ≤ e) = false := decide_eq_false cB
        rw [hz2, show ((z : Nat) : Int).toNat = z from by omega] at hT
        simp only [Prod.mk.injEq] at hT
        obtain ⟨rfl, rfl, rfl, rfl⟩ := hT
        clear cB cA
        go_wp2_with (go_at_call 152; refine (S1 _).mono ?_; rintro e w' ⟨rfl, rfl⟩)
        go_meet
        exact ⟨rfl, rfl, rfl, rfl, rfl⟩
    case rest =>
      obtain ⟨rfl, rfl, rfl, rfl, rfl⟩ := hcut
      clear HT
      go_upto_region 28 with fail
      have hT : TabsUnder w.heap.size (w.alloc (Obj.cells #[Value.int IntKind.u64 0, Value.int IntKind.u64 0, Value.int IntKind.i64 0] 238)) := ⟨w, hw, Nat.le_refl _, (Below.refl _ _).alloc (Nat.le_refl _) _⟩
      have hP : PreAt (w.alloc (Obj.cells #[Value.int IntKind.u64 0, Value.int IntKind.u64 0, Value.int IntKind.i64 0] 238)) w.heap.size 0 0 0 :=
        ⟨by simp, by simp, by simp, fun i => World.frozen?_alloc_new _ _ _ _⟩
      have hB : Below w.heap.size w (w.alloc (Obj.cells #[Value.int IntKind.u64 0, Value.int IntKind.u64 0, Value.int IntKind.i64 0] 238)) := (Below.refl _ _).alloc (Nat.le_refl _) _
      generalize w.alloc (Obj.cells #[Value.int IntKind.u64 0, Value.int IntKind.u64 0, Value.int IntKind.i64 0] 238) = w1 at *
      obtain ⟨q, hq⟩ : ∃ q : Nat, p = (q : Int) - 348 := ⟨(p + 348).toNat, by omega⟩
      have hq2 : q < 696 := by omega
      have hqs : sfQ p = q := by unfold sfQ; omega
      obtain ⟨k, hk⟩ : ∃ k : Nat, -(e + p * 108853 / 32768 + 3) = (k : Int) := ⟨(-(e + p * 108853 / 32768 + 3)).toNat, by omega⟩
      have hk2 : k < 64 := by omega
      have hks : sfK e p = k := by unfold sfK; rw [hk]; omega
      have hlp0 : -10000 ≤ p * 108853 / 32768 := by omega
      have hlp1 : p * 108853 / 32768 ≤ 10000 := by omega
      have L2 := fun w : World => l2p10 p (by omega) (by omega) w
      have hC := presc_calls w.heap.size q 0 0 e (p * 108853 / 32768) 0 w1 hT hq2 hP (by omega) (by omega) hlp0 hlp1
      rw [hk, ← hq] at hC
      obtain rfl := HMN.out
      obtain rfl := HMX.out
      clear HMN HMX
      have hU : ∀ (x : Nat) (w2 : World), x < 18446744073709551616 → PreAt w2 w.heap.size (pwHi q) (pwLo q) (k : Int) → Calls Tryz.prog 168 #[.int .u64 x, .pointer (some ⟨w.heap.size, 0, none⟩)] w2 fun e' w' => e' = .returned (.int .u64 (sfU x e p)) ∧ ∃ n, w' = w2.drewN n := by
        intro x w2 hx h2
        have : sfU x e p = usF x (pwHi q) (pwLo q) k := by unfold sfU; rw [hqs, hks]
        rw [this]
        exact us_calls _ x _ _ k w2 h2 hx (pw_lt q).1 (pw_lt q).2 hk2
      have hmn : mnN < 18446744073709551616 := by omega
      have hmx : mxN < 18446744073709551616 := by omega
      have hod : -od = wrap64 (-od) := by unfold wrap64; omega
      have D1 : Hid (sfDn mnN e p od = ceU (wr ((sfU mnN e p : Int) + wr od))) := Lib.hid rfl
      have hdx : wr ((sfU mxN e p : Int) + wr (-od)) < 18446744073709551616 := wr_lt _
      have D2 : Hid (sfDx mxN e p od = wr ((sfU mxN e p : Int) + wr (-od)) / 4) := Lib.hid rfl
      have N1 := fun w : World => nudge169 (sfU mnN e p) od w
      have N2 := fun w : World => nudge169 (sfU mxN e p) (-od) w
      have C1 := fun w : World => ceil170 (wr ((sfU mnN e p : Int) + wr od)) w
      have F1 := fun w : World => floor171 (wr ((sfU mxN e p : Int) + wr (-od))) hdx w
      have R1 := fun w : World => round172 (sfU m e p) w
      have U1 := fun (w2 : World) h => hU mnN w2 hmn h
      have U2 := fun (w2 : World) h => hU mxN w2 hmx h
      have U3 := fun (w2 : World) h => hU m w2 hm h
      have hR := HR.out
      have hD : sfD m mnN mxN e p od = if sfDn mnN e p od ≤ sfDx mxN e p od / 10 * 10 then (sfDx mxN e p od / 10, -(p - 1))
        else if sfDn mnN e p od < sfDx mxN e p od then (rdU (sfU m e p), -p) else (sfDn mnN e p od, -p) := rfl
      rw [hD] at hR
      clear hD HR
      rw [← D1.out] at C1
      have hx4 : sfDx mxN e p od < 4611686018427387904 := by rw [D2.out]; omega
      rw [← D2.out] at F1
      clear D1 D2 hdx hU hT hP hmn hmx hqs hks n0 n1 x0 x1 hq hq2
      generalize hdn : sfDn mnN e p od = dn at *
      generalize hdX : sfDx mxN e p od = dx at *
      generalize wr ((sfU mnN e p : Int) + wr od) = a1 at *
      generalize wr ((sfU mxN e p : Int) + wr (-od)) = a2 at *
      generalize sfU mnN e p = b1 at *
      generalize sfU mxN e p = b2 at *
      generalize sfU m e p = b3 at *
      generalize rdU b3 = b4 at *
      clear hdn hdX hod hk
      by_cases c1 : dn ≤ dx / 10 * 10
      · rw [if_pos c1] at hR
        obtain ⟨rfl, rfl⟩ := Prod.mk.inj hR
        clear hR
        have q1 : decide ((dn : Int) ≤ (dx : Int) / 10 * 10) = true := decide_eq_true (by omega)
        go_upto_region 29 with (first | (go_at_call 167; refine (L2 _).mono ?_; rintro e w' ⟨rfl, rfl⟩) | (go_at_call 166; refine hC.mono ?_; rintro e w2 ⟨rfl, hp2, ho2⟩))
        clear hC L2
        go_upto_region 30 with (first | (go_at_call 168; refine (U1 _ hp2).mono ?_; rintro e w3 ⟨rfl, n, rfl⟩; have hp3 := hp2.drewN n) | (go_at_call 169; refine (N1 _).mono ?_; rintro e w3 ⟨rfl, rfl⟩) | (go_at_call 170; refine (C1 _).mono ?_; rintro e w3 ⟨rfl, rfl⟩))
        clear U1 N1 C1
        go_upto_region 31 with (first | (go_at_call 168; refine (U2 _ hp3).mono ?_; rintro e w4 ⟨rfl, n', rfl⟩; have hp4 := hp3.drewN n') | (go_at_call 169; refine (N2 _).mono ?_; rintro e w3 ⟨rfl, rfl⟩) | (go_at_call 171; refine (F1 _).mono ?_; rintro e w3 ⟨rfl, rfl⟩))
        clear U2 N2 F1
        go_wp2_with fail
        go_ret2
        exact ⟨rfl, hB.trans ((ho2.below (Nat.le_refl _)).trans ⟨rfl, rfl, rfl, Nat.le_refl _, fun _ _ => rfl⟩)⟩
      · rw [if_neg c1] at hR
        have q1 : decide ((dn : Int) ≤ (dx : Int) / 10 * 10) = false := decide_eq_false (by omega)
        by_cases c2 : dn < dx
        · rw [if_pos c2] at hR
          obtain ⟨rfl, rfl⟩ := Prod.mk.inj hR
          have q2 : decide ((dn : Int) < (dx : Int)) = true := decide_eq_true (by omega)
          clear hR
          go_upto_region 29 with (first | (go_at_call 167; refine (L2 _).mono ?_; rintro e w' ⟨rfl, rfl⟩) | (go_at_call 166; refine hC.mono ?_; rintro e w2 ⟨rfl, hp2, ho2⟩))
          clear hC L2
          go_upto_region 30 with (first | (go_at_call 168; refine (U1 _ hp2).mono ?_; rintro e w3 ⟨rfl, n, rfl⟩; have hp3 := hp2.drewN n) | (go_at_call 169; refine (N1 _).mono ?_; rintro e w3 ⟨rfl, rfl⟩) | (go_at_call 170; refine (C1 _).mono ?_; rintro e w3 ⟨rfl, rfl⟩))
          clear U1 N1 C1
          go_upto_region 31 with (first | (go_at_call 168; refine (U2 _ hp3).mono ?_; rintro e w4 ⟨rfl, n', rfl⟩; have hp4 := hp3.drewN n') | (go_at_call 169; refine (N2 _).mono ?_; rintro e w3 ⟨rfl, rfl⟩) | (go_at_call 171; refine (F1 _).mono ?_; rintro e w3 ⟨rfl, rfl⟩))
          clear U2 N2 F1
          go_wp2_with (first | (go_at_call 168; refine (U3 _ (hp2.drewN _)).mono ?_; rintro e w5 ⟨rfl, n'', rfl⟩) | (go_at_call 172; refine (R1 _).mono ?_; rintro e w3 ⟨rfl, rfl⟩))
          go_ret2
          exact ⟨rfl, hB.trans ((ho2.below (Nat.le_refl _)).trans ⟨rfl, rfl, rfl, Nat.le_refl _, fun _ _ => rfl⟩)⟩
        · rw [if_neg c2] at hR
          obtain ⟨rfl, rfl⟩ := Prod.mk.inj hR
          have q2 : decide ((dn : Int) < (dx : Int)) = false := decide_eq_false (by omega)
          clear hR
          go_upto_region 29 with (first | (go_at_call 167; refine (L2 _).mono ?_; rintro e w' ⟨rfl, rfl⟩) | (go_at_call 166; refine hC.mono ?_; rintro e w2 ⟨rfl, hp2, ho2⟩))
          clear hC L2
          go_upto_region 30 with (first | (go_at_call 168; refine (U1 _ hp2).mono ?_; rintro e w3 ⟨rfl, n, rfl⟩; have hp3 := hp2.drewN n) | (go_at_call 169; refine (N1 _).mono ?_; rintro e w3 ⟨rfl, rfl⟩) | (go_at_call 170; refine (C1 _).mono ?_; rintro e w3 ⟨rfl, rfl⟩))
          clear U1 N1 C1
          go_upto_region 31 with (first | (go_at_call 168; refine (U2 _ hp3).mono ?_; rintro e w4 ⟨rfl, n', rfl⟩; have hp4 := hp3.drewN n') | (go_at_call 169; refine (N2 _).mono ?_; rintro e w3 ⟨rfl, rfl⟩) | (go_at_call 171; refine (F1 _).mono ?_; rintro e w3 ⟨rfl, rfl⟩))
          clear U2 N2 F1
          go_wp2_with fail
          go_ret2
          exact ⟨rfl, hB.trans ((ho2.below (Nat.le_refl _)).trans ⟨rfl, rfl, rfl, Nat.le_refl _, fun _ _ => rfl⟩)⟩
/-- The power, the least, the greatest, the odd bit. -/
def sfT150 (m : Nat) (e : Int) : Int × Int × Int × Int :=
  if (-189) ≤ e then
    (if m = 9223372036854775808 ∧ (-189) < e then (-(((e + 40) * 631305 - 261663) / 2097152), (m : Int) - 274877906944, IntKind.u64.wrap ((m : Int) + 549755813888), bits .and .i64 ((m : Int) / 1099511627776) 1)
     else (-((e + 40) * 78913 / 262144), (m : Int) - 549755813888, IntKind.u64.wrap ((m : Int) + 549755813888), bits .and .i64 ((m : Int) / 1099511627776) 1))
  else (-((e + (40 + ((-189) - e))) * 78913 / 262144), IntKind.u64.wrap ((m : Int) - IntKind.u64.wrap (2 ^ ((40 + ((-189) - e)).toNat - 1))),
    IntKind.u64.wrap ((m : Int) + IntKind.u64.wrap (2 ^ ((40 + ((-189) - e)).toNat - 1))), bits .and .i64 (wrap64 ((m : Int) / 2 ^ (40 + ((-189) - e)).toNat)) 1)
theorem sfT150_ok (m : Nat) (e : Int) (hm0 : 9223372036854775808 ≤ m) (hm : m < 18446744073709551616) (he0 : (-212) ≤ e) (he1 : e ≤ 1000) (p mn mx od : Int) (h : sfT150 m e = (p, mn, mx, od)) :
    0 ≤ mn ∧ mn < 18446744073709551616 ∧ 0 ≤ mx ∧ mx < 18446744073709551616 ∧ 0 ≤ od ∧ od ≤ 1 ∧ -348 ≤ p ∧ p ≤ 347 ∧ 0 ≤ -(e + p * 108853 / 32768 + 3) ∧ -(e + p * 108853 / 32768 + 3) < 64 := by
  unfold sfT150 at h
  by_cases c1 : (-189) ≤ e
  · rw [if_pos c1] at h
    have w1 := wr_eq ((m : Int) + 549755813888)
    have w2 := wr_lt ((m : Int) + 549755813888)
    have o1 := and1_b ((m : Int) / 1099511627776)
    by_cases c2 : m = 9223372036854775808 ∧ (-189) < e
    · rw [if_pos c2] at h
      simp only [Prod.mk.injEq] at h
      obtain ⟨rfl, rfl, rfl, rfl⟩ := h
      omega
    · rw [if_neg c2] at h
      simp only [Prod.mk.injEq] at h
      obtain ⟨rfl, rfl, rfl, rfl⟩ := h
      clear c2
      omega
  · rw [if_neg c1] at h
    simp only [Prod.mk.injEq] at h
    obtain ⟨rfl, rfl, rfl, rfl⟩ := h
    have w1 := wr_eq ((m : Int) - IntKind.u64.wrap (2 ^ ((40 + ((-189) - e)).toNat - 1)))
    have w2 := wr_lt ((m : Int) - IntKind.u64.wrap (2 ^ ((40 + ((-189) - e)).toNat - 1)))
    have w3 := wr_eq ((m : Int) + IntKind.u64.wrap (2 ^ ((40 + ((-189) - e)).toNat - 1)))
    have w4 := wr_lt ((m : Int) + IntKind.u64.wrap (2 ^ ((40 + ((-189) - e)).toNat - 1)))
    have o1 := and1_b (wrap64 ((m : Int) / 2 ^ (40 + ((-189) - e)).toNat))
    rw [w1, w3]
    refine ⟨by omega, by omega, by omega, by omega, o1.1, o1.2, by omega, by omega, by omega, by omega⟩
def sfF150 (m : Nat) (e : Int) : Nat × Int := sfD m (sfT150 m e).2.1.toNat (sfT150 m e).2.2.1.toNat e (sfT150 m e).1 (sfT150 m e).2.2.2
set_option maxHeartbeats 8000000 in
set_option maxRecDepth 100000 in
theorem sf150_calls (m : Nat) (e : Int) (w : World) (hw : Tabs w) (hm0 : 9223372036854775808 ≤ m) (hm : m < 18446744073709551616) (he0 : (-212) ≤ e) (he1 : e ≤ 1000) :
    Calls Tryz.prog 150 #[.int .u64 m, .int .i64 e] w fun e' w' => e' = .returned (.tuple #[.int .u64 (sfF150 m e).1, .int .i64 (sfF150 m e).2]) ∧ Below w.heap.size w w' := by
  obtain ⟨p, mn, mx, od, hT⟩ : ∃ p mn mx od, sfT150 m e = (p, mn, mx, od) := ⟨_, _, _, _, rfl⟩
  obtain ⟨n0, n1, x0, x1, o0, o1, p0, p1, k0, k1⟩ := sfT150_ok m e hm0 hm he0 he1 p mn mx od hT
  have hF : sfF150 m e = sfD m mn.toNat mx.toNat e p od := by unfold sfF150; rw [hT]
  rw [hF]
  obtain ⟨mnN, hmn'⟩ : ∃ x : Nat, mn = (x : Int) := ⟨mn.toNat, by omega⟩
  obtain ⟨mxN, hmx'⟩ : ∃ x : Nat, mx = (x : Int) := ⟨mx.toNat, by omega⟩
  rw [show mn.toNat = mnN from by omega, show mx.toNat = mxN from by omega]
  have HMN := Lib.hid hmn'
  have HMX := Lib.hid hmx'
  obtain ⟨⟨rd, rp⟩, hR⟩ : ∃ r, sfD m mnN mxN e p od = r := ⟨_, rfl⟩
  rw [hR]
  have HR := Lib.hid hR
  have HT := Lib.hid hT
  dsimp only
  clear hT hF hR hmn' hmx'
  go_enter Tryz.func150, Tryz.ntmps150
  go_upto_region 12 with fail
  go_cut [28] (fun s28 wc => s28 = .bool (decide (m = 9223372036854775808 ∧ (-189) < e)) ∧ w = wc)
  case first =>
    clear HT n0 n1 x0 x1 o0 o1 p0 p1 k0 k1
    by_cases cM : m = 9223372036854775808
    · have q1 : ((m : Int) == 9223372036854775808) = true := beq_iff_eq.2 (by omega)
      have D : decide (m = 9223372036854775808 ∧ (-189) < e) = decide ((-189) < e) := by simp [cM]
      have DD := Lib.hid D
      clear cM D hm0 hm
      go_wp2
      go_meet
      exact ⟨by rw [DD.out], rfl⟩
    · have q1 : ((m : Int) == 9223372036854775808) = false := beq_eq_false_iff_ne.2 (by omega)
      have D : decide (m = 9223372036854775808 ∧ (-189) < e) = false := by simp [cM]
      have DD := Lib.hid D
      clear cM D
      go_wp2
      go_meet
      exact ⟨by rw [DD.out], rfl⟩
  case rest =>
    obtain ⟨rfl, rfl⟩ := hcut
    go_upto_if 28 with fail
    go_cut [5, 8, 9, 10, 11] (fun s5 s8 s9 s10 s11 wc => s5 = .int .i64 p ∧ s8 = .int .u64 mn ∧ s9 = .int .u64 mx ∧ s10 = .int .i64 od ∧ w = wc)
    case first =>
      have hT := HT.out
      clear HT n0 n1 x0 x1 o0 o1 p0 p1 k0 k1
      unfold sfT150 at hT
      by_cases cB : (-189) ≤ e
      · rw [if_pos cB] at hT
        have S1 := fun w : World => l10p2 (e + 40) (by omega) (by omega) w
        have S2 := fun w : World => skew165 (e + 40) (by omega) (by omega) w
        have q2 : decide ((-189) ≤ e) = true := decide_eq_true cB
        by_cases cA : m = 9223372036854775808 ∧ (-189) < e
        · rw [if_pos cA] at hT
          simp only [Prod.mk.injEq] at hT
          obtain ⟨rfl, rfl, rfl, rfl⟩ := hT
          rw [decide_eq_true cA]
          clear cA cB
          go_wp2_with (go_at_call 165; refine (S2 _).mono ?_; rintro e w' ⟨rfl, rfl⟩)
          go_meet
          exact ⟨rfl, rfl, rfl, rfl, rfl⟩
        · rw [if_neg cA] at hT
          simp only [Prod.mk.injEq] at hT
          obtain ⟨rfl, rfl, rfl, rfl⟩ := hT
          rw [decide_eq_false cA]
          clear cA cB
          go_wp2_with (go_at_call 152; refine (S1 _).mono ?_; rintro e w' ⟨rfl, rfl⟩)
          go_meet
          exact ⟨rfl, rfl, rfl, rfl, rfl⟩
      · rw [if_neg cB] at hT
        have cA : ¬ (m = 9223372036854775808 ∧ (-189) < e) := by omega
        rw [decide_eq_false cA]
        obtain ⟨z, hz2, hz0, hz1⟩ : ∃ z : Nat, (40 : Int) + ((-189) - e) = z ∧ 11 ≤ z ∧ z ≤ 63 := ⟨(40 + ((-189) - e)).toNat, by omega, by omega, by omega⟩
        have S1 := fun w : World => l10p2 (e + z) (by omega) (by omega) w
        have q2 : decide ((-189) ≤ e) = false := decide_eq_false cB
        rw [hz2, show ((z : Nat) : Int).toNat = z from by omega] at hT
        simp only [Prod.mk.injEq] at hT
        obtain ⟨rfl, rfl, rfl, rfl⟩ := hT
        clear cB cA
        go_wp2_with (go_at_call 152; refine (S1 _).mono ?_; rintro e w' ⟨rfl, rfl⟩)
        go_meet
        exact ⟨rfl, rfl, rfl, rfl, rfl⟩
    case rest =>
      obtain ⟨rfl, rfl, rfl, rfl, rfl⟩ := hcut
      clear HT
      go_upto_region 28 with fail
      have hT : TabsUnder w.heap.size (w.alloc (Obj.cells #[Value.int IntKind.u64 0, Value.int IntKind.u64 0, Value.int IntKind.i64 0] 238)) := ⟨w, hw, Nat.le_refl _, (Below.refl _ _).alloc (Nat.le_refl _) _⟩
      have hP : PreAt (w.alloc (Obj.cells #[Value.int IntKind.u64 0, Value.int IntKind.u64 0, Value.int IntKind.i64 0] 238)) w.heap.size 0 0 0 :=
        ⟨by simp, by simp, by simp, fun i => World.frozen?_alloc_new _ _ _ _⟩
      have hB : Below w.heap.size w (w.alloc (Obj.cells #[Value.int IntKind.u64 0, Value.int IntKind.u64 0, Value.int IntKind.i64 0] 238)) := (Below.refl _ _).alloc (Nat.le_refl _) _
      generalize w.alloc (Obj.cells #[Value.int IntKind.u64 0, Value.int IntKind.u64 0, Value.int IntKind.i64 0] 238) = w1 at *
      obtain ⟨q, hq⟩ : ∃ q : Nat, p = (q : Int) - 348 := ⟨(p + 348).toNat, by omega⟩
      have hq2 : q < 696 := by omega
      have hqs : sfQ p = q := by unfold sfQ; omega
      obtain ⟨k, hk⟩ : ∃ k : Nat, -(e + p * 108853 / 32768 + 3) = (k : Int) := ⟨(-(e + p * 108853 / 32768 + 3)).toNat, by omega⟩
      have hk2 : k < 64 := by omega
      have hks : sfK e p = k := by unfold sfK; rw [hk]; omega
      have hlp0 : -10000 ≤ p * 108853 / 32768 := by omega
      have hlp1 : p * 108853 / 32768 ≤ 10000 := by omega
      have L2 := fun w : World => l2p10 p (by omega) (by omega) w
      have hC := presc_calls w.heap.size q 0 0 e (p * 108853 / 32768) 0 w1 hT hq2 hP (by omega) (by omega) hlp0 hlp1
      rw [hk, ← hq] at hC
      obtain rfl := HMN.out
      obtain rfl := HMX.out
      clear HMN HMX
      have hU : ∀ (x : Nat) (w2 : World), x < 18446744073709551616 → PreAt w2 w.heap.size (pwHi q) (pwLo q) (k : Int) → Calls Tryz.prog 168 #[.int .u64 x, .pointer (some ⟨w.heap.size, 0, none⟩)] w2 fun e' w' => e' = .returned (.int .u64 (sfU x e p)) ∧ ∃ n, w' = w2.drewN n := by
        intro x w2 hx h2
        have : sfU x e p = usF x (pwHi q) (pwLo q) k := by unfold sfU; rw [hqs, hks]
        rw [this]
        exact us_calls _ x _ _ k w2 h2 hx (pw_lt q).1 (pw_lt q).2 hk2
      have hmn : mnN < 18446744073709551616 := by omega
      have hmx : mxN < 18446744073709551616 := by omega
      have hod : -od = wrap64 (-od) := by unfold wrap64; omega
      have D1 : Hid (sfDn mnN e p od = ceU (wr ((sfU mnN e p : Int) + wr od))) := Lib.hid rfl
      have hdx : wr ((sfU mxN e p : Int) + wr (-od)) < 18446744073709551616 := wr_lt _
      have D2 : Hid (sfDx mxN e p od = wr ((sfU mxN e p : Int) + wr (-od)) / 4) := Lib.hid rfl
      have N1 := fun w : World => nudge169 (sfU mnN e p) od w
      have N2 := fun w : World => nudge169 (sfU mxN e p) (-od) w
      have C1 := fun w : World => ceil170 (wr ((sfU mnN e p : Int) + wr od)) w
      have F1 := fun w : World => floor171 (wr ((sfU mxN e p : Int) + wr (-od))) hdx w
      have R1 := fun w : World => round172 (sfU m e p) w
      have U1 := fun (w2 : World) h => hU mnN w2 hmn h
      have U2 := fun (w2 : World) h => hU mxN w2 hmx h
      have U3 := fun (w2 : World) h => hU m w2 hm h
      have hR := HR.out
      have hD : sfD m mnN mxN e p od = if sfDn mnN e p od ≤ sfDx mxN e p od / 10 * 10 then (sfDx mxN e p od / 10, -(p - 1))
        else if sfDn mnN e p od < sfDx mxN e p od then (rdU (sfU m e p), -p) else (sfDn mnN e p od, -p) := rfl
      rw [hD] at hR
      clear hD HR
      rw [← D1.out] at C1
      have hx4 : sfDx mxN e p od < 4611686018427387904 := by rw [D2.out]; omega
      rw [← D2.out] at F1
      clear D1 D2 hdx hU hT hP hmn hmx hqs hks n0 n1 x0 x1 hq hq2
      generalize hdn : sfDn mnN e p od = dn at *
      generalize hdX : sfDx mxN e p od = dx at *
      generalize wr ((sfU mnN e p : Int) + wr od) = a1 at *
      generalize wr ((sfU mxN e p : Int) + wr (-od)) = a2 at *
      generalize sfU mnN e p = b1 at *
      generalize sfU mxN e p = b2 at *
      generalize sfU m e p = b3 at *
      generalize rdU b3 = b4 at *
      clear hdn hdX hod hk
      by_cases c1 : dn ≤ dx / 10 * 10
      · rw [if_pos c1] at hR
        obtain ⟨rfl, rfl⟩ := Prod.mk.inj hR
        clear hR
        have q1 : decide ((dn : Int) ≤ (dx : Int) / 10 * 10) = true := decide_eq_true (by omega)
        go_upto_region 29 with (first | (go_at_call 167; refine (L2 _).mono ?_; rintro e w' ⟨rfl, rfl⟩) | (go_at_call 166; refine hC.mono ?_; rintro e w2 ⟨rfl, hp2, ho2⟩))
        clear hC L2
        go_upto_region 30 with (first | (go_at_call 168; refine (U1 _ hp2).mono ?_; rintro e w3 ⟨rfl, n, rfl⟩; have hp3 := hp2.drewN n) | (go_at_call 169; refine (N1 _).mono ?_; rintro e w3 ⟨rfl, rfl⟩) | (go_at_call 170; refine (C1 _).mono ?_; rintro e w3 ⟨rfl, rfl⟩))
        clear U1 N1 C1
        go_upto_region 31 with (first | (go_at_call 168; refine (U2 _ hp3).mono ?_; rintro e w4 ⟨rfl, n', rfl⟩; have hp4 := hp3.drewN n') | (go_at_call 169; refine (N2 _).mono ?_; rintro e w3 ⟨rfl, rfl⟩) | (go_at_call 171; refine (F1 _).mono ?_; rintro e w3 ⟨rfl, rfl⟩))
        clear U2 N2 F1
        go_wp2_with fail
        go_ret2
        exact ⟨rfl, hB.trans ((ho2.below (Nat.le_refl _)).trans ⟨rfl, rfl, rfl, Nat.le_refl _, fun _ _ => rfl⟩)⟩
      · rw [if_neg c1] at hR
        have q1 : decide ((dn : Int) ≤ (dx : Int) / 10 * 10) = false := decide_eq_false (by omega)
        by_cases c2 : dn < dx
        · rw [if_pos c2] at hR
          obtain ⟨rfl, rfl⟩ := Prod.mk.inj hR
          have q2 : decide ((dn : Int) < (dx : Int)) = true := decide_eq_true (by omega)
          clear hR
          go_upto_region 29 with (first | (go_at_call 167; refine (L2 _).mono ?_; rintro e w' ⟨rfl, rfl⟩) | (go_at_call 166; refine hC.mono ?_; rintro e w2 ⟨rfl, hp2, ho2⟩))
          clear hC L2
          go_upto_region 30 with (first | (go_at_call 168; refine (U1 _ hp2).mono ?_; rintro e w3 ⟨rfl, n, rfl⟩; have hp3 := hp2.drewN n) | (go_at_call 169; refine (N1 _).mono ?_; rintro e w3 ⟨rfl, rfl⟩) | (go_at_call 170; refine (C1 _).mono ?_; rintro e w3 ⟨rfl, rfl⟩))
          clear U1 N1 C1
          go_upto_region 31 with (first | (go_at_call 168; refine (U2 _ hp3).mono ?_; rintro e w4 ⟨rfl, n', rfl⟩; have hp4 := hp3.drewN n') | (go_at_call 169; refine (N2 _).mono ?_; rintro e w3 ⟨rfl, rfl⟩) | (go_at_call 171; refine (F1 _).mono ?_; rintro e w3 ⟨rfl, rfl⟩))
          clear U2 N2 F1
          go_wp2_with (first | (go_at_call 168; refine (U3 _ (hp2.drewN _)).mono ?_; rintro e w5 ⟨rfl, n'', rfl⟩) | (go_at_call 172; refine (R1 _).mono ?_; rintro e w3 ⟨rfl, rfl⟩))
          go_ret2
          exact ⟨rfl, hB.trans ((ho2.below (Nat.le_refl _)).trans ⟨rfl, rfl, rfl, Nat.le_refl _, fun _ _ => rfl⟩)⟩
        · rw [if_neg c2] at hR
          obtain ⟨rfl, rfl⟩ := Prod.mk.inj hR
          have q2 : decide ((dn : Int) < (dx : Int)) = false := decide_eq_false (by omega)
          clear hR
          go_upto_region 29 with (first | (go_at_call 167; refine (L2 _).mono ?_; rintro e w' ⟨rfl, rfl⟩) | (go_at_call 166; refine hC.mono ?_; rintro e w2 ⟨rfl, hp2, ho2⟩))
          clear hC L2
          go_upto_region 30 with (first | (go_at_call 168; refine (U1 _ hp2).mono ?_; rintro e w3 ⟨rfl, n, rfl⟩; have hp3 := hp2.drewN n) | (go_at_call 169; refine (N1 _).mono ?_; rintro e w3 ⟨rfl, rfl⟩) | (go_at_call 170; refine (C1 _).mono ?_; rintro e w3 ⟨rfl, rfl⟩))
          clear U1 N1 C1
          go_upto_region 31 with (first | (go_at_call 168; refine (U2 _ hp3).mono ?_; rintro e w4 ⟨rfl, n', rfl⟩; have hp4 := hp3.drewN n') | (go_at_call 169; refine (N2 _).mono ?_; rintro e w3 ⟨rfl, rfl⟩) | (go_at_call 171; refine (F1 _).mono ?_; rintro e w3 ⟨rfl, rfl⟩))
          clear U2 N2 F1
          go_wp2_with fail
          go_ret2
          exact ⟨rfl, hB.trans ((ho2.below (Nat.le_refl _)).trans ⟨rfl, rfl, rfl, Nat.le_refl _, fun _ _ => rfl⟩)⟩
end Go.Proofs.YtnggkkdcddpjlaaGreatDoor
