/- atof64: what it answers. -/
import Derived.Test.YtnggkkdcddpjlaaGreatDoorPf
import Derived.Test.YtnggkkdcddpjlaaGreatDoorEx
import Derived.Test.YtnggkkdcddpjlaaGreatDoorRf
import Derived.Test.YtnggkkdcddpjlaaGreatDoorSpc
namespace Go.Proofs.YtnggkkdcddpjlaaGreatDoor
set_option linter.unusedVariables false
set_option linter.unusedSimpArgs false
open Go.RowKit
/-- An error value of internal/strconv: none, range (1), syntax (2). -/
def erOf (k : Nat) : Value := if k = 0 then .nilIface else .iface 172 (.int .i64 k)
def ovK (b : Bool) : Nat := if b = true then 1 else 0
def decZ : Dec := ⟨fun _ => 0, 0, 0, false, false⟩
def dz : Array Value := Array.replicate 800 (.int .u8 0) ++ #[.int .i64 0, .int .i64 0, .bool false, .bool false]
theorem dz_eq : Tryz.zeroCells223 = dz := by kernel_rfl
theorem dz_dec (w : World) : DecAt (w.alloc (.cells Tryz.zeroCells223 223)) w.heap.size decZ := by
  rw [dz_eq]
  refine ⟨fun i hi => ?_, ?_, ?_, ?_, ?_, fun i => World.frozen?_alloc_new _ _ _ _⟩
  · rw [World.cell?_alloc_new, dz, Array.getElem?_append_left (by simpa using hi)]
    simp [hi, decZ]
  · rw [World.cell?_alloc_new, dz, Array.getElem?_append_right (by simp)]; simp [decZ]
  · rw [World.cell?_alloc_new, dz, Array.getElem?_append_right (by simp)]; simp [decZ]
  · rw [World.cell?_alloc_new, dz, Array.getElem?_append_right (by simp)]; simp [decZ]
  · rw [World.cell?_alloc_new, dz, Array.getElem?_append_right (by simp)]; simp [decZ]
/-- The slow road. -/
def atSlow (f : Nat) (s : ByteArray) (i : Nat) : Option (Nat × Nat × Nat) :=
  if (s.extract 0 i).size = 0 then none else
  (setL (s.extract 0 i) f (if sb (s.extract 0 i) 0 = 43 ∨ sb (s.extract 0 i) 0 = 45 then 1 else 0) false false { decZ with neg := decide (sb (s.extract 0 i) 0 = 45), trunc := false }).bind fun a =>
    (setE (s.extract 0 i) f a.1 a.2.1 a.2.2.1 a.2.2.2.1 a.2.2.2.2).bind fun y =>
      if y.1 = false then some (0, i, 2) else (fbF f y.2).bind fun z => some (z.1.toNat, i, ovK z.2)
def atF (f : Nat) (s : ByteArray) : Option (Nat × Nat × Nat) :=
  (spF f s).bind fun sp => if sp.2.2 = true then some (sp.1, sp.2.1, 0) else
  (rfF f s).bind fun r => if r.i ≤ s.size then (if r.ok = false then some (0, r.i, 2) else
  if 0 ≤ r.m then (if r.m < 18446744073709551616 then
    (if r.hex = true then (hxF f r.m.toNat r.exp r.neg r.tr).bind fun z => some (z.1.toNat, r.i, ovK z.2)
     else if r.m = 0 then some ((bits .or .u64 (if r.neg = true then 9223372036854775808 else 0) 0).toNat, r.i, 0)
     else if 310 < r.exp then some ((bits .or .u64 (if r.neg = true then 9223372036854775808 else 0) 9218868437227405312).toNat, r.i, 1)
     else if r.exp < -345 then some ((bits .or .u64 (if r.neg = true then 9223372036854775808 else 0) 0).toNat, r.i, 0)
     else if r.tr = false then
       (exF r.m.toNat r.exp r.neg).bind fun x => if x.2 = true then some (x.1, r.i, 0)
         else some ((pfF r.m.toNat (r.exp + 348).toNat (if r.neg = true then 9223372036854775808 else 0)).1.toNat, r.i, ovK (pfF r.m.toNat (r.exp + 348).toNat (if r.neg = true then 9223372036854775808 else 0)).2)
     else if (FloatKind.f64.format.order (pfF r.m.toNat (r.exp + 348).toNat (if r.neg = true then 9223372036854775808 else 0)).1.toNat (pfF (wr (r.m + 1)) (r.exp + 348).toNat (if r.neg = true then 9223372036854775808 else 0)).1.toNat == some Ordering.eq) = true
       then some ((pfF r.m.toNat (r.exp + 348).toNat (if r.neg = true then 9223372036854775808 else 0)).1.toNat, r.i, ovK (pfF r.m.toNat (r.exp + 348).toNat (if r.neg = true then 9223372036854775808 else 0)).2)
     else atSlow f s r.i) else none) else none) else none
set_option maxHeartbeats 8000000 in
set_option maxRecDepth 100000 in
theorem at_calls (f : Nat) (s : ByteArray) (x n k : Nat) (w : World) (hw : Tabs w) (h2w : Two w) (hs : s.size ≤ 1000) (h : atF f s = some (x, n, k)) :
    Calls Tryz.prog 162 #[.string s] w fun e w' => e = .returned (.tuple #[.float .f64 x, .int .i64 n, erOf k]) ∧ Below w.heap.size w w' := by
  unfold atF at h
  obtain ⟨⟨sx, sn, sok⟩, hsp, h⟩ := Option.bind_eq_some_iff.1 h
  have S := fun w : World => sp_calls f s sx sn sok w hs hsp
  clear hsp
  dsimp only at h
  cases sok
  rotate_left
  · rw [if_pos rfl] at h
    obtain ⟨rfl, h3⟩ := Prod.mk.inj (Option.some.inj h)
    obtain ⟨rfl, rfl⟩ := Prod.mk.inj h3
    clear h h3
    go_enter Tryz.func162, Tryz.ntmps162
    go_wp2_with (go_at_call 183; refine (S _).mono ?_; rintro e w' ⟨rfl, rfl⟩)
    go_ret3
    exact ⟨rfl, Below.refl _ _⟩
  rw [if_neg (by simp)] at h
  obtain ⟨⟨rm, rx, rn, rt, rh, ri, rok⟩, hrf, h⟩ := Option.bind_eq_some_iff.1 h
  have R := fun w : World => rf_calls f s _ w hs hrf
  clear hrf
  dsimp only at h R
  by_cases c1 : ri ≤ s.size
  rotate_left
  · rw [if_neg c1] at h; cases h
  rw [if_pos c1] at h
  cases rok
  · rw [if_pos rfl] at h
    obtain ⟨rfl, h3⟩ := Prod.mk.inj (Option.some.inj h)
    obtain ⟨rfl, rfl⟩ := Prod.mk.inj h3
    clear h h3
    go_enter Tryz.func162, Tryz.ntmps162
    go_wp2_with (first | (go_at_call 183; refine (S _).mono ?_; rintro e w' ⟨rfl, rfl⟩) | (go_at_call 184; refine (R _).mono ?_; rintro e w' ⟨rfl, rfl⟩))
    go_ret3
    exact ⟨rfl, Below.refl _ _⟩
  rw [if_neg (by simp)] at h
  by_cases c2 : 0 ≤ rm
  rotate_left
  · rw [if_neg c2] at h; cases h
  rw [if_pos c2] at h
  by_cases c3 : rm < 18446744073709551616
  rotate_left
  · rw [if_neg c3] at h; cases h
  rw [if_pos c3] at h
  obtain ⟨m, rfl⟩ : ∃ m : Nat, rm = (m : Int) := ⟨rm.toNat, by omega⟩
  have hmn : ((m : Int)).toNat = m := by omega
  rw [hmn] at h
  have hii : (ri : Int) ≤ (s.size : Int) := by omega
  cases rh
  rotate_left
  · rw [if_pos rfl] at h
    obtain ⟨⟨zb, ov⟩, hz, h⟩ := Option.bind_eq_some_iff.1 h
    have H := fun w : World => fun hw h2w => hex_calls f (s.extract 0 ri) m rx zb rn rt ov w hw h2w hz
    dsimp only at h
    obtain ⟨rfl, h3⟩ := Prod.mk.inj (Option.some.inj h)
    obtain ⟨rfl, rfl⟩ := Prod.mk.inj h3
    clear h h3 hz
    go_enter Tryz.func162, Tryz.ntmps162
    go_wp2_with (first | (go_at_call 183; refine (S _).mono ?_; rintro e w' ⟨rfl, rfl⟩) | (go_at_call 184; refine (R _).mono ?_; rintro e w' ⟨rfl, rfl⟩) | (go_at_call 185; refine (H _ hw h2w).mono ?_; rintro e w' ⟨rfl, kk, rfl⟩))
    go_ret3
    exact ⟨by cases ov <;> rfl, rfl, rfl, rfl, Nat.le_refl _, fun _ _ => rfl⟩
  rw [if_neg (by simp)] at h
  have hop := hw.opt
  have hm0 : ((m : Int) = 0) = (m = 0) := by simp
  have hsg : ∃ sg : Int, sg = (if rn = true then 9223372036854775808 else 0) := ⟨_, rfl⟩
  obtain ⟨sg, hsg⟩ := hsg
  rw [← hsg] at h
  have AS := Lib.hid hsg
  have AH := Lib.hid h
  clear hsg h hm0
  go_enter Tryz.func162, Tryz.ntmps162
  go_upto_region 11 with (first | (go_at_call 183; refine (S _).mono ?_; rintro e w' ⟨rfl, rfl⟩) | (go_at_call 184; refine (R _).mono ?_; rintro e w' ⟨rfl, rfl⟩))
  go_cut [16] from 65 to 67 (fun s16 wc => s16 = .int .u64 sg ∧ w = wc)
  case first =>
    have e := AS.out
    cases rn
    · rw [if_neg (by simp)] at e
      subst e
      go_wp2_with (go_at_call 192; refine (b192 _ _).mono ?_; rintro e w' ⟨rfl, rfl⟩)
      go_meet
      exact ⟨rfl, rfl⟩
    · rw [if_pos rfl] at e
      subst e
      go_wp2_with (go_at_call 192; refine (b192 _ _).mono ?_; rintro e w' ⟨rfl, rfl⟩)
      go_meet
      exact ⟨rfl, rfl⟩
  case rest =>
    obtain ⟨rfl, rfl⟩ := hcut
    clear AS S R
    have h := AH.out
    clear AH
    by_cases c4 : (m : Int) = 0
    · rw [if_pos c4] at h
      obtain ⟨rfl, h3⟩ := Prod.mk.inj (Option.some.inj h)
      obtain ⟨rfl, rfl⟩ := Prod.mk.inj h3
      have b4 : ((m : Int) == 0) = true := beq_iff_eq.2 c4
      clear h h3 c4
      go_wp2
      go_ret3
      exact ⟨rfl, Below.refl _ _⟩
    rw [if_neg c4] at h
    have b4 : ((m : Int) == 0) = false := beq_eq_false_iff_ne.2 c4
    by_cases c5 : 310 < rx
    · rw [if_pos c5] at h
      obtain ⟨rfl, h3⟩ := Prod.mk.inj (Option.some.inj h)
      obtain ⟨rfl, rfl⟩ := Prod.mk.inj h3
      clear h h3 c4
      go_wp2
      go_ret3
      exact ⟨rfl, Below.refl _ _⟩
    rw [if_neg c5] at h
    by_cases c6 : rx < -345
    · rw [if_pos c6] at h
      obtain ⟨rfl, h3⟩ := Prod.mk.inj (Option.some.inj h)
      obtain ⟨rfl, rfl⟩ := Prod.mk.inj h3
      clear h h3 c4
      go_wp2
      go_ret3
      exact ⟨rfl, Below.refl _ _⟩
    rw [if_neg c6] at h
    obtain ⟨q, rfl⟩ : ∃ q : Nat, rx = (q : Int) - 348 := ⟨(rx + 348).toNat, by omega⟩
    have hq : q < 696 := by omega
    have hqn : ((q : Int) - 348 + 348).toNat = q := by omega
    rw [hqn] at h
    have P1 := fun w hw => pf_calls m q sg w hw (by omega) hq
    cases rt
    · rw [if_pos rfl] at h
      obtain ⟨⟨x1, ok1⟩, hX, h⟩ := Option.bind_eq_some_iff.1 h
      have X := fun w hw => ex_calls m ((q : Int) - 348) rn x1 ok1 w hw hX
      dsimp only at h
      cases ok1
      rotate_left
      · rw [if_pos rfl] at h
        obtain ⟨rfl, h3⟩ := Prod.mk.inj (Option.some.inj h)
        obtain ⟨rfl, rfl⟩ := Prod.mk.inj h3
        clear h h3 c4 hX P1
        go_wp2_with (go_at_call 194; refine (X _ hw).mono ?_; rintro e w' ⟨rfl, rfl⟩)
        go_ret3
        exact ⟨rfl, Below.refl _ _⟩
      · rw [if_neg (by simp)] at h
        obtain ⟨rfl, h3⟩ := Prod.mk.inj (Option.some.inj h)
        obtain ⟨rfl, rfl⟩ := Prod.mk.inj h3
        clear h h3 c4 hX
        go_wp2_with (first | (go_at_call 194; refine (X _ hw).mono ?_; rintro e w' ⟨rfl, rfl⟩) | (go_at_call 195; refine (P1 _ hw).mono ?_; rintro e w' ⟨rfl, hb⟩))
        go_ret3
        exact ⟨by cases (pfF m q sg).2 <;> rfl, hb⟩
    · rw [if_neg (by simp)] at h
      have hw1 := wr_eq ((m : Int) + 1)
      have P2 := fun w hw => pf_calls (wr ((m : Int) + 1)) q sg w hw (wr_lt _) hq
      generalize wr ((m : Int) + 1) = m' at *
      generalize hr1 : pfF m q sg = r1 at *
      generalize hr2 : pfF m' q sg = r2 at *
      obtain ⟨z1, o1⟩ := r1
      obtain ⟨z2, o2⟩ := r2
      clear hr1 hr2
      dsimp only at h P1 P2
      by_cases c7 : (FloatKind.f64.format.order z1.toNat z2.toNat == some Ordering.eq) = true
      · rw [if_pos c7] at h
        obtain ⟨rfl, h3⟩ := Prod.mk.inj (Option.some.inj h)
        obtain ⟨rfl, rfl⟩ := Prod.mk.inj h3
        clear h h3 c4
        go_upto_region 25 with (go_at_call 195; refine (P1 _ hw).mono ?_; rintro e w1 ⟨rfl, hb⟩; have hw2 := hw.belowTop hb)
        go_wp2_with (go_at_call 195; refine (P2 _ hw2).mono ?_; rintro e w2 ⟨rfl, hb2⟩)
        go_ret3
        exact ⟨by cases o1 <;> rfl, hb.trans (hb2.mono hb.size)⟩
      · rw [if_neg c7] at h
        rw [Bool.not_eq_true] at c7
        clear c4
        go_upto_region 25 with (go_at_call 195; refine (P1 _ hw).mono ?_; rintro e w1 ⟨rfl, hb⟩; have hw2 := hw.belowTop hb)
        go_upto_region 28 with (go_at_call 195; refine (P2 _ hw2).mono ?_; rintro e w2 ⟨rfl, hb2⟩)
        go_upto_region 29 with fail
        have hD := dz_dec w2
        have hB2 : Below w2.heap.size w2 (w2.alloc (.cells Tryz.zeroCells223 223)) := (Below.refl _ _).alloc (Nat.le_refl _) _
        have hT2 : TabsUnder w2.heap.size (w2.alloc (.cells Tryz.zeroCells223 223)) := ⟨w2, hw2.belowTop hb2, Nat.le_refl _, hB2⟩
        generalize w2.alloc (.cells Tryz.zeroCells223 223) = w3 at *
        unfold atSlow at h
        by_cases d0 : (s.extract 0 ri).size = 0
        · rw [if_pos d0] at h; cases h
        rw [if_neg d0] at h
        obtain ⟨⟨r, i1, sd, sg2, x2⟩, hL, h⟩ := Option.bind_eq_some_iff.1 h
        obtain ⟨⟨okS, y⟩, hE, h⟩ := Option.bind_eq_some_iff.1 h
        dsimp only at h hE
        have hz : (s.extract 0 ri).size ≤ 1000 := by simp only [ByteArray.size_extract]; omega
        have SC := set_calls f (s.extract 0 ri) decZ _ x2 y _ i1 r sd sg2 okS w2.heap.size w3 hz hD (by omega) rfl rfl hL hE
        clear hL hE d0 hz
        cases okS
        · rw [if_pos rfl] at h
          obtain ⟨rfl, h3⟩ := Prod.mk.inj (Option.some.inj h)
          obtain ⟨rfl, rfl⟩ := Prod.mk.inj h3
          clear h h3
          go_wp2_with (go_at_call 190; refine SC.mono ?_; rintro e w4 ⟨rfl, hy, ho⟩)
          go_ret3
          exact ⟨rfl, hb.trans ((hb2.trans (hB2.trans (ho.below (Nat.le_refl _)) |>.mono hb2.size)).mono hb.size)⟩
        · rw [if_neg (by simp)] at h
          obtain ⟨⟨zb, zo⟩, hF, h⟩ := Option.bind_eq_some_iff.1 h
          dsimp only at h
          obtain ⟨rfl, h3⟩ := Prod.mk.inj (Option.some.inj h)
          obtain ⟨rfl, rfl⟩ := Prod.mk.inj h3
          clear h h3
          have FC := fun (w4 : World) (hy : DecAt w4 w2.heap.size y) (ho : Only w2.heap.size w3 w4) => fb_calls f y zb zo w2.heap.size w4 (hT2.only ho) hy hF
          clear hF
          cases zo
          all_goals
            go_wp2_with (first | (go_at_call 190; refine SC.mono ?_; rintro e w4 ⟨rfl, hy, ho⟩) | (go_at_call 191; refine (FC _ hy ho).mono ?_; rintro e w5 ⟨rfl, ho2⟩))
            go_ret3
            exact ⟨rfl, hb.trans ((hb2.trans (hB2.trans ((ho.trans ho2).below (Nat.le_refl _)) |>.mono hb2.size)).mono hb.size)⟩
end Go.Proofs.YtnggkkdcddpjlaaGreatDoor
