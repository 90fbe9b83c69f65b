/- ftoa32 at 'f', the shortest: what it answers. -/
import Derived.Test.YtnggkkdcddpjlaaGreatDoorFta
namespace Go.Proofs.YtnggkkdcddpjlaaGreatDoor
set_option linter.unusedVariables false
set_option linter.unusedSimpArgs false
open Go.RowKit
def ftE125 (x : Nat) : Nat := x / 8388608 % 256
def ftX125 (x : Nat) : Int := (if ftE125 x = 0 then 1 else (ftE125 x : Int)) + (-127)
def ftM125 (x : Nat) : Nat := if ftE125 x = 0 then x % 8388608 else x % 8388608 + 8388608
def ftS125 (x : Nat) : Nat := 64 - Lib.bitLen (ftM125 x)
def ftR125 (x : Nat) : Nat × Int := sfF150 (ftM125 x * 2 ^ ftS125 x) (ftX125 x - (ftS125 x : Int) - 23)
def ft125 (x : Nat) : List UInt8 := if ftM125 x = 0 then ftZ (decide (x / 2147483648 ≠ 0)) else ftO (decide (x / 2147483648 ≠ 0)) (ftR125 x)
set_option maxHeartbeats 8000000 in
set_option maxRecDepth 100000 in
theorem ft125_calls (x B : Nat) (v : Value) (w : World) (hw : Tabs w) (hx : x < 4294967296) (hE : ftE125 x < 255) (hB : B ≤ w.heap.size) (hown : w.ownsRow B 5 1 v 0 [])
    (hd : 1 ≤ (ftR125 x).1 ∧ (ftR125 x).1 < 18446744073709551616 ∧ -900 ≤ (ftR125 x).2 ∧ (ftR125 x).2 ≤ 900 ∨ ftM125 x = 0)
    (hm : 9223372036854775808 ≤ ftM125 x * 2 ^ ftS125 x ∧ ftM125 x * 2 ^ ftS125 x < 18446744073709551616 ∨ ftM125 x = 0) :
    Calls Tryz.prog 125 #[v, .float .f32 x, .int .u8 102, .int .i64 (-1)] w fun e w' => ∃ v', e = .returned v' ∧ OutAt B w w' v' (ft125 x) := by
  obtain ⟨E, hE0⟩ : ∃ E, ftE125 x = E := ⟨_, rfl⟩
  obtain ⟨m, hm0⟩ : ∃ m, x % 8388608 = m := ⟨_, rfl⟩
  have hml : m < 8388608 := by omega
  have bE : bits .and .i64 ((x : Int) / 8388608) 255 = (E : Int) := by
    rw [i64_and255, ← hE0]; unfold ftE125; omega
  have bM : bits .and .u64 (x : Int) 8388607 = (m : Int) := by
    have := and_low x 23 (by omega) (by omega)
    rw [show ((2 ^ 23 - 1 : Nat) : Int) = 8388607 from by decide, show (2 : Nat) ^ 23 = 8388608 from by decide, hm0] at this
    exact this
  have bO : bits .or .u64 (m : Int) 8388608 = ((m + 8388608 : Nat) : Int) := by
    have := or_high m 23 (by rw [show (2 : Nat) ^ 23 = 8388608 from by decide]; exact hml) (by omega)
    rw [show (2 : Nat) ^ 23 = 8388608 from by decide] at this
    exact this
  obtain ⟨ng, hng⟩ : ∃ ng, decide (x / 2147483648 ≠ 0) = ng := ⟨_, rfl⟩
  have bN : ((x : Int) / 2147483648 != 0) = ng := by
    rw [← hng]
    by_cases c : x / 2147483648 = 0
    · rw [decide_eq_false (by simpa using c), bne_eq_false_iff_eq]; omega
    · rw [decide_eq_true c, bne_iff_ne]; omega
  have hFT : ft125 x = if ftM125 x = 0 then ftZ ng else ftO ng (ftR125 x) := by unfold ft125; rw [hng]
  obtain ⟨ex, hex⟩ : ∃ ex, ftX125 x = ex := ⟨_, rfl⟩
  obtain ⟨mt, hmt⟩ : ∃ mt, ftM125 x = mt := ⟨_, rfl⟩
  have hR : ftR125 x = sfF150 (mt * 2 ^ (64 - Lib.bitLen mt)) (ex - ((64 - Lib.bitLen mt : Nat) : Int) - 23) := by unfold ftR125 ftS125; rw [hmt, hex]
  have hS : ftS125 x = 64 - Lib.bitLen mt := by unfold ftS125; rw [hmt]
  rw [hS] at hm
  rw [hmt] at hm hd hFT
  obtain ⟨⟨rd, rp⟩, hr⟩ : ∃ r, ftR125 x = r := ⟨_, rfl⟩
  rw [hr] at hd hFT hR
  dsimp only at hd
  obtain ⟨ot, hot⟩ : ∃ ot, ft125 x = ot := ⟨_, rfl⟩
  rw [hot] at hFT ⊢
  have hE1 : (E : Int) < 255 := by omega
  have hXM : (E = 0 ∧ ex = 1 + (-127) ∧ mt = m) ∨ (E ≠ 0 ∧ ex = (E : Int) + (-127) ∧ mt = m + 8388608) := by
    unfold ftX125 at hex; unfold ftM125 at hmt
    rw [hE0] at hex hmt
    rw [hm0] at hmt
    by_cases c : E = 0
    · rw [if_pos c] at hex hmt; exact Or.inl ⟨c, hex.symm, hmt.symm⟩
    · rw [if_neg c] at hex hmt; exact Or.inr ⟨c, hex.symm, hmt.symm⟩
  have HFT := Lib.hid hFT
  have HR := Lib.hid hR
  have HXM := Lib.hid hXM
  have HM := Lib.hid hm
  have HD := Lib.hid hd
  have HO := Lib.hid hown
  have hE2 : ((E : Int) == 255) = false := beq_eq_false_iff_ne.2 (by omega)
  clear hFT hR hXM hm hd hown hE hE0 hm0 hng hex hmt hS hr hot
  go_enter Tryz.func125, Tryz.ntmps125
  go_upto_region 14 with fail
  go_quiet (fail)
  go_upto_if 78 with fail
  go_cut [14, 15] (fun s14 s15 wc => s14 = .int .i64 (ex - (-127)) ∧ s15 = .int .u64 mt ∧ Below w.heap.size w wc)
  case first =>
    rcases HXM.out with ⟨c, e1, e2⟩ | ⟨c, e1, e2⟩
    · have q1 : ((E : Int) == 0) = true := beq_iff_eq.2 (by omega)
      have e3 : ex - (-127) = 1 := by omega
      have E3 := Lib.hid e3
      have E2 := Lib.hid e2
      have C := Lib.hid c
      clear c e1 e2 e3 hE1 hml
      go_wp2
      go_meet
      exact ⟨by rw [E3.out, C.out]; simp [wrap64], by rw [E2.out], (Below.refl _ _).trans ⟨rfl, rfl, rfl, Nat.le_refl _, fun _ _ => rfl⟩⟩
    · have q1 : ((E : Int) == 0) = false := beq_eq_false_iff_ne.2 (by omega)
      have e3 : ex - (-127) = (E : Int) := by omega
      have E3 := Lib.hid e3
      have E2 := Lib.hid e2
      clear c e1 e2 e3 hE1 hml
      go_wp2
      go_meet
      exact ⟨by rw [E3.out], by rw [E2.out, Int.natCast_add]; rfl, (Below.refl _ _).trans ⟨rfl, rfl, rfl, Nat.le_refl _, fun _ _ => rfl⟩⟩
  case rest =>
    obtain ⟨rfl, rfl, hbw⟩ := hcut
    have hwc := hw.belowTop hbw
    have x0 : -2000 ≤ ex := by rcases HXM.out with ⟨c, e1, e2⟩ | ⟨c, e1, e2⟩ <;> omega
    have x1 : ex ≤ 2000 := by rcases HXM.out with ⟨c, e1, e2⟩ | ⟨c, e1, e2⟩ <;> omega
    have m1 : mt < 18446744073709551616 := by rcases HXM.out with ⟨c, e1, e2⟩ | ⟨c, e1, e2⟩ <;> omega
    have x2 : (-127) ≤ ex := by rcases HXM.out with ⟨c, e1, e2⟩ | ⟨c, e1, e2⟩ <;> omega
    have x3 : ex ≤ 127 := by rcases HXM.out with ⟨c, e1, e2⟩ | ⟨c, e1, e2⟩ <;> omega
    have x4 : (-126) ≤ ex := by rcases HXM.out with ⟨c, e1, e2⟩ | ⟨c, e1, e2⟩ <;> omega
    clear hE1 hml HXM
    by_cases c0 : mt = 0
    · as_aux_lemma =>
      have q1 : ((mt : Int) == 0) = true := beq_iff_eq.2 (by omega)
      have hZ := HFT.out
      rw [if_pos c0] at hZ
      have EF := fun (w2 : World) (h : Below w.heap.size w w2) => ef_calls B 0 0 0 ng true (fun _ => 0) 0 (-1) #[] v (.slice none 0 0) w2 w2 (Out.same HO.out hB h) (Or.inl ⟨rfl, rfl, rfl⟩) (by decide) (fun i hi => by omega) (by omega) (by omega) (by omega) (Or.inr ⟨rfl, rfl, rfl⟩)
      have HZ := Lib.hid hZ
      clear HFT HR hZ c0
      go_wp2_with (go_at_call 148; refine (EF _ hbw).mono ?_; rintro e w' ⟨v', rfl, hO⟩)
      go_ret
      exact ⟨v', rfl, by rw [HZ.out]; exact ⟨hO.own, (hbw.mono hB).trans hO.bel⟩⟩
    · as_aux_lemma =>
      have q1 : ((mt : Int) == 0) = false := beq_eq_false_iff_ne.2 (by omega)
      have hZ := HFT.out
      rw [if_neg c0] at hZ
      have hm := HM.out.resolve_right c0
      obtain ⟨d1, d2, d3, d4⟩ := HD.out.resolve_right c0
      obtain ⟨b, hb⟩ : ∃ b, Lib.bitLen mt = b := ⟨_, rfl⟩
      have hb64 : b ≤ 64 := by rw [← hb]; exact Lib.bitLen_le mt 64 (by omega) (by omega)
      rw [hb] at hm
      have hR := HR.out
      rw [hb] at hR
      have L := fun w : World => Tryz.bits_Len64 (mt : Int) w (by omega) (by omega)
      rw [show ((mt : Int)).toNat = mt from by omega, hb] at L
      obtain ⟨s, hs⟩ : ∃ s, 64 - b = s := ⟨_, rfl⟩
      rw [hs] at hm hR
      have hs2 : (64 : Int) - (b : Int) = (s : Int) := by omega
      have hs3 : s ≤ 64 := by omega
      obtain ⟨X, hX⟩ : ∃ X, mt * 2 ^ s = X := ⟨_, rfl⟩
      rw [hX] at hm hR
      have hX2 : IntKind.u64.wrap ((mt : Int) * 2 ^ s) = (X : Int) := by
        rw [← hX, IntKind.wrap_u64, Int.natCast_mul, Int.natCast_pow]
        have : ((mt : Int) * (2 : Int) ^ s) = ((mt * 2 ^ s : Nat) : Int) := by rw [Int.natCast_mul, Int.natCast_pow]; rfl
        rw [show ((2 : Nat) : Int) = 2 from rfl, this, hX]
        omega
      have hs63 : s ≤ 63 := by
        rcases Nat.lt_or_ge s 64 with h | h
        · omega
        · have e64 : s = 64 := by omega
          rw [e64] at hX
          have : (2 : Nat) ^ 64 = 18446744073709551616 := by decide
          rw [this] at hX
          omega
      have y0 : (-212) ≤ ex - (s : Int) - 23 := by omega
      have y1 : ex - (s : Int) - 23 ≤ 1000 := by omega
      have SF := fun (w2 : World) hw2 => sf150_calls X (ex - (s : Int) - 23) w2 hw2 hm.1 hm.2 y0 y1
      rw [← hR] at SF
      rw [show ex - (s : Int) - 23 = ex + 127 + (-127) - (s : Int) - 23 from by omega] at SF
      dsimp only at SF
      have ND := fun (w2 : World) (hw2 : Tabs w2) => Tryz.internal_strconv_numDigits rd d1 d2 w2 hw2.pow
      clear hR HR HM HD HFT hm hb hX y0 y1
      go_upto_region 34 with fail
      have hb3 : (wc.alloc (.cells #[Value.int IntKind.u8 0, Value.int IntKind.u8 0, Value.int IntKind.u8 0, Value.int IntKind.u8 0, Value.int IntKind.u8 0, Value.int IntKind.u8 0, Value.int IntKind.u8 0, Value.int IntKind.u8 0, Value.int IntKind.u8 0, Value.int IntKind.u8 0, Value.int IntKind.u8 0, Value.int IntKind.u8 0, Value.int IntKind.u8 0, Value.int IntKind.u8 0, Value.int IntKind.u8 0, Value.int IntKind.u8 0, Value.int IntKind.u8 0, Value.int IntKind.u8 0, Value.int IntKind.u8 0, Value.int IntKind.u8 0, Value.int IntKind.u8 0, Value.int IntKind.u8 0, Value.int IntKind.u8 0, Value.int IntKind.u8 0, Value.int IntKind.u8 0, Value.int IntKind.u8 0, Value.int IntKind.u8 0, Value.int IntKind.u8 0, Value.int IntKind.u8 0, Value.int IntKind.u8 0, Value.int IntKind.u8 0, Value.int IntKind.u8 0] 214)).heap[wc.heap.size]? = some (.cells #[Value.int IntKind.u8 0, Value.int IntKind.u8 0, Value.int IntKind.u8 0, Value.int IntKind.u8 0, Value.int IntKind.u8 0, Value.int IntKind.u8 0, Value.int IntKind.u8 0, Value.int IntKind.u8 0, Value.int IntKind.u8 0, Value.int IntKind.u8 0, Value.int IntKind.u8 0, Value.int IntKind.u8 0, Value.int IntKind.u8 0, Value.int IntKind.u8 0, Value.int IntKind.u8 0, Value.int IntKind.u8 0, Value.int IntKind.u8 0, Value.int IntKind.u8 0, Value.int IntKind.u8 0, Value.int IntKind.u8 0, Value.int IntKind.u8 0, Value.int IntKind.u8 0, Value.int IntKind.u8 0, Value.int IntKind.u8 0, Value.int IntKind.u8 0, Value.int IntKind.u8 0, Value.int IntKind.u8 0, Value.int IntKind.u8 0, Value.int IntKind.u8 0, Value.int IntKind.u8 0, Value.int IntKind.u8 0, Value.int IntKind.u8 0] 214 (0, 0)) := by simp [World.alloc, -World.alloc_eq]
      have hf3 : ∀ i, (wc.alloc (.cells #[Value.int IntKind.u8 0, Value.int IntKind.u8 0, Value.int IntKind.u8 0, Value.int IntKind.u8 0, Value.int IntKind.u8 0, Value.int IntKind.u8 0, Value.int IntKind.u8 0, Value.int IntKind.u8 0, Value.int IntKind.u8 0, Value.int IntKind.u8 0, Value.int IntKind.u8 0, Value.int IntKind.u8 0, Value.int IntKind.u8 0, Value.int IntKind.u8 0, Value.int IntKind.u8 0, Value.int IntKind.u8 0, Value.int IntKind.u8 0, Value.int IntKind.u8 0, Value.int IntKind.u8 0, Value.int IntKind.u8 0, Value.int IntKind.u8 0, Value.int IntKind.u8 0, Value.int IntKind.u8 0, Value.int IntKind.u8 0, Value.int IntKind.u8 0, Value.int IntKind.u8 0, Value.int IntKind.u8 0, Value.int IntKind.u8 0, Value.int IntKind.u8 0, Value.int IntKind.u8 0, Value.int IntKind.u8 0, Value.int IntKind.u8 0] 214)).frozen? ⟨wc.heap.size, i, none⟩ = false := fun i => World.frozen?_alloc_new _ _ _ _
      have hB3 : Below wc.heap.size wc (wc.alloc (.cells #[Value.int IntKind.u8 0, Value.int IntKind.u8 0, Value.int IntKind.u8 0, Value.int IntKind.u8 0, Value.int IntKind.u8 0, Value.int IntKind.u8 0, Value.int IntKind.u8 0, Value.int IntKind.u8 0, Value.int IntKind.u8 0, Value.int IntKind.u8 0, Value.int IntKind.u8 0, Value.int IntKind.u8 0, Value.int IntKind.u8 0, Value.int IntKind.u8 0, Value.int IntKind.u8 0, Value.int IntKind.u8 0, Value.int IntKind.u8 0, Value.int IntKind.u8 0, Value.int IntKind.u8 0, Value.int IntKind.u8 0, Value.int IntKind.u8 0, Value.int IntKind.u8 0, Value.int IntKind.u8 0, Value.int IntKind.u8 0, Value.int IntKind.u8 0, Value.int IntKind.u8 0, Value.int IntKind.u8 0, Value.int IntKind.u8 0, Value.int IntKind.u8 0, Value.int IntKind.u8 0, Value.int IntKind.u8 0, Value.int IntKind.u8 0] 214)) := (Below.refl _ _).alloc (Nat.le_refl _) _
      have hs3' : wc.heap.size < (wc.alloc (.cells #[Value.int IntKind.u8 0, Value.int IntKind.u8 0, Value.int IntKind.u8 0, Value.int IntKind.u8 0, Value.int IntKind.u8 0, Value.int IntKind.u8 0, Value.int IntKind.u8 0, Value.int IntKind.u8 0, Value.int IntKind.u8 0, Value.int IntKind.u8 0, Value.int IntKind.u8 0, Value.int IntKind.u8 0, Value.int IntKind.u8 0, Value.int IntKind.u8 0, Value.int IntKind.u8 0, Value.int IntKind.u8 0, Value.int IntKind.u8 0, Value.int IntKind.u8 0, Value.int IntKind.u8 0, Value.int IntKind.u8 0, Value.int IntKind.u8 0, Value.int IntKind.u8 0, Value.int IntKind.u8 0, Value.int IntKind.u8 0, Value.int IntKind.u8 0, Value.int IntKind.u8 0, Value.int IntKind.u8 0, Value.int IntKind.u8 0, Value.int IntKind.u8 0, Value.int IntKind.u8 0, Value.int IntKind.u8 0, Value.int IntKind.u8 0] 214)).heap.size := by simp
      have hT3 := hwc.belowTop hB3
      have hC : ∀ i, i < 32 → (#[Value.int IntKind.u8 0, Value.int IntKind.u8 0, Value.int IntKind.u8 0, Value.int IntKind.u8 0, Value.int IntKind.u8 0, Value.int IntKind.u8 0, Value.int IntKind.u8 0, Value.int IntKind.u8 0, Value.int IntKind.u8 0, Value.int IntKind.u8 0, Value.int IntKind.u8 0, Value.int IntKind.u8 0, Value.int IntKind.u8 0, Value.int IntKind.u8 0, Value.int IntKind.u8 0, Value.int IntKind.u8 0, Value.int IntKind.u8 0, Value.int IntKind.u8 0, Value.int IntKind.u8 0, Value.int IntKind.u8 0, Value.int IntKind.u8 0, Value.int IntKind.u8 0, Value.int IntKind.u8 0, Value.int IntKind.u8 0, Value.int IntKind.u8 0, Value.int IntKind.u8 0, Value.int IntKind.u8 0, Value.int IntKind.u8 0, Value.int IntKind.u8 0, Value.int IntKind.u8 0, Value.int IntKind.u8 0, Value.int IntKind.u8 0] : Array Value)[i]? = some (.int .u8 0) := by
        intro i hi
        have e : (#[Value.int IntKind.u8 0, Value.int IntKind.u8 0, Value.int IntKind.u8 0, Value.int IntKind.u8 0, Value.int IntKind.u8 0, Value.int IntKind.u8 0, Value.int IntKind.u8 0, Value.int IntKind.u8 0, Value.int IntKind.u8 0, Value.int IntKind.u8 0, Value.int IntKind.u8 0, Value.int IntKind.u8 0, Value.int IntKind.u8 0, Value.int IntKind.u8 0, Value.int IntKind.u8 0, Value.int IntKind.u8 0, Value.int IntKind.u8 0, Value.int IntKind.u8 0, Value.int IntKind.u8 0, Value.int IntKind.u8 0, Value.int IntKind.u8 0, Value.int IntKind.u8 0, Value.int IntKind.u8 0, Value.int IntKind.u8 0, Value.int IntKind.u8 0, Value.int IntKind.u8 0, Value.int IntKind.u8 0, Value.int IntKind.u8 0, Value.int IntKind.u8 0, Value.int IntKind.u8 0, Value.int IntKind.u8 0, Value.int IntKind.u8 0] : Array Value) = Array.replicate 32 (.int .u8 0) := rfl
        rw [e, Array.getElem?_replicate, if_pos hi]
      generalize wc.alloc (.cells #[Value.int IntKind.u8 0, Value.int IntKind.u8 0, Value.int IntKind.u8 0, Value.int IntKind.u8 0, Value.int IntKind.u8 0, Value.int IntKind.u8 0, Value.int IntKind.u8 0, Value.int IntKind.u8 0, Value.int IntKind.u8 0, Value.int IntKind.u8 0, Value.int IntKind.u8 0, Value.int IntKind.u8 0, Value.int IntKind.u8 0, Value.int IntKind.u8 0, Value.int IntKind.u8 0, Value.int IntKind.u8 0, Value.int IntKind.u8 0, Value.int IntKind.u8 0, Value.int IntKind.u8 0, Value.int IntKind.u8 0, Value.int IntKind.u8 0, Value.int IntKind.u8 0, Value.int IntKind.u8 0, Value.int IntKind.u8 0, Value.int IntKind.u8 0, Value.int IntKind.u8 0, Value.int IntKind.u8 0, Value.int IntKind.u8 0, Value.int IntKind.u8 0, Value.int IntKind.u8 0, Value.int IntKind.u8 0, Value.int IntKind.u8 0] 214) = w3 at *
      generalize hzl : (#[Value.int IntKind.u8 0, Value.int IntKind.u8 0, Value.int IntKind.u8 0, Value.int IntKind.u8 0, Value.int IntKind.u8 0, Value.int IntKind.u8 0, Value.int IntKind.u8 0, Value.int IntKind.u8 0, Value.int IntKind.u8 0, Value.int IntKind.u8 0, Value.int IntKind.u8 0, Value.int IntKind.u8 0, Value.int IntKind.u8 0, Value.int IntKind.u8 0, Value.int IntKind.u8 0, Value.int IntKind.u8 0, Value.int IntKind.u8 0, Value.int IntKind.u8 0, Value.int IntKind.u8 0, Value.int IntKind.u8 0, Value.int IntKind.u8 0, Value.int IntKind.u8 0, Value.int IntKind.u8 0, Value.int IntKind.u8 0, Value.int IntKind.u8 0, Value.int IntKind.u8 0, Value.int IntKind.u8 0, Value.int IntKind.u8 0, Value.int IntKind.u8 0, Value.int IntKind.u8 0, Value.int IntKind.u8 0, Value.int IntKind.u8 0] : Array Value) = ZL at *
      clear hzl
      have SF := SF w3 hT3
      go_upto_region 38 with (first | (go_at_call 149; refine (L _).mono ?_; rintro e w' ⟨rfl, rfl⟩) | (go_at_call 150; refine SF.mono ?_; rintro e w4 ⟨rfl, hB4⟩))
      have hT4 := hT3.belowTop hB4
      have hb4 := (hB4.block _ hs3').trans hb3
      have hf4 : ∀ i, w4.frozen? ⟨wc.heap.size, i, none⟩ = false := fun i => (hB4.frozen hs3').trans (hf3 i)
      have hr4 := hB4.size
      have hB34 := hB3.trans (hB4.mono (Nat.le_of_lt hs3'))
      clear hb3 hf3 hB3 hT3 hB4 SF L
      clear hX2
      have SD := fun n => sd_calls wc.heap.size rd rp ZL (w4.drewN n) d1 d2 hb4 hC hf4 (by omega) (by omega)
      have ND := fun n => ND (w4.drewN n) (hT4.belowTop ⟨rfl, rfl, rfl, Nat.le_refl _, fun _ _ => rfl⟩)
      have hn20 : Lib.nDigits rd ≤ 20 := by have := Lib.numDigits_eq rd d1 d2; split at this <;> omega
      have hnz := tzF_le (dgB rd) (Lib.nDigits rd)
      unfold ftO at hZ
      dsimp only at hZ
      generalize tzF (dgB rd) (Lib.nDigits rd) = nz at *
      generalize Lib.nDigits rd = nd at *
      have z1 : (nd : Int) ≤ 20 := by omega
      have z2 : (nz : Int) ≤ 20 := by omega
      have HZ := Lib.hid hZ
      have HB3 := Lib.hid hB34
      clear hZ hb4 hf4 hT4 hC hB34 hr4
      go_region_with (first | (go_at_call 128; refine (ND 0).mono ?_; rintro e w' ⟨rfl, rfl⟩) | (go_at_call 128; refine (ND 1).mono ?_; rintro e w' ⟨rfl, rfl⟩) | (go_at_call 151; refine (SD 1).mono ?_; rintro e w5 ⟨rfl, ⟨C', hc'⟩, hcd, ho⟩))
      have hb5 : Below w.heap.size w w5 := hbw.trans ((HB3.out.trans ((⟨rfl, rfl, rfl, Nat.le_refl _, fun _ _ => rfl⟩ : Below wc.heap.size w4 (w4.drewN 1)).trans (ho.below (Nat.le_refl _)))).mono hbw.size)
      have EF := ef_calls B wc.heap.size nz 214 ng true (dgB rd) ((nd : Int) + rp) (max ((nz : Int) - ((nd : Int) + rp)) 0) C' v (.slice (some ⟨wc.heap.size, 0, none⟩) 32 32) w5 w5 (Out.same HO.out hB hb5) (Or.inr ⟨rfl, hc'⟩) (by decide) (fun i hi => hcd i (by omega)) (by omega) (by omega) (by omega) (Or.inl rfl)
      have HC := Lib.hid hcd
      clear ND SD hcd hc' ho HB3
      go_wp2_with (go_at_call 148; refine EF.mono ?_; rintro e w6 ⟨v', rfl, hO⟩)
      go_ret
      exact ⟨v', rfl, by rw [HZ.out]; exact ⟨hO.own, (hb5.mono hB).trans hO.bel⟩⟩
end Go.Proofs.YtnggkkdcddpjlaaGreatDoor
