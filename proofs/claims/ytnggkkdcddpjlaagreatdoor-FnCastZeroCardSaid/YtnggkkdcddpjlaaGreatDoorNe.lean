/- cast's toNumberE, toUnsignedNumberE and the forms with an error: what they answer, by what toNumber answers. -/
import Derived.Test.YtnggkkdcddpjlaaGreatDoorTns
import Derived.Test.YtnggkkdcddpjlaaGreatDoorTnu
import Derived.Test.YtnggkkdcddpjlaaGreatDoorTnf
import Derived.Test.YtnggkkdcddpjlaaGreatDoorPi
import Derived.Test.YtnggkkdcddpjlaaGreatDoorCpf
namespace Go.Proofs.YtnggkkdcddpjlaaGreatDoor
set_option linter.unusedVariables false
set_option linter.unusedSimpArgs false
open Go.RowKit
theorem en_calls (s : ByteArray) (w : World) : Calls Tryz.prog 48 #[.string s] w fun e w' => (∃ t v, e = .returned (.iface t v)) ∧ Below w.heap.size w w' := by
  have hb : Below w.heap.size w (w.alloc (.cells #[.string s] 136)) := (Below.refl _ _).alloc (Nat.le_refl _) _
  go_enter Tryz.func48, Tryz.ntmps48
  go_wp2
  go_ret
  exact ⟨⟨_, _, rfl⟩, hb⟩
theorem str_ne (s : ByteArray) (h : s.size ≠ 0) : s.toList.isEmpty = false ∧ ¬ s = ByteArray.empty := by
  refine ⟨?_, by intro e; subst e; simp at h⟩
  rw [Lib.toList_data, List.isEmpty_eq_false_iff]
  intro e
  have : s.data.toList.length = s.size := rfl
  rw [e] at this; simp at this; omega
theorem str_e (s : ByteArray) (h : s.size = 0) : s = ByteArray.empty := by
  obtain ⟨⟨l⟩⟩ := s
  cases l with
  | nil => rfl
  | cons x l => simp [ByteArray.size] at h
set_option maxRecDepth 100000 in
theorem ne65_ok (V : Value) (n : Int) (w : World) (h : Calls Tryz.prog 86 #[V] w fun e w' => e = .returned (.tuple #[.int .i64 n, .bool true]) ∧ w = w') :
    Calls Tryz.prog 65 #[V, .func (.func 66) #[] #[]] w fun e w' => e = .returned (.tuple #[.int .i64 n, .nilIface]) ∧ w = w' := by
  go_enter Tryz.func65, Tryz.ntmps65
  go_wp2_with (go_at_call 86; refine h.mono ?_; rintro e w' ⟨rfl, rfl⟩)
  go_ret2
  exact ⟨rfl, rfl⟩
theorem ne65_e (w : World) :
    Calls Tryz.prog 65 #[.iface 9 (.string ByteArray.empty), .func (.func 66) #[] #[]] w fun e w' => e = .returned (.tuple #[.int .i64 0, .nilIface]) ∧ w = w' := by
  have I := fun w : World => indirect_any 9 (.string ByteArray.empty) (by simp) (by simp) w
  have T := fun w : World => tn_int_str ByteArray.empty w
  go_enter Tryz.func65, Tryz.ntmps65
  go_wp2_with (first | (go_at_call 86; refine (T _).mono ?_; rintro e w' ⟨rfl, rfl⟩) | (go_at_call 45; refine (I _).mono ?_; rintro e w' ⟨rfl, rfl⟩))
  go_ret2
  exact ⟨rfl, rfl⟩
set_option maxRecDepth 100000 in
theorem ne65_s (f : Nat) (s : ByteArray) (n : Int) (bad : Bool) (w : World) (hw : Tabs w) (h2 : Two w) (hs : s.size ≤ 1000) (h0 : s.size ≠ 0) (h : cpiF f s = some (n, bad)) :
    Calls Tryz.prog 65 #[.iface 9 (.string s), .func (.func 66) #[] #[]] w fun e w' => ∃ ev, e = .returned (.tuple #[if bad = true then .int .i64 0 else .int .i64 n, ev]) ∧ ErrIs bad ev ∧ Below w.heap.size w w' := by
  have P := cpi66_calls f s n bad w hw hs h
  obtain ⟨q1, q2⟩ := str_ne s h0
  have I := fun w : World => indirect_any 9 (.string s) (by simp) (by simp) w
  have T := fun w : World => tn_int_str s w
  clear h hs h0
  cases bad
  · go_enter Tryz.func65, Tryz.ntmps65
    go_wp2_with (first | (go_at_call 86; refine (T _).mono ?_; rintro e w' ⟨rfl, rfl⟩) | (go_at_call 45; refine (I _).mono ?_; rintro e w' ⟨rfl, rfl⟩) | (go_at_call 66; refine P.mono ?_; rintro e w' ⟨ev, rfl, hev, hb⟩; obtain rfl : ev = .nilIface := by rcases hev with h | h; exact h.2; cases h.1))
    go_ret2
    exact ⟨_, rfl, Or.inl ⟨rfl, rfl⟩, hb⟩
  · go_enter Tryz.func65, Tryz.ntmps65
    go_wp2_with (first | (go_at_call 86; refine (T _).mono ?_; rintro e w' ⟨rfl, rfl⟩) | (go_at_call 45; refine (I _).mono ?_; rintro e w' ⟨rfl, rfl⟩) | (go_at_call 66; refine P.mono ?_; rintro e w' ⟨ev, rfl, hev, hb⟩; obtain ⟨te, pe, rfl⟩ : ∃ t p, ev = .iface t p := by rcases hev with h | h; cases h.1; exact h.2) | (go_at_call 48; refine (en_calls _ _).mono ?_; rintro e w2 ⟨⟨t2, p2, rfl⟩, hb2⟩))
    go_ret2
    exact ⟨_, rfl, Or.inr ⟨rfl, _, _, rfl⟩, hb.trans (hb2.mono hb.size)⟩
set_option maxRecDepth 100000 in
theorem ne99_ok (V : Value) (n : Int) (w : World) (h : Calls Tryz.prog 131 #[V] w fun e w' => e = .returned (.tuple #[.int .i8 n, .bool true]) ∧ w = w') :
    Calls Tryz.prog 99 #[V, .func (.func 100) #[] #[]] w fun e w' => e = .returned (.tuple #[.int .i8 n, .nilIface]) ∧ w = w' := by
  go_enter Tryz.func99, Tryz.ntmps99
  go_wp2_with (go_at_call 131; refine h.mono ?_; rintro e w' ⟨rfl, rfl⟩)
  go_ret2
  exact ⟨rfl, rfl⟩
theorem ne99_e (w : World) :
    Calls Tryz.prog 99 #[.iface 9 (.string ByteArray.empty), .func (.func 100) #[] #[]] w fun e w' => e = .returned (.tuple #[.int .i8 0, .nilIface]) ∧ w = w' := by
  have I := fun w : World => indirect_any 9 (.string ByteArray.empty) (by simp) (by simp) w
  have T := fun w : World => tn_i8_str ByteArray.empty w
  go_enter Tryz.func99, Tryz.ntmps99
  go_wp2_with (first | (go_at_call 131; refine (T _).mono ?_; rintro e w' ⟨rfl, rfl⟩) | (go_at_call 45; refine (I _).mono ?_; rintro e w' ⟨rfl, rfl⟩))
  go_ret2
  exact ⟨rfl, rfl⟩
set_option maxRecDepth 100000 in
theorem ne99_s (f : Nat) (s : ByteArray) (n : Int) (bad : Bool) (w : World) (hw : Tabs w) (h2 : Two w) (hs : s.size ≤ 1000) (h0 : s.size ≠ 0) (h : cpiF f s = some (n, bad)) :
    Calls Tryz.prog 99 #[.iface 9 (.string s), .func (.func 100) #[] #[]] w fun e w' => ∃ ev, e = .returned (.tuple #[if bad = true then .int .i8 0 else .int .i8 (IntKind.i8.wrap n), ev]) ∧ ErrIs bad ev ∧ Below w.heap.size w w' := by
  have P := cpi100_calls f s n bad w hw hs h
  obtain ⟨q1, q2⟩ := str_ne s h0
  have I := fun w : World => indirect_any 9 (.string s) (by simp) (by simp) w
  have T := fun w : World => tn_i8_str s w
  clear h hs h0
  cases bad
  · go_enter Tryz.func99, Tryz.ntmps99
    go_wp2_with (first | (go_at_call 131; refine (T _).mono ?_; rintro e w' ⟨rfl, rfl⟩) | (go_at_call 45; refine (I _).mono ?_; rintro e w' ⟨rfl, rfl⟩) | (go_at_call 100; refine P.mono ?_; rintro e w' ⟨ev, rfl, hev, hb⟩; obtain rfl : ev = .nilIface := by rcases hev with h | h; exact h.2; cases h.1))
    go_ret2
    exact ⟨_, rfl, Or.inl ⟨rfl, rfl⟩, hb⟩
  · go_enter Tryz.func99, Tryz.ntmps99
    go_wp2_with (first | (go_at_call 131; refine (T _).mono ?_; rintro e w' ⟨rfl, rfl⟩) | (go_at_call 45; refine (I _).mono ?_; rintro e w' ⟨rfl, rfl⟩) | (go_at_call 100; refine P.mono ?_; rintro e w' ⟨ev, rfl, hev, hb⟩; obtain ⟨te, pe, rfl⟩ : ∃ t p, ev = .iface t p := by rcases hev with h | h; cases h.1; exact h.2) | (go_at_call 48; refine (en_calls _ _).mono ?_; rintro e w2 ⟨⟨t2, p2, rfl⟩, hb2⟩))
    go_ret2
    exact ⟨_, rfl, Or.inr ⟨rfl, _, _, rfl⟩, hb.trans (hb2.mono hb.size)⟩
set_option maxRecDepth 100000 in
theorem ne101_ok (V : Value) (n : Int) (w : World) (h : Calls Tryz.prog 132 #[V] w fun e w' => e = .returned (.tuple #[.int .i16 n, .bool true]) ∧ w = w') :
    Calls Tryz.prog 101 #[V, .func (.func 102) #[] #[]] w fun e w' => e = .returned (.tuple #[.int .i16 n, .nilIface]) ∧ w = w' := by
  go_enter Tryz.func101, Tryz.ntmps101
  go_wp2_with (go_at_call 132; refine h.mono ?_; rintro e w' ⟨rfl, rfl⟩)
  go_ret2
  exact ⟨rfl, rfl⟩
theorem ne101_e (w : World) :
    Calls Tryz.prog 101 #[.iface 9 (.string ByteArray.empty), .func (.func 102) #[] #[]] w fun e w' => e = .returned (.tuple #[.int .i16 0, .nilIface]) ∧ w = w' := by
  have I := fun w : World => indirect_any 9 (.string ByteArray.empty) (by simp) (by simp) w
  have T := fun w : World => tn_i16_str ByteArray.empty w
  go_enter Tryz.func101, Tryz.ntmps101
  go_wp2_with (first | (go_at_call 132; refine (T _).mono ?_; rintro e w' ⟨rfl, rfl⟩) | (go_at_call 45; refine (I _).mono ?_; rintro e w' ⟨rfl, rfl⟩))
  go_ret2
  exact ⟨rfl, rfl⟩
set_option maxRecDepth 100000 in
theorem ne101_s (f : Nat) (s : ByteArray) (n : Int) (bad : Bool) (w : World) (hw : Tabs w) (h2 : Two w) (hs : s.size ≤ 1000) (h0 : s.size ≠ 0) (h : cpiF f s = some (n, bad)) :
    Calls Tryz.prog 101 #[.iface 9 (.string s), .func (.func 102) #[] #[]] w fun e w' => ∃ ev, e = .returned (.tuple #[if bad = true then .int .i16 0 else .int .i16 (IntKind.i16.wrap n), ev]) ∧ ErrIs bad ev ∧ Below w.heap.size w w' := by
  have P := cpi102_calls f s n bad w hw hs h
  obtain ⟨q1, q2⟩ := str_ne s h0
  have I := fun w : World => indirect_any 9 (.string s) (by simp) (by simp) w
  have T := fun w : World => tn_i16_str s w
  clear h hs h0
  cases bad
  · go_enter Tryz.func101, Tryz.ntmps101
    go_wp2_with (first | (go_at_call 132; refine (T _).mono ?_; rintro e w' ⟨rfl, rfl⟩) | (go_at_call 45; refine (I _).mono ?_; rintro e w' ⟨rfl, rfl⟩) | (go_at_call 102; refine P.mono ?_; rintro e w' ⟨ev, rfl, hev, hb⟩; obtain rfl : ev = .nilIface := by rcases hev with h | h; exact h.2; cases h.1))
    go_ret2
    exact ⟨_, rfl, Or.inl ⟨rfl, rfl⟩, hb⟩
  · go_enter Tryz.func101, Tryz.ntmps101
    go_wp2_with (first | (go_at_call 132; refine (T _).mono ?_; rintro e w' ⟨rfl, rfl⟩) | (go_at_call 45; refine (I _).mono ?_; rintro e w' ⟨rfl, rfl⟩) | (go_at_call 102; refine P.mono ?_; rintro e w' ⟨ev, rfl, hev, hb⟩; obtain ⟨te, pe, rfl⟩ : ∃ t p, ev = .iface t p := by rcases hev with h | h; cases h.1; exact h.2) | (go_at_call 48; refine (en_calls _ _).mono ?_; rintro e w2 ⟨⟨t2, p2, rfl⟩, hb2⟩))
    go_ret2
    exact ⟨_, rfl, Or.inr ⟨rfl, _, _, rfl⟩, hb.trans (hb2.mono hb.size)⟩
set_option maxRecDepth 100000 in
theorem ne103_ok (V : Value) (n : Int) (w : World) (h : Calls Tryz.prog 133 #[V] w fun e w' => e = .returned (.tuple #[.int .i32 n, .bool true]) ∧ w = w') :
    Calls Tryz.prog 103 #[V, .func (.func 104) #[] #[]] w fun e w' => e = .returned (.tuple #[.int .i32 n, .nilIface]) ∧ w = w' := by
  go_enter Tryz.func103, Tryz.ntmps103
  go_wp2_with (go_at_call 133; refine h.mono ?_; rintro e w' ⟨rfl, rfl⟩)
  go_ret2
  exact ⟨rfl, rfl⟩
theorem ne103_e (w : World) :
    Calls Tryz.prog 103 #[.iface 9 (.string ByteArray.empty), .func (.func 104) #[] #[]] w fun e w' => e = .returned (.tuple #[.int .i32 0, .nilIface]) ∧ w = w' := by
  have I := fun w : World => indirect_any 9 (.string ByteArray.empty) (by simp) (by simp) w
  have T := fun w : World => tn_i32_str ByteArray.empty w
  go_enter Tryz.func103, Tryz.ntmps103
  go_wp2_with (first | (go_at_call 133; refine (T _).mono ?_; rintro e w' ⟨rfl, rfl⟩) | (go_at_call 45; refine (I _).mono ?_; rintro e w' ⟨rfl, rfl⟩))
  go_ret2
  exact ⟨rfl, rfl⟩
set_option maxRecDepth 100000 in
theorem ne103_s (f : Nat) (s : ByteArray) (n : Int) (bad : Bool) (w : World) (hw : Tabs w) (h2 : Two w) (hs : s.size ≤ 1000) (h0 : s.size ≠ 0) (h : cpiF f s = some (n, bad)) :
    Calls Tryz.prog 103 #[.iface 9 (.string s), .func (.func 104) #[] #[]] w fun e w' => ∃ ev, e = .returned (.tuple #[if bad = true then .int .i32 0 else .int .i32 (wrap32 n), ev]) ∧ ErrIs bad ev ∧ Below w.heap.size w w' := by
  have P := cpi104_calls f s n bad w hw hs h
  obtain ⟨q1, q2⟩ := str_ne s h0
  have I := fun w : World => indirect_any 9 (.string s) (by simp) (by simp) w
  have T := fun w : World => tn_i32_str s w
  clear h hs h0
  cases bad
  · go_enter Tryz.func103, Tryz.ntmps103
    go_wp2_with (first | (go_at_call 133; refine (T _).mono ?_; rintro e w' ⟨rfl, rfl⟩) | (go_at_call 45; refine (I _).mono ?_; rintro e w' ⟨rfl, rfl⟩) | (go_at_call 104; refine P.mono ?_; rintro e w' ⟨ev, rfl, hev, hb⟩; obtain rfl : ev = .nilIface := by rcases hev with h | h; exact h.2; cases h.1))
    go_ret2
    exact ⟨_, rfl, Or.inl ⟨rfl, rfl⟩, hb⟩
  · go_enter Tryz.func103, Tryz.ntmps103
    go_wp2_with (first | (go_at_call 133; refine (T _).mono ?_; rintro e w' ⟨rfl, rfl⟩) | (go_at_call 45; refine (I _).mono ?_; rintro e w' ⟨rfl, rfl⟩) | (go_at_call 104; refine P.mono ?_; rintro e w' ⟨ev, rfl, hev, hb⟩; obtain ⟨te, pe, rfl⟩ : ∃ t p, ev = .iface t p := by rcases hev with h | h; cases h.1; exact h.2) | (go_at_call 48; refine (en_calls _ _).mono ?_; rintro e w2 ⟨⟨t2, p2, rfl⟩, hb2⟩))
    go_ret2
    exact ⟨_, rfl, Or.inr ⟨rfl, _, _, rfl⟩, hb.trans (hb2.mono hb.size)⟩
set_option maxRecDepth 100000 in
theorem ne105_ok (V : Value) (n : Int) (w : World) (h : Calls Tryz.prog 134 #[V] w fun e w' => e = .returned (.tuple #[.int .i64 n, .bool true]) ∧ w = w') :
    Calls Tryz.prog 105 #[V, .func (.func 106) #[] #[]] w fun e w' => e = .returned (.tuple #[.int .i64 n, .nilIface]) ∧ w = w' := by
  go_enter Tryz.func105, Tryz.ntmps105
  go_wp2_with (go_at_call 134; refine h.mono ?_; rintro e w' ⟨rfl, rfl⟩)
  go_ret2
  exact ⟨rfl, rfl⟩
theorem ne105_e (w : World) :
    Calls Tryz.prog 105 #[.iface 9 (.string ByteArray.empty), .func (.func 106) #[] #[]] w fun e w' => e = .returned (.tuple #[.int .i64 0, .nilIface]) ∧ w = w' := by
  have I := fun w : World => indirect_any 9 (.string ByteArray.empty) (by simp) (by simp) w
  have T := fun w : World => tn_i64_str ByteArray.empty w
  go_enter Tryz.func105, Tryz.ntmps105
  go_wp2_with (first | (go_at_call 134; refine (T _).mono ?_; rintro e w' ⟨rfl, rfl⟩) | (go_at_call 45; refine (I _).mono ?_; rintro e w' ⟨rfl, rfl⟩))
  go_ret2
  exact ⟨rfl, rfl⟩
set_option maxRecDepth 100000 in
theorem ne105_s (f : Nat) (s : ByteArray) (n : Int) (bad : Bool) (w : World) (hw : Tabs w) (h2 : Two w) (hs : s.size ≤ 1000) (h0 : s.size ≠ 0) (h : cpiF f s = some (n, bad)) :
    Calls Tryz.prog 105 #[.iface 9 (.string s), .func (.func 106) #[] #[]] w fun e w' => ∃ ev, e = .returned (.tuple #[if bad = true then .int .i64 0 else .int .i64 n, ev]) ∧ ErrIs bad ev ∧ Below w.heap.size w w' := by
  have P := cpi106_calls f s n bad w hw hs h
  obtain ⟨q1, q2⟩ := str_ne s h0
  have I := fun w : World => indirect_any 9 (.string s) (by simp) (by simp) w
  have T := fun w : World => tn_i64_str s w
  clear h hs h0
  cases bad
  · go_enter Tryz.func105, Tryz.ntmps105
    go_wp2_with (first | (go_at_call 134; refine (T _).mono ?_; rintro e w' ⟨rfl, rfl⟩) | (go_at_call 45; refine (I _).mono ?_; rintro e w' ⟨rfl, rfl⟩) | (go_at_call 106; refine P.mono ?_; rintro e w' ⟨ev, rfl, hev, hb⟩; obtain rfl : ev = .nilIface := by rcases hev with h | h; exact h.2; cases h.1))
    go_ret2
    exact ⟨_, rfl, Or.inl ⟨rfl, rfl⟩, hb⟩
  · go_enter Tryz.func105, Tryz.ntmps105
    go_wp2_with (first | (go_at_call 134; refine (T _).mono ?_; rintro e w' ⟨rfl, rfl⟩) | (go_at_call 45; refine (I _).mono ?_; rintro e w' ⟨rfl, rfl⟩) | (go_at_call 106; refine P.mono ?_; rintro e w' ⟨ev, rfl, hev, hb⟩; obtain ⟨te, pe, rfl⟩ : ∃ t p, ev = .iface t p := by rcases hev with h | h; cases h.1; exact h.2) | (go_at_call 48; refine (en_calls _ _).mono ?_; rintro e w2 ⟨⟨t2, p2, rfl⟩, hb2⟩))
    go_ret2
    exact ⟨_, rfl, Or.inr ⟨rfl, _, _, rfl⟩, hb.trans (hb2.mono hb.size)⟩
set_option maxRecDepth 100000 in
theorem ne67_ok (V : Value) (n : Int) (w : World) (h : Calls Tryz.prog 89 #[V] w fun e w' => e = .returned (.tuple #[.int .u64 n, .bool true, .bool true]) ∧ w = w') :
    Calls Tryz.prog 67 #[V, .func (.func 68) #[] #[]] w fun e w' => e = .returned (.tuple #[.int .u64 n, .nilIface]) ∧ w = w' := by
  go_enter Tryz.func67, Tryz.ntmps67
  go_wp2_with (go_at_call 89; refine h.mono ?_; rintro e w' ⟨rfl, rfl⟩)
  go_ret2
  exact ⟨rfl, rfl⟩
theorem ne67_e (w : World) :
    Calls Tryz.prog 67 #[.iface 9 (.string ByteArray.empty), .func (.func 68) #[] #[]] w fun e w' => e = .returned (.tuple #[.int .u64 0, .nilIface]) ∧ w = w' := by
  have I := fun w : World => indirect_any 9 (.string ByteArray.empty) (by simp) (by simp) w
  have T := fun w : World => tu_uint_str ByteArray.empty w
  go_enter Tryz.func67, Tryz.ntmps67
  go_wp2_with (first | (go_at_call 89; refine (T _).mono ?_; rintro e w' ⟨rfl, rfl⟩) | (go_at_call 45; refine (I _).mono ?_; rintro e w' ⟨rfl, rfl⟩))
  go_ret2
  exact ⟨rfl, rfl⟩
set_option maxRecDepth 100000 in
theorem ne67_s (f : Nat) (s : ByteArray) (n : Int) (bad : Bool) (w : World) (hw : Tabs w) (h2 : Two w) (hs : s.size ≤ 1000) (h0 : s.size ≠ 0) (h : cpuF f s = some (n, bad)) :
    Calls Tryz.prog 67 #[.iface 9 (.string s), .func (.func 68) #[] #[]] w fun e w' => ∃ ev, e = .returned (.tuple #[if bad = true then .int .u64 0 else .int .u64 n, ev]) ∧ ErrIs bad ev ∧ Below w.heap.size w w' := by
  have P := cpu68_calls f s n bad w hw hs h
  obtain ⟨q1, q2⟩ := str_ne s h0
  have I := fun w : World => indirect_any 9 (.string s) (by simp) (by simp) w
  have T := fun w : World => tu_uint_str s w
  clear h hs h0
  cases bad
  · go_enter Tryz.func67, Tryz.ntmps67
    go_wp2_with (first | (go_at_call 89; refine (T _).mono ?_; rintro e w' ⟨rfl, rfl⟩) | (go_at_call 45; refine (I _).mono ?_; rintro e w' ⟨rfl, rfl⟩) | (go_at_call 68; refine P.mono ?_; rintro e w' ⟨ev, rfl, hev, hb⟩; obtain rfl : ev = .nilIface := by rcases hev with h | h; exact h.2; cases h.1))
    go_ret2
    exact ⟨_, rfl, Or.inl ⟨rfl, rfl⟩, hb⟩
  · go_enter Tryz.func67, Tryz.ntmps67
    go_wp2_with (first | (go_at_call 89; refine (T _).mono ?_; rintro e w' ⟨rfl, rfl⟩) | (go_at_call 45; refine (I _).mono ?_; rintro e w' ⟨rfl, rfl⟩) | (go_at_call 68; refine P.mono ?_; rintro e w' ⟨ev, rfl, hev, hb⟩; obtain ⟨te, pe, rfl⟩ : ∃ t p, ev = .iface t p := by rcases hev with h | h; cases h.1; exact h.2) | (go_at_call 48; refine (en_calls _ _).mono ?_; rintro e w2 ⟨⟨t2, p2, rfl⟩, hb2⟩))
    go_ret2
    exact ⟨_, rfl, Or.inr ⟨rfl, _, _, rfl⟩, hb.trans (hb2.mono hb.size)⟩
theorem ne67_neg (V : Value) (w : World) (hI : ∀ w, Calls Tryz.prog 45 #[V] w fun e w' => e = .returned (.tuple #[V, .bool false]) ∧ w = w')
    (h : Calls Tryz.prog 89 #[V] w fun e w' => e = .returned (.tuple #[.int .u64 0, .bool false, .bool false]) ∧ w = w') :
    Calls Tryz.prog 67 #[V, .func (.func 68) #[] #[]] w fun e w' => ∃ ev, e = .returned (.tuple #[.int .u64 0, ev]) ∧ ErrIs true ev ∧ w = w' := by
  go_enter Tryz.func67, Tryz.ntmps67
  go_wp2_with (first | (go_at_call 89; refine h.mono ?_; rintro e w' ⟨rfl, rfl⟩) | (go_at_call 45; refine (hI _).mono ?_; rintro e w' ⟨rfl, rfl⟩))
  go_ret2
  exact ⟨_, rfl, Or.inr ⟨rfl, _, _, rfl⟩, rfl⟩
set_option maxRecDepth 100000 in
theorem ne107_ok (V : Value) (n : Int) (w : World) (h : Calls Tryz.prog 135 #[V] w fun e w' => e = .returned (.tuple #[.int .u8 n, .bool true, .bool true]) ∧ w = w') :
    Calls Tryz.prog 107 #[V, .func (.func 108) #[] #[]] w fun e w' => e = .returned (.tuple #[.int .u8 n, .nilIface]) ∧ w = w' := by
  go_enter Tryz.func107, Tryz.ntmps107
  go_wp2_with (go_at_call 135; refine h.mono ?_; rintro e w' ⟨rfl, rfl⟩)
  go_ret2
  exact ⟨rfl, rfl⟩
theorem ne107_e (w : World) :
    Calls Tryz.prog 107 #[.iface 9 (.string ByteArray.empty), .func (.func 108) #[] #[]] w fun e w' => e = .returned (.tuple #[.int .u8 0, .nilIface]) ∧ w = w' := by
  have I := fun w : World => indirect_any 9 (.string ByteArray.empty) (by simp) (by simp) w
  have T := fun w : World => tu_u8_str ByteArray.empty w
  go_enter Tryz.func107, Tryz.ntmps107
  go_wp2_with (first | (go_at_call 135; refine (T _).mono ?_; rintro e w' ⟨rfl, rfl⟩) | (go_at_call 45; refine (I _).mono ?_; rintro e w' ⟨rfl, rfl⟩))
  go_ret2
  exact ⟨rfl, rfl⟩
set_option maxRecDepth 100000 in
theorem ne107_s (f : Nat) (s : ByteArray) (n : Int) (bad : Bool) (w : World) (hw : Tabs w) (h2 : Two w) (hs : s.size ≤ 1000) (h0 : s.size ≠ 0) (h : cpuF f s = some (n, bad)) :
    Calls Tryz.prog 107 #[.iface 9 (.string s), .func (.func 108) #[] #[]] w fun e w' => ∃ ev, e = .returned (.tuple #[if bad = true then .int .u8 0 else .int .u8 (IntKind.u8.wrap n), ev]) ∧ ErrIs bad ev ∧ Below w.heap.size w w' := by
  have P := cpu108_calls f s n bad w hw hs h
  obtain ⟨q1, q2⟩ := str_ne s h0
  have I := fun w : World => indirect_any 9 (.string s) (by simp) (by simp) w
  have T := fun w : World => tu_u8_str s w
  clear h hs h0
  cases bad
  · go_enter Tryz.func107, Tryz.ntmps107
    go_wp2_with (first | (go_at_call 135; refine (T _).mono ?_; rintro e w' ⟨rfl, rfl⟩) | (go_at_call 45; refine (I _).mono ?_; rintro e w' ⟨rfl, rfl⟩) | (go_at_call 108; refine P.mono ?_; rintro e w' ⟨ev, rfl, hev, hb⟩; obtain rfl : ev = .nilIface := by rcases hev with h | h; exact h.2; cases h.1))
    go_ret2
    exact ⟨_, rfl, Or.inl ⟨rfl, rfl⟩, hb⟩
  · go_enter Tryz.func107, Tryz.ntmps107
    go_wp2_with (first | (go_at_call 135; refine (T _).mono ?_; rintro e w' ⟨rfl, rfl⟩) | (go_at_call 45; refine (I _).mono ?_; rintro e w' ⟨rfl, rfl⟩) | (go_at_call 108; refine P.mono ?_; rintro e w' ⟨ev, rfl, hev, hb⟩; obtain ⟨te, pe, rfl⟩ : ∃ t p, ev = .iface t p := by rcases hev with h | h; cases h.1; exact h.2) | (go_at_call 48; refine (en_calls _ _).mono ?_; rintro e w2 ⟨⟨t2, p2, rfl⟩, hb2⟩))
    go_ret2
    exact ⟨_, rfl, Or.inr ⟨rfl, _, _, rfl⟩, hb.trans (hb2.mono hb.size)⟩
theorem ne107_neg (V : Value) (w : World) (hI : ∀ w, Calls Tryz.prog 45 #[V] w fun e w' => e = .returned (.tuple #[V, .bool false]) ∧ w = w')
    (h : Calls Tryz.prog 135 #[V] w fun e w' => e = .returned (.tuple #[.int .u8 0, .bool false, .bool false]) ∧ w = w') :
    Calls Tryz.prog 107 #[V, .func (.func 108) #[] #[]] w fun e w' => ∃ ev, e = .returned (.tuple #[.int .u8 0, ev]) ∧ ErrIs true ev ∧ w = w' := by
  go_enter Tryz.func107, Tryz.ntmps107
  go_wp2_with (first | (go_at_call 135; refine h.mono ?_; rintro e w' ⟨rfl, rfl⟩) | (go_at_call 45; refine (hI _).mono ?_; rintro e w' ⟨rfl, rfl⟩))
  go_ret2
  exact ⟨_, rfl, Or.inr ⟨rfl, _, _, rfl⟩, rfl⟩
set_option maxRecDepth 100000 in
theorem ne109_ok (V : Value) (n : Int) (w : World) (h : Calls Tryz.prog 136 #[V] w fun e w' => e = .returned (.tuple #[.int .u16 n, .bool true, .bool true]) ∧ w = w') :
    Calls Tryz.prog 109 #[V, .func (.func 110) #[] #[]] w fun e w' => e = .returned (.tuple #[.int .u16 n, .nilIface]) ∧ w = w' := by
  go_enter Tryz.func109, Tryz.ntmps109
  go_wp2_with (go_at_call 136; refine h.mono ?_; rintro e w' ⟨rfl, rfl⟩)
  go_ret2
  exact ⟨rfl, rfl⟩
theorem ne109_e (w : World) :
    Calls Tryz.prog 109 #[.iface 9 (.string ByteArray.empty), .func (.func 110) #[] #[]] w fun e w' => e = .returned (.tuple #[.int .u16 0, .nilIface]) ∧ w = w' := by
  have I := fun w : World => indirect_any 9 (.string ByteArray.empty) (by simp) (by simp) w
  have T := fun w : World => tu_u16_str ByteArray.empty w
  go_enter Tryz.func109, Tryz.ntmps109
  go_wp2_with (first | (go_at_call 136; refine (T _).mono ?_; rintro e w' ⟨rfl, rfl⟩) | (go_at_call 45; refine (I _).mono ?_; rintro e w' ⟨rfl, rfl⟩))
  go_ret2
  exact ⟨rfl, rfl⟩
set_option maxRecDepth 100000 in
theorem ne109_s (f : Nat) (s : ByteArray) (n : Int) (bad : Bool) (w : World) (hw : Tabs w) (h2 : Two w) (hs : s.size ≤ 1000) (h0 : s.size ≠ 0) (h : cpuF f s = some (n, bad)) :
    Calls Tryz.prog 109 #[.iface 9 (.string s), .func (.func 110) #[] #[]] w fun e w' => ∃ ev, e = .returned (.tuple #[if bad = true then .int .u16 0 else .int .u16 (IntKind.u16.wrap n), ev]) ∧ ErrIs bad ev ∧ Below w.heap.size w w' := by
  have P := cpu110_calls f s n bad w hw hs h
  obtain ⟨q1, q2⟩ := str_ne s h0
  have I := fun w : World => indirect_any 9 (.string s) (by simp) (by simp) w
  have T := fun w : World => tu_u16_str s w
  clear h hs h0
  cases bad
  · go_enter Tryz.func109, Tryz.ntmps109
    go_wp2_with (first | (go_at_call 136; refine (T _).mono ?_; rintro e w' ⟨rfl, rfl⟩) | (go_at_call 45; refine (I _).mono ?_; rintro e w' ⟨rfl, rfl⟩) | (go_at_call 110; refine P.mono ?_; rintro e w' ⟨ev, rfl, hev, hb⟩; obtain rfl : ev = .nilIface := by rcases hev with h | h; exact h.2; cases h.1))
    go_ret2
    exact ⟨_, rfl, Or.inl ⟨rfl, rfl⟩, hb⟩
  · go_enter Tryz.func109, Tryz.ntmps109
    go_wp2_with (first | (go_at_call 136; refine (T _).mono ?_; rintro e w' ⟨rfl, rfl⟩) | (go_at_call 45; refine (I _).mono ?_; rintro e w' ⟨rfl, rfl⟩) | (go_at_call 110; refine P.mono ?_; rintro e w' ⟨ev, rfl, hev, hb⟩; obtain ⟨te, pe, rfl⟩ : ∃ t p, ev = .iface t p := by rcases hev with h | h; cases h.1; exact h.2) | (go_at_call 48; refine (en_calls _ _).mono ?_; rintro e w2 ⟨⟨t2, p2, rfl⟩, hb2⟩))
    go_ret2
    exact ⟨_, rfl, Or.inr ⟨rfl, _, _, rfl⟩, hb.trans (hb2.mono hb.size)⟩
theorem ne109_neg (V : Value) (w : World) (hI : ∀ w, Calls Tryz.prog 45 #[V] w fun e w' => e = .returned (.tuple #[V, .bool false]) ∧ w = w')
    (h : Calls Tryz.prog 136 #[V] w fun e w' => e = .returned (.tuple #[.int .u16 0, .bool false, .bool false]) ∧ w = w') :
    Calls Tryz.prog 109 #[V, .func (.func 110) #[] #[]] w fun e w' => ∃ ev, e = .returned (.tuple #[.int .u16 0, ev]) ∧ ErrIs true ev ∧ w = w' := by
  go_enter Tryz.func109, Tryz.ntmps109
  go_wp2_with (first | (go_at_call 136; refine h.mono ?_; rintro e w' ⟨rfl, rfl⟩) | (go_at_call 45; refine (hI _).mono ?_; rintro e w' ⟨rfl, rfl⟩))
  go_ret2
  exact ⟨_, rfl, Or.inr ⟨rfl, _, _, rfl⟩, rfl⟩
set_option maxRecDepth 100000 in
theorem ne111_ok (V : Value) (n : Int) (w : World) (h : Calls Tryz.prog 137 #[V] w fun e w' => e = .returned (.tuple #[.int .u32 n, .bool true, .bool true]) ∧ w = w') :
    Calls Tryz.prog 111 #[V, .func (.func 112) #[] #[]] w fun e w' => e = .returned (.tuple #[.int .u32 n, .nilIface]) ∧ w = w' := by
  go_enter Tryz.func111, Tryz.ntmps111
  go_wp2_with (go_at_call 137; refine h.mono ?_; rintro e w' ⟨rfl, rfl⟩)
  go_ret2
  exact ⟨rfl, rfl⟩
theorem ne111_e (w : World) :
    Calls Tryz.prog 111 #[.iface 9 (.string ByteArray.empty), .func (.func 112) #[] #[]] w fun e w' => e = .returned (.tuple #[.int .u32 0, .nilIface]) ∧ w = w' := by
  have I := fun w : World => indirect_any 9 (.string ByteArray.empty) (by simp) (by simp) w
  have T := fun w : World => tu_u32_str ByteArray.empty w
  go_enter Tryz.func111, Tryz.ntmps111
  go_wp2_with (first | (go_at_call 137; refine (T _).mono ?_; rintro e w' ⟨rfl, rfl⟩) | (go_at_call 45; refine (I _).mono ?_; rintro e w' ⟨rfl, rfl⟩))
  go_ret2
  exact ⟨rfl, rfl⟩
set_option maxRecDepth 100000 in
theorem ne111_s (f : Nat) (s : ByteArray) (n : Int) (bad : Bool) (w : World) (hw : Tabs w) (h2 : Two w) (hs : s.size ≤ 1000) (h0 : s.size ≠ 0) (h : cpuF f s = some (n, bad)) :
    Calls Tryz.prog 111 #[.iface 9 (.string s), .func (.func 112) #[] #[]] w fun e w' => ∃ ev, e = .returned (.tuple #[if bad = true then .int .u32 0 else .int .u32 (IntKind.u32.wrap n), ev]) ∧ ErrIs bad ev ∧ Below w.heap.size w w' := by
  have P := cpu112_calls f s n bad w hw hs h
  obtain ⟨q1, q2⟩ := str_ne s h0
  have I := fun w : World => indirect_any 9 (.string s) (by simp) (by simp) w
  have T := fun w : World => tu_u32_str s w
  clear h hs h0
  cases bad
  · go_enter Tryz.func111, Tryz.ntmps111
    go_wp2_with (first | (go_at_call 137; refine (T _).mono ?_; rintro e w' ⟨rfl, rfl⟩) | (go_at_call 45; refine (I _).mono ?_; rintro e w' ⟨rfl, rfl⟩) | (go_at_call 112; refine P.mono ?_; rintro e w' ⟨ev, rfl, hev, hb⟩; obtain rfl : ev = .nilIface := by rcases hev with h | h; exact h.2; cases h.1))
    go_ret2
    exact ⟨_, rfl, Or.inl ⟨rfl, rfl⟩, hb⟩
  · go_enter Tryz.func111, Tryz.ntmps111
    go_wp2_with (first | (go_at_call 137; refine (T _).mono ?_; rintro e w' ⟨rfl, rfl⟩) | (go_at_call 45; refine (I _).mono ?_; rintro e w' ⟨rfl, rfl⟩) | (go_at_call 112; refine P.mono ?_; rintro e w' ⟨ev, rfl, hev, hb⟩; obtain ⟨te, pe, rfl⟩ : ∃ t p, ev = .iface t p := by rcases hev with h | h; cases h.1; exact h.2) | (go_at_call 48; refine (en_calls _ _).mono ?_; rintro e w2 ⟨⟨t2, p2, rfl⟩, hb2⟩))
    go_ret2
    exact ⟨_, rfl, Or.inr ⟨rfl, _, _, rfl⟩, hb.trans (hb2.mono hb.size)⟩
theorem ne111_neg (V : Value) (w : World) (hI : ∀ w, Calls Tryz.prog 45 #[V] w fun e w' => e = .returned (.tuple #[V, .bool false]) ∧ w = w')
    (h : Calls Tryz.prog 137 #[V] w fun e w' => e = .returned (.tuple #[.int .u32 0, .bool false, .bool false]) ∧ w = w') :
    Calls Tryz.prog 111 #[V, .func (.func 112) #[] #[]] w fun e w' => ∃ ev, e = .returned (.tuple #[.int .u32 0, ev]) ∧ ErrIs true ev ∧ w = w' := by
  go_enter Tryz.func111, Tryz.ntmps111
  go_wp2_with (first | (go_at_call 137; refine h.mono ?_; rintro e w' ⟨rfl, rfl⟩) | (go_at_call 45; refine (hI _).mono ?_; rintro e w' ⟨rfl, rfl⟩))
  go_ret2
  exact ⟨_, rfl, Or.inr ⟨rfl, _, _, rfl⟩, rfl⟩
set_option maxRecDepth 100000 in
theorem ne113_ok (V : Value) (n : Int) (w : World) (h : Calls Tryz.prog 138 #[V] w fun e w' => e = .returned (.tuple #[.int .u64 n, .bool true, .bool true]) ∧ w = w') :
    Calls Tryz.prog 113 #[V, .func (.func 114) #[] #[]] w fun e w' => e = .returned (.tuple #[.int .u64 n, .nilIface]) ∧ w = w' := by
  go_enter Tryz.func113, Tryz.ntmps113
  go_wp2_with (go_at_call 138; refine h.mono ?_; rintro e w' ⟨rfl, rfl⟩)
  go_ret2
  exact ⟨rfl, rfl⟩
theorem ne113_e (w : World) :
    Calls Tryz.prog 113 #[.iface 9 (.string ByteArray.empty), .func (.func 114) #[] #[]] w fun e w' => e = .returned (.tuple #[.int .u64 0, .nilIface]) ∧ w = w' := by
  have I := fun w : World => indirect_any 9 (.string ByteArray.empty) (by simp) (by simp) w
  have T := fun w : World => tu_u64_str ByteArray.empty w
  go_enter Tryz.func113, Tryz.ntmps113
  go_wp2_with (first | (go_at_call 138; refine (T _).mono ?_; rintro e w' ⟨rfl, rfl⟩) | (go_at_call 45; refine (I _).mono ?_; rintro e w' ⟨rfl, rfl⟩))
  go_ret2
  exact ⟨rfl, rfl⟩
set_option maxRecDepth 100000 in
theorem ne113_s (f : Nat) (s : ByteArray) (n : Int) (bad : Bool) (w : World) (hw : Tabs w) (h2 : Two w) (hs : s.size ≤ 1000) (h0 : s.size ≠ 0) (h : cpuF f s = some (n, bad)) :
    Calls Tryz.prog 113 #[.iface 9 (.string s), .func (.func 114) #[] #[]] w fun e w' => ∃ ev, e = .returned (.tuple #[if bad = true then .int .u64 0 else .int .u64 n, ev]) ∧ ErrIs bad ev ∧ Below w.heap.size w w' := by
  have P := cpu114_calls f s n bad w hw hs h
  obtain ⟨q1, q2⟩ := str_ne s h0
  have I := fun w : World => indirect_any 9 (.string s) (by simp) (by simp) w
  have T := fun w : World => tu_u64_str s w
  clear h hs h0
  cases bad
  · go_enter Tryz.func113, Tryz.ntmps113
    go_wp2_with (first | (go_at_call 138; refine (T _).mono ?_; rintro e w' ⟨rfl, rfl⟩) | (go_at_call 45; refine (I _).mono ?_; rintro e w' ⟨rfl, rfl⟩) | (go_at_call 114; refine P.mono ?_; rintro e w' ⟨ev, rfl, hev, hb⟩; obtain rfl : ev = .nilIface := by rcases hev with h | h; exact h.2; cases h.1))
    go_ret2
    exact ⟨_, rfl, Or.inl ⟨rfl, rfl⟩, hb⟩
  · go_enter Tryz.func113, Tryz.ntmps113
    go_wp2_with (first | (go_at_call 138; refine (T _).mono ?_; rintro e w' ⟨rfl, rfl⟩) | (go_at_call 45; refine (I _).mono ?_; rintro e w' ⟨rfl, rfl⟩) | (go_at_call 114; refine P.mono ?_; rintro e w' ⟨ev, rfl, hev, hb⟩; obtain ⟨te, pe, rfl⟩ : ∃ t p, ev = .iface t p := by rcases hev with h | h; cases h.1; exact h.2) | (go_at_call 48; refine (en_calls _ _).mono ?_; rintro e w2 ⟨⟨t2, p2, rfl⟩, hb2⟩))
    go_ret2
    exact ⟨_, rfl, Or.inr ⟨rfl, _, _, rfl⟩, hb.trans (hb2.mono hb.size)⟩
theorem ne113_neg (V : Value) (w : World) (hI : ∀ w, Calls Tryz.prog 45 #[V] w fun e w' => e = .returned (.tuple #[V, .bool false]) ∧ w = w')
    (h : Calls Tryz.prog 138 #[V] w fun e w' => e = .returned (.tuple #[.int .u64 0, .bool false, .bool false]) ∧ w = w') :
    Calls Tryz.prog 113 #[V, .func (.func 114) #[] #[]] w fun e w' => ∃ ev, e = .returned (.tuple #[.int .u64 0, ev]) ∧ ErrIs true ev ∧ w = w' := by
  go_enter Tryz.func113, Tryz.ntmps113
  go_wp2_with (first | (go_at_call 138; refine h.mono ?_; rintro e w' ⟨rfl, rfl⟩) | (go_at_call 45; refine (hI _).mono ?_; rintro e w' ⟨rfl, rfl⟩))
  go_ret2
  exact ⟨_, rfl, Or.inr ⟨rfl, _, _, rfl⟩, rfl⟩
set_option maxRecDepth 100000 in
theorem ne69_ok (V : Value) (n : Nat) (w : World) (h : Calls Tryz.prog 92 #[V] w fun e w' => e = .returned (.tuple #[.float .f64 n, .bool true]) ∧ w = w') :
    Calls Tryz.prog 69 #[V, .func (.func 70) #[] #[]] w fun e w' => e = .returned (.tuple #[.float .f64 n, .nilIface]) ∧ w = w' := by
  go_enter Tryz.func69, Tryz.ntmps69
  go_wp2_with (go_at_call 92; refine h.mono ?_; rintro e w' ⟨rfl, rfl⟩)
  go_ret2
  exact ⟨rfl, rfl⟩
theorem ne69_e (w : World) :
    Calls Tryz.prog 69 #[.iface 9 (.string ByteArray.empty), .func (.func 70) #[] #[]] w fun e w' => e = .returned (.tuple #[.float .f64 0, .nilIface]) ∧ w = w' := by
  have I := fun w : World => indirect_any 9 (.string ByteArray.empty) (by simp) (by simp) w
  have T := fun w : World => tn_f64_str ByteArray.empty w
  go_enter Tryz.func69, Tryz.ntmps69
  go_wp2_with (first | (go_at_call 92; refine (T _).mono ?_; rintro e w' ⟨rfl, rfl⟩) | (go_at_call 45; refine (I _).mono ?_; rintro e w' ⟨rfl, rfl⟩))
  go_ret2
  exact ⟨rfl, rfl⟩
set_option maxRecDepth 100000 in
theorem ne69_s (f : Nat) (s : ByteArray) (n : Nat) (bad : Bool) (w : World) (hw : Tabs w) (h2 : Two w) (hs : s.size ≤ 1000) (h0 : s.size ≠ 0) (h : spfF f s = some (n, bad)) :
    Calls Tryz.prog 69 #[.iface 9 (.string s), .func (.func 70) #[] #[]] w fun e w' => ∃ ev, e = .returned (.tuple #[if bad = true then .float .f64 0 else .float .f64 n, ev]) ∧ ErrIs bad ev ∧ Below w.heap.size w w' := by
  have P := cpf_calls f s n bad w hw h2 hs h
  obtain ⟨q1, q2⟩ := str_ne s h0
  have I := fun w : World => indirect_any 9 (.string s) (by simp) (by simp) w
  have T := fun w : World => tn_f64_str s w
  clear h hs h0
  cases bad
  · go_enter Tryz.func69, Tryz.ntmps69
    go_wp2_with (first | (go_at_call 92; refine (T _).mono ?_; rintro e w' ⟨rfl, rfl⟩) | (go_at_call 45; refine (I _).mono ?_; rintro e w' ⟨rfl, rfl⟩) | (go_at_call 70; refine P.mono ?_; rintro e w' ⟨ev, rfl, hev, hb⟩; obtain rfl : ev = .nilIface := by rcases hev with h | h; exact h.2; cases h.1))
    go_ret2
    exact ⟨_, rfl, Or.inl ⟨rfl, rfl⟩, hb⟩
  · go_enter Tryz.func69, Tryz.ntmps69
    go_wp2_with (first | (go_at_call 92; refine (T _).mono ?_; rintro e w' ⟨rfl, rfl⟩) | (go_at_call 45; refine (I _).mono ?_; rintro e w' ⟨rfl, rfl⟩) | (go_at_call 70; refine P.mono ?_; rintro e w' ⟨ev, rfl, hev, hb⟩; obtain ⟨te, pe, rfl⟩ : ∃ t p, ev = .iface t p := by rcases hev with h | h; cases h.1; exact h.2) | (go_at_call 48; refine (en_calls _ _).mono ?_; rintro e w2 ⟨⟨t2, p2, rfl⟩, hb2⟩))
    go_ret2
    exact ⟨_, rfl, Or.inr ⟨rfl, _, _, rfl⟩, hb.trans (hb2.mono hb.size)⟩
end Go.Proofs.YtnggkkdcddpjlaaGreatDoor
