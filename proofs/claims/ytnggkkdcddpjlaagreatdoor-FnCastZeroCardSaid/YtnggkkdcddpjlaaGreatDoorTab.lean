/- What the library's tables hold, as facts on the world; they stay while only new memory is made. -/
import Derived.Test.YtnggkkdcddpjlaaGreatDoorDec
import Derived.Test.YtnggkkdcddpjlaaGreatDoorShelf
import GoSem.PinnedTables
namespace Go.Proofs.YtnggkkdcddpjlaaGreatDoor
set_option linter.unusedVariables false
set_option linter.unusedSimpArgs false
open Go.RowKit
def pwHi (i : Nat) : Nat := (Go.Pinned.pow10Rows.getD i (0, 0)).1
def pwLo (i : Nat) : Nat := (Go.Pinned.pow10Rows.getD i (0, 0)).2
def lcD (i : Nat) : Nat := (Go.Pinned.cheatRows.getD i (0, [])).1
def lcS (i : Nat) : ByteArray := ⟨(Go.Pinned.cheatRows.getD i (0, [])).2.toArray⟩
def ptL : List Nat := [1, 3, 6, 9, 13, 16, 19, 23, 26]
def ptD (i : Nat) : Nat := ptL.getD i 0
def ftL : List Nat := [4607182418800017408, 4621819117588971520, 4636737291354636288, 4652007308841189376, 4666723172467343360, 4681608360884174848, 4696837146684686336, 4711630319722168320, 4726483295884279808, 4741671816366391296, 4756540486875873280, 4771362005757984768, 4786511204640096256, 4801453603149578240, 4816244402031689728, 4831355200913801216, 4846369599423283200, 4861130398305394688, 4876203697187506176, 4891288408196988160, 4906019910204099648, 4921056587992461136, 4936209963552724370]
def ftD (i : Nat) : Nat := ftL.getD i 0
structure Tabs (w : World) : Prop where
  pow : Lib.TabIs Tryz.prog w "internal/strconv.uint64pow10" .u64 Lib.pow10Tab
  esyn : ∃ t p, w.cell? ⟨1, 0, none⟩ = some (.iface t p)
  erng : ∃ t p, w.cell? ⟨2, 0, none⟩ = some (.iface t p)
  opt : w.cell? ⟨3, 0, none⟩ = some (.bool true)
  fi0 : w.cell? ⟨6, 0, none⟩ = some (.int .u64 52)
  fi1 : w.cell? ⟨6, 1, none⟩ = some (.int .u64 11)
  fi2 : w.cell? ⟨6, 2, none⟩ = some (.int .i64 (-1023))
  p10 : ∀ i, i < 696 → w.cell? ⟨7, i * 2, none⟩ = some (.int .u64 (pwHi i)) ∧ w.cell? ⟨7, i * 2 + 1, none⟩ = some (.int .u64 (pwLo i))
  lch : ∃ b o c, w.cell? ⟨8, 0, none⟩ = some (.slice (some ⟨b, o, none⟩) 61 c) ∧ ∀ k, k < 61 → w.cell? ⟨b, o + k * 2, none⟩ = some (.int .i64 (lcD k)) ∧ w.cell? ⟨b, o + k * 2 + 1, none⟩ = some (.string (lcS k))
  ptb : ∃ b o c, w.cell? ⟨12, 0, none⟩ = some (.slice (some ⟨b, o, none⟩) 9 c) ∧ ∀ k, k < 9 → w.cell? ⟨b, o + k, none⟩ = some (.int .i64 (ptD k))
  f10 : ∃ b o c, w.cell? ⟨13, 0, none⟩ = some (.slice (some ⟨b, o, none⟩) 23 c) ∧ ∀ k, k < 23 → w.cell? ⟨b, o + k, none⟩ = some (.float .f64 (ftD k))
theorem lt_of_cell {w : World} {a : Addr} {v : Value} (h : w.cell? a = some v) : a.block < w.heap.size := by
  unfold World.cell? at h
  split at h
  · rename_i hb
    exact (Array.getElem?_eq_some_iff.1 hb).1
  · cases h
theorem gPow : Tryz.prog.globalNamed "internal/strconv.uint64pow10" = some 4 := by kernel_rfl
theorem tabs_of_cells {w w' : World} (h : Tabs w) (hc : ∀ a v, w.cell? a = some v → w'.cell? a = some v) (hb : w'.heap[4]? = w.heap[4]?) : Tabs w' := by
  obtain ⟨pow, ⟨t1, p1, e1⟩, ⟨t2, p2, e2⟩, opt, fi0, fi1, fi2, p10, ⟨b, o, c, l1, l2⟩, ⟨b', o', c', m1, m2⟩, ⟨b'', o'', c'', n1, n2⟩⟩ := h
  refine ⟨?_, ⟨t1, p1, hc _ _ e1⟩, ⟨t2, p2, hc _ _ e2⟩, hc _ _ opt, hc _ _ fi0, hc _ _ fi1, hc _ _ fi2, fun i hi => ⟨hc _ _ (p10 i hi).1, hc _ _ (p10 i hi).2⟩,
    ⟨b, o, c, hc _ _ l1, fun k hk => ⟨hc _ _ (l2 k hk).1, hc _ _ (l2 k hk).2⟩⟩, ⟨b', o', c', hc _ _ m1, fun k hk => hc _ _ (m2 k hk)⟩, ⟨b'', o'', c'', hc _ _ n1, fun k hk => hc _ _ (n2 k hk)⟩⟩
  unfold Lib.TabIs World.var? at *
  rw [gPow] at *
  dsimp only [Option.bind_some] at *
  simpa [hb] using pow
theorem Tabs.below {w w' : World} {n : Nat} (h : Tabs w) (hb : Below n w w') (hn : ∀ a v, w.cell? a = some v → a.block < n) (h4 : 4 < n) : Tabs w' :=
  tabs_of_cells h (fun a v e => (hb.cell (hn a v e)).trans e) (hb.block 4 h4)
theorem Tabs.belowTop {w w' : World} (h : Tabs w) (hb : Below w.heap.size w w') : Tabs w' :=
  h.below hb (fun _ _ e => lt_of_cell e) (by have := lt_of_cell h.fi0; dsimp only at this; omega)
end Go.Proofs.YtnggkkdcddpjlaaGreatDoor
