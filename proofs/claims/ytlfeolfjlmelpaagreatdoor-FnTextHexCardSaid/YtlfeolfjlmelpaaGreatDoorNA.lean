/- Decimal numbers of the float reader: the 804 cells, and plain facts on their digits. -/
import Derived.Test.YtlfeolfjlmelpaaGreatDoorKX
namespace Go.Proofs.YtlfeolfjlmelpaaGreatDoor
open Go.RowKit

/-! ### Plain facts -/
/-- The number of the first n digits (each a byte). -/
def dnum (ds : Nat → Nat) : Nat → Nat
  | 0 => 0
  | n + 1 => dnum ds n * 10 + (ds n - 48)
/-- The first n bytes are digits. -/
def Digs (ds : Nat → Nat) (n : Nat) : Prop := ∀ i, i < n → 48 ≤ ds i ∧ ds i ≤ 57
theorem Digs.mono {ds : Nat → Nat} {n m : Nat} (h : Digs ds n) (hm : m ≤ n) : Digs ds m := fun i hi => h i (by omega)
theorem dnum_lt {ds : Nat → Nat} : ∀ (n : Nat), Digs ds n → dnum ds n < 10 ^ n
  | 0, _ => by simp [dnum]
  | n + 1, h => by
    have h1 := dnum_lt n (h.mono (by omega))
    have h2 := h n (by omega)
    rw [dnum, Nat.pow_succ]
    omega
theorem dnum_ge {ds : Nat → Nat} (h0 : 49 ≤ ds 0) : ∀ (n : Nat), 10 ^ n ≤ dnum ds (n + 1)
  | 0 => by simp [dnum]; omega
  | n + 1 => by
    have h1 := dnum_ge h0 n
    rw [dnum, Nat.pow_succ]
    omega
theorem dnum_congr {ds es : Nat → Nat} : ∀ (n : Nat), (∀ i, i < n → ds i = es i) → dnum ds n = dnum es n
  | 0, _ => rfl
  | n + 1, h => by rw [dnum, dnum, dnum_congr n (fun i hi => h i (by omega)), h n (by omega)]
/-- One byte is written. -/
def upd (ds : Nat → Nat) (i b : Nat) : Nat → Nat := fun j => if j = i then b else ds j
theorem upd_same (ds : Nat → Nat) (i b : Nat) : upd ds i b i = b := if_pos rfl
theorem upd_other (ds : Nat → Nat) {i j : Nat} (b : Nat) (h : j ≠ i) : upd ds i b j = ds j := if_neg h

/-! ### The cells -/
/-- Block g is a decimal: its bytes, how many count, where the point stands, its sign, whether something was cut off. -/
structure IsD (w : World) (g : Nat) (ds : Nat → Nat) (nd dp : Int) (ng tr : Bool) : Prop where
  blk : ∃ C : Array Value, w.heap[g]? = some (.cells C 310 (0, 0))
  d : ∀ i, i < 800 → w.cell? ⟨g, i, none⟩ = some (.int .u8 (ds i : Nat))
  cnd : w.cell? ⟨g, 800, none⟩ = some (.int .i64 nd)
  cdp : w.cell? ⟨g, 801, none⟩ = some (.int .i64 dp)
  cng : w.cell? ⟨g, 802, none⟩ = some (.bool ng)
  ctr : w.cell? ⟨g, 803, none⟩ = some (.bool tr)

theorem IsD.lt {w : World} {g : Nat} {ds : Nat → Nat} {nd dp : Int} {ng tr : Bool} (h : IsD w g ds nd dp ng tr) : g < w.heap.size := by
  obtain ⟨C, hC⟩ := h.blk
  exact blk_lt hC
theorem IsD.free {w : World} {g : Nat} {ds : Nat → Nat} {nd dp : Int} {ng tr : Bool} (h : IsD w g ds nd dp ng tr) (i : Nat) : w.frozen? ⟨g, i, none⟩ = false := by
  obtain ⟨C, hC⟩ := h.blk
  exact blk_frozen hC i
theorem set_other {w : World} {g i j : Nat} {u v : Value} (h : w.cell? ⟨g, j, none⟩ = some v) (hij : j ≠ i) : (w.setCell ⟨g, i, none⟩ u).cell? ⟨g, j, none⟩ = some v := by
  rw [World.cell?_setCell_other w ⟨g, i, none⟩ ⟨g, j, none⟩ u (fun e => hij (by cases e; rfl))]; exact h
theorem set_same {w : World} {g i : Nat} {u v : Value} (h : w.cell? ⟨g, i, none⟩ = some v) : (w.setCell ⟨g, i, none⟩ u).cell? ⟨g, i, none⟩ = some u :=
  World.cell?_setCell_same w ⟨g, i, none⟩ u h
theorem IsD.setD {w : World} {g : Nat} {ds : Nat → Nat} {nd dp : Int} {ng tr : Bool} (h : IsD w g ds nd dp ng tr) (i b : Nat) (hi : i < 800) : IsD (w.setCell ⟨g, i, none⟩ (.int .u8 (b : Nat))) g (upd ds i b) nd dp ng tr := by
  obtain ⟨C, hC⟩ := h.blk
  refine ⟨⟨_, blk_set hC i _⟩, fun j hj => ?_, set_other h.cnd (by omega), set_other h.cdp (by omega), set_other h.cng (by omega), set_other h.ctr (by omega)⟩
  by_cases hji : j = i
  · subst hji; rw [upd_same]; exact set_same (h.d j hj)
  · rw [upd_other _ _ hji]; exact set_other (h.d j hj) hji
theorem IsD.setNd {w : World} {g : Nat} {ds : Nat → Nat} {nd dp : Int} {ng tr : Bool} (h : IsD w g ds nd dp ng tr) (n : Int) : IsD (w.setCell ⟨g, 800, none⟩ (.int .i64 n)) g ds n dp ng tr := by
  obtain ⟨C, hC⟩ := h.blk
  exact ⟨⟨_, blk_set hC 800 _⟩, fun j hj => set_other (h.d j hj) (by omega), set_same h.cnd, set_other h.cdp (by omega), set_other h.cng (by omega), set_other h.ctr (by omega)⟩
theorem IsD.setDp {w : World} {g : Nat} {ds : Nat → Nat} {nd dp : Int} {ng tr : Bool} (h : IsD w g ds nd dp ng tr) (n : Int) : IsD (w.setCell ⟨g, 801, none⟩ (.int .i64 n)) g ds nd n ng tr := by
  obtain ⟨C, hC⟩ := h.blk
  exact ⟨⟨_, blk_set hC 801 _⟩, fun j hj => set_other (h.d j hj) (by omega), set_other h.cnd (by omega), set_same h.cdp, set_other h.cng (by omega), set_other h.ctr (by omega)⟩
theorem IsD.setNg {w : World} {g : Nat} {ds : Nat → Nat} {nd dp : Int} {ng tr : Bool} (h : IsD w g ds nd dp ng tr) (b : Bool) : IsD (w.setCell ⟨g, 802, none⟩ (.bool b)) g ds nd dp b tr := by
  obtain ⟨C, hC⟩ := h.blk
  exact ⟨⟨_, blk_set hC 802 _⟩, fun j hj => set_other (h.d j hj) (by omega), set_other h.cnd (by omega), set_other h.cdp (by omega), set_same h.cng, set_other h.ctr (by omega)⟩
theorem IsD.setTr {w : World} {g : Nat} {ds : Nat → Nat} {nd dp : Int} {ng tr : Bool} (h : IsD w g ds nd dp ng tr) (b : Bool) : IsD (w.setCell ⟨g, 803, none⟩ (.bool b)) g ds nd dp ng b := by
  obtain ⟨C, hC⟩ := h.blk
  exact ⟨⟨_, blk_set hC 803 _⟩, fun j hj => set_other (h.d j hj) (by omega), set_other h.cnd (by omega), set_other h.cdp (by omega), set_other h.cng (by omega), set_same h.ctr⟩
theorem IsD.kept {w w' : World} {g : Nat} {ds : Nat → Nat} {nd dp : Int} {ng tr : Bool} (h : IsD w g ds nd dp ng tr) (hg : w.grownBy w' none) : IsD w' g ds nd dp ng tr := by
  obtain ⟨C, hC⟩ := h.blk
  exact ⟨⟨C, gr_blk hg hC (by simp)⟩, fun j hj => gr_cell hg (h.d j hj), gr_cell hg h.cnd, gr_cell hg h.cdp, gr_cell hg h.cng, gr_cell hg h.ctr⟩
theorem IsD.congr {w : World} {g : Nat} {ds es : Nat → Nat} {nd dp : Int} {ng tr : Bool} (h : IsD w g ds nd dp ng tr) (he : ∀ i, i < 800 → ds i = es i) : IsD w g es nd dp ng tr :=
  ⟨h.blk, fun i hi => by rw [← he i hi]; exact h.d i hi, h.cnd, h.cdp, h.cng, h.ctr⟩
end Go.Proofs.YtlfeolfjlmelpaaGreatDoor
