/- A number's hexadecimal digits behind a buffer. -/
import Derived.Test.YtlfeolfjlmelpaaGreatDoorPE
namespace Go.Proofs.YtlfeolfjlmelpaaGreatDoor
open Go.RowKit

/-! ### two hexadecimal digits -/
/-- The table of TrailingZeros, where it is asked. -/
def HasTz (w : World) : Prop := w.cell? ⟨18, 15, none⟩ = some (.int .u8 4)
theorem HasTz.kept {w w' : World} (h : HasTz w) (hg : w.grownBy w' none) : HasTz w' := gr_cell hg h

set_option maxHeartbeats 2000000 in
set_option maxRecDepth 1000000 in
theorem tz16 {w : World} (h : HasTz w) : Calls Tryz.prog 225 #[.int .u64 16] w fun e w' => e = .returned (.int .i64 4) ∧ w' = w := by
  have hk : w.cell? ⟨18, 15, none⟩ = some (.int .u8 4) := h
  have h1 : IntKind.u64.wrap (-16) = 18446744073709551600 := by kernel_rfl
  have h2 : bits BinOp.and IntKind.u64 16 18446744073709551600 = 16 := by kernel_rfl
  have h3 : IntKind.u64.wrap (16 * 285870213051353865) = 4573923408821661840 := by kernel_rfl
  clear h
  go_enter Tryz.func225, Tryz.ntmps225
  go_wp2
  go_ret
  exact ⟨rfl, rfl⟩

set_option maxRecDepth 1000000 in
theorem pow16 {w : World} : Calls Tryz.prog 224 #[.int .i64 16] w fun e w' => e = .returned (.bool true) ∧ w' = w := by
  have h1 : bits BinOp.and IntKind.i64 16 15 = 0 := by kernel_rfl
  go_enter Tryz.func224, Tryz.ntmps224
  go_wp2
  go_ret
  exact ⟨rfl, rfl⟩
theorem digAt (n : Nat) (hn : n < 16) : ∀ h, (((⟨#[48, 49, 50, 51, 52, 53, 54, 55, 56, 57, 97, 98, 99, 100, 101, 102, 103, 104, 105, 106, 107, 108, 109, 110, 111, 112, 113, 114, 115, 116, 117, 118, 119, 120, 121, 122]⟩ : ByteArray)[n]'h).toNat : Int) = ((hx n).toNat : Int) := by
  have h : n = 0 ∨ n = 1 ∨ n = 2 ∨ n = 3 ∨ n = 4 ∨ n = 5 ∨ n = 6 ∨ n = 7 ∨ n = 8 ∨ n = 9 ∨ n = 10 ∨ n = 11 ∨ n = 12 ∨ n = 13 ∨ n = 14 ∨ n = 15 := by omega
  rcases h with rfl | rfl | rfl | rfl | rfl | rfl | rfl | rfl | rfl | rfl | rfl | rfl | rfl | rfl | rfl | rfl <;> intro h <;> rfl
set_option maxRecDepth 100000 in
theorem and15F : ∀ X : Fin 256, bits .and .u64 ((X.val : Nat) : Int) 15 = ((X.val % 16 : Nat) : Int) := by decide
theorem and15 (n : Nat) (hn : n < 256) : bits .and .u64 (n : Int) 15 = ((n % 16 : Nat) : Int) := and15F ⟨n, hn⟩

set_option maxHeartbeats 2000000 in
set_option maxRecDepth 1000000 in
theorem formatBits_one {w W0 : World} {B : Nat} {v : Value} {l : List UInt8} (n : Nat) (hn : n < 16) (hb : Buf B v l W0 w) (hT : HasTz w) (hl : l.length ≤ 900000000) :
    Calls Tryz.prog 198 #[v, .int .u64 (n : Nat), .int .i64 16, .bool false, .bool true] w fun e w' => (∃ v', e = .returned (.tuple #[v', .string ⟨#[]⟩]) ∧ Buf B v' (l ++ [hx n]) W0 w') := by
  have hd := digAt n hn
  have hblk := blk_new w (.cells Tryz.zeroCells277 277)
  have c64 : (w.alloc (.cells Tryz.zeroCells277 277)).cell? ⟨w.heap.size, 64, none⟩ = some (.int .u8 0) := blk_cell hblk 64
  have f64 := blk_frozen hblk 64
  have hT2 := hT.kept (gr_alloc (gr_refl w none) (.cells Tryz.zeroCells277 277))
  have hg : w.grownBy (w.alloc (.cells Tryz.zeroCells277 277)) none := gr_alloc (gr_refl w none) _
  generalize hW1 : w.alloc (.cells Tryz.zeroCells277 277) = W1 at c64 f64 hT2 hg
  have hge : w.heap.size ≤ w.heap.size := Nat.le_refl _
  generalize hG : w.heap.size = G at c64 f64 hge
  have HP := Lib.hid (pow16 (w := W1))
  have HTZ := Lib.hid (tz16 hT2)
  have HB := Lib.hid hb
  have HG := Lib.hid hg
  have HGE := Lib.hid (show w.heap.size ≤ G by omega)
  have HBB := Lib.hid (hb.kept (gr_set hg (p := ⟨G, 64, none⟩) (.inl (show w.heap.size ≤ G by omega)) (.int .u8 ((hx n).toNat : Int))))
  have HC0 := Lib.hid (show (W1.setCell ⟨G, 64, none⟩ (.int .u8 ((hx n).toNat : Int))).cell? ⟨G, 64, none⟩ = some (by8 (hx n)) from World.cell?_setCell_same _ _ _ c64)
  clear hblk hT2 hg hT hb hge
  go_enter Tryz.func198, Tryz.ntmps198
  go_wp2_with fail
  refine HP.out.mono ?_
  rintro e w' ⟨rfl, rfl⟩
  go_wp2_with fail
  refine HTZ.out.mono ?_
  rintro e w' ⟨rfl, rfl⟩
  clear HP HTZ
  go_wp2_with fail
  go_loop [1, 13] (fun u i => u = .int .u64 (n : Nat) ∧ i = .int .i64 65) (fun _ _ => 0)
  case atStart => exact ⟨rfl, rfl⟩
  case round =>
    obtain ⟨rfl, rfl⟩ := hrel
    have hn2 : ¬ (16 ≤ (n : Int)) := by omega
    go_wp2_with (first
      | (at_builtin; refine wl_app rfl _ _ rfl HBB.out.out (by rfl) [hx n] ⟨G, 64, none⟩ 1 (by rfl) (by simp) ?cells (by simp; omega) ?next)
      | fail)
    case cells =>
      intro j u hj
      match j, hj with
      | 0, hj => simp at hj; subst hj; exact HC0.out
      | (j + 1), hj => simp at hj
    case next =>
      intro v' w2 hb2
      have HB2 := Lib.hid hb2
      clear hb2
      go_wp2
      go_ret2
      exact ⟨_, rfl, HB2.out⟩

set_option maxHeartbeats 2000000 in
set_option maxRecDepth 1000000 in
theorem formatBits_two {w W0 : World} {B : Nat} {v : Value} {l : List UInt8} (n : Nat) (hn0 : 16 ≤ n) (hn : n < 256) (hb : Buf B v l W0 w) (hT : HasTz w) (hl : l.length ≤ 900000000) :
    Calls Tryz.prog 198 #[v, .int .u64 (n : Nat), .int .i64 16, .bool false, .bool true] w fun e w' => (∃ v', e = .returned (.tuple #[v', .string ⟨#[]⟩]) ∧ Buf B v' (l ++ [hx (n / 16), hx (n % 16)]) W0 w') := by
  have hd := digAt (n / 16) (by omega)
  have hd2 := digAt (n % 16) (by omega)
  have hand := and15 n hn
  have hblk := blk_new w (.cells Tryz.zeroCells277 277)
  have c64 : (w.alloc (.cells Tryz.zeroCells277 277)).cell? ⟨w.heap.size, 64, none⟩ = some (.int .u8 0) := blk_cell hblk 64
  have f64 := blk_frozen hblk 64
  have c63 : (w.alloc (.cells Tryz.zeroCells277 277)).cell? ⟨w.heap.size, 63, none⟩ = some (.int .u8 0) := blk_cell hblk 63
  have f63 := blk_frozen hblk 63
  have hT2 := hT.kept (gr_alloc (gr_refl w none) (.cells Tryz.zeroCells277 277))
  have hg : w.grownBy (w.alloc (.cells Tryz.zeroCells277 277)) none := gr_alloc (gr_refl w none) _
  generalize hW1 : w.alloc (.cells Tryz.zeroCells277 277) = W1 at c64 f64 hT2 hg c63 f63
  have hge : w.heap.size ≤ w.heap.size := Nat.le_refl _
  generalize hG : w.heap.size = G at c64 f64 hge c63 f63
  have HP := Lib.hid (pow16 (w := W1))
  have HTZ := Lib.hid (tz16 hT2)
  have HB := Lib.hid hb
  have HG := Lib.hid hg
  have HGE := Lib.hid (show w.heap.size ≤ G by omega)
  have c63b : (W1.setCell ⟨G, 64, none⟩ (.int .u8 ((hx (n % 16)).toNat : Int))).cell? ⟨G, 63, none⟩ = some (.int .u8 0) := by rw [World.cell?_setCell_other _ _ _ _ (by simp)]; exact c63
  have hg2 : w.grownBy (W1.setCell ⟨G, 64, none⟩ (.int .u8 ((hx (n % 16)).toNat : Int))) none := gr_set hg (p := ⟨G, 64, none⟩) (.inl (show w.heap.size ≤ G by omega)) _
  have hg3 := gr_set hg2 (p := ⟨G, 63, none⟩) (.inl (show w.heap.size ≤ G by omega)) (.int .u8 ((hx (n / 16)).toNat : Int))
  have HBB := Lib.hid (hb.kept hg3)
  have hc64 : (W1.setCell ⟨G, 64, none⟩ (.int .u8 ((hx (n % 16)).toNat : Int))).cell? ⟨G, 64, none⟩ = some (by8 (hx (n % 16))) := World.cell?_setCell_same _ _ _ c64
  have HC1 := Lib.hid (show ((W1.setCell ⟨G, 64, none⟩ (.int .u8 ((hx (n % 16)).toNat : Int))).setCell ⟨G, 63, none⟩ (.int .u8 ((hx (n / 16)).toNat : Int))).cell? ⟨G, 64, none⟩ = some (by8 (hx (n % 16))) by rw [World.cell?_setCell_other _ _ _ _ (by simp)]; exact hc64)
  have HC0 := Lib.hid (show ((W1.setCell ⟨G, 64, none⟩ (.int .u8 ((hx (n % 16)).toNat : Int))).setCell ⟨G, 63, none⟩ (.int .u8 ((hx (n / 16)).toNat : Int))).cell? ⟨G, 63, none⟩ = some (by8 (hx (n / 16))) from World.cell?_setCell_same _ _ _ c63b)
  clear hblk hT2 hg hT hb hge hg2 hg3 hc64 c63
  go_enter Tryz.func198, Tryz.ntmps198
  go_wp2_with fail
  refine HP.out.mono ?_
  rintro e w' ⟨rfl, rfl⟩
  go_wp2_with fail
  refine HTZ.out.mono ?_
  rintro e w' ⟨rfl, rfl⟩
  clear HP HTZ
  go_wp2_with fail
  go_loopg [1, 13] 2 (fun gk u i wr => (gk = 2 ∧ u = .int .u64 (n : Nat) ∧ i = .int .i64 65 ∧ wr = w') ∨ (gk = 1 ∧ u = .int .u64 ((n / 16 : Nat) : Int) ∧ i = .int .i64 64 ∧ wr = w'.setCell ⟨G, 64, none⟩ (.int .u8 ((hx (n % 16)).toNat : Int))))
  case atStart => exact .inl ⟨rfl, rfl, rfl, rfl⟩
  case round =>
    rcases hrel with ⟨rfl, rfl, rfl, rfl⟩ | ⟨rfl, rfl, rfl, rfl⟩
    · have hn2 : 16 ≤ (n : Int) := by omega
      go_wp2
      go_roundg 1
      case measure => omega
      case rel => exact .inr ⟨rfl, by refine congrArg (Value.int .u64) ?_; omega, rfl, rfl⟩
    · have hn2 : ¬ (16 ≤ ((n / 16 : Nat) : Int)) := by omega
      go_wp2_with (first
        | (at_builtin; refine wl_app rfl _ _ rfl HBB.out.out (by rfl) [hx (n / 16), hx (n % 16)] ⟨G, 63, none⟩ 2 (by rfl) (by simp) ?cells (by simp; omega) ?next)
        | fail)
      case cells =>
        intro j u hj
        match j, hj with
        | 0, hj => simp at hj; subst hj; exact HC0.out
        | 1, hj => simp at hj; subst hj; exact HC1.out
        | (j + 2), hj => simp at hj
      case next =>
        intro v' w2 hb2
        have HB2 := Lib.hid hb2
        clear hb2
        go_wp2
        go_ret2
        exact ⟨_, rfl, HB2.out⟩

end Go.Proofs.YtlfeolfjlmelpaaGreatDoor
