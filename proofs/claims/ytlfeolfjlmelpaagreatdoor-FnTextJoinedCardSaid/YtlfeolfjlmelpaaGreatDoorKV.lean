/- internal/strconv.parseFloat64 answers. -/
import Derived.Test.YtlfeolfjlmelpaaGreatDoorKU
namespace Go.Proofs.YtlfeolfjlmelpaaGreatDoor
open Go.RowKit

theorem log2Pow10_nat (p : Nat) (w : World) (hp : p ≤ 400) : Calls Tryz.prog 275 #[.int .i64 p] w fun e w' => e = .returned (.int .i64 ((p : Int) * 108853 / 32768)) ∧ w' = w := by
  go_enter Tryz.func275, Tryz.ntmps275
  go_wp2
  go_ret
  simp
/-- The table of powers: two u64 a row. -/
def HasP10 (w : World) : Prop := ∀ i : Nat, i < 696 → ∃ hi lo : Nat, hi < 18446744073709551616 ∧ lo < 18446744073709551616 ∧ w.cell? ⟨19, i * 2, none⟩ = some (.int .u64 hi) ∧ w.cell? ⟨19, i * 2 + 1, none⟩ = some (.int .u64 lo)
theorem HasP10.kept {w w' : World} (h : HasP10 w) (hg : w.grownBy w' none) : HasP10 w' := by
  intro i hi
  obtain ⟨a, b, h1, h2, h3, h4⟩ := h i hi
  exact ⟨a, b, h1, h2, gr_cell hg h3, gr_cell hg h4⟩

set_option maxHeartbeats 2000000 in
set_option maxRecDepth 1000000 in
theorem prescale_8 {w : World} (g : Nat) (a0 b0 : Value) (c0 : Value) (i : Nat) (q x lp : Int) (hi lo : Nat) (hq : q = (i : Int) - 348) (hg : w.heap[g]? = some (.cells #[a0, b0, c0] 335 (0, 0))) (_hne : g ≠ 19) (hlt : i < 696)
    (h1 : w.cell? ⟨19, i * 2, none⟩ = some (.int .u64 hi)) (h2 : w.cell? ⟨19, i * 2 + 1, none⟩ = some (.int .u64 lo)) (hx : x + lp = -11) (hb : -5000 ≤ lp ∧ lp ≤ 5000) :
    Calls Tryz.prog 276 #[.pointer (some ⟨g, 0, none⟩), .int .i64 x, .int .i64 q, .int .i64 lp] w fun e w' => e = .returned (.tuple #[]) ∧ HasSc w' g hi lo 8 ∧ w.grownBy w' (some g) := by
  have k0 := blk_cell hg 0
  have k1 := blk_cell hg 1
  have k2 := blk_cell hg 2
  have hf := fun j => blk_frozen hg j
  obtain ⟨hb1, hb2⟩ := hb
  obtain rfl : x = -11 - lp := by omega
  subst hq
  go_enter Tryz.func276, Tryz.ntmps276
  go_wp2
  go_end0
  refine ⟨rfl, ?_, ?_⟩
  · have h3 := blk_set (blk_set (blk_set hg 0 (.int .u64 hi)) 1 (.int .u64 lo)) 2 (.int .i64 8)
    simp at h3
    exact h3
  · iterate 3 refine gr_set ?_ (.inr rfl) _
    exact gr_refl _ _

theorem bool2i (b : Bool) (w : World) : Calls Tryz.prog 223 #[.bool b] w fun e w' => ∃ K : Int, e = .returned (.int .i64 K) ∧ 0 ≤ K ∧ K ≤ 1 ∧ w' = w := by
  refine (Tryz.internal_strconv_bool2_int b w).mono ?_
  rintro e w' ⟨rfl, rfl⟩
  exact ⟨_, rfl, by cases b <;> decide, by cases b <;> decide, rfl⟩
theorem unmin_any (x : Int) (w : World) : Calls Tryz.prog 278 #[.int .u64 x] w fun e w' => (∃ v : Int, e = .returned (.int .u64 v)) ∧ w' = w := by
  go_enter Tryz.func278, Tryz.ntmps278
  go_wp2
  go_ret
  exact ⟨⟨_, rfl⟩, rfl⟩
theorem round_any (x : Int) (w : World) : Calls Tryz.prog 280 #[.int .u64 x] w fun e w' => (∃ v : Int, e = .returned (.int .u64 v)) ∧ w' = w := by
  go_enter Tryz.func280, Tryz.ntmps280
  go_wp2
  go_ret
  exact ⟨⟨_, rfl⟩, rfl⟩
theorem wrap_nat (n : Int) : ∃ X : Nat, IntKind.u64.wrap n = (X : Int) ∧ X < 18446744073709551616 := by
  refine ⟨(n % 18446744073709551616).toNat, ?_, ?_⟩
  · rw [wrap_u64']; omega
  · omega
theorem bitLen_pos (d : Nat) (h : 1 ≤ d) (h2 : d ≤ 18446744073709551615) : 1 ≤ Lib.bitLen d := by
  rw [Lib.bitLen_half d (by omega) (by omega)]; omega
theorem bitLenAux_le : ∀ (f x : Nat), Lib.bitLenAux f x ≤ f
  | 0, x => by simp [Lib.bitLenAux]
  | f + 1, x => by
    rw [Lib.bitLenAux]
    split
    · omega
    · have := bitLenAux_le f (x / 2); omega

set_option maxHeartbeats 4000000 in
set_option maxRecDepth 1000000 in
theorem parseFloat64_any {w : World} (d p : Nat) (sg : Int) (hd : 1 ≤ d) (hd2 : d ≤ 18446744073709551615) (hp : p ≤ 22) (hP : HasP10 w) :
    Calls Tryz.prog 253 #[.int .u64 d, .int .i64 p, .int .u64 sg] w (FlEnds w) := by
  obtain ⟨hi, lo, hh, hl, t1, t2⟩ := hP (p + 348) (by omega)
  have h19 : 19 < w.heap.size := Lib.lt_of_cell t1
  have HLen := Lib.hid (fun w => Tryz.bits_Len64 d w (by omega) (by omega))
  have HLog := Lib.hid (fun w => log2Pow10_nat p w (by omega))
  have hb1 : 1 ≤ Lib.bitLen (d : Int).toNat := bitLen_pos _ (by omega) (by omega)
  have hb2 : Lib.bitLen (d : Int).toNat ≤ 64 := bitLenAux_le 64 _
  generalize Lib.bitLen (d : Int).toNat = b at HLen hb1 hb2
  have HP := Lib.hid hP
  clear hP
  go_enter Tryz.func253, Tryz.ntmps253
  go_wp2_with fail
  refine (HLen.out _).mono ?_
  rintro e w' ⟨rfl, rfl⟩
  go_wp2_with fail
  refine (HLog.out _).mono ?_
  rintro e w' ⟨rfl, rfl⟩
  clear HLen HLog
  go_wp2_with fail
  have hg0 : w'.grownBy (w'.alloc (Obj.cells #[Value.int IntKind.u64 0, Value.int IntKind.u64 0, Value.int IntKind.i64 0] 335)) none := gr_alloc (gr_refl _ _) _
  have hb0 := blk_new w' (Obj.cells #[Value.int IntKind.u64 0, Value.int IntKind.u64 0, Value.int IntKind.i64 0] 335)
  refine (prescale_8 w'.heap.size _ _ _ (p + 348) _ _ _ hi lo (by omega) hb0 (by omega) (by omega) (gr_cell hg0 t1) (gr_cell hg0 t2) (by omega) (by omega)).mono ?_
  rintro e w2 ⟨rfl, hsc, hg2⟩
  have HS := Lib.hid hsc
  have HG := Lib.hid (gr_new hg0 hg2 (by rintro g hg; cases hg; exact .inl (Nat.le_refl _)))
  have k2 := blk_cell hsc 2
  generalize hN : w'.heap.size = N at HS k2 ⊢
  clear hg0 hb0 hg2 hsc t1 t2 hN HP h19
  go_wp2_with fail
  obtain ⟨X, hX, hX2⟩ := wrap_nat ((d : Int) * 2 ^ (64 - b))
  rw [hX]
  refine (uscale_8 X hi lo N hX2 hh hl HS.out).mono ?_
  rintro e w3 ⟨⟨u, rfl⟩, q, rfl⟩
  clear hX hX2
  go_wp2_with fail
  refine (unmin_any _ _).mono ?_
  rintro e w3 ⟨⟨v, rfl⟩, rfl⟩
  go_wp2_with fail
  refine (bool2i _ _).mono ?_
  rintro e w3 ⟨K, rfl, hK1, hK2, rfl⟩
  go_wp2_with fail
  refine (round_any _ _).mono ?_
  rintro e w3 ⟨⟨v2, rfl⟩, rfl⟩
  go_wp2_with fail
  refine (pack64_any _ _ (by omega)).mono ?_
  rintro e w3 ⟨f, rfl, hg3⟩
  have HG3 := Lib.hid hg3
  clear hg3
  go_wp2
  go_ret2
  exact ⟨_, rfl, gr_trans (gr_drewN HG.out _) HG3.out⟩
end Go.Proofs.YtlfeolfjlmelpaaGreatDoor
