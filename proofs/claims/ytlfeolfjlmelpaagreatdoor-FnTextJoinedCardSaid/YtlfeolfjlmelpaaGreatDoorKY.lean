/- The text token's Float64 and Float32 at a number. -/
import Derived.Test.YtlfeolfjlmelpaaGreatDoorKX
namespace Go.Proofs.YtlfeolfjlmelpaaGreatDoor
open Go.RowKit
theorem conv32 (f : Nat) (w : World) : ∃ g w2, (convert 116 120 (.float .f64 f)).run Tryz.prog w = .ok (.float .f32 g) w2 ∧ w.grownBy w2 none := by
  have h1 : (convert 116 120 (.float .f64 f)).run Tryz.prog w = (Conv.floatToFloat .f64 f .f32).run Tryz.prog w := by
    simp [convert, run_underlying Tryz.underlying116, run_underlying Tryz.underlying120]
  have hch : ∀ q : Question, ∃ g w2, (choose q >>= fun x => pure (Value.float .f32 x) : Sem Value).run Tryz.prog w = .ok (.float .f32 g) w2 ∧ w.grownBy w2 none := by
    intro q
    by_cases hq : q.forced = true
    · exact ⟨0, w, by simp [hq], gr_refl w none⟩
    · exact ⟨q.cut (w.tape w.drawn q), w.drew, by simp [hq], gr_drew (gr_refl w none)⟩
  rw [h1]
  unfold Conv.floatToFloat
  rw [if_neg (by decide)]
  split
  · exact hch (.nanConv .f32 f)
  · exact ⟨_, w, rfl, gr_refl w none⟩
  · dsimp only
    split
    · exact hch (.floatToFloat f)
    · exact ⟨_, w, rfl, gr_refl w none⟩

set_option maxHeartbeats 2000000 in
set_option maxRecDepth 1000000 in
theorem tokFloat64 {w : World} (na : Int) (p s0 : Value) (s : ByteArray)
    (hC : ∀ w1, w.grownBy w1 none → Calls Tryz.prog 100 #[.string s, .int .i64 64] w1 (FlEnds w1)) :
    Calls Tryz.prog 54 #[(.agg #[.int .u8 3, .int .u8 1, .int .u8 na, p, s0, .string s])] w fun e w' => ∃ f ok, e = .returned (.tuple #[.float .f64 f, .bool ok]) ∧ w.grownBy w' none := by
  have hg := gr_alloc (gr_refl w none) (.cells #[.int .u8 3, .int .u8 1, .int .u8 na, p, s0, .string s] 72 (0, 0))
  have hb := blk_new w (.cells #[.int .u8 3, .int .u8 1, .int .u8 na, p, s0, .string s] 72 (0, 0))
  have hk0 := blk_cell hb 0
  have hk1 := blk_cell hb 1
  have hk5 := blk_cell hb 5
  have HC := Lib.hid hC
  have HG := Lib.hid hg
  clear hC hg hb
  go_enter Tryz.func54, Tryz.ntmps54
  go_wp2_with fail
  refine (HC.out _ HG.out).mono ?_
  rintro e w' ⟨f, rfl, hg2⟩
  obtain ⟨g, w2, hcv, hg3⟩ := conv32 f w'
  have HG2 := Lib.hid (gr_trans HG.out hg2)
  clear hg2 hk0 hk1 hk5 hg3
  go_wp2
  go_ret2
  exact ⟨_, _, rfl, HG2.out⟩

set_option maxHeartbeats 2000000 in
set_option maxRecDepth 1000000 in
theorem tokFloat32 {w : World} (na : Int) (p s0 : Value) (s : ByteArray)
    (hC : ∀ w1, w.grownBy w1 none → Calls Tryz.prog 100 #[.string s, .int .i64 64] w1 (FlEnds w1)) :
    Calls Tryz.prog 56 #[(.agg #[.int .u8 3, .int .u8 1, .int .u8 na, p, s0, .string s])] w fun e w' => ∃ f ok, e = .returned (.tuple #[.float .f32 f, .bool ok]) ∧ w.grownBy w' none := by
  have hg := gr_alloc (gr_refl w none) (.cells #[.int .u8 3, .int .u8 1, .int .u8 na, p, s0, .string s] 72 (0, 0))
  have hb := blk_new w (.cells #[.int .u8 3, .int .u8 1, .int .u8 na, p, s0, .string s] 72 (0, 0))
  have hk0 := blk_cell hb 0
  have hk1 := blk_cell hb 1
  have hk5 := blk_cell hb 5
  have HC := Lib.hid hC
  have HG := Lib.hid hg
  clear hC hg hb
  go_enter Tryz.func56, Tryz.ntmps56
  go_wp2_with fail
  refine (HC.out _ HG.out).mono ?_
  rintro e w' ⟨f, rfl, hg2⟩
  obtain ⟨g, w2, hcv, hg3⟩ := conv32 f w'
  have HG2 := Lib.hid (gr_trans HG.out (gr_trans hg2 hg3))
  clear hg2 hk0 hk1 hk5 hg3
  go_wp2
  go_ret2
  exact ⟨_, _, rfl, HG2.out⟩
end Go.Proofs.YtlfeolfjlmelpaaGreatDoor
