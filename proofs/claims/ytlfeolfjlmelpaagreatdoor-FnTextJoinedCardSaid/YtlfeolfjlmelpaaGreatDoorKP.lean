/- The text token's methods at a number. -/
import Derived.Test.YtlfeolfjlmelpaaGreatDoorKO
namespace Go.Proofs.YtlfeolfjlmelpaaGreatDoor
open Go.RowKit

set_option maxHeartbeats 2000000 in
set_option maxRecDepth 1000000 in
theorem tokInt64_0 {w : World} (p s0 : Value) (s : ByteArray) (m : Int)
    (hC : ∀ w1, w.grownBy w1 none → Calls Tryz.prog 97 #[.string s, .int .i64 0, .int .i64 64] w1 fun e w' => ((-9223372036854775808 ≤ m ∧ m ≤ 9223372036854775808 - 1 → e = .returned (.tuple #[.int .i64 m, .nilIface])) ∧ (¬ (-9223372036854775808 ≤ m ∧ m ≤ 9223372036854775808 - 1) → ∃ a p, e = .returned (.tuple #[a, .iface 176 (.pointer p)]))) ∧ w1.grownBy w' none) :
    Calls Tryz.prog 50 #[(.agg #[.int .u8 3, .int .u8 1, .int .u8 0, p, s0, .string s])] w fun e w' => ∃ a ok, e = .returned (.tuple #[.int .i64 a, .bool ok]) ∧ (-9223372036854775808 ≤ m ∧ m ≤ 9223372036854775808 - 1 → a = m ∧ ok = true) ∧ (¬ (-9223372036854775808 ≤ m ∧ m ≤ 9223372036854775808 - 1) → ok = false) ∧ w.grownBy w' none := by
  have hg := gr_alloc (gr_refl w none) (.cells #[.int .u8 3, .int .u8 1, .int .u8 0, p, s0, .string s] 72 (0, 0))
  have hb := blk_new w (.cells #[.int .u8 3, .int .u8 1, .int .u8 0, p, s0, .string s] 72 (0, 0))
  have hk0 := blk_cell hb 0
  have hk1 := blk_cell hb 1
  have hk2 := blk_cell hb 2
  have hk5 := blk_cell hb 5
  have HC := Lib.hid hC
  have HG := Lib.hid hg
  clear hC hg hb
  go_enter Tryz.func50, Tryz.ntmps50
  go_wp2_with fail
  refine (HC.out _ HG.out).mono ?_
  rintro e w' ⟨⟨h1, h2⟩, hg2⟩
  have HG2 := Lib.hid (gr_trans HG.out hg2)
  have hk2' := gr_cell hg2 hk2
  clear hg2
  by_cases hv : -9223372036854775808 ≤ m ∧ m ≤ 9223372036854775808 - 1
  · have := h1 hv
    subst this
    skip
    have HV := Lib.hid hv
    clear hv h1 h2 hk0 hk1 hk2 hk5
    go_wp2
    go_ret2
    exact ⟨_, _, rfl, fun _ => ⟨rfl, rfl⟩, fun h => absurd HV.out h, HG2.out⟩
  · obtain ⟨a, q, rfl⟩ := h2 hv
    have HV := Lib.hid hv
    clear hv h1 h2 hk0 hk1 hk2 hk5
    go_wp2
    go_ret2
    exact ⟨_, _, rfl, fun h => absurd h HV.out, fun _ => rfl, HG2.out⟩

set_option maxHeartbeats 2000000 in
set_option maxRecDepth 1000000 in
theorem tokInt32_0 {w : World} (p s0 : Value) (s : ByteArray) (m : Int)
    (hC : ∀ w1, w.grownBy w1 none → Calls Tryz.prog 97 #[.string s, .int .i64 0, .int .i64 32] w1 fun e w' => ((-2147483648 ≤ m ∧ m ≤ 2147483648 - 1 → e = .returned (.tuple #[.int .i64 m, .nilIface])) ∧ (¬ (-2147483648 ≤ m ∧ m ≤ 2147483648 - 1) → ∃ a p, e = .returned (.tuple #[a, .iface 176 (.pointer p)]))) ∧ w1.grownBy w' none) :
    Calls Tryz.prog 51 #[(.agg #[.int .u8 3, .int .u8 1, .int .u8 0, p, s0, .string s])] w fun e w' => ∃ a ok, e = .returned (.tuple #[.int .i32 a, .bool ok]) ∧ (-2147483648 ≤ m ∧ m ≤ 2147483648 - 1 → a = m ∧ ok = true) ∧ (¬ (-2147483648 ≤ m ∧ m ≤ 2147483648 - 1) → ok = false) ∧ w.grownBy w' none := by
  have hg := gr_alloc (gr_refl w none) (.cells #[.int .u8 3, .int .u8 1, .int .u8 0, p, s0, .string s] 72 (0, 0))
  have hb := blk_new w (.cells #[.int .u8 3, .int .u8 1, .int .u8 0, p, s0, .string s] 72 (0, 0))
  have hk0 := blk_cell hb 0
  have hk1 := blk_cell hb 1
  have hk2 := blk_cell hb 2
  have hk5 := blk_cell hb 5
  have HC := Lib.hid hC
  have HG := Lib.hid hg
  clear hC hg hb
  go_enter Tryz.func51, Tryz.ntmps51
  go_wp2_with fail
  refine (HC.out _ HG.out).mono ?_
  rintro e w' ⟨⟨h1, h2⟩, hg2⟩
  have HG2 := Lib.hid (gr_trans HG.out hg2)
  have hk2' := gr_cell hg2 hk2
  clear hg2
  by_cases hv : -2147483648 ≤ m ∧ m ≤ 2147483648 - 1
  · have := h1 hv
    subst this
    have hwr : IntKind.i32.wrap m = m := IntWalk.i32_in m ⟨by omega, by omega⟩
    have HV := Lib.hid hv
    clear hv h1 h2 hk0 hk1 hk2 hk5
    go_wp2
    go_ret2
    exact ⟨_, _, rfl, fun _ => ⟨rfl, rfl⟩, fun h => absurd HV.out h, HG2.out⟩
  · obtain ⟨a, q, rfl⟩ := h2 hv
    have HV := Lib.hid hv
    clear hv h1 h2 hk0 hk1 hk2 hk5
    go_wp2
    go_ret2
    exact ⟨_, _, rfl, fun h => absurd h HV.out, fun _ => rfl, HG2.out⟩

set_option maxHeartbeats 2000000 in
set_option maxRecDepth 1000000 in
theorem tokBool_0 {w : World} (p s0 : Value) (s : ByteArray)
    (hC : ∀ w1, w.grownBy w1 none → Calls Tryz.prog 96 #[.string s, .int .i64 0, .int .i64 64] w1 fun e w' => (∃ (a : Int) (er : Value), e = .returned (.tuple #[.int .u64 a, er]) ∧ (er = .nilIface ∨ ∃ p, er = .iface 176 (.pointer p))) ∧ w1.grownBy w' none) :
    Calls Tryz.prog 49 #[(.agg #[.int .u8 3, .int .u8 1, .int .u8 0, p, s0, .string s])] w fun e w' => ∃ (a ok : Bool), e = .returned (.tuple #[.bool a, .bool ok]) ∧ w.grownBy w' none := by
  have hg := gr_alloc (gr_refl w none) (.cells #[.int .u8 3, .int .u8 1, .int .u8 0, p, s0, .string s] 72 (0, 0))
  have hb := blk_new w (.cells #[.int .u8 3, .int .u8 1, .int .u8 0, p, s0, .string s] 72 (0, 0))
  have hk0 := blk_cell hb 0
  have hk1 := blk_cell hb 1
  have hk2 := blk_cell hb 2
  have hk5 := blk_cell hb 5
  have HC := Lib.hid hC
  have HG := Lib.hid hg
  clear hC hg hb
  go_enter Tryz.func49, Tryz.ntmps49
  go_wp2_with fail
  refine (HC.out _ HG.out).mono ?_
  rintro e w' ⟨⟨a, er, rfl, her⟩, hg2⟩
  have HG2 := Lib.hid (gr_trans HG.out hg2)
  clear hg2 hk0 hk1 hk2 hk5
  rcases her with rfl | ⟨q, rfl⟩
  · by_cases h0 : a = 0
    · subst h0
      go_wp2
      go_ret2
      exact ⟨_, _, rfl, HG2.out⟩
    · have hb0 : (a == 0) = false := beq_eq_false_iff_ne.2 h0
      by_cases h1 : a = 1
      · subst h1
        go_wp2
        go_ret2
        exact ⟨_, _, rfl, HG2.out⟩
      · have hb1 : (a == 1) = false := beq_eq_false_iff_ne.2 h1
        go_wp2
        go_ret2
        exact ⟨_, _, rfl, HG2.out⟩
  · go_wp2
    go_ret2
    exact ⟨_, _, rfl, HG2.out⟩

set_option maxHeartbeats 2000000 in
set_option maxRecDepth 1000000 in
theorem tokEnum_0 {w : World} (p s0 : Value) (s : ByteArray) :
    Calls Tryz.prog 57 #[(.agg #[.int .u8 3, .int .u8 1, .int .u8 0, p, s0, .string s])] w fun e w' => ∃ a, e = .returned (.tuple #[.string a, .bool false]) ∧ w.grownBy w' none := by
  have hg := gr_alloc (gr_refl w none) (.cells #[.int .u8 3, .int .u8 1, .int .u8 0, p, s0, .string s] 72 (0, 0))
  have hb := blk_new w (.cells #[.int .u8 3, .int .u8 1, .int .u8 0, p, s0, .string s] 72 (0, 0))
  have hk0 := blk_cell hb 0
  have hk1 := blk_cell hb 1
  have hk2 := blk_cell hb 2
  have HG := Lib.hid hg
  clear hg hb
  go_enter Tryz.func57, Tryz.ntmps57
  go_wp2
  go_ret2
  first | exact ⟨_, rfl, HG.out⟩ | exact ⟨⟨_, rfl⟩, HG.out⟩

set_option maxHeartbeats 2000000 in
set_option maxRecDepth 1000000 in
theorem tokString_0 {w : World} (p s0 : Value) (s : ByteArray) :
    Calls Tryz.prog 58 #[(.agg #[.int .u8 3, .int .u8 1, .int .u8 0, p, s0, .string s])] w fun e w' => ∃ a, e = .returned (.tuple #[.string a, .bool false]) ∧ w.grownBy w' none := by
  have hg := gr_alloc (gr_refl w none) (.cells #[.int .u8 3, .int .u8 1, .int .u8 0, p, s0, .string s] 72 (0, 0))
  have hb := blk_new w (.cells #[.int .u8 3, .int .u8 1, .int .u8 0, p, s0, .string s] 72 (0, 0))
  have hk0 := blk_cell hb 0
  have hk1 := blk_cell hb 1
  have hk2 := blk_cell hb 2
  have HG := Lib.hid hg
  clear hg hb
  go_enter Tryz.func58, Tryz.ntmps58
  go_wp2
  go_ret2
  first | exact ⟨_, rfl, HG.out⟩ | exact ⟨⟨_, rfl⟩, HG.out⟩

set_option maxHeartbeats 2000000 in
set_option maxRecDepth 1000000 in
theorem tokUint64_0 {w : World} (p s0 : Value) (s : ByteArray) (v : Nat)
    (hC : ∀ w1, w.grownBy w1 none → Calls Tryz.prog 96 #[.string s, .int .i64 0, .int .i64 64] w1 fun e w' => ((v ≤ 18446744073709551615 → e = .returned (.tuple #[.int .u64 (v : Nat), .nilIface])) ∧ (¬ v ≤ 18446744073709551615 → ∃ a p, e = .returned (.tuple #[a, .iface 176 (.pointer p)]))) ∧ w1.grownBy w' none) :
    Calls Tryz.prog 52 #[(.agg #[.int .u8 3, .int .u8 1, .int .u8 0, p, s0, .string s])] w fun e w' => ∃ (a : Int) (ok : Bool), e = .returned (.tuple #[.int .u64 a, .bool ok]) ∧ (v ≤ 18446744073709551615 → a = v ∧ ok = true) ∧ (¬ v ≤ 18446744073709551615 → ok = false) ∧ w.grownBy w' none := by
  have hg := gr_alloc (gr_refl w none) (.cells #[.int .u8 3, .int .u8 1, .int .u8 0, p, s0, .string s] 72 (0, 0))
  have hb := blk_new w (.cells #[.int .u8 3, .int .u8 1, .int .u8 0, p, s0, .string s] 72 (0, 0))
  have hk0 := blk_cell hb 0
  have hk1 := blk_cell hb 1
  have hk2 := blk_cell hb 2
  have hk5 := blk_cell hb 5
  have HC := Lib.hid hC
  have HG := Lib.hid hg
  clear hC hg hb
  go_enter Tryz.func52, Tryz.ntmps52
  go_wp2_with fail
  refine (HC.out _ HG.out).mono ?_
  rintro e w' ⟨⟨h1, h2⟩, hg2⟩
  have HG2 := Lib.hid (gr_trans HG.out hg2)
  have hk2' := gr_cell hg2 hk2
  clear hg2
  by_cases hv : v ≤ 18446744073709551615
  · have := h1 hv
    subst this
    skip
    have HV := Lib.hid hv
    clear hv h1 h2 hk0 hk1 hk2 hk5
    go_wp2
    go_ret2
    exact ⟨_, _, rfl, fun _ => ⟨rfl, rfl⟩, fun h => absurd HV.out h, HG2.out⟩
  · obtain ⟨a, q, rfl⟩ := h2 hv
    have HV := Lib.hid hv
    clear hv h1 h2 hk0 hk1 hk2 hk5
    go_wp2
    go_ret2
    exact ⟨_, _, rfl, fun h => absurd h HV.out, fun _ => rfl, HG2.out⟩

set_option maxHeartbeats 2000000 in
set_option maxRecDepth 1000000 in
theorem tokUint32_0 {w : World} (p s0 : Value) (s : ByteArray) (v : Nat)
    (hC : ∀ w1, w.grownBy w1 none → Calls Tryz.prog 96 #[.string s, .int .i64 0, .int .i64 32] w1 fun e w' => ((v ≤ 4294967295 → e = .returned (.tuple #[.int .u64 (v : Nat), .nilIface])) ∧ (¬ v ≤ 4294967295 → ∃ a p, e = .returned (.tuple #[a, .iface 176 (.pointer p)]))) ∧ w1.grownBy w' none) :
    Calls Tryz.prog 53 #[(.agg #[.int .u8 3, .int .u8 1, .int .u8 0, p, s0, .string s])] w fun e w' => ∃ (a : Int) (ok : Bool), e = .returned (.tuple #[.int .u32 a, .bool ok]) ∧ (v ≤ 4294967295 → a = v ∧ ok = true) ∧ (¬ v ≤ 4294967295 → ok = false) ∧ w.grownBy w' none := by
  have hg := gr_alloc (gr_refl w none) (.cells #[.int .u8 3, .int .u8 1, .int .u8 0, p, s0, .string s] 72 (0, 0))
  have hb := blk_new w (.cells #[.int .u8 3, .int .u8 1, .int .u8 0, p, s0, .string s] 72 (0, 0))
  have hk0 := blk_cell hb 0
  have hk1 := blk_cell hb 1
  have hk2 := blk_cell hb 2
  have hk5 := blk_cell hb 5
  have HC := Lib.hid hC
  have HG := Lib.hid hg
  clear hC hg hb
  go_enter Tryz.func53, Tryz.ntmps53
  go_wp2_with fail
  refine (HC.out _ HG.out).mono ?_
  rintro e w' ⟨⟨h1, h2⟩, hg2⟩
  have HG2 := Lib.hid (gr_trans HG.out hg2)
  have hk2' := gr_cell hg2 hk2
  clear hg2
  by_cases hv : v ≤ 4294967295
  · have := h1 hv
    subst this
    have hwr : IntKind.u32.wrap (v : Int) = (v : Int) := IntWalk.u32_in (v : Int) ⟨by omega, by omega⟩
    have HV := Lib.hid hv
    clear hv h1 h2 hk0 hk1 hk2 hk5
    go_wp2
    go_ret2
    exact ⟨_, _, rfl, fun _ => ⟨rfl, rfl⟩, fun h => absurd HV.out h, HG2.out⟩
  · obtain ⟨a, q, rfl⟩ := h2 hv
    have HV := Lib.hid hv
    clear hv h1 h2 hk0 hk1 hk2 hk5
    go_wp2
    go_ret2
    exact ⟨_, _, rfl, fun h => absurd h HV.out, fun _ => rfl, HG2.out⟩

set_option maxHeartbeats 2000000 in
set_option maxRecDepth 1000000 in
theorem tokInt64_1 {w : World} (p s0 : Value) (s : ByteArray) (m : Int)
    (hC : ∀ w1, w.grownBy w1 none → Calls Tryz.prog 97 #[.string s, .int .i64 0, .int .i64 64] w1 fun e w' => ((-9223372036854775808 ≤ m ∧ m ≤ 9223372036854775808 - 1 → e = .returned (.tuple #[.int .i64 m, .nilIface])) ∧ (¬ (-9223372036854775808 ≤ m ∧ m ≤ 9223372036854775808 - 1) → ∃ a p, e = .returned (.tuple #[a, .iface 176 (.pointer p)]))) ∧ w1.grownBy w' none) :
    Calls Tryz.prog 50 #[(.agg #[.int .u8 3, .int .u8 1, .int .u8 1, p, s0, .string s])] w fun e w' => ∃ a ok, e = .returned (.tuple #[.int .i64 a, .bool ok]) ∧ (-9223372036854775808 ≤ m ∧ m ≤ 9223372036854775808 - 1 → a = m ∧ ok = true) ∧ (¬ (-9223372036854775808 ≤ m ∧ m ≤ 9223372036854775808 - 1) → ok = false) ∧ w.grownBy w' none := by
  have hg := gr_alloc (gr_refl w none) (.cells #[.int .u8 3, .int .u8 1, .int .u8 1, p, s0, .string s] 72 (0, 0))
  have hb := blk_new w (.cells #[.int .u8 3, .int .u8 1, .int .u8 1, p, s0, .string s] 72 (0, 0))
  have hk0 := blk_cell hb 0
  have hk1 := blk_cell hb 1
  have hk2 := blk_cell hb 2
  have hk5 := blk_cell hb 5
  have HC := Lib.hid hC
  have HG := Lib.hid hg
  clear hC hg hb
  go_enter Tryz.func50, Tryz.ntmps50
  go_wp2_with fail
  refine (HC.out _ HG.out).mono ?_
  rintro e w' ⟨⟨h1, h2⟩, hg2⟩
  have HG2 := Lib.hid (gr_trans HG.out hg2)
  have hk2' := gr_cell hg2 hk2
  clear hg2
  by_cases hv : -9223372036854775808 ≤ m ∧ m ≤ 9223372036854775808 - 1
  · have := h1 hv
    subst this
    skip
    have HV := Lib.hid hv
    clear hv h1 h2 hk0 hk1 hk2 hk5
    go_wp2
    go_ret2
    exact ⟨_, _, rfl, fun _ => ⟨rfl, rfl⟩, fun h => absurd HV.out h, HG2.out⟩
  · obtain ⟨a, q, rfl⟩ := h2 hv
    have HV := Lib.hid hv
    clear hv h1 h2 hk0 hk1 hk2 hk5
    go_wp2
    go_ret2
    exact ⟨_, _, rfl, fun h => absurd h HV.out, fun _ => rfl, HG2.out⟩

set_option maxHeartbeats 2000000 in
set_option maxRecDepth 1000000 in
theorem tokInt32_1 {w : World} (p s0 : Value) (s : ByteArray) (m : Int)
    (hC : ∀ w1, w.grownBy w1 none → Calls Tryz.prog 97 #[.string s, .int .i64 0, .int .i64 32] w1 fun e w' => ((-2147483648 ≤ m ∧ m ≤ 2147483648 - 1 → e = .returned (.tuple #[.int .i64 m, .nilIface])) ∧ (¬ (-2147483648 ≤ m ∧ m ≤ 2147483648 - 1) → ∃ a p, e = .returned (.tuple #[a, .iface 176 (.pointer p)]))) ∧ w1.grownBy w' none) :
    Calls Tryz.prog 51 #[(.agg #[.int .u8 3, .int .u8 1, .int .u8 1, p, s0, .string s])] w fun e w' => ∃ a ok, e = .returned (.tuple #[.int .i32 a, .bool ok]) ∧ (-2147483648 ≤ m ∧ m ≤ 2147483648 - 1 → a = m ∧ ok = true) ∧ (¬ (-2147483648 ≤ m ∧ m ≤ 2147483648 - 1) → ok = false) ∧ w.grownBy w' none := by
  have hg := gr_alloc (gr_refl w none) (.cells #[.int .u8 3, .int .u8 1, .int .u8 1, p, s0, .string s] 72 (0, 0))
  have hb := blk_new w (.cells #[.int .u8 3, .int .u8 1, .int .u8 1, p, s0, .string s] 72 (0, 0))
  have hk0 := blk_cell hb 0
  have hk1 := blk_cell hb 1
  have hk2 := blk_cell hb 2
  have hk5 := blk_cell hb 5
  have HC := Lib.hid hC
  have HG := Lib.hid hg
  clear hC hg hb
  go_enter Tryz.func51, Tryz.ntmps51
  go_wp2_with fail
  refine (HC.out _ HG.out).mono ?_
  rintro e w' ⟨⟨h1, h2⟩, hg2⟩
  have HG2 := Lib.hid (gr_trans HG.out hg2)
  have hk2' := gr_cell hg2 hk2
  clear hg2
  by_cases hv : -2147483648 ≤ m ∧ m ≤ 2147483648 - 1
  · have := h1 hv
    subst this
    have hwr : IntKind.i32.wrap m = m := IntWalk.i32_in m ⟨by omega, by omega⟩
    have HV := Lib.hid hv
    clear hv h1 h2 hk0 hk1 hk2 hk5
    go_wp2
    go_ret2
    exact ⟨_, _, rfl, fun _ => ⟨rfl, rfl⟩, fun h => absurd HV.out h, HG2.out⟩
  · obtain ⟨a, q, rfl⟩ := h2 hv
    have HV := Lib.hid hv
    clear hv h1 h2 hk0 hk1 hk2 hk5
    go_wp2
    go_ret2
    exact ⟨_, _, rfl, fun h => absurd h HV.out, fun _ => rfl, HG2.out⟩

set_option maxHeartbeats 2000000 in
set_option maxRecDepth 1000000 in
theorem tokBool_1 {w : World} (p s0 : Value) (s : ByteArray)
    (hC : ∀ w1, w.grownBy w1 none → Calls Tryz.prog 96 #[.string s, .int .i64 0, .int .i64 64] w1 fun e w' => (∃ (a : Int) (er : Value), e = .returned (.tuple #[.int .u64 a, er]) ∧ (er = .nilIface ∨ ∃ p, er = .iface 176 (.pointer p))) ∧ w1.grownBy w' none) :
    Calls Tryz.prog 49 #[(.agg #[.int .u8 3, .int .u8 1, .int .u8 1, p, s0, .string s])] w fun e w' => ∃ (a ok : Bool), e = .returned (.tuple #[.bool a, .bool ok]) ∧ w.grownBy w' none := by
  have hg := gr_alloc (gr_refl w none) (.cells #[.int .u8 3, .int .u8 1, .int .u8 1, p, s0, .string s] 72 (0, 0))
  have hb := blk_new w (.cells #[.int .u8 3, .int .u8 1, .int .u8 1, p, s0, .string s] 72 (0, 0))
  have hk0 := blk_cell hb 0
  have hk1 := blk_cell hb 1
  have hk2 := blk_cell hb 2
  have hk5 := blk_cell hb 5
  have HC := Lib.hid hC
  have HG := Lib.hid hg
  clear hC hg hb
  go_enter Tryz.func49, Tryz.ntmps49
  go_wp2_with fail
  refine (HC.out _ HG.out).mono ?_
  rintro e w' ⟨⟨a, er, rfl, her⟩, hg2⟩
  have HG2 := Lib.hid (gr_trans HG.out hg2)
  clear hg2 hk0 hk1 hk2 hk5
  rcases her with rfl | ⟨q, rfl⟩
  · by_cases h0 : a = 0
    · subst h0
      go_wp2
      go_ret2
      exact ⟨_, _, rfl, HG2.out⟩
    · have hb0 : (a == 0) = false := beq_eq_false_iff_ne.2 h0
      by_cases h1 : a = 1
      · subst h1
        go_wp2
        go_ret2
        exact ⟨_, _, rfl, HG2.out⟩
      · have hb1 : (a == 1) = false := beq_eq_false_iff_ne.2 h1
        go_wp2
        go_ret2
        exact ⟨_, _, rfl, HG2.out⟩
  · go_wp2
    go_ret2
    exact ⟨_, _, rfl, HG2.out⟩

set_option maxHeartbeats 2000000 in
set_option maxRecDepth 1000000 in
theorem tokEnum_1 {w : World} (p s0 : Value) (s : ByteArray) :
    Calls Tryz.prog 57 #[(.agg #[.int .u8 3, .int .u8 1, .int .u8 1, p, s0, .string s])] w fun e w' => ∃ a, e = .returned (.tuple #[.string a, .bool false]) ∧ w.grownBy w' none := by
  have hg := gr_alloc (gr_refl w none) (.cells #[.int .u8 3, .int .u8 1, .int .u8 1, p, s0, .string s] 72 (0, 0))
  have hb := blk_new w (.cells #[.int .u8 3, .int .u8 1, .int .u8 1, p, s0, .string s] 72 (0, 0))
  have hk0 := blk_cell hb 0
  have hk1 := blk_cell hb 1
  have hk2 := blk_cell hb 2
  have HG := Lib.hid hg
  clear hg hb
  go_enter Tryz.func57, Tryz.ntmps57
  go_wp2
  go_ret2
  first | exact ⟨_, rfl, HG.out⟩ | exact ⟨⟨_, rfl⟩, HG.out⟩

set_option maxHeartbeats 2000000 in
set_option maxRecDepth 1000000 in
theorem tokString_1 {w : World} (p s0 : Value) (s : ByteArray) :
    Calls Tryz.prog 58 #[(.agg #[.int .u8 3, .int .u8 1, .int .u8 1, p, s0, .string s])] w fun e w' => ∃ a, e = .returned (.tuple #[.string a, .bool false]) ∧ w.grownBy w' none := by
  have hg := gr_alloc (gr_refl w none) (.cells #[.int .u8 3, .int .u8 1, .int .u8 1, p, s0, .string s] 72 (0, 0))
  have hb := blk_new w (.cells #[.int .u8 3, .int .u8 1, .int .u8 1, p, s0, .string s] 72 (0, 0))
  have hk0 := blk_cell hb 0
  have hk1 := blk_cell hb 1
  have hk2 := blk_cell hb 2
  have HG := Lib.hid hg
  clear hg hb
  go_enter Tryz.func58, Tryz.ntmps58
  go_wp2
  go_ret2
  first | exact ⟨_, rfl, HG.out⟩ | exact ⟨⟨_, rfl⟩, HG.out⟩

set_option maxHeartbeats 2000000 in
set_option maxRecDepth 1000000 in
theorem tokUint64_1 {w : World} (p s0 : Value) (s : ByteArray) (v : Nat)
    (hC : ∀ w1, w.grownBy w1 none → Calls Tryz.prog 96 #[.string s, .int .i64 0, .int .i64 64] w1 fun e w' => ((v ≤ 18446744073709551615 → e = .returned (.tuple #[.int .u64 (v : Nat), .nilIface])) ∧ (¬ v ≤ 18446744073709551615 → ∃ a p, e = .returned (.tuple #[a, .iface 176 (.pointer p)]))) ∧ w1.grownBy w' none) :
    Calls Tryz.prog 52 #[(.agg #[.int .u8 3, .int .u8 1, .int .u8 1, p, s0, .string s])] w fun e w' => ∃ (a : Int) (ok : Bool), e = .returned (.tuple #[.int .u64 a, .bool ok]) ∧ (v ≤ 18446744073709551615 → a = v ∧ ok = true) ∧ (¬ v ≤ 18446744073709551615 → ok = false) ∧ w.grownBy w' none := by
  have hg := gr_alloc (gr_refl w none) (.cells #[.int .u8 3, .int .u8 1, .int .u8 1, p, s0, .string s] 72 (0, 0))
  have hb := blk_new w (.cells #[.int .u8 3, .int .u8 1, .int .u8 1, p, s0, .string s] 72 (0, 0))
  have hk0 := blk_cell hb 0
  have hk1 := blk_cell hb 1
  have hk2 := blk_cell hb 2
  have hk5 := blk_cell hb 5
  have HC := Lib.hid hC
  have HG := Lib.hid hg
  clear hC hg hb
  go_enter Tryz.func52, Tryz.ntmps52
  go_wp2_with fail
  refine (HC.out _ HG.out).mono ?_
  rintro e w' ⟨⟨h1, h2⟩, hg2⟩
  have HG2 := Lib.hid (gr_trans HG.out hg2)
  have hk2' := gr_cell hg2 hk2
  clear hg2
  by_cases hv : v ≤ 18446744073709551615
  · have := h1 hv
    subst this
    skip
    have HV := Lib.hid hv
    clear hv h1 h2 hk0 hk1 hk2 hk5
    go_wp2
    go_ret2
    exact ⟨_, _, rfl, fun _ => ⟨rfl, rfl⟩, fun h => absurd HV.out h, HG2.out⟩
  · obtain ⟨a, q, rfl⟩ := h2 hv
    have HV := Lib.hid hv
    clear hv h1 h2 hk0 hk1 hk2 hk5
    go_wp2
    go_ret2
    exact ⟨_, _, rfl, fun h => absurd h HV.out, fun _ => rfl, HG2.out⟩

set_option maxHeartbeats 2000000 in
set_option maxRecDepth 1000000 in
theorem tokUint32_1 {w : World} (p s0 : Value) (s : ByteArray) (v : Nat)
    (hC : ∀ w1, w.grownBy w1 none → Calls Tryz.prog 96 #[.string s, .int .i64 0, .int .i64 32] w1 fun e w' => ((v ≤ 4294967295 → e = .returned (.tuple #[.int .u64 (v : Nat), .nilIface])) ∧ (¬ v ≤ 4294967295 → ∃ a p, e = .returned (.tuple #[a, .iface 176 (.pointer p)]))) ∧ w1.grownBy w' none) :
    Calls Tryz.prog 53 #[(.agg #[.int .u8 3, .int .u8 1, .int .u8 1, p, s0, .string s])] w fun e w' => ∃ (a : Int) (ok : Bool), e = .returned (.tuple #[.int .u32 a, .bool ok]) ∧ (v ≤ 4294967295 → a = v ∧ ok = true) ∧ (¬ v ≤ 4294967295 → ok = false) ∧ w.grownBy w' none := by
  have hg := gr_alloc (gr_refl w none) (.cells #[.int .u8 3, .int .u8 1, .int .u8 1, p, s0, .string s] 72 (0, 0))
  have hb := blk_new w (.cells #[.int .u8 3, .int .u8 1, .int .u8 1, p, s0, .string s] 72 (0, 0))
  have hk0 := blk_cell hb 0
  have hk1 := blk_cell hb 1
  have hk2 := blk_cell hb 2
  have hk5 := blk_cell hb 5
  have HC := Lib.hid hC
  have HG := Lib.hid hg
  clear hC hg hb
  go_enter Tryz.func53, Tryz.ntmps53
  go_wp2_with fail
  refine (HC.out _ HG.out).mono ?_
  rintro e w' ⟨⟨h1, h2⟩, hg2⟩
  have HG2 := Lib.hid (gr_trans HG.out hg2)
  have hk2' := gr_cell hg2 hk2
  clear hg2
  by_cases hv : v ≤ 4294967295
  · have := h1 hv
    subst this
    have hwr : IntKind.u32.wrap (v : Int) = (v : Int) := IntWalk.u32_in (v : Int) ⟨by omega, by omega⟩
    have HV := Lib.hid hv
    clear hv h1 h2 hk0 hk1 hk2 hk5
    go_wp2
    go_ret2
    exact ⟨_, _, rfl, fun _ => ⟨rfl, rfl⟩, fun h => absurd HV.out h, HG2.out⟩
  · obtain ⟨a, q, rfl⟩ := h2 hv
    have HV := Lib.hid hv
    clear hv h1 h2 hk0 hk1 hk2 hk5
    go_wp2
    go_ret2
    exact ⟨_, _, rfl, fun h => absurd h HV.out, fun _ => rfl, HG2.out⟩

set_option maxHeartbeats 2000000 in
set_option maxRecDepth 1000000 in
theorem tokInt64_2 {w : World} (p s0 : Value) (s : ByteArray) (m : Int)
    (hC : ∀ w1, w.grownBy w1 none → Calls Tryz.prog 97 #[.string s, .int .i64 0, .int .i64 64] w1 fun e w' => ((-9223372036854775808 ≤ m ∧ m ≤ 9223372036854775808 - 1 → e = .returned (.tuple #[.int .i64 m, .nilIface])) ∧ (¬ (-9223372036854775808 ≤ m ∧ m ≤ 9223372036854775808 - 1) → ∃ a p, e = .returned (.tuple #[a, .iface 176 (.pointer p)]))) ∧ w1.grownBy w' none) :
    Calls Tryz.prog 50 #[(.agg #[.int .u8 3, .int .u8 1, .int .u8 2, p, s0, .string s])] w fun e w' => ∃ a ok, e = .returned (.tuple #[.int .i64 a, .bool ok]) ∧ (-9223372036854775808 ≤ m ∧ m ≤ 9223372036854775808 - 1 → a = m ∧ ok = true) ∧ (¬ (-9223372036854775808 ≤ m ∧ m ≤ 9223372036854775808 - 1) → ok = false) ∧ w.grownBy w' none := by
  have hg := gr_alloc (gr_refl w none) (.cells #[.int .u8 3, .int .u8 1, .int .u8 2, p, s0, .string s] 72 (0, 0))
  have hb := blk_new w (.cells #[.int .u8 3, .int .u8 1, .int .u8 2, p, s0, .string s] 72 (0, 0))
  have hk0 := blk_cell hb 0
  have hk1 := blk_cell hb 1
  have hk2 := blk_cell hb 2
  have hk5 := blk_cell hb 5
  have HC := Lib.hid hC
  have HG := Lib.hid hg
  clear hC hg hb
  go_enter Tryz.func50, Tryz.ntmps50
  go_wp2_with fail
  refine (HC.out _ HG.out).mono ?_
  rintro e w' ⟨⟨h1, h2⟩, hg2⟩
  have HG2 := Lib.hid (gr_trans HG.out hg2)
  have hk2' := gr_cell hg2 hk2
  clear hg2
  by_cases hv : -9223372036854775808 ≤ m ∧ m ≤ 9223372036854775808 - 1
  · have := h1 hv
    subst this
    skip
    have HV := Lib.hid hv
    clear hv h1 h2 hk0 hk1 hk2 hk5
    go_wp2
    go_ret2
    exact ⟨_, _, rfl, fun _ => ⟨rfl, rfl⟩, fun h => absurd HV.out h, HG2.out⟩
  · obtain ⟨a, q, rfl⟩ := h2 hv
    have HV := Lib.hid hv
    clear hv h1 h2 hk0 hk1 hk2 hk5
    go_wp2
    go_ret2
    exact ⟨_, _, rfl, fun h => absurd h HV.out, fun _ => rfl, HG2.out⟩

set_option maxHeartbeats 2000000 in
set_option maxRecDepth 1000000 in
theorem tokInt32_2 {w : World} (p s0 : Value) (s : ByteArray) (m : Int)
    (hC : ∀ w1, w.grownBy w1 none → Calls Tryz.prog 97 #[.string s, .int .i64 0, .int .i64 32] w1 fun e w' => ((-2147483648 ≤ m ∧ m ≤ 2147483648 - 1 → e = .returned (.tuple #[.int .i64 m, .nilIface])) ∧ (¬ (-2147483648 ≤ m ∧ m ≤ 2147483648 - 1) → ∃ a p, e = .returned (.tuple #[a, .iface 176 (.pointer p)]))) ∧ w1.grownBy w' none) :
    Calls Tryz.prog 51 #[(.agg #[.int .u8 3, .int .u8 1, .int .u8 2, p, s0, .string s])] w fun e w' => ∃ a ok, e = .returned (.tuple #[.int .i32 a, .bool ok]) ∧ (-2147483648 ≤ m ∧ m ≤ 2147483648 - 1 → a = m ∧ ok = true) ∧ (¬ (-2147483648 ≤ m ∧ m ≤ 2147483648 - 1) → ok = false) ∧ w.grownBy w' none := by
  have hg := gr_alloc (gr_refl w none) (.cells #[.int .u8 3, .int .u8 1, .int .u8 2, p, s0, .string s] 72 (0, 0))
  have hb := blk_new w (.cells #[.int .u8 3, .int .u8 1, .int .u8 2, p, s0, .string s] 72 (0, 0))
  have hk0 := blk_cell hb 0
  have hk1 := blk_cell hb 1
  have hk2 := blk_cell hb 2
  have hk5 := blk_cell hb 5
  have HC := Lib.hid hC
  have HG := Lib.hid hg
  clear hC hg hb
  go_enter Tryz.func51, Tryz.ntmps51
  go_wp2_with fail
  refine (HC.out _ HG.out).mono ?_
  rintro e w' ⟨⟨h1, h2⟩, hg2⟩
  have HG2 := Lib.hid (gr_trans HG.out hg2)
  have hk2' := gr_cell hg2 hk2
  clear hg2
  by_cases hv : -2147483648 ≤ m ∧ m ≤ 2147483648 - 1
  · have := h1 hv
    subst this
    have hwr : IntKind.i32.wrap m = m := IntWalk.i32_in m ⟨by omega, by omega⟩
    have HV := Lib.hid hv
    clear hv h1 h2 hk0 hk1 hk2 hk5
    go_wp2
    go_ret2
    exact ⟨_, _, rfl, fun _ => ⟨rfl, rfl⟩, fun h => absurd HV.out h, HG2.out⟩
  · obtain ⟨a, q, rfl⟩ := h2 hv
    have HV := Lib.hid hv
    clear hv h1 h2 hk0 hk1 hk2 hk5
    go_wp2
    go_ret2
    exact ⟨_, _, rfl, fun h => absurd h HV.out, fun _ => rfl, HG2.out⟩

set_option maxHeartbeats 2000000 in
set_option maxRecDepth 1000000 in
theorem tokBool_2 {w : World} (p s0 : Value) (s : ByteArray)
    (hC : ∀ w1, w.grownBy w1 none → Calls Tryz.prog 96 #[.string s, .int .i64 0, .int .i64 64] w1 fun e w' => (∃ (a : Int) (er : Value), e = .returned (.tuple #[.int .u64 a, er]) ∧ (er = .nilIface ∨ ∃ p, er = .iface 176 (.pointer p))) ∧ w1.grownBy w' none) :
    Calls Tryz.prog 49 #[(.agg #[.int .u8 3, .int .u8 1, .int .u8 2, p, s0, .string s])] w fun e w' => ∃ (a ok : Bool), e = .returned (.tuple #[.bool a, .bool ok]) ∧ w.grownBy w' none := by
  have hg := gr_alloc (gr_refl w none) (.cells #[.int .u8 3, .int .u8 1, .int .u8 2, p, s0, .string s] 72 (0, 0))
  have hb := blk_new w (.cells #[.int .u8 3, .int .u8 1, .int .u8 2, p, s0, .string s] 72 (0, 0))
  have hk0 := blk_cell hb 0
  have hk1 := blk_cell hb 1
  have hk2 := blk_cell hb 2
  have hk5 := blk_cell hb 5
  have HC := Lib.hid hC
  have HG := Lib.hid hg
  clear hC hg hb
  go_enter Tryz.func49, Tryz.ntmps49
  go_wp2_with fail
  refine (HC.out _ HG.out).mono ?_
  rintro e w' ⟨⟨a, er, rfl, her⟩, hg2⟩
  have HG2 := Lib.hid (gr_trans HG.out hg2)
  clear hg2 hk0 hk1 hk2 hk5
  rcases her with rfl | ⟨q, rfl⟩
  · by_cases h0 : a = 0
    · subst h0
      go_wp2
      go_ret2
      exact ⟨_, _, rfl, HG2.out⟩
    · have hb0 : (a == 0) = false := beq_eq_false_iff_ne.2 h0
      by_cases h1 : a = 1
      · subst h1
        go_wp2
        go_ret2
        exact ⟨_, _, rfl, HG2.out⟩
      · have hb1 : (a == 1) = false := beq_eq_false_iff_ne.2 h1
        go_wp2
        go_ret2
        exact ⟨_, _, rfl, HG2.out⟩
  · go_wp2
    go_ret2
    exact ⟨_, _, rfl, HG2.out⟩

set_option maxHeartbeats 2000000 in
set_option maxRecDepth 1000000 in
theorem tokEnum_2 {w : World} (p s0 : Value) (s : ByteArray) :
    Calls Tryz.prog 57 #[(.agg #[.int .u8 3, .int .u8 1, .int .u8 2, p, s0, .string s])] w fun e w' => ∃ a, e = .returned (.tuple #[.string a, .bool false]) ∧ w.grownBy w' none := by
  have hg := gr_alloc (gr_refl w none) (.cells #[.int .u8 3, .int .u8 1, .int .u8 2, p, s0, .string s] 72 (0, 0))
  have hb := blk_new w (.cells #[.int .u8 3, .int .u8 1, .int .u8 2, p, s0, .string s] 72 (0, 0))
  have hk0 := blk_cell hb 0
  have hk1 := blk_cell hb 1
  have hk2 := blk_cell hb 2
  have HG := Lib.hid hg
  clear hg hb
  go_enter Tryz.func57, Tryz.ntmps57
  go_wp2
  go_ret2
  first | exact ⟨_, rfl, HG.out⟩ | exact ⟨⟨_, rfl⟩, HG.out⟩

set_option maxHeartbeats 2000000 in
set_option maxRecDepth 1000000 in
theorem tokString_2 {w : World} (p s0 : Value) (s : ByteArray) :
    Calls Tryz.prog 58 #[(.agg #[.int .u8 3, .int .u8 1, .int .u8 2, p, s0, .string s])] w fun e w' => ∃ a, e = .returned (.tuple #[.string a, .bool false]) ∧ w.grownBy w' none := by
  have hg := gr_alloc (gr_refl w none) (.cells #[.int .u8 3, .int .u8 1, .int .u8 2, p, s0, .string s] 72 (0, 0))
  have hb := blk_new w (.cells #[.int .u8 3, .int .u8 1, .int .u8 2, p, s0, .string s] 72 (0, 0))
  have hk0 := blk_cell hb 0
  have hk1 := blk_cell hb 1
  have hk2 := blk_cell hb 2
  have HG := Lib.hid hg
  clear hg hb
  go_enter Tryz.func58, Tryz.ntmps58
  go_wp2
  go_ret2
  first | exact ⟨_, rfl, HG.out⟩ | exact ⟨⟨_, rfl⟩, HG.out⟩

set_option maxHeartbeats 2000000 in
set_option maxRecDepth 1000000 in
theorem tokUint64_2 {w : World} (p s0 : Value) (s : ByteArray) (v : Nat)
    (hC : ∀ w1, w.grownBy w1 none → Calls Tryz.prog 96 #[.string s, .int .i64 0, .int .i64 64] w1 fun e w' => ((v ≤ 18446744073709551615 → e = .returned (.tuple #[.int .u64 (v : Nat), .nilIface])) ∧ (¬ v ≤ 18446744073709551615 → ∃ a p, e = .returned (.tuple #[a, .iface 176 (.pointer p)]))) ∧ w1.grownBy w' none) :
    Calls Tryz.prog 52 #[(.agg #[.int .u8 3, .int .u8 1, .int .u8 2, p, s0, .string s])] w fun e w' => ∃ (a : Int) (ok : Bool), e = .returned (.tuple #[.int .u64 a, .bool ok]) ∧ (v ≤ 18446744073709551615 → a = v ∧ ok = true) ∧ (¬ v ≤ 18446744073709551615 → ok = false) ∧ w.grownBy w' none := by
  have hg := gr_alloc (gr_refl w none) (.cells #[.int .u8 3, .int .u8 1, .int .u8 2, p, s0, .string s] 72 (0, 0))
  have hb := blk_new w (.cells #[.int .u8 3, .int .u8 1, .int .u8 2, p, s0, .string s] 72 (0, 0))
  have hk0 := blk_cell hb 0
  have hk1 := blk_cell hb 1
  have hk2 := blk_cell hb 2
  have hk5 := blk_cell hb 5
  have HC := Lib.hid hC
  have HG := Lib.hid hg
  clear hC hg hb
  go_enter Tryz.func52, Tryz.ntmps52
  go_wp2_with fail
  refine (HC.out _ HG.out).mono ?_
  rintro e w' ⟨⟨h1, h2⟩, hg2⟩
  have HG2 := Lib.hid (gr_trans HG.out hg2)
  have hk2' := gr_cell hg2 hk2
  clear hg2
  by_cases hv : v ≤ 18446744073709551615
  · have := h1 hv
    subst this
    skip
    have HV := Lib.hid hv
    clear hv h1 h2 hk0 hk1 hk2 hk5
    go_wp2
    go_ret2
    exact ⟨_, _, rfl, fun _ => ⟨rfl, rfl⟩, fun h => absurd HV.out h, HG2.out⟩
  · obtain ⟨a, q, rfl⟩ := h2 hv
    have HV := Lib.hid hv
    clear hv h1 h2 hk0 hk1 hk2 hk5
    go_wp2
    go_ret2
    exact ⟨_, _, rfl, fun h => absurd h HV.out, fun _ => rfl, HG2.out⟩

set_option maxHeartbeats 2000000 in
set_option maxRecDepth 1000000 in
theorem tokUint32_2 {w : World} (p s0 : Value) (s : ByteArray) (v : Nat)
    (hC : ∀ w1, w.grownBy w1 none → Calls Tryz.prog 96 #[.string s, .int .i64 0, .int .i64 32] w1 fun e w' => ((v ≤ 4294967295 → e = .returned (.tuple #[.int .u64 (v : Nat), .nilIface])) ∧ (¬ v ≤ 4294967295 → ∃ a p, e = .returned (.tuple #[a, .iface 176 (.pointer p)]))) ∧ w1.grownBy w' none) :
    Calls Tryz.prog 53 #[(.agg #[.int .u8 3, .int .u8 1, .int .u8 2, p, s0, .string s])] w fun e w' => ∃ (a : Int) (ok : Bool), e = .returned (.tuple #[.int .u32 a, .bool ok]) ∧ (v ≤ 4294967295 → a = v ∧ ok = true) ∧ (¬ v ≤ 4294967295 → ok = false) ∧ w.grownBy w' none := by
  have hg := gr_alloc (gr_refl w none) (.cells #[.int .u8 3, .int .u8 1, .int .u8 2, p, s0, .string s] 72 (0, 0))
  have hb := blk_new w (.cells #[.int .u8 3, .int .u8 1, .int .u8 2, p, s0, .string s] 72 (0, 0))
  have hk0 := blk_cell hb 0
  have hk1 := blk_cell hb 1
  have hk2 := blk_cell hb 2
  have hk5 := blk_cell hb 5
  have HC := Lib.hid hC
  have HG := Lib.hid hg
  clear hC hg hb
  go_enter Tryz.func53, Tryz.ntmps53
  go_wp2_with fail
  refine (HC.out _ HG.out).mono ?_
  rintro e w' ⟨⟨h1, h2⟩, hg2⟩
  have HG2 := Lib.hid (gr_trans HG.out hg2)
  have hk2' := gr_cell hg2 hk2
  clear hg2
  by_cases hv : v ≤ 4294967295
  · have := h1 hv
    subst this
    have hwr : IntKind.u32.wrap (v : Int) = (v : Int) := IntWalk.u32_in (v : Int) ⟨by omega, by omega⟩
    have HV := Lib.hid hv
    clear hv h1 h2 hk0 hk1 hk2 hk5
    go_wp2
    go_ret2
    exact ⟨_, _, rfl, fun _ => ⟨rfl, rfl⟩, fun h => absurd HV.out h, HG2.out⟩
  · obtain ⟨a, q, rfl⟩ := h2 hv
    have HV := Lib.hid hv
    clear hv h1 h2 hk0 hk1 hk2 hk5
    go_wp2
    go_ret2
    exact ⟨_, _, rfl, fun h => absurd h HV.out, fun _ => rfl, HG2.out⟩

set_option maxHeartbeats 2000000 in
set_option maxRecDepth 1000000 in
theorem tokInt64_128 {w : World} (p s0 : Value) (s : ByteArray) (m : Int)
    (hC : ∀ w1, w.grownBy w1 none → Calls Tryz.prog 97 #[.string s, .int .i64 0, .int .i64 64] w1 fun e w' => ((-9223372036854775808 ≤ m ∧ m ≤ 9223372036854775808 - 1 → e = .returned (.tuple #[.int .i64 m, .nilIface])) ∧ (¬ (-9223372036854775808 ≤ m ∧ m ≤ 9223372036854775808 - 1) → ∃ a p, e = .returned (.tuple #[a, .iface 176 (.pointer p)]))) ∧ w1.grownBy w' none) :
    Calls Tryz.prog 50 #[(.agg #[.int .u8 3, .int .u8 1, .int .u8 128, p, s0, .string s])] w fun e w' => ∃ a ok, e = .returned (.tuple #[.int .i64 a, .bool ok]) ∧ (-9223372036854775808 ≤ m ∧ m ≤ 9223372036854775808 - 1 → a = m ∧ ok = true) ∧ (¬ (-9223372036854775808 ≤ m ∧ m ≤ 9223372036854775808 - 1) → ok = false) ∧ w.grownBy w' none := by
  have hg := gr_alloc (gr_refl w none) (.cells #[.int .u8 3, .int .u8 1, .int .u8 128, p, s0, .string s] 72 (0, 0))
  have hb := blk_new w (.cells #[.int .u8 3, .int .u8 1, .int .u8 128, p, s0, .string s] 72 (0, 0))
  have hk0 := blk_cell hb 0
  have hk1 := blk_cell hb 1
  have hk2 := blk_cell hb 2
  have hk5 := blk_cell hb 5
  have HC := Lib.hid hC
  have HG := Lib.hid hg
  clear hC hg hb
  go_enter Tryz.func50, Tryz.ntmps50
  go_wp2_with fail
  refine (HC.out _ HG.out).mono ?_
  rintro e w' ⟨⟨h1, h2⟩, hg2⟩
  have HG2 := Lib.hid (gr_trans HG.out hg2)
  have hk2' := gr_cell hg2 hk2
  clear hg2
  by_cases hv : -9223372036854775808 ≤ m ∧ m ≤ 9223372036854775808 - 1
  · have := h1 hv
    subst this
    skip
    have HV := Lib.hid hv
    clear hv h1 h2 hk0 hk1 hk2 hk5
    go_wp2
    go_ret2
    exact ⟨_, _, rfl, fun _ => ⟨rfl, rfl⟩, fun h => absurd HV.out h, HG2.out⟩
  · obtain ⟨a, q, rfl⟩ := h2 hv
    have HV := Lib.hid hv
    clear hv h1 h2 hk0 hk1 hk2 hk5
    go_wp2
    go_ret2
    exact ⟨_, _, rfl, fun h => absurd h HV.out, fun _ => rfl, HG2.out⟩

set_option maxHeartbeats 2000000 in
set_option maxRecDepth 1000000 in
theorem tokInt32_128 {w : World} (p s0 : Value) (s : ByteArray) (m : Int)
    (hC : ∀ w1, w.grownBy w1 none → Calls Tryz.prog 97 #[.string s, .int .i64 0, .int .i64 32] w1 fun e w' => ((-2147483648 ≤ m ∧ m ≤ 2147483648 - 1 → e = .returned (.tuple #[.int .i64 m, .nilIface])) ∧ (¬ (-2147483648 ≤ m ∧ m ≤ 2147483648 - 1) → ∃ a p, e = .returned (.tuple #[a, .iface 176 (.pointer p)]))) ∧ w1.grownBy w' none) :
    Calls Tryz.prog 51 #[(.agg #[.int .u8 3, .int .u8 1, .int .u8 128, p, s0, .string s])] w fun e w' => ∃ a ok, e = .returned (.tuple #[.int .i32 a, .bool ok]) ∧ (-2147483648 ≤ m ∧ m ≤ 2147483648 - 1 → a = m ∧ ok = true) ∧ (¬ (-2147483648 ≤ m ∧ m ≤ 2147483648 - 1) → ok = false) ∧ w.grownBy w' none := by
  have hg := gr_alloc (gr_refl w none) (.cells #[.int .u8 3, .int .u8 1, .int .u8 128, p, s0, .string s] 72 (0, 0))
  have hb := blk_new w (.cells #[.int .u8 3, .int .u8 1, .int .u8 128, p, s0, .string s] 72 (0, 0))
  have hk0 := blk_cell hb 0
  have hk1 := blk_cell hb 1
  have hk2 := blk_cell hb 2
  have hk5 := blk_cell hb 5
  have HC := Lib.hid hC
  have HG := Lib.hid hg
  clear hC hg hb
  go_enter Tryz.func51, Tryz.ntmps51
  go_wp2_with fail
  refine (HC.out _ HG.out).mono ?_
  rintro e w' ⟨⟨h1, h2⟩, hg2⟩
  have HG2 := Lib.hid (gr_trans HG.out hg2)
  have hk2' := gr_cell hg2 hk2
  clear hg2
  by_cases hv : -2147483648 ≤ m ∧ m ≤ 2147483648 - 1
  · have := h1 hv
    subst this
    have hwr : IntKind.i32.wrap m = m := IntWalk.i32_in m ⟨by omega, by omega⟩
    have HV := Lib.hid hv
    clear hv h1 h2 hk0 hk1 hk2 hk5
    go_wp2
    go_ret2
    exact ⟨_, _, rfl, fun _ => ⟨rfl, rfl⟩, fun h => absurd HV.out h, HG2.out⟩
  · obtain ⟨a, q, rfl⟩ := h2 hv
    have HV := Lib.hid hv
    clear hv h1 h2 hk0 hk1 hk2 hk5
    go_wp2
    go_ret2
    exact ⟨_, _, rfl, fun h => absurd h HV.out, fun _ => rfl, HG2.out⟩

set_option maxHeartbeats 2000000 in
set_option maxRecDepth 1000000 in
theorem tokBool_128 {w : World} (p s0 : Value) (s : ByteArray)
    (hC : ∀ w1, w.grownBy w1 none → Calls Tryz.prog 96 #[.string s, .int .i64 0, .int .i64 64] w1 fun e w' => (∃ (a : Int) (er : Value), e = .returned (.tuple #[.int .u64 a, er]) ∧ (er = .nilIface ∨ ∃ p, er = .iface 176 (.pointer p))) ∧ w1.grownBy w' none) :
    Calls Tryz.prog 49 #[(.agg #[.int .u8 3, .int .u8 1, .int .u8 128, p, s0, .string s])] w fun e w' => ∃ (a ok : Bool), e = .returned (.tuple #[.bool a, .bool ok]) ∧ w.grownBy w' none := by
  have hg := gr_alloc (gr_refl w none) (.cells #[.int .u8 3, .int .u8 1, .int .u8 128, p, s0, .string s] 72 (0, 0))
  have hb := blk_new w (.cells #[.int .u8 3, .int .u8 1, .int .u8 128, p, s0, .string s] 72 (0, 0))
  have hk0 := blk_cell hb 0
  have hk1 := blk_cell hb 1
  have hk2 := blk_cell hb 2
  have hk5 := blk_cell hb 5
  have HC := Lib.hid hC
  have HG := Lib.hid hg
  clear hC hg hb
  go_enter Tryz.func49, Tryz.ntmps49
  go_wp2_with fail
  refine (HC.out _ HG.out).mono ?_
  rintro e w' ⟨⟨a, er, rfl, her⟩, hg2⟩
  have HG2 := Lib.hid (gr_trans HG.out hg2)
  clear hg2 hk0 hk1 hk2 hk5
  rcases her with rfl | ⟨q, rfl⟩
  · by_cases h0 : a = 0
    · subst h0
      go_wp2
      go_ret2
      exact ⟨_, _, rfl, HG2.out⟩
    · have hb0 : (a == 0) = false := beq_eq_false_iff_ne.2 h0
      by_cases h1 : a = 1
      · subst h1
        go_wp2
        go_ret2
        exact ⟨_, _, rfl, HG2.out⟩
      · have hb1 : (a == 1) = false := beq_eq_false_iff_ne.2 h1
        go_wp2
        go_ret2
        exact ⟨_, _, rfl, HG2.out⟩
  · go_wp2
    go_ret2
    exact ⟨_, _, rfl, HG2.out⟩

set_option maxHeartbeats 2000000 in
set_option maxRecDepth 1000000 in
theorem tokEnum_128 {w : World} (p s0 : Value) (s : ByteArray) :
    Calls Tryz.prog 57 #[(.agg #[.int .u8 3, .int .u8 1, .int .u8 128, p, s0, .string s])] w fun e w' => ∃ a, e = .returned (.tuple #[.string a, .bool false]) ∧ w.grownBy w' none := by
  have hg := gr_alloc (gr_refl w none) (.cells #[.int .u8 3, .int .u8 1, .int .u8 128, p, s0, .string s] 72 (0, 0))
  have hb := blk_new w (.cells #[.int .u8 3, .int .u8 1, .int .u8 128, p, s0, .string s] 72 (0, 0))
  have hk0 := blk_cell hb 0
  have hk1 := blk_cell hb 1
  have hk2 := blk_cell hb 2
  have HG := Lib.hid hg
  clear hg hb
  go_enter Tryz.func57, Tryz.ntmps57
  go_wp2
  go_ret2
  first | exact ⟨_, rfl, HG.out⟩ | exact ⟨⟨_, rfl⟩, HG.out⟩

set_option maxHeartbeats 2000000 in
set_option maxRecDepth 1000000 in
theorem tokString_128 {w : World} (p s0 : Value) (s : ByteArray) :
    Calls Tryz.prog 58 #[(.agg #[.int .u8 3, .int .u8 1, .int .u8 128, p, s0, .string s])] w fun e w' => ∃ a, e = .returned (.tuple #[.string a, .bool false]) ∧ w.grownBy w' none := by
  have hg := gr_alloc (gr_refl w none) (.cells #[.int .u8 3, .int .u8 1, .int .u8 128, p, s0, .string s] 72 (0, 0))
  have hb := blk_new w (.cells #[.int .u8 3, .int .u8 1, .int .u8 128, p, s0, .string s] 72 (0, 0))
  have hk0 := blk_cell hb 0
  have hk1 := blk_cell hb 1
  have hk2 := blk_cell hb 2
  have HG := Lib.hid hg
  clear hg hb
  go_enter Tryz.func58, Tryz.ntmps58
  go_wp2
  go_ret2
  first | exact ⟨_, rfl, HG.out⟩ | exact ⟨⟨_, rfl⟩, HG.out⟩

set_option maxHeartbeats 2000000 in
set_option maxRecDepth 1000000 in
theorem tokUint64_128 {w : World} (p s0 : Value) (s : ByteArray) :
    Calls Tryz.prog 52 #[(.agg #[.int .u8 3, .int .u8 1, .int .u8 128, p, s0, .string s])] w fun e w' => ∃ a, e = .returned (.tuple #[.int .u64 a, .bool false]) ∧ w.grownBy w' none := by
  have hg := gr_alloc (gr_refl w none) (.cells #[.int .u8 3, .int .u8 1, .int .u8 128, p, s0, .string s] 72 (0, 0))
  have hb := blk_new w (.cells #[.int .u8 3, .int .u8 1, .int .u8 128, p, s0, .string s] 72 (0, 0))
  have hk0 := blk_cell hb 0
  have hk1 := blk_cell hb 1
  have hk2 := blk_cell hb 2
  have HG := Lib.hid hg
  clear hg hb
  go_enter Tryz.func52, Tryz.ntmps52
  go_wp2
  go_ret2
  first | exact ⟨_, rfl, HG.out⟩ | exact ⟨⟨_, rfl⟩, HG.out⟩

set_option maxHeartbeats 2000000 in
set_option maxRecDepth 1000000 in
theorem tokUint32_128 {w : World} (p s0 : Value) (s : ByteArray) :
    Calls Tryz.prog 53 #[(.agg #[.int .u8 3, .int .u8 1, .int .u8 128, p, s0, .string s])] w fun e w' => ∃ a, e = .returned (.tuple #[.int .u32 a, .bool false]) ∧ w.grownBy w' none := by
  have hg := gr_alloc (gr_refl w none) (.cells #[.int .u8 3, .int .u8 1, .int .u8 128, p, s0, .string s] 72 (0, 0))
  have hb := blk_new w (.cells #[.int .u8 3, .int .u8 1, .int .u8 128, p, s0, .string s] 72 (0, 0))
  have hk0 := blk_cell hb 0
  have hk1 := blk_cell hb 1
  have hk2 := blk_cell hb 2
  have HG := Lib.hid hg
  clear hg hb
  go_enter Tryz.func53, Tryz.ntmps53
  go_wp2
  go_ret2
  first | exact ⟨_, rfl, HG.out⟩ | exact ⟨⟨_, rfl⟩, HG.out⟩
end Go.Proofs.YtlfeolfjlmelpaaGreatDoor
