/- What 'values' tells of a number's token. -/
import Derived.Test.YtlfeolfjlmelpaaGreatDoorMA
import Derived.Test.YtlfeolfjlmelpaaGreatDoorLC
namespace Go.Proofs.YtlfeolfjlmelpaaGreatDoor
open Go.RowKit

/-- x is m, and y says so, if m lies between lo and hi. -/
def OkIs (lo hi m x : Int) (y : Bool) : Prop := (lo ≤ m ∧ m ≤ hi → x = m ∧ y = true) ∧ (¬ (lo ≤ m ∧ m ≤ hi) → y = false)
/-- The eighteen cells of a whole number. -/
def NumVals (m : Int) (vs : List Value) : Prop :=
  ∃ (x49 y49 : Bool) (x50 : Int) (y50 : Bool) (x51 : Int) (y51 : Bool) (x52 : Int) (y52 : Bool) (x53 : Int) (y53 : Bool) (x54 : Int) (y54 : Bool) (x56 : Int) (y56 : Bool) (x57 : ByteArray) (y57 : Bool) (x58 : ByteArray) (y58 : Bool),
    vs = [.bool x49, .bool y49, .int .i64 x50, .bool y50, .int .i32 x51, .bool y51, .int .u64 x52, .bool y52, .int .u32 x53, .bool y53, .int .u64 x54, .bool y54, .int .u64 x56, .bool y56, .string x57, .bool y57, .string x58, .bool y58] ∧
    OkIs (-9223372036854775808) 9223372036854775807 m x50 y50 ∧ OkIs (-2147483648) 2147483647 m x51 y51 ∧ OkIs 0 18446744073709551615 m x52 y52 ∧ OkIs 0 4294967295 m x53 y53
theorem NumVals.shape (m : Int) (vs : List Value) (h : NumVals m vs) : vs.length = 18 ∧ ∀ v ∈ vs, v.oneCell' = true := by
  obtain ⟨x49, y49, x50, y50, x51, y51, x52, y52, x53, y53, x54, y54, x56, y56, x57, y57, x58, y58, rfl, -⟩ := h
  refine ⟨rfl, fun v hv => ?_⟩
  simp only [List.mem_cons, List.mem_nil_iff, or_false] at hv
  rcases hv with rfl | rfl | rfl | rfl | rfl | rfl | rfl | rfl | rfl | rfl | rfl | rfl | rfl | rfl | rfl | rfl | rfl | rfl <;> rfl

set_option maxHeartbeats 2000000 in
set_option maxRecDepth 1000000 in
theorem parseUint_syn {w : World} (s : ByteArray) (bits : Int) (hs : s.size ≤ 281474976710656) (hE : ErrVar 7 w)
    (hC : Calls Tryz.prog 137 #[.string s, .int .i64 0, .int .i64 bits] w fun e w' => e = .returned (.tuple #[.int .u64 0, .iface 245 (.int .i64 2)]) ∧ w.grownBy w' none) :
    Calls Tryz.prog 96 #[.string s, .int .i64 0, .int .i64 bits] w fun e w' => (∃ p, e = .returned (.tuple #[.int .u64 0, .iface 176 (.pointer p)])) ∧ w.grownBy w' none := by
  have HC := Lib.hid hC
  have HS := Lib.hid hs
  clear hC hs
  go_enter Tryz.func96, Tryz.ntmps96
  go_wp2_with fail
  refine HC.out.mono ?_
  rintro e w' ⟨rfl, hg⟩
  have HG := Lib.hid hg
  obtain ⟨ev, h1, h2⟩ := hE.kept hg
  have HT := Lib.hid (Tryz.strconv_toError_syntax ⟨#[80, 97, 114, 115, 101, 85, 105, 110, 116]⟩ s 0 bits ev w' HS.out h1 h2)
  clear HC hg hE h1 h2
  go_wp2_with fail
  refine HT.out.mono ?_
  rintro e w2 ⟨N, rfl, -, -, hb⟩
  have HB := Lib.hid hb
  clear HT hb
  go_wp2
  go_ret2
  exact ⟨⟨_, rfl⟩, gr_trans HG.out (below_gr HB.out)⟩
theorem size_list (l : List UInt8) : (⟨l.toArray⟩ : ByteArray).size = l.length := rfl

theorem numVals_0 {w : World} (x : UInt8) (r : List UInt8) (v : Nat) (hx : x.toNat ≠ 43 ∧ x.toNat ≠ 45) (hl : (x :: r).length ≤ 4096) (hE : ErrVar 1 w) (hv : v ≤ 18446744073709551615)
    (h64 : ∀ w1, Calls Tryz.prog 137 #[.string ⟨(x :: r).toArray⟩, .int .i64 0, .int .i64 64] w1 (PuEnds w1 v 18446744073709551615))
    (h32 : ∀ w1, Calls Tryz.prog 137 #[.string ⟨(x :: r).toArray⟩, .int .i64 0, .int .i64 32] w1 (PuEnds w1 v 4294967295))
    (hF54 : ∀ p s0 w1, w.grownBy w1 none → Calls Tryz.prog 54 #[.agg #[.int .u8 3, .int .u8 1, .int .u8 0, p, s0, .string ⟨(x :: r).toArray⟩]] w1 fun e w' => ∃ (x : Nat) (y : Bool), e = .returned (.tuple #[.float .f64 x, .bool y]) ∧ w1.grownBy w' none)
    (hF56 : ∀ p s0 w1, w.grownBy w1 none → Calls Tryz.prog 56 #[.agg #[.int .u8 3, .int .u8 1, .int .u8 0, p, s0, .string ⟨(x :: r).toArray⟩]] w1 fun e w' => ∃ (x : Nat) (y : Bool), e = .returned (.tuple #[.float .f32 x, .bool y]) ∧ w1.grownBy w' none)
    (p s0 : Value) : Calls Tryz.prog 30 #[.agg #[.int .u8 3, .int .u8 1, .int .u8 0, p, s0, .string ⟨(x :: r).toArray⟩]] w (ValEnds w (NumVals (v : Int))) := by
  have hsz : (⟨(x :: r).toArray⟩ : ByteArray).size ≤ 281474976710656 := by rw [size_list]; omega
  have hu64 : ∀ w1, w.grownBy w1 none → _ := fun w1 hg => parseUint_of _ 64 v 18446744073709551615 hsz (hE.kept hg) (h64 w1)
  have hu32 : ∀ w1, w.grownBy w1 none → _ := fun w1 hg => parseUint_of _ 32 v 4294967295 hsz (hE.kept hg) (h32 w1)
  have hi64 : ∀ w1, w.grownBy w1 none → _ := fun w1 hg => parseInt_of _ 64 (v : Int) 9223372036854775808 hsz (hE.kept hg) (piPos64 x r v hx (h64 w1))
  have hi32 : ∀ w1, w.grownBy w1 none → _ := fun w1 hg => parseInt_of _ 32 (v : Int) 2147483648 hsz (hE.kept hg) (piPos32 x r v hx (h32 w1))
  refine (values_of _ _ _ p s0 _ (OkIs (-9223372036854775808) 9223372036854775807 v) (OkIs (-2147483648) 2147483647 v) (OkIs 0 18446744073709551615 v) (OkIs 0 4294967295 v) (fun _ _ => True) (fun _ _ => True) ?_ ?_ ?_ ?_ ?_ (hF54 p s0) (hF56 p s0) ?_ ?_).mono ?_
  · intro w1 hg
    refine (tokBool_0 p s0 _ (fun w2 hg2 => (hu64 w2 (gr_trans hg hg2)).mono ?_)).mono ?_
    · rintro e w' ⟨⟨h1, -⟩, h2⟩
      exact ⟨⟨_, _, h1 hv, .inl rfl⟩, h2⟩
    · rintro e w' ⟨a, ok, h1, h2⟩
      exact ⟨a, ok, h1, h2⟩
  · intro w1 hg
    refine (tokInt64_0 p s0 _ (v : Int) (fun w2 hg2 => hi64 w2 (gr_trans hg hg2))).mono ?_
    rintro e w' ⟨a, ok, h1, h2, h3, h4⟩
    exact ⟨a, ok, h1, ⟨fun h => h2 ⟨h.1, by omega⟩, fun h => h3 (fun k => h ⟨k.1, by omega⟩)⟩, h4⟩
  · intro w1 hg
    refine (tokInt32_0 p s0 _ (v : Int) (fun w2 hg2 => hi32 w2 (gr_trans hg hg2))).mono ?_
    rintro e w' ⟨a, ok, h1, h2, h3, h4⟩
    exact ⟨a, ok, h1, ⟨fun h => h2 ⟨h.1, by omega⟩, fun h => h3 (fun k => h ⟨k.1, by omega⟩)⟩, h4⟩
  · intro w1 hg
    refine (tokUint64_0 p s0 _ v (fun w2 hg2 => hu64 w2 (gr_trans hg hg2))).mono ?_
    rintro e w' ⟨a, ok, h1, h2, h3, h4⟩
    exact ⟨a, ok, h1, ⟨fun h => h2 (by omega), fun h => h3 (fun k => h (by omega))⟩, h4⟩
  · intro w1 hg
    refine (tokUint32_0 p s0 _ v (fun w2 hg2 => hu32 w2 (gr_trans hg hg2))).mono ?_
    rintro e w' ⟨a, ok, h1, h2, h3, h4⟩
    exact ⟨a, ok, h1, ⟨fun h => h2 (by omega), fun h => h3 (fun k => h (by omega))⟩, h4⟩
  · intro w1 hg
    refine (tokEnum_0 p s0 _).mono ?_
    rintro e w' ⟨a, h1, h2⟩
    exact ⟨a, _, h1, trivial, h2⟩
  · intro w1 hg
    refine (tokString_0 p s0 _).mono ?_
    rintro e w' ⟨a, h1, h2⟩
    exact ⟨a, _, h1, trivial, h2⟩
  · rintro e w' ⟨⟨x49, y49, x50, y50, x51, y51, x52, y52, x53, y53, x54, y54, x56, y56, x57, y57, x58, y58, he, h50, h51, h52, h53, -, -⟩, hg⟩
    exact ⟨⟨_, he, x49, y49, x50, y50, x51, y51, x52, y52, x53, y53, x54, y54, x56, y56, x57, y57, x58, y58, rfl, h50, h51, h52, h53⟩, hg⟩

theorem numVals_1 {w : World} (x : UInt8) (r : List UInt8) (v : Nat) (hx : x.toNat ≠ 43 ∧ x.toNat ≠ 45) (hl : (x :: r).length ≤ 4096) (hE : ErrVar 1 w) (hv : v ≤ 18446744073709551615)
    (h64 : ∀ w1, Calls Tryz.prog 137 #[.string ⟨(x :: r).toArray⟩, .int .i64 0, .int .i64 64] w1 (PuEnds w1 v 18446744073709551615))
    (h32 : ∀ w1, Calls Tryz.prog 137 #[.string ⟨(x :: r).toArray⟩, .int .i64 0, .int .i64 32] w1 (PuEnds w1 v 4294967295))
    (hF54 : ∀ p s0 w1, w.grownBy w1 none → Calls Tryz.prog 54 #[.agg #[.int .u8 3, .int .u8 1, .int .u8 1, p, s0, .string ⟨(x :: r).toArray⟩]] w1 fun e w' => ∃ (x : Nat) (y : Bool), e = .returned (.tuple #[.float .f64 x, .bool y]) ∧ w1.grownBy w' none)
    (hF56 : ∀ p s0 w1, w.grownBy w1 none → Calls Tryz.prog 56 #[.agg #[.int .u8 3, .int .u8 1, .int .u8 1, p, s0, .string ⟨(x :: r).toArray⟩]] w1 fun e w' => ∃ (x : Nat) (y : Bool), e = .returned (.tuple #[.float .f32 x, .bool y]) ∧ w1.grownBy w' none)
    (p s0 : Value) : Calls Tryz.prog 30 #[.agg #[.int .u8 3, .int .u8 1, .int .u8 1, p, s0, .string ⟨(x :: r).toArray⟩]] w (ValEnds w (NumVals (v : Int))) := by
  have hsz : (⟨(x :: r).toArray⟩ : ByteArray).size ≤ 281474976710656 := by rw [size_list]; omega
  have hu64 : ∀ w1, w.grownBy w1 none → _ := fun w1 hg => parseUint_of _ 64 v 18446744073709551615 hsz (hE.kept hg) (h64 w1)
  have hu32 : ∀ w1, w.grownBy w1 none → _ := fun w1 hg => parseUint_of _ 32 v 4294967295 hsz (hE.kept hg) (h32 w1)
  have hi64 : ∀ w1, w.grownBy w1 none → _ := fun w1 hg => parseInt_of _ 64 (v : Int) 9223372036854775808 hsz (hE.kept hg) (piPos64 x r v hx (h64 w1))
  have hi32 : ∀ w1, w.grownBy w1 none → _ := fun w1 hg => parseInt_of _ 32 (v : Int) 2147483648 hsz (hE.kept hg) (piPos32 x r v hx (h32 w1))
  refine (values_of _ _ _ p s0 _ (OkIs (-9223372036854775808) 9223372036854775807 v) (OkIs (-2147483648) 2147483647 v) (OkIs 0 18446744073709551615 v) (OkIs 0 4294967295 v) (fun _ _ => True) (fun _ _ => True) ?_ ?_ ?_ ?_ ?_ (hF54 p s0) (hF56 p s0) ?_ ?_).mono ?_
  · intro w1 hg
    refine (tokBool_1 p s0 _ (fun w2 hg2 => (hu64 w2 (gr_trans hg hg2)).mono ?_)).mono ?_
    · rintro e w' ⟨⟨h1, -⟩, h2⟩
      exact ⟨⟨_, _, h1 hv, .inl rfl⟩, h2⟩
    · rintro e w' ⟨a, ok, h1, h2⟩
      exact ⟨a, ok, h1, h2⟩
  · intro w1 hg
    refine (tokInt64_1 p s0 _ (v : Int) (fun w2 hg2 => hi64 w2 (gr_trans hg hg2))).mono ?_
    rintro e w' ⟨a, ok, h1, h2, h3, h4⟩
    exact ⟨a, ok, h1, ⟨fun h => h2 ⟨h.1, by omega⟩, fun h => h3 (fun k => h ⟨k.1, by omega⟩)⟩, h4⟩
  · intro w1 hg
    refine (tokInt32_1 p s0 _ (v : Int) (fun w2 hg2 => hi32 w2 (gr_trans hg hg2))).mono ?_
    rintro e w' ⟨a, ok, h1, h2, h3, h4⟩
    exact ⟨a, ok, h1, ⟨fun h => h2 ⟨h.1, by omega⟩, fun h => h3 (fun k => h ⟨k.1, by omega⟩)⟩, h4⟩
  · intro w1 hg
    refine (tokUint64_1 p s0 _ v (fun w2 hg2 => hu64 w2 (gr_trans hg hg2))).mono ?_
    rintro e w' ⟨a, ok, h1, h2, h3, h4⟩
    exact ⟨a, ok, h1, ⟨fun h => h2 (by omega), fun h => h3 (fun k => h (by omega))⟩, h4⟩
  · intro w1 hg
    refine (tokUint32_1 p s0 _ v (fun w2 hg2 => hu32 w2 (gr_trans hg hg2))).mono ?_
    rintro e w' ⟨a, ok, h1, h2, h3, h4⟩
    exact ⟨a, ok, h1, ⟨fun h => h2 (by omega), fun h => h3 (fun k => h (by omega))⟩, h4⟩
  · intro w1 hg
    refine (tokEnum_1 p s0 _).mono ?_
    rintro e w' ⟨a, h1, h2⟩
    exact ⟨a, _, h1, trivial, h2⟩
  · intro w1 hg
    refine (tokString_1 p s0 _).mono ?_
    rintro e w' ⟨a, h1, h2⟩
    exact ⟨a, _, h1, trivial, h2⟩
  · rintro e w' ⟨⟨x49, y49, x50, y50, x51, y51, x52, y52, x53, y53, x54, y54, x56, y56, x57, y57, x58, y58, he, h50, h51, h52, h53, -, -⟩, hg⟩
    exact ⟨⟨_, he, x49, y49, x50, y50, x51, y51, x52, y52, x53, y53, x54, y54, x56, y56, x57, y57, x58, y58, rfl, h50, h51, h52, h53⟩, hg⟩

theorem numVals_2 {w : World} (x : UInt8) (r : List UInt8) (v : Nat) (hx : x.toNat ≠ 43 ∧ x.toNat ≠ 45) (hl : (x :: r).length ≤ 4096) (hE : ErrVar 1 w) (hv : v ≤ 18446744073709551615)
    (h64 : ∀ w1, Calls Tryz.prog 137 #[.string ⟨(x :: r).toArray⟩, .int .i64 0, .int .i64 64] w1 (PuEnds w1 v 18446744073709551615))
    (h32 : ∀ w1, Calls Tryz.prog 137 #[.string ⟨(x :: r).toArray⟩, .int .i64 0, .int .i64 32] w1 (PuEnds w1 v 4294967295))
    (hF54 : ∀ p s0 w1, w.grownBy w1 none → Calls Tryz.prog 54 #[.agg #[.int .u8 3, .int .u8 1, .int .u8 2, p, s0, .string ⟨(x :: r).toArray⟩]] w1 fun e w' => ∃ (x : Nat) (y : Bool), e = .returned (.tuple #[.float .f64 x, .bool y]) ∧ w1.grownBy w' none)
    (hF56 : ∀ p s0 w1, w.grownBy w1 none → Calls Tryz.prog 56 #[.agg #[.int .u8 3, .int .u8 1, .int .u8 2, p, s0, .string ⟨(x :: r).toArray⟩]] w1 fun e w' => ∃ (x : Nat) (y : Bool), e = .returned (.tuple #[.float .f32 x, .bool y]) ∧ w1.grownBy w' none)
    (p s0 : Value) : Calls Tryz.prog 30 #[.agg #[.int .u8 3, .int .u8 1, .int .u8 2, p, s0, .string ⟨(x :: r).toArray⟩]] w (ValEnds w (NumVals (v : Int))) := by
  have hsz : (⟨(x :: r).toArray⟩ : ByteArray).size ≤ 281474976710656 := by rw [size_list]; omega
  have hu64 : ∀ w1, w.grownBy w1 none → _ := fun w1 hg => parseUint_of _ 64 v 18446744073709551615 hsz (hE.kept hg) (h64 w1)
  have hu32 : ∀ w1, w.grownBy w1 none → _ := fun w1 hg => parseUint_of _ 32 v 4294967295 hsz (hE.kept hg) (h32 w1)
  have hi64 : ∀ w1, w.grownBy w1 none → _ := fun w1 hg => parseInt_of _ 64 (v : Int) 9223372036854775808 hsz (hE.kept hg) (piPos64 x r v hx (h64 w1))
  have hi32 : ∀ w1, w.grownBy w1 none → _ := fun w1 hg => parseInt_of _ 32 (v : Int) 2147483648 hsz (hE.kept hg) (piPos32 x r v hx (h32 w1))
  refine (values_of _ _ _ p s0 _ (OkIs (-9223372036854775808) 9223372036854775807 v) (OkIs (-2147483648) 2147483647 v) (OkIs 0 18446744073709551615 v) (OkIs 0 4294967295 v) (fun _ _ => True) (fun _ _ => True) ?_ ?_ ?_ ?_ ?_ (hF54 p s0) (hF56 p s0) ?_ ?_).mono ?_
  · intro w1 hg
    refine (tokBool_2 p s0 _ (fun w2 hg2 => (hu64 w2 (gr_trans hg hg2)).mono ?_)).mono ?_
    · rintro e w' ⟨⟨h1, -⟩, h2⟩
      exact ⟨⟨_, _, h1 hv, .inl rfl⟩, h2⟩
    · rintro e w' ⟨a, ok, h1, h2⟩
      exact ⟨a, ok, h1, h2⟩
  · intro w1 hg
    refine (tokInt64_2 p s0 _ (v : Int) (fun w2 hg2 => hi64 w2 (gr_trans hg hg2))).mono ?_
    rintro e w' ⟨a, ok, h1, h2, h3, h4⟩
    exact ⟨a, ok, h1, ⟨fun h => h2 ⟨h.1, by omega⟩, fun h => h3 (fun k => h ⟨k.1, by omega⟩)⟩, h4⟩
  · intro w1 hg
    refine (tokInt32_2 p s0 _ (v : Int) (fun w2 hg2 => hi32 w2 (gr_trans hg hg2))).mono ?_
    rintro e w' ⟨a, ok, h1, h2, h3, h4⟩
    exact ⟨a, ok, h1, ⟨fun h => h2 ⟨h.1, by omega⟩, fun h => h3 (fun k => h ⟨k.1, by omega⟩)⟩, h4⟩
  · intro w1 hg
    refine (tokUint64_2 p s0 _ v (fun w2 hg2 => hu64 w2 (gr_trans hg hg2))).mono ?_
    rintro e w' ⟨a, ok, h1, h2, h3, h4⟩
    exact ⟨a, ok, h1, ⟨fun h => h2 (by omega), fun h => h3 (fun k => h (by omega))⟩, h4⟩
  · intro w1 hg
    refine (tokUint32_2 p s0 _ v (fun w2 hg2 => hu32 w2 (gr_trans hg hg2))).mono ?_
    rintro e w' ⟨a, ok, h1, h2, h3, h4⟩
    exact ⟨a, ok, h1, ⟨fun h => h2 (by omega), fun h => h3 (fun k => h (by omega))⟩, h4⟩
  · intro w1 hg
    refine (tokEnum_2 p s0 _).mono ?_
    rintro e w' ⟨a, h1, h2⟩
    exact ⟨a, _, h1, trivial, h2⟩
  · intro w1 hg
    refine (tokString_2 p s0 _).mono ?_
    rintro e w' ⟨a, h1, h2⟩
    exact ⟨a, _, h1, trivial, h2⟩
  · rintro e w' ⟨⟨x49, y49, x50, y50, x51, y51, x52, y52, x53, y53, x54, y54, x56, y56, x57, y57, x58, y58, he, h50, h51, h52, h53, -, -⟩, hg⟩
    exact ⟨⟨_, he, x49, y49, x50, y50, x51, y51, x52, y52, x53, y53, x54, y54, x56, y56, x57, y57, x58, y58, rfl, h50, h51, h52, h53⟩, hg⟩

theorem numVals_128 {w : World} (x : UInt8) (r : List UInt8) (v : Nat) (hl : (45 :: x :: r).length ≤ 4096) (hE : ErrVar 1 w) (hE7 : ErrVar 7 w) (hv : 1 ≤ v)
    (h64 : ∀ w1, Calls Tryz.prog 137 #[.string ⟨(x :: r).toArray⟩, .int .i64 0, .int .i64 64] w1 (PuEnds w1 v 18446744073709551615))
    (h32 : ∀ w1, Calls Tryz.prog 137 #[.string ⟨(x :: r).toArray⟩, .int .i64 0, .int .i64 32] w1 (PuEnds w1 v 4294967295))
    (hF54 : ∀ p s0 w1, w.grownBy w1 none → Calls Tryz.prog 54 #[.agg #[.int .u8 3, .int .u8 1, .int .u8 128, p, s0, .string ⟨(45 :: x :: r).toArray⟩]] w1 fun e w' => ∃ (x : Nat) (y : Bool), e = .returned (.tuple #[.float .f64 x, .bool y]) ∧ w1.grownBy w' none)
    (hF56 : ∀ p s0 w1, w.grownBy w1 none → Calls Tryz.prog 56 #[.agg #[.int .u8 3, .int .u8 1, .int .u8 128, p, s0, .string ⟨(45 :: x :: r).toArray⟩]] w1 fun e w' => ∃ (x : Nat) (y : Bool), e = .returned (.tuple #[.float .f32 x, .bool y]) ∧ w1.grownBy w' none)
    (p s0 : Value) : Calls Tryz.prog 30 #[.agg #[.int .u8 3, .int .u8 1, .int .u8 128, p, s0, .string ⟨(45 :: x :: r).toArray⟩]] w (ValEnds w (NumVals (-(v : Int)))) := by
  have hsz : (⟨(45 :: x :: r).toArray⟩ : ByteArray).size ≤ 281474976710656 := by rw [size_list]; omega
  have hu64 : ∀ w1, w.grownBy w1 none → _ := fun w1 hg => parseUint_syn _ 64 hsz (hE7.kept hg) (puMinus (w := w1) (x :: r) hl)
  have hi64 : ∀ w1, w.grownBy w1 none → _ := fun w1 hg => parseInt_of _ 64 (-(v : Int)) 9223372036854775808 hsz (hE.kept hg) (piNeg64 x r v (h64 w1))
  have hi32 : ∀ w1, w.grownBy w1 none → _ := fun w1 hg => parseInt_of _ 32 (-(v : Int)) 2147483648 hsz (hE.kept hg) (piNeg32 x r v (h32 w1))
  refine (values_of _ _ _ p s0 _ (OkIs (-9223372036854775808) 9223372036854775807 (-(v : Int))) (OkIs (-2147483648) 2147483647 (-(v : Int))) (OkIs 0 18446744073709551615 (-(v : Int))) (OkIs 0 4294967295 (-(v : Int))) (fun _ _ => True) (fun _ _ => True) ?_ ?_ ?_ ?_ ?_ (hF54 p s0) (hF56 p s0) ?_ ?_).mono ?_
  · intro w1 hg
    refine (tokBool_128 p s0 _ (fun w2 hg2 => (hu64 w2 (gr_trans hg hg2)).mono ?_)).mono ?_
    · rintro e w' ⟨⟨q, h1⟩, h2⟩
      exact ⟨⟨_, _, h1, .inr ⟨_, rfl⟩⟩, h2⟩
    · rintro e w' ⟨a, ok, h1, h2⟩
      exact ⟨a, ok, h1, h2⟩
  · intro w1 hg
    refine (tokInt64_128 p s0 _ (-(v : Int)) (fun w2 hg2 => hi64 w2 (gr_trans hg hg2))).mono ?_
    rintro e w' ⟨a, ok, h1, h2, h3, h4⟩
    exact ⟨a, ok, h1, ⟨fun h => h2 ⟨h.1, by omega⟩, fun h => h3 (fun k => h ⟨k.1, by omega⟩)⟩, h4⟩
  · intro w1 hg
    refine (tokInt32_128 p s0 _ (-(v : Int)) (fun w2 hg2 => hi32 w2 (gr_trans hg hg2))).mono ?_
    rintro e w' ⟨a, ok, h1, h2, h3, h4⟩
    exact ⟨a, ok, h1, ⟨fun h => h2 ⟨h.1, by omega⟩, fun h => h3 (fun k => h ⟨k.1, by omega⟩)⟩, h4⟩
  · intro w1 hg
    refine (tokUint64_128 p s0 _).mono ?_
    rintro e w' ⟨a, h1, h2⟩
    exact ⟨a, _, h1, ⟨fun h => by omega, fun _ => rfl⟩, h2⟩
  · intro w1 hg
    refine (tokUint32_128 p s0 _).mono ?_
    rintro e w' ⟨a, h1, h2⟩
    exact ⟨a, _, h1, ⟨fun h => by omega, fun _ => rfl⟩, h2⟩
  · intro w1 hg
    refine (tokEnum_128 p s0 _).mono ?_
    rintro e w' ⟨a, h1, h2⟩
    exact ⟨a, _, h1, trivial, h2⟩
  · intro w1 hg
    refine (tokString_128 p s0 _).mono ?_
    rintro e w' ⟨a, h1, h2⟩
    exact ⟨a, _, h1, trivial, h2⟩
  · rintro e w' ⟨⟨x49, y49, x50, y50, x51, y51, x52, y52, x53, y53, x54, y54, x56, y56, x57, y57, x58, y58, he, h50, h51, h52, h53, -, -⟩, hg⟩
    exact ⟨⟨_, he, x49, y49, x50, y50, x51, y51, x52, y52, x53, y53, x54, y54, x56, y56, x57, y57, x58, y58, rfl, h50, h51, h52, h53⟩, hg⟩
end Go.Proofs.YtlfeolfjlmelpaaGreatDoor
