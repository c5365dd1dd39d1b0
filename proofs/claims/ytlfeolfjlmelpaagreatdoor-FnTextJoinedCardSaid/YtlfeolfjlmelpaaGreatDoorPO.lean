/- PN, PO in one text. -/
import Derived.Test.YtlfeolfjlmelpaaGreatDoorPB
namespace Go.Proofs.YtlfeolfjlmelpaaGreatDoor
open Go.RowKit

set_option maxHeartbeats 1000000 in
set_option maxRecDepth 1000000 in
theorem sTok49 {w : World} (p s0 : Value) (s : ByteArray) :
    Calls Tryz.prog 49 #[(.agg #[.int .u8 3, .int .u8 2, .int .u8 0, p, s0, .string s])] w fun e w' => e = .returned (.tuple #[.bool false, .bool false]) ∧ w.grownBy w' none := by
  have hg := gr_alloc (gr_refl w none) (.cells #[.int .u8 3, .int .u8 2, .int .u8 0, p, s0, .string s] 72 (0, 0))
  have hb := blk_new w (.cells #[.int .u8 3, .int .u8 2, .int .u8 0, p, s0, .string s] 72 (0, 0))
  have hk0 := blk_cell hb 0
  have hk1 := blk_cell hb 1
  have hk2 := blk_cell hb 2
  have hk5 := blk_cell hb 5
  have HG := Lib.hid hg
  clear hg hb
  go_enter Tryz.func49, Tryz.ntmps49
  go_wp2
  go_ret2
  exact ⟨rfl, HG.out⟩

set_option maxHeartbeats 1000000 in
set_option maxRecDepth 1000000 in
theorem sTok50 {w : World} (p s0 : Value) (s : ByteArray) :
    Calls Tryz.prog 50 #[(.agg #[.int .u8 3, .int .u8 2, .int .u8 0, p, s0, .string s])] w fun e w' => e = .returned (.tuple #[.int .i64 0, .bool false]) ∧ w.grownBy w' none := by
  have hg := gr_alloc (gr_refl w none) (.cells #[.int .u8 3, .int .u8 2, .int .u8 0, p, s0, .string s] 72 (0, 0))
  have hb := blk_new w (.cells #[.int .u8 3, .int .u8 2, .int .u8 0, p, s0, .string s] 72 (0, 0))
  have hk0 := blk_cell hb 0
  have hk1 := blk_cell hb 1
  have hk2 := blk_cell hb 2
  have hk5 := blk_cell hb 5
  have HG := Lib.hid hg
  clear hg hb
  go_enter Tryz.func50, Tryz.ntmps50
  go_wp2
  go_ret2
  exact ⟨rfl, HG.out⟩

set_option maxHeartbeats 1000000 in
set_option maxRecDepth 1000000 in
theorem sTok51 {w : World} (p s0 : Value) (s : ByteArray) :
    Calls Tryz.prog 51 #[(.agg #[.int .u8 3, .int .u8 2, .int .u8 0, p, s0, .string s])] w fun e w' => e = .returned (.tuple #[.int .i32 0, .bool false]) ∧ w.grownBy w' none := by
  have hg := gr_alloc (gr_refl w none) (.cells #[.int .u8 3, .int .u8 2, .int .u8 0, p, s0, .string s] 72 (0, 0))
  have hb := blk_new w (.cells #[.int .u8 3, .int .u8 2, .int .u8 0, p, s0, .string s] 72 (0, 0))
  have hk0 := blk_cell hb 0
  have hk1 := blk_cell hb 1
  have hk2 := blk_cell hb 2
  have hk5 := blk_cell hb 5
  have HG := Lib.hid hg
  clear hg hb
  go_enter Tryz.func51, Tryz.ntmps51
  go_wp2
  go_ret2
  exact ⟨rfl, HG.out⟩

set_option maxHeartbeats 1000000 in
set_option maxRecDepth 1000000 in
theorem sTok52 {w : World} (p s0 : Value) (s : ByteArray) :
    Calls Tryz.prog 52 #[(.agg #[.int .u8 3, .int .u8 2, .int .u8 0, p, s0, .string s])] w fun e w' => e = .returned (.tuple #[.int .u64 0, .bool false]) ∧ w.grownBy w' none := by
  have hg := gr_alloc (gr_refl w none) (.cells #[.int .u8 3, .int .u8 2, .int .u8 0, p, s0, .string s] 72 (0, 0))
  have hb := blk_new w (.cells #[.int .u8 3, .int .u8 2, .int .u8 0, p, s0, .string s] 72 (0, 0))
  have hk0 := blk_cell hb 0
  have hk1 := blk_cell hb 1
  have hk2 := blk_cell hb 2
  have hk5 := blk_cell hb 5
  have HG := Lib.hid hg
  clear hg hb
  go_enter Tryz.func52, Tryz.ntmps52
  go_wp2
  go_ret2
  exact ⟨rfl, HG.out⟩

set_option maxHeartbeats 1000000 in
set_option maxRecDepth 1000000 in
theorem sTok53 {w : World} (p s0 : Value) (s : ByteArray) :
    Calls Tryz.prog 53 #[(.agg #[.int .u8 3, .int .u8 2, .int .u8 0, p, s0, .string s])] w fun e w' => e = .returned (.tuple #[.int .u32 0, .bool false]) ∧ w.grownBy w' none := by
  have hg := gr_alloc (gr_refl w none) (.cells #[.int .u8 3, .int .u8 2, .int .u8 0, p, s0, .string s] 72 (0, 0))
  have hb := blk_new w (.cells #[.int .u8 3, .int .u8 2, .int .u8 0, p, s0, .string s] 72 (0, 0))
  have hk0 := blk_cell hb 0
  have hk1 := blk_cell hb 1
  have hk2 := blk_cell hb 2
  have hk5 := blk_cell hb 5
  have HG := Lib.hid hg
  clear hg hb
  go_enter Tryz.func53, Tryz.ntmps53
  go_wp2
  go_ret2
  exact ⟨rfl, HG.out⟩

set_option maxHeartbeats 1000000 in
set_option maxRecDepth 1000000 in
theorem sTok54 {w : World} (p s0 : Value) (s : ByteArray) :
    Calls Tryz.prog 54 #[(.agg #[.int .u8 3, .int .u8 2, .int .u8 0, p, s0, .string s])] w fun e w' => e = .returned (.tuple #[.float .f64 0, .bool false]) ∧ w.grownBy w' none := by
  have hg := gr_alloc (gr_refl w none) (.cells #[.int .u8 3, .int .u8 2, .int .u8 0, p, s0, .string s] 72 (0, 0))
  have hb := blk_new w (.cells #[.int .u8 3, .int .u8 2, .int .u8 0, p, s0, .string s] 72 (0, 0))
  have hk0 := blk_cell hb 0
  have hk1 := blk_cell hb 1
  have hk2 := blk_cell hb 2
  have hk5 := blk_cell hb 5
  have HG := Lib.hid hg
  clear hg hb
  go_enter Tryz.func54, Tryz.ntmps54
  go_wp2
  go_ret2
  exact ⟨rfl, HG.out⟩

set_option maxHeartbeats 1000000 in
set_option maxRecDepth 1000000 in
theorem sTok56 {w : World} (p s0 : Value) (s : ByteArray) :
    Calls Tryz.prog 56 #[(.agg #[.int .u8 3, .int .u8 2, .int .u8 0, p, s0, .string s])] w fun e w' => e = .returned (.tuple #[.float .f32 0, .bool false]) ∧ w.grownBy w' none := by
  have hg := gr_alloc (gr_refl w none) (.cells #[.int .u8 3, .int .u8 2, .int .u8 0, p, s0, .string s] 72 (0, 0))
  have hb := blk_new w (.cells #[.int .u8 3, .int .u8 2, .int .u8 0, p, s0, .string s] 72 (0, 0))
  have hk0 := blk_cell hb 0
  have hk1 := blk_cell hb 1
  have hk2 := blk_cell hb 2
  have hk5 := blk_cell hb 5
  have HG := Lib.hid hg
  clear hg hb
  go_enter Tryz.func56, Tryz.ntmps56
  go_wp2
  go_ret2
  exact ⟨rfl, HG.out⟩

set_option maxHeartbeats 1000000 in
set_option maxRecDepth 1000000 in
theorem sTok57 {w : World} (p s0 : Value) (s : ByteArray) :
    Calls Tryz.prog 57 #[(.agg #[.int .u8 3, .int .u8 2, .int .u8 0, p, s0, .string s])] w fun e w' => e = .returned (.tuple #[.string ⟨#[]⟩, .bool false]) ∧ w.grownBy w' none := by
  have hg := gr_alloc (gr_refl w none) (.cells #[.int .u8 3, .int .u8 2, .int .u8 0, p, s0, .string s] 72 (0, 0))
  have hb := blk_new w (.cells #[.int .u8 3, .int .u8 2, .int .u8 0, p, s0, .string s] 72 (0, 0))
  have hk0 := blk_cell hb 0
  have hk1 := blk_cell hb 1
  have hk2 := blk_cell hb 2
  have hk5 := blk_cell hb 5
  have HG := Lib.hid hg
  clear hg hb
  go_enter Tryz.func57, Tryz.ntmps57
  go_wp2
  go_ret2
  exact ⟨rfl, HG.out⟩

set_option maxHeartbeats 1000000 in
set_option maxRecDepth 1000000 in
theorem sTok58 {w : World} (p s0 : Value) (s : ByteArray) :
    Calls Tryz.prog 58 #[(.agg #[.int .u8 3, .int .u8 2, .int .u8 0, p, s0, .string s])] w fun e w' => e = .returned (.tuple #[.string s, .bool true]) ∧ w.grownBy w' none := by
  have hg := gr_alloc (gr_refl w none) (.cells #[.int .u8 3, .int .u8 2, .int .u8 0, p, s0, .string s] 72 (0, 0))
  have hb := blk_new w (.cells #[.int .u8 3, .int .u8 2, .int .u8 0, p, s0, .string s] 72 (0, 0))
  have hk0 := blk_cell hb 0
  have hk1 := blk_cell hb 1
  have hk2 := blk_cell hb 2
  have hk5 := blk_cell hb 5
  have HG := Lib.hid hg
  clear hg hb
  go_enter Tryz.func58, Tryz.ntmps58
  go_wp2
  go_ret2
  exact ⟨rfl, HG.out⟩
end Go.Proofs.YtlfeolfjlmelpaaGreatDoor
namespace Go.Proofs.YtlfeolfjlmelpaaGreatDoor
open Go.RowKit

/-- The eighteen cells of a string. -/
def StrVals (s : ByteArray) (vs : List Value) : Prop :=
  ∃ (x49 y49 : Bool) (x50 : Int) (y50 : Bool) (x51 : Int) (y51 : Bool) (x52 : Int) (y52 : Bool) (x53 : Int) (y53 : Bool) (x54 : Int) (y54 : Bool) (x56 : Int) (y56 : Bool) (x57 : ByteArray) (y57 : Bool),
    vs = [.bool x49, .bool y49, .int .i64 x50, .bool y50, .int .i32 x51, .bool y51, .int .u64 x52, .bool y52, .int .u32 x53, .bool y53, .int .u64 x54, .bool y54, .int .u64 x56, .bool y56, .string x57, .bool y57, .string s, .bool true]
theorem StrVals.shape (s : ByteArray) (vs : List Value) (h : StrVals s vs) : vs.length = 18 ∧ ∀ v ∈ vs, v.oneCell' = true := by
  obtain ⟨x49, y49, x50, y50, x51, y51, x52, y52, x53, y53, x54, y54, x56, y56, x57, y57, rfl⟩ := h
  refine ⟨rfl, fun v hv => ?_⟩
  simp only [List.mem_cons, List.mem_nil_iff, or_false] at hv
  rcases hv with rfl | rfl | rfl | rfl | rfl | rfl | rfl | rfl | rfl | rfl | rfl | rfl | rfl | rfl | rfl | rfl | rfl | rfl <;> rfl
theorem strVals {w : World} (s : ByteArray) (p s0 : Value) : Calls Tryz.prog 30 #[.agg #[.int .u8 3, .int .u8 2, .int .u8 0, p, s0, .string s]] w (ValEnds w (StrVals s)) := by
  refine (values_of _ _ _ p s0 _ (fun _ _ => True) (fun _ _ => True) (fun _ _ => True) (fun _ _ => True) (fun _ _ => True) (fun x y => x = s ∧ y = true) ?_ ?_ ?_ ?_ ?_ ?_ ?_ ?_ ?_).mono ?_
  · intro w1 hg
    exact (sTok49 p s0 s).mono fun e w' ⟨h1, h2⟩ => ⟨_, _, h1, h2⟩
  · intro w1 hg
    exact (sTok50 p s0 s).mono fun e w' ⟨h1, h2⟩ => ⟨_, _, h1, trivial, h2⟩
  · intro w1 hg
    exact (sTok51 p s0 s).mono fun e w' ⟨h1, h2⟩ => ⟨_, _, h1, trivial, h2⟩
  · intro w1 hg
    exact (sTok52 p s0 s).mono fun e w' ⟨h1, h2⟩ => ⟨_, _, h1, trivial, h2⟩
  · intro w1 hg
    exact (sTok53 p s0 s).mono fun e w' ⟨h1, h2⟩ => ⟨_, _, h1, trivial, h2⟩
  · intro w1 hg
    exact (sTok54 p s0 s).mono fun e w' ⟨h1, h2⟩ => ⟨_, _, h1, h2⟩
  · intro w1 hg
    exact (sTok56 p s0 s).mono fun e w' ⟨h1, h2⟩ => ⟨_, _, h1, h2⟩
  · intro w1 hg
    exact (sTok57 p s0 s).mono fun e w' ⟨h1, h2⟩ => ⟨_, _, h1, trivial, h2⟩
  · intro w1 hg
    exact (sTok58 p s0 s).mono fun e w' ⟨h1, h2⟩ => ⟨_, _, h1, ⟨rfl, rfl⟩, h2⟩
  · rintro e w' ⟨⟨x49, y49, x50, y50, x51, y51, x52, y52, x53, y53, x54, y54, x56, y56, x57, y57, x58, y58, he, -, -, -, -, -, rfl, rfl⟩, hg⟩
    exact ⟨⟨_, he, x49, y49, x50, y50, x51, y51, x52, y52, x53, y53, x54, y54, x56, y56, x57, y57, rfl⟩, hg⟩
end Go.Proofs.YtlfeolfjlmelpaaGreatDoor
