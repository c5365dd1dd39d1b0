/- Small functions that TextScalar calls. -/
import Derived.Test.YtlfeolfjlmelpaaGreatDoorKZ
import Derived.Test.YtlfeolfjlmelpaaGreatDoorKI
namespace Go.Proofs.YtlfeolfjlmelpaaGreatDoor
open Go.RowKit

set_option maxHeartbeats 1000000 in
set_option maxRecDepth 1000000 in
theorem tokKind {w : World} (k a n p s0 s : Value) :
    Calls Tryz.prog 29 #[.agg #[k, a, n, p, s0, s]] w fun e w' => e = .returned k ∧ w.grownBy w' none := by
  have hg := gr_alloc (gr_refl w none) (.cells #[k, a, n, p, s0, s] 72 (0, 0))
  have hb := blk_new w (.cells #[k, a, n, p, s0, s] 72 (0, 0))
  have hk0 := blk_cell hb 0
  have HG := Lib.hid hg
  clear hg hb
  go_enter Tryz.func29, Tryz.ntmps29
  go_wp2
  go_ret
  exact ⟨rfl, HG.out⟩

set_option maxHeartbeats 1000000 in
set_option maxRecDepth 1000000 in
theorem tokRaw {w : World} (k a n p s : Value) {A : Option Addr} {c : Nat} {xs : List UInt8} (h : IsB w A c xs) :
    Calls Tryz.prog 31 #[.agg #[k, a, n, p, .slice A xs.length c, s]] w fun e w' => e = .returned (.string ⟨xs.toArray⟩) ∧ w.grownBy w' none := by
  have hg := gr_alloc (gr_refl w none) (.cells #[k, a, n, p, .slice A xs.length c, s] 72 (0, 0))
  have hb := blk_new w (.cells #[k, a, n, p, .slice A xs.length c, s] 72 (0, 0))
  have hk4 := blk_cell hb 4
  have hs := (h.kept0 hg).str
  have HG := Lib.hid hg
  clear hg hb h
  go_enter Tryz.func31, Tryz.ntmps31
  go_wp2
  go_ret
  exact ⟨rfl, HG.out⟩

set_option maxHeartbeats 1000000 in
set_option maxRecDepth 1000000 in
theorem newDecoder {w : World} (A : Option Addr) (n c : Nat) :
    Calls Tryz.prog 27 #[.slice A n c] w fun e w' => e = .returned (.pointer (some ⟨w.heap.size, 0, none⟩)) ∧ HasDec w' w.heap.size (.int .u8 0) (.int .u8 0) (.int .u8 0) (.int .u8 0) (.int .i64 0) (.slice none 0 0) (.string ⟨#[]⟩) .nilIface (.slice none 0 0) (.slice A n c) (.slice A n c) ∧ w.grownBy w' none := by
  have hb := blk_new w (.cells #[.int .u8 0, .int .u8 0, .int .u8 0, .int .u8 0, .int .i64 0, .slice none 0 0, .string ⟨#[]⟩, .nilIface, .slice none 0 0, .slice A n c, .slice A n c] 104 (0, 0))
  have HB := Lib.hid hb
  clear hb
  go_enter Tryz.func27, Tryz.ntmps27
  go_wp2
  go_ret
  exact ⟨rfl, HB.out, gr_alloc (gr_refl _ _) _⟩
end Go.Proofs.YtlfeolfjlmelpaaGreatDoor
