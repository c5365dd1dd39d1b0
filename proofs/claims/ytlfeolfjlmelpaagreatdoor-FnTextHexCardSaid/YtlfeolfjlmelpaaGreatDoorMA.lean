/- ParseUint of "0" alone, and of a text with a minus ahead. -/
import Derived.Test.YtlfeolfjlmelpaaGreatDoorKO
namespace Go.Proofs.YtlfeolfjlmelpaaGreatDoor
open Go.RowKit

set_option maxHeartbeats 4000000 in
set_option maxRecDepth 1000000 in
theorem pu0_64 {w : World} : Calls Tryz.prog 137 #[.string ⟨#[48]⟩, .int .i64 0, .int .i64 64] w (PuEnds w 0 18446744073709551615) := by
  have hc : ∀ w, (convert 9 28 (.string ByteArray.empty)).run Tryz.prog w = .ok (.slice (some ⟨w.heap.size, 0, none⟩) 0 (grownCap w 0 0 5)) (Lib.bytesWorld w 5 ByteArray.empty) := conv_bytes []
  have f1 : ∀ h, ((((⟨#[48]⟩ : ByteArray)[0]'h).toNat : Int) == 48) = true := fun h => rfl
  have f5 : (⟨#[48]⟩ : ByteArray).extract 1 1 = ⟨#[]⟩ := str_cut [48] 1
  have HG := Lib.hid (bytesWorld_gr w ByteArray.empty)
  go_enter Tryz.func137, Tryz.ntmps137
  go_wp2
  clear hc
  obtain ⟨W, hWW⟩ : ∃ W, W = Lib.bytesWorld w 5 ByteArray.empty := ⟨_, rfl⟩
  rw [← hWW] at HG ⊢
  clear hWW
  go_loop [12, 13, 101] (fun u n i => u = .bool false ∧ i = .int .i64 0 ∧ n = .int .u64 0) (fun _ _ _ => 0)
  case atStart => exact ⟨rfl, rfl, rfl⟩
  case round =>
    obtain ⟨rfl, rfl, rfl⟩ := hrel
    go_wp2
    go_ret2
    exact ⟨rfl, HG.out⟩
set_option maxHeartbeats 4000000 in
set_option maxRecDepth 1000000 in
theorem pu0_32 {w : World} : Calls Tryz.prog 137 #[.string ⟨#[48]⟩, .int .i64 0, .int .i64 32] w (PuEnds w 0 4294967295) := by
  have hc : ∀ w, (convert 9 28 (.string ByteArray.empty)).run Tryz.prog w = .ok (.slice (some ⟨w.heap.size, 0, none⟩) 0 (grownCap w 0 0 5)) (Lib.bytesWorld w 5 ByteArray.empty) := conv_bytes []
  have f1 : ∀ h, ((((⟨#[48]⟩ : ByteArray)[0]'h).toNat : Int) == 48) = true := fun h => rfl
  have f5 : (⟨#[48]⟩ : ByteArray).extract 1 1 = ⟨#[]⟩ := str_cut [48] 1
  have HG := Lib.hid (bytesWorld_gr w ByteArray.empty)
  go_enter Tryz.func137, Tryz.ntmps137
  go_wp2
  clear hc
  obtain ⟨W, hWW⟩ : ∃ W, W = Lib.bytesWorld w 5 ByteArray.empty := ⟨_, rfl⟩
  rw [← hWW] at HG ⊢
  clear hWW
  go_loop [12, 13, 101] (fun u n i => u = .bool false ∧ i = .int .i64 0 ∧ n = .int .u64 0) (fun _ _ _ => 0)
  case atStart => exact ⟨rfl, rfl, rfl⟩
  case round =>
    obtain ⟨rfl, rfl, rfl⟩ := hrel
    go_wp2
    go_ret2
    exact ⟨rfl, HG.out⟩

set_option maxHeartbeats 4000000 in
set_option maxRecDepth 1000000 in
theorem puMinus {w : World} (r : List UInt8) (hl : (45 :: r).length ≤ 4096) :
    Calls Tryz.prog 137 #[.string ⟨(45 :: r).toArray⟩, .int .i64 0, .int .i64 64] w fun e w' => e = .returned (.tuple #[.int .u64 0, .iface 245 (.int .i64 2)]) ∧ w.grownBy w' none := by
  have hc := conv_bytes (45 :: r)
  have f1 : ∀ h, ((((⟨(45 :: r).toArray⟩ : ByteArray)[0]'h).toNat : Int) == 48) = false := fun h => rfl
  have HW := Lib.hid (bytesWorld_isB w (45 :: r) (by omega))
  have HG := Lib.hid (bytesWorld_gr w ⟨(45 :: r).toArray⟩)
  go_enter Tryz.func137, Tryz.ntmps137
  go_wp2
  obtain ⟨N, hN⟩ : ∃ N, N = w.heap.size := ⟨_, rfl⟩
  obtain ⟨C, hC⟩ : ∃ C, C = grownCap w (45 :: r).length 0 5 := ⟨_, rfl⟩
  obtain ⟨W, hWW⟩ : ∃ W, W = Lib.bytesWorld w 5 ⟨(45 :: r).toArray⟩ := ⟨_, rfl⟩
  rw [← hWW] at HW HG ⊢
  rw [← hN, ← hC] at HW
  simp only [← hN]
  clear hc hWW hN hC
  obtain ⟨b0, o0, e0, hcl⟩ := HW.out.get (by simp)
  have hcell := hcl 0 (by simp)
  cases e0
  have h45 : by8 (45 :: r)[0] = .int .u8 45 := rfl
  rw [h45] at hcell
  have hlen : r.length + 1 ≤ 4096 := hl
  clear hcl h45 HW hl
  go_loop [12, 13, 101] (fun u n i => u = .bool false ∧ i = .int .i64 0 ∧ n = .int .u64 0) (fun _ _ _ => 0)
  case atStart => exact ⟨rfl, rfl, rfl⟩
  case round =>
    obtain ⟨rfl, rfl, rfl⟩ := hrel
    go_wp2
    go_ret2
    exact ⟨rfl, HG.out⟩
end Go.Proofs.YtlfeolfjlmelpaaGreatDoor
