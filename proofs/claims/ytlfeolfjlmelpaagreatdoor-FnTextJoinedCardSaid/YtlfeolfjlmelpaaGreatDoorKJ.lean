/- internal/strconv.ParseUint at digits. -/
import Derived.Test.YtlfeolfjlmelpaaGreatDoorKB
import Derived.Lib.ConvBytes
namespace Go.Proofs.YtlfeolfjlmelpaaGreatDoor
open Go.RowKit

/-! ### []byte(s) -/
theorem bytesWorld_isB (w : World) (l : List UInt8) (hl : l.length ≤ 9223372036854775807) : IsB (Lib.bytesWorld w 5 ⟨l.toArray⟩) (some ⟨w.heap.size, 0, none⟩) (grownCap w l.length 0 5) l := by
  refine ⟨grownCap_ge _ _ _ _, grownCap_le_maxLen _ _ _ _ hl, fun _ => ⟨w.heap.size, 0, _, _, rfl, Lib.bytesWorld_at_new w 5 ⟨l.toArray⟩, fun i hi => ?_⟩⟩
  have := Lib.bytesWorld_cell w 5 ⟨l.toArray⟩ i (by simpa [ByteArray.size] using hi)
  rw [blk_cell (Lib.bytesWorld_at_new w 5 ⟨l.toArray⟩)] at this
  rw [Nat.zero_add, this]
  simp [List.getD, hi]
theorem bytesWorld_gr (w : World) (s : ByteArray) : w.grownBy (Lib.bytesWorld w 5 s) none := 
  ⟨rfl, rfl, rfl, by rw [Lib.bytesWorld_size]; omega, fun i hi _ => Lib.bytesWorld_at_old w 5 s i hi⟩
theorem conv_bytes (l : List UInt8) (w : World) : (convert 9 28 (.string ⟨l.toArray⟩)).run Tryz.prog w = .ok (.slice (some ⟨w.heap.size, 0, none⟩) l.length (grownCap w l.length 0 5)) (Lib.bytesWorld w 5 ⟨l.toArray⟩) := by
  have := Lib.run_convert_string_bytes (P := Tryz.prog) w 9 28 5 ⟨l.toArray⟩ Tryz.underlying9 Tryz.underlying28 Tryz.underlying5
  rw [this]; simp [ByteArray.size]

/-- The value of a digit, of base 16 or less. -/
def dv (c : UInt8) : Nat := if c.toNat ≤ 57 then c.toNat - 48 else if c.toNat ≤ 70 then c.toNat - 55 else c.toNat - 87
/-- The value of digits. -/
def val (b n : Nat) : List UInt8 → Nat
  | [] => n
  | c :: r => val b (n * b + dv c) r
def digB (b : Nat) (c : UInt8) : Prop := ((48 ≤ c.toNat ∧ c.toNat ≤ 57) ∨ (97 ≤ c.toNat ∧ c.toNat ≤ 102) ∨ (65 ≤ c.toNat ∧ c.toNat ≤ 70)) ∧ dv c < b
theorem val_ge (b : Nat) (hb : 1 ≤ b) : ∀ (l : List UInt8) (n : Nat), n ≤ val b n l
  | [], n => Nat.le_refl _
  | c :: r, n => by
    have := val_ge b hb r (n * b + dv c)
    have h2 : n ≤ n * b := Nat.le_mul_of_pos_right n hb
    rw [val]; omega

theorem val_append (b : Nat) : ∀ (l m : List UInt8) (n : Nat), val b n (l ++ m) = val b (val b n l) m
  | [], m, n => rfl
  | c :: r, m, n => by rw [List.cons_append, val, val, val_append b r m]
theorem val_take (b : Nat) (l : List UInt8) (k : Nat) (hk : k < l.length) : val b 0 (l.take (k + 1)) = val b 0 (l.take k) * b + dv l[k] := by
  rw [List.take_succ_eq_append_getElem hk, val_append]; rfl
theorem val_le (b : Nat) (hb : 1 ≤ b) (l : List UInt8) (k : Nat) : val b 0 (l.take k) ≤ val b 0 l := by
  conv => rhs; rw [← List.take_append_drop k l]
  rw [val_append]; exact val_ge b hb _ _

/-- What ParseUint tells of the number v, of at most mx. -/
def PuEnds (w : World) (v mx : Nat) (e : Ending) (w' : World) : Prop :=
  (e = if v ≤ mx then .returned (.tuple #[.int .u64 (v : Nat), .nilIface]) else .returned (.tuple #[.int .u64 (mx : Nat), .iface 245 (.int .i64 1)])) ∧ w.grownBy w' none

theorem u64_in (a : Int) (h0 : 0 ≤ a) (h : a ≤ 18446744073709551615) : IntKind.u64.wrap a = a := IntWalk.u64_in a ⟨h0, h⟩
theorem wrap_u64' (a : Int) : IntKind.u64.wrap a = a % 18446744073709551616 := by
  simp only [IntKind.wrap, IntKind.bits, IntKind.signed, Bool.false_and, Bool.false_eq_true, if_false]
  rfl
theorem u64_over (a : Int) (h0 : 18446744073709551616 ≤ a) (h : a ≤ 36893488147419103231) : IntKind.u64.wrap a = a - 18446744073709551616 := by
  rw [wrap_u64']; omega
theorem mx64 : IntKind.u64.wrap (IntKind.u64.wrap 18446744073709551616 - 1) = 18446744073709551615 := by
  rw [wrap_u64', wrap_u64']; rfl
theorem str0 (x : UInt8) (r : List UInt8) (h : 0 < (⟨(x :: r).toArray⟩ : ByteArray).size) : ((⟨(x :: r).toArray⟩ : ByteArray)[0]'h) = x := rfl
end Go.Proofs.YtlfeolfjlmelpaaGreatDoor
