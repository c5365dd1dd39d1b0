/- text.appendString: a string written with its quotes. -/
import Derived.Test.YtlfeolfjlmelpaaGreatDoorPD
import Derived.Test.YtlfeolfjlmelpaaGreatDoorSi
import Derived.Deep.RegionLaw
import Derived.BigGuardPart
namespace Go.Proofs.YtlfeolfjlmelpaaGreatDoor
open Go.RowKit

/-- A byte's hexadecimal digits as they are written, none ahead. -/
def hexD (n : Nat) : List UInt8 := if n < 16 then [hx n] else [hx (n / 16), hx (n % 16)]
theorem hexD_len (n : Nat) : (hexD n).length ≤ 2 := by unfold hexD; split <;> simp
set_option maxRecDepth 1000000 in
theorem appendUint_of {w W0 : World} {B : Nat} {v : Value} {l : List UInt8} (n : Nat) (hn : n < 256) (hb : Buf B v l W0 w) (hT : HasTz w) (hl : l.length ≤ 900000000) :
    Calls Tryz.prog 104 #[v, .int .u64 (n : Nat), .int .i64 16] w fun e w' => ∃ v', e = .returned v' ∧ Buf B v' (l ++ hexD n) W0 w' := by
  have h198 : Calls Tryz.prog 198 #[v, .int .u64 (n : Nat), .int .i64 16, .bool false, .bool true] w fun e w' => (∃ v', e = .returned (.tuple #[v', .string ⟨#[]⟩]) ∧ Buf B v' (l ++ hexD n) W0 w') := by
    unfold hexD
    by_cases h : n < 16
    · rw [if_pos h]; exact formatBits_one n h hb hT hl
    · rw [if_neg h]; exact formatBits_two n (by omega) hn hb hT hl
  have h150 : Calls Tryz.prog 150 #[v, .int .u64 (n : Nat), .int .i64 16] w fun e w' => ∃ v', e = .returned v' ∧ Buf B v' (l ++ hexD n) W0 w' := by
    have H := Lib.hid h198
    clear h198 hb hT hl hn
    go_enter Tryz.func150, Tryz.ntmps150
    go_wp2_with fail
    refine H.out.mono ?_
    rintro e w' ⟨v', rfl, hb⟩
    have HB := Lib.hid hb
    clear hb
    go_wp2
    go_ret
    exact ⟨_, rfl, HB.out⟩
  have H := Lib.hid h150
  clear h198 h150 hb hT hl hn
  go_enter Tryz.func104, Tryz.ntmps104
  go_wp2_with fail
  refine H.out.mono ?_
  rintro e w' ⟨v', rfl, hb⟩
  have HB := Lib.hid hb
  clear hb
  go_wp2
  go_ret
  exact ⟨_, rfl, HB.out⟩

set_option maxRecDepth 100000 in
theorem bitLenF : ∀ X : Fin 256, (((Lib.bitLen X.val : Nat) : Int) - 1).tdiv 4 = if X.val < 16 then 0 else 1 := by decide +kernel
theorem bitLen_le8 : ∀ X : Fin 256, Lib.bitLen X.val ≤ 8 := by decide +kernel
theorem len32_of {w : World} (c : Nat) (h : c < 256) : Calls Tryz.prog 103 #[.int .u32 (c : Nat)] w fun e w' => (∃ K : Int, e = .returned (.int .i64 K) ∧ 0 ≤ K ∧ K ≤ 8 ∧ (K - 1).tdiv 4 = if c < 16 then 0 else 1) ∧ w' = w := by
  refine (Tryz.bits_Len32 (c : Int) w (by omega) (by omega)).mono ?_
  rintro e w' ⟨rfl, rfl⟩
  refine ⟨⟨_, rfl, by omega, ?_, ?_⟩, rfl⟩
  · have := bitLen_le8 ⟨c, h⟩
    simp only [Int.toNat_natCast]
    exact Int.ofNat_le.2 this
  · have := bitLenF ⟨c, h⟩
    simpa using this

/-- The tables of the decoder of UTF-8. -/
def HasU (w : World) : Prop := Lib.Utf8Tabs 5 6 w
theorem HasU.kept {w w' : World} (h : HasU w) (hg : w.grownBy w' none) : HasU w' := Utf8Tabs_below h (gr_below hg)
theorem decS_of {w : World} (l : List UInt8) (hne : l ≠ []) (hU : HasU w) :
    Calls Tryz.prog 102 #[.string ⟨l.toArray⟩] w fun e w' => e = .returned (.tuple #[.int .i32 ((Lib.decodeL l).1 : Nat), .int .i64 ((Lib.decodeL l).2 : Nat)]) ∧ w.grownBy w' none := by
  refine (Tryz.utf8_DecodeRuneInString ⟨l.toArray⟩ w hU).mono ?_
  rintro e w' ⟨rfl, hb⟩
  have h0 : (⟨l.toArray⟩ : ByteArray).size ≠ 0 := by
    intro h
    exact hne (List.eq_nil_of_length_eq_zero h)
  have hd : Lib.decodeGo ⟨l.toArray⟩ = Lib.decodeL l := by unfold Lib.decodeGo; rw [if_neg h0]; rfl
  rw [hd]
  exact ⟨rfl, below_gr hb⟩
end Go.Proofs.YtlfeolfjlmelpaaGreatDoor
