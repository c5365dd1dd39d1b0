/- The three tokens that TextScalar reads: the name, the number, the end. -/
import Derived.Test.YtlfeolfjlmelpaaGreatDoorLA
namespace Go.Proofs.YtlfeolfjlmelpaaGreatDoor
open Go.RowKit

theorem read_name {w : World} {g : Nat} {ta tn tp tr ts le os : Value} {A B : Option Addr} {c nb cb : Nat} {r : List UInt8}
    (hd : HasDec w g (.int .u8 0) (.int .u8 0) ta tn tp tr ts le os (.slice B nb cb) (.slice A (97 :: 58 :: r).length c)) (h : IsB w A c (97 :: 58 :: r)) (hnb : (97 :: 58 :: r).length ≤ nb) (hb : nb ≤ 9223372036854775807) :
    Calls Tryz.prog 28 #[.pointer (some ⟨g, 0, none⟩)] w fun e w' => ∃ A0 c0, e = .returned (.tuple #[.agg #[.int .u8 2, .int .u8 129, .int .u8 0, .int .i64 ((nb : Int) - (97 :: 58 :: r).length), .slice A0 [(97 : UInt8)].length c0, .string ByteArray.empty], .nilIface]) ∧ IsB w' A0 c0 [97] ∧
      ∃ A' c', IsB w' A' c' (skip r) ∧ HasDec w' g (.int .u8 0) (.int .u8 2) (.int .u8 129) (.int .u8 0) (.int .i64 ((nb : Int) - (97 :: 58 :: r).length)) (.slice A0 [(97 : UInt8)].length c0) (.string ByteArray.empty) le os (.slice B nb cb) (.slice A' (skip r).length c') ∧ w.grownBy w' (some g) :=
  Read_of (kd := 2) hd (by decide) (by decide) (fun w1 hg => parseNext_bof (gr_blk hg hd (by simp)) (h.kept0 hg) hnb hb)

theorem read_end {w : World} {g : Nat} {ta tn tp tr ts le : Value} {A B : Option Addr} {c nb cb : Nat}
    (hd : HasDec w g (.int .u8 0) (.int .u8 3) ta tn tp tr ts le (.slice none 0 0) (.slice B nb cb) (.slice A ([] : List UInt8).length c)) (h : IsB w A c []) (hb : nb ≤ 9223372036854775807) :
    Calls Tryz.prog 28 #[.pointer (some ⟨g, 0, none⟩)] w fun e w' => ∃ A0 c0, e = .returned (.tuple #[.agg #[.int .u8 1, .int .u8 0, .int .u8 0, .int .i64 (nb : Int), .slice A0 ([] : List UInt8).length c0, .string ByteArray.empty], .nilIface]) ∧ IsB w' A0 c0 [] ∧
      ∃ A' c', IsB w' A' c' [] ∧ HasDec w' g (.int .u8 0) (.int .u8 1) (.int .u8 0) (.int .u8 0) (.int .i64 (nb : Int)) (.slice A0 ([] : List UInt8).length c0) (.string ByteArray.empty) le (.slice none 0 0) (.slice B nb cb) (.slice A' ([] : List UInt8).length c') ∧ w.grownBy w' (some g) :=
  Read_of (kd := 1) hd (by decide) (by decide) (fun w1 hg => parseNext_eof (gr_blk hg hd (by simp)) (h.kept0 hg) hb)
theorem read_num {w : World} {g : Nat} {ta tn tp tr ts le os : Value} {A B : Option Addr} {c nb cb : Nat} {x : UInt8} {r : List UInt8} {k : Int} {neg : Bool}
    (hd : HasDec w g (.int .u8 0) (.int .u8 2) ta tn tp tr ts le os (.slice B nb cb) (.slice A (x :: r).length c)) (h : IsB w A c (x :: r)) (hnb : (x :: r).length ≤ nb) (hb : nb ≤ 9223372036854775807) (hk : k ≠ 4)
    (hx : Plain x ∧ x.toNat ≠ 123 ∧ x.toNat ≠ 60 ∧ x.toNat ≠ 91) (hx2 : x.toNat ≠ 34 ∧ x.toNat ≠ 39)
    (hI : ∀ w1 A1 c1, IsB w1 A1 c1 (x :: r) → Calls Tryz.prog 130 #[.slice A1 (x :: r).length c1, .bool true] w1 fun e w' => e = .returned (.int .i64 0) ∧ w1 = w')
    (hP : ∀ w1 A1 c1, IsB w1 A1 c1 (x :: r) → Calls Tryz.prog 131 #[.slice A1 (x :: r).length c1] w1 (NumEnds w1 (x :: r) k neg)) :
    Calls Tryz.prog 28 #[.pointer (some ⟨g, 0, none⟩)] w fun e w' => ∃ A0 c0, e = .returned (.tuple #[.agg #[.int .u8 3, .int .u8 1, .int .u8 (if neg then bits .or .u8 k 128 else k), .int .i64 ((nb : Int) - (x :: r).length), .slice A0 (x :: r).length c0, .string ⟨(x :: r).toArray⟩], .nilIface]) ∧ IsB w' A0 c0 (x :: r) ∧
      ∃ A' c', IsB w' A' c' [] ∧ HasDec w' g (.int .u8 0) (.int .u8 3) (.int .u8 1) (.int .u8 (if neg then bits .or .u8 k 128 else k)) (.int .i64 ((nb : Int) - (x :: r).length)) (.slice A0 (x :: r).length c0) (.string ⟨(x :: r).toArray⟩) le os (.slice B nb cb) (.slice A' ([] : List UInt8).length c') ∧ w.grownBy w' (some g) :=
  Read_of (kd := 3) hd (by decide) (by decide) (fun w1 hg => parseNext_name (gr_blk hg hd (by simp)) (h.kept0 hg) hx (fun w2 A1 c1 hg2 hd2 h2 =>
    parseScalar_of hd2 h2 hx2 (fun w3 hg3 => parseLiteral_no (gr_blk hg3 hd2 (by simp)) (h2.kept0 hg3) (fun w4 h4 => hI w4 A1 c1 h4))
      (fun w3 hg3 => (parseNumberValue_of (gr_blk hg3 hd2 (by simp)) (h2.kept0 hg3) (by simp) hnb hb hk (fun w4 hg4 => hP w4 A1 c1 ((h2.kept0 hg3).kept0 hg4))).mono (by
        rintro e w' ⟨rfl, A', c', h5, h6, h7⟩
        exact ⟨A1, c1, rfl, h2.keptD (gr_trans (gr_weak hg3) h7) hd2 (by decide), A', c', h5, h6, h7⟩))))
end Go.Proofs.YtlfeolfjlmelpaaGreatDoor
