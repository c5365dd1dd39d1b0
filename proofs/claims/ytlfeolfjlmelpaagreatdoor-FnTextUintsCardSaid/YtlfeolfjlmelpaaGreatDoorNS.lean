/- laws.FnTextUints. -/
import Derived.Test.YtlfeolfjlmelpaaGreatDoorNR
namespace Go.Proofs.YtlfeolfjlmelpaaGreatDoor
open Go.RowKit

theorem scalar_nat (n : Nat) (h1 : n ≤ 18446744073709551615) {w : World} {A : Option Addr} {c : Nat} (h : IsB w A c (decL n)) (hF : HasPF w) :
    Calls Tryz.prog 9 #[.slice A (decL n).length c] w (ScalarEnds w (decL n) (NumVals n)) := by
  have hlen : (decL n).length ≤ 20 := decL_len n 19 (by omega)
  have hval := val_decL n
  have hdig := decL_dig n
  by_cases hn : n = 0
  · subst hn
    have e0 : decL 0 = [48] := decL_small (by decide)
    rw [e0] at h ⊢
    exact scalar_zero h hF.2.2.1.err hF.1
  · obtain ⟨x, r, hxr, hx⟩ := decL_head n (by omega)
    rw [hxr] at h hlen hval hdig ⊢
    have := scalar_dec_any x r h hx hdig (by omega) (by omega) hF
    rwa [hval] at this

set_option maxHeartbeats 4000000 in
set_option maxRecDepth 1000000 in
theorem fnTextUints_walk (n : Nat) (w : World) (h1 : n ≤ 18446744073709551615) (hF : HasPF w) :
    Calls Tryz.prog 5 #[.int .u64 (n : Nat)] w fun e w' => e = .returned (.bool true) ∧ w.grownBy w' none := by
  have HS := Lib.hid (digits_of n w h1)
  have HN := Lib.hid (fun (w1 : World) (A : Option Addr) (c : Nat) (hg : w.grownBy w1 none) (h : IsB w1 A c (decL n)) => scalar_nat n h1 h (hF.kept hg))
  have hc := conv_bytes (decL n)
  have hl : (decL n).length ≤ 20 := decL_len n 19 (by omega)
  have hb := fun w1 => bytesWorld_isB w1 (decL n) (by omega)
  generalize decL n = L at HS HN hc hl hb
  have HB := Lib.hid hb
  clear hb hF
  go_enter Tryz.func5, Tryz.ntmps5
  go_wp2_with fail
  (with_reducible refine HS.out.mono ?_)
  rintro e w1 ⟨rfl, hg⟩
  have HG := Lib.hid hg
  clear hg HS
  go_wp2_with fail
  have hg2 := gr_trans HG.out (bytesWorld_gr w1 ⟨L.toArray⟩)
  have HI := Lib.hid (HN.out _ _ _ hg2 (HB.out w1))
  have HG2 := Lib.hid hg2
  clear hg2 HG HN HB hc
  (with_reducible refine HI.out.mono ?_)
  rintro e W ⟨⟨vs, rfl, hv⟩, hg⟩
  obtain ⟨x49, y49, x50, y50, x51, y51, x52, y52, x53, y53, x54, y54, x56, y56, x57, y57, x58, y58, rfl, o50, o51, o52, o53⟩ := hv
  have HG := Lib.hid (gr_trans HG2.out hg)
  have O50 := Lib.hid o50
  have O51 := Lib.hid o51
  have O52 := Lib.hid o52
  have O53 := Lib.hid o53
  clear hg o50 o51 o52 o53 HI HG2
  generalize Lib.bytesWorld w1 5 ⟨L.toArray⟩ = W0 at *
  go_upto_region 2 with fail
  have hb := blk_new W (.cells #[.bool x49, .bool y49, .int .i64 x50, .bool y50, .int .i32 x51, .bool y51, .int .u64 x52, .bool y52, .int .u32 x53, .bool y53, .int .u64 x54, .bool y54, .int .u64 x56, .bool y56, .string x57, .bool y57, .string x58, .bool y58] 25)
  have HG2 := Lib.hid (gr_alloc HG.out (.cells #[.bool x49, .bool y49, .int .i64 x50, .bool y50, .int .i32 x51, .bool y51, .int .u64 x52, .bool y52, .int .u32 x53, .bool y53, .int .u64 x54, .bool y54, .int .u64 x56, .bool y56, .string x57, .bool y57, .string x58, .bool y58] 25))
  have c2 := blk_cell hb 2
  have c3 := blk_cell hb 3
  have c4 := blk_cell hb 4
  have c5 := blk_cell hb 5
  have c6 := blk_cell hb 6
  have c7 := blk_cell hb 7
  have c8 := blk_cell hb 8
  have c9 := blk_cell hb 9
  clear HG hb
  generalize W.alloc (.cells #[.bool x49, .bool y49, .int .i64 x50, .bool y50, .int .i32 x51, .bool y51, .int .u64 x52, .bool y52, .int .u32 x53, .bool y53, .int .u64 x54, .bool y54, .int .u64 x56, .bool y56, .string x57, .bool y57, .string x58, .bool y58] 25) = W2 at c2 c3 c4 c5 c6 c7 c8 c9 HG2 ⊢
  generalize W.heap.size = N at c2 c3 c4 c5 c6 c7 c8 c9 ⊢
  obtain ⟨rfl, rfl⟩ := O52.out.1 ⟨by omega, by omega⟩
  clear O52
  by_cases h63 : n ≤ 9223372036854775807
  · obtain ⟨rfl, rfl⟩ := O50.out.1 ⟨by omega, by omega⟩
    have hwu : IntKind.u64.wrap (n : Int) = (n : Int) := u64_in _ (by omega) (by omega)
    have q63 : decide ((n : Int) ≤ 9223372036854775807) = true := decide_eq_true (by omega)
    clear O50
    by_cases hs : n ≤ 2147483647
    · obtain ⟨rfl, rfl⟩ := O51.out.1 ⟨by omega, by omega⟩
      obtain ⟨rfl, rfl⟩ := O53.out.1 ⟨by omega, by omega⟩
      have q31 : decide ((n : Int) ≤ 2147483647) = true := decide_eq_true (by omega)
      have q32 : decide ((n : Int) ≤ 4294967295) = true := decide_eq_true (by omega)
      clear O51 O53
      go_wp2
      go_ret
      exact ⟨rfl, HG2.out⟩
    · have := O51.out.2 (by omega)
      subst this
      have q31 : decide ((n : Int) ≤ 2147483647) = false := decide_eq_false (by omega)
      clear O51
      by_cases ht : n ≤ 4294967295
      · obtain ⟨rfl, rfl⟩ := O53.out.1 ⟨by omega, by omega⟩
        have q32 : decide ((n : Int) ≤ 4294967295) = true := decide_eq_true (by omega)
        clear O53
        go_wp2
        go_ret
        exact ⟨rfl, HG2.out⟩
      · have := O53.out.2 (by omega)
        subst this
        have q32 : decide ((n : Int) ≤ 4294967295) = false := decide_eq_false (by omega)
        clear O53
        go_wp2
        go_ret
        exact ⟨rfl, HG2.out⟩
  · have := O50.out.2 (by omega)
    subst this
    have := O51.out.2 (by omega)
    subst this
    have := O53.out.2 (by omega)
    subst this
    have q63 : decide ((n : Int) ≤ 9223372036854775807) = false := decide_eq_false (by omega)
    have q31 : decide ((n : Int) ≤ 2147483647) = false := decide_eq_false (by omega)
    have q32 : decide ((n : Int) ≤ 4294967295) = false := decide_eq_false (by omega)
    clear O50 O51 O53
    go_wp2
    go_ret
    exact ⟨rfl, HG2.out⟩
end Go.Proofs.YtlfeolfjlmelpaaGreatDoor
