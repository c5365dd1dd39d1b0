/- laws.FnTextHex. -/
import Derived.Test.YtlfeolfjlmelpaaGreatDoorOA
namespace Go.Proofs.YtlfeolfjlmelpaaGreatDoor
open Go.RowKit

/-- The text of a number of base 16 or 8. -/
def hexT (oc up : Bool) (n : Nat) : List UInt8 := if oc then 48 :: digsL 8 up n else if n = 0 then [48, 120, 48] else 48 :: 120 :: digsL 16 up n
theorem hexT_len (oc up : Bool) (n : Nat) (h1 : n ≤ 18446744073709551615) : (hexT oc up n).length ≤ 23 := by
  have h8 : (digsL 8 up n).length ≤ 22 := digsL_len up (by decide) 22 n (by omega)
  have h16 : (digsL 16 up n).length ≤ 16 := digsL_len up (by decide) 16 n (by omega)
  unfold hexT
  split
  · rw [List.length_cons]; omega
  · split
    · decide
    · rw [List.length_cons, List.length_cons]; omega
theorem scalar_hexT (n : Nat) (oc up : Bool) (h1 : n ≤ 18446744073709551615) {w : World} {A : Option Addr} {c : Nat} (h : IsB w A c (hexT oc up n)) (hF : HasPF w) :
    Calls Tryz.prog 9 #[.slice A (hexT oc up n).length c] w (ScalarEnds w (hexT oc up n) (NumVals n)) := by
  unfold hexT at h ⊢
  cases oc
  · simp only [Bool.false_eq_true, if_false] at h ⊢
    by_cases hn : n = 0
    · subst hn
      simp only [if_true] at h ⊢
      exact scalar_hex 48 [] h (by intro y hy; rw [List.mem_singleton.1 hy]; unfold digB dv; decide) (by decide) (by decide) hF
    · simp only [hn, if_false] at h ⊢
      have h16 : (digsL 16 up n).length ≤ 16 := digsL_len up (by decide) 16 n (by omega)
      have hv := val_digsL up (b := 16) (by decide) (by decide) n
      have hd := digsL_dig up (b := 16) (by decide) (by decide) n
      obtain ⟨x, r, hxr, -⟩ := digsL_head up (b := 16) (by decide) (by decide) n hn
      rw [hxr] at h h16 hv hd ⊢
      have := scalar_hex x r h hd h16 (by omega) hF
      rwa [hv] at this
  · simp only [if_true] at h ⊢
    by_cases hn : n = 0
    · subst hn
      rw [digsL_zero] at h ⊢
      exact scalar_zero h hF.2.2.1.err hF.1
    · have h8 : (digsL 8 up n).length ≤ 22 := digsL_len up (by decide) 22 n (by omega)
      have hv := val_digsL up (b := 8) (by decide) (by decide) n
      have hd := digsL_dig up (b := 8) (by decide) (by decide) n
      obtain ⟨x, r, hxr, hx⟩ := digsL_head up (b := 8) (by decide) (by decide) n hn
      rw [hxr] at h h8 hv hd ⊢
      have := scalar_oct x r h hx hd (by omega) (by omega) hF
      rwa [hv] at this

theorem setCut_false : ∀ d, d < 16 → (⟨#[48, 49, 50, 51, 52, 53, 54, 55, 56, 57, 97, 98, 99, 100, 101, 102]⟩ : ByteArray).extract d (d + 1) = ⟨#[chD false d]⟩ := by
  decide
theorem setCut_true : ∀ d, d < 16 → (⟨#[48, 49, 50, 51, 52, 53, 54, 55, 56, 57, 65, 66, 67, 68, 69, 70]⟩ : ByteArray).extract d (d + 1) = ⟨#[chD true d]⟩ := by
  decide

set_option maxHeartbeats 4000000 in
set_option maxRecDepth 1000000 in
theorem hex_walk_false_false (n : Nat) (w : World) (h1 : n ≤ 18446744073709551615) (hF : HasPF w) :
    Calls Tryz.prog 3 #[.int .u64 (n : Nat), .bool false, .bool false] w fun e w' => e = .returned (.bool true) ∧ w.grownBy w' none := by
  have HN := Lib.hid (fun (w1 : World) (A : Option Addr) (c : Nat) (hg : w.grownBy w1 none) (h : IsB w1 A c (hexT false false n)) => scalar_hexT n false false h1 h (hF.kept hg))
  have hlen : (digsL 16 false n).length ≤ 22 := digsL_len false (by decide) 22 n (by omega)
  have HL := Lib.hid hlen
  clear hlen hF
  go_enter Tryz.func3, Tryz.ntmps3
  go_upto_block 0 with fail
  have hSz : (⟨#[48, 49, 50, 51, 52, 53, 54, 55, 56, 57, 97, 98, 99, 100, 101, 102]⟩ : ByteArray).size = 16 := rfl
  have hSc := setCut_false
  generalize (⟨#[48, 49, 50, 51, 52, 53, 54, 55, 56, 57, 97, 98, 99, 100, 101, 102]⟩ : ByteArray) = S at hSz hSc ⊢
  have HSC := Lib.hid hSc
  clear hSc
  go_cut [9, 10] from 17 to 32 (fun s y w2 => s = .string ⟨(digsL 16 false n).toArray⟩ ∧ Hid (w.grownBy w2 none))
  case rest =>
    obtain ⟨rfl, HG⟩ := hcut
    have hLl := HL.out
    have hN := HN.out
    have hTl := hexT_len false false n h1
    have hor : ((digsL 16 false n).isEmpty = true ∧ (⟨#[48, 120, 48]⟩ : ByteArray) = ⟨(hexT false false n).toArray⟩) ∨ ((digsL 16 false n).isEmpty = false ∧ (⟨#[48, 120]⟩ : ByteArray) ++ ⟨(digsL 16 false n).toArray⟩ = ⟨(hexT false false n).toArray⟩) := by
      by_cases hn0 : n = 0
      · exact .inl ⟨by rw [hn0, digsL_zero]; rfl, by rw [hn0]; rfl⟩
      · refine .inr ⟨?_, ?_⟩
        · obtain ⟨x, r, hxr, -⟩ := digsL_head false (b := 16) (by decide) (by decide) n hn0
          rw [hxr]; rfl
        · unfold hexT
          rw [if_neg hn0]
          exact str_app [48, 120] _
    generalize digsL 16 false n = L at hLl hor ⊢
    generalize hexT false false n = T at hN hTl hor
    have HN2 := Lib.hid hN
    have HOR := Lib.hid hor
    clear hN HN HL HSC hor
    go_upto_if 33 with fail
    go_cut [9] from 34 to 39 (fun a w2 => a = .string ⟨T.toArray⟩ ∧ Hid (w.grownBy w2 none))
    case first =>
      rcases HOR.out with ⟨hem, hcat⟩ | ⟨hem, hcat⟩
      · clear HOR
        go_wp2
        all_goals (go_meet; exact ⟨by first | rfl | rw [hcat], HG⟩)
      · clear HOR
        go_wp2
        all_goals (go_meet; exact ⟨by first | rfl | rw [hcat], HG⟩)
    case rest =>
      clear HG
      obtain ⟨rfl, HG⟩ := hcut
      clear HOR hLl
      have hc := conv_bytes T
      have hB := Lib.hid (fun w1 => bytesWorld_isB w1 T (by omega))
      go_wp2_with fail
      have hg2 := gr_trans HG.out (bytesWorld_gr wc ⟨T.toArray⟩)
      have HJ := Lib.hid (HN2.out _ _ _ hg2 (hB.out wc))
      have HG2 := Lib.hid hg2
      clear hg2 HG HN2 hB hc
      (with_reducible refine HJ.out.mono ?_)
      rintro e W ⟨⟨vs, rfl, hv⟩, hg⟩
      obtain ⟨x49, y49, x50, y50, x51, y51, x52, y52, x53, y53, x54, y54, x56, y56, x57, y57, x58, y58, rfl, o50, o51, o52, o53⟩ := hv
      have HG := Lib.hid (gr_trans HG2.out hg)
      have O50 := Lib.hid o50
      have O52 := Lib.hid o52
      clear hg o50 o51 o52 o53 HJ HG2
      generalize Lib.bytesWorld wc 5 ⟨T.toArray⟩ = W0 at *
      go_upto_region 17 with fail
      have hb := blk_new W (.cells #[.bool x49, .bool y49, .int .i64 x50, .bool y50, .int .i32 x51, .bool y51, .int .u64 x52, .bool y52, .int .u32 x53, .bool y53, .int .u64 x54, .bool y54, .int .u64 x56, .bool y56, .string x57, .bool y57, .string x58, .bool y58] 25)
      have HG2 := Lib.hid (gr_alloc HG.out (.cells #[.bool x49, .bool y49, .int .i64 x50, .bool y50, .int .i32 x51, .bool y51, .int .u64 x52, .bool y52, .int .u32 x53, .bool y53, .int .u64 x54, .bool y54, .int .u64 x56, .bool y56, .string x57, .bool y57, .string x58, .bool y58] 25))
      have c3 := blk_cell hb 3
      have c6 := blk_cell hb 6
      have c7 := blk_cell hb 7
      clear HG hb
      generalize W.alloc (.cells #[.bool x49, .bool y49, .int .i64 x50, .bool y50, .int .i32 x51, .bool y51, .int .u64 x52, .bool y52, .int .u32 x53, .bool y53, .int .u64 x54, .bool y54, .int .u64 x56, .bool y56, .string x57, .bool y57, .string x58, .bool y58] 25) = W2 at c3 c6 c7 HG2 ⊢
      generalize W.heap.size = N at c3 c6 c7 ⊢
      obtain ⟨rfl, rfl⟩ := O52.out.1 ⟨by omega, by omega⟩
      clear O52
      by_cases h63 : n ≤ 9223372036854775807
      · obtain ⟨rfl, rfl⟩ := O50.out.1 ⟨by omega, by omega⟩
        have q63 : decide ((n : Int) ≤ 9223372036854775807) = true := decide_eq_true (by omega)
        clear O50
        go_wp2
        go_ret
        exact ⟨rfl, HG2.out⟩
      · have := O50.out.2 (by omega)
        subst this
        have q63 : decide ((n : Int) ≤ 9223372036854775807) = false := decide_eq_false (by omega)
        clear O50
        go_wp2
        go_ret
        exact ⟨rfl, HG2.out⟩

  case first =>
  go_wp2_with fail
  go_loopg [9, 10] (n + 1) (fun gk s yv wr => ∃ (y : Nat) (L : List UInt8), s = .string ⟨L.toArray⟩ ∧ yv = .int .u64 (y : Nat) ∧ y < gk ∧ y ≤ n ∧ Hid (w.grownBy wr none) ∧ Hid (digsL 16 false y ++ L = digsL 16 false n))
  case atStart => exact ⟨n, [], rfl, rfl, by omega, by omega, Lib.hid (gr_refl _ _), Lib.hid (by simp)⟩
  case round =>
    obtain ⟨y, L, rfl, rfl, hyg, hyn, HG, HD⟩ := hrel
    by_cases hy : y = 0
    · subst hy
      have hd := HD.out
      rw [digsL_zero, List.nil_append] at hd
      have hd := HD.out
      rw [digsL_zero, List.nil_append] at hd
      have HD2 := Lib.hid hd
      clear HN HL hyg hyn HD HSC hd
      go_wp2
      go_meet
      exact ⟨by rw [HD2.out], HG⟩
    · have hy0 : 0 < (y : Int) := by omega
      have hst := digsL_step (b := 16) false (by decide) hy
      have hd := HD.out
      rw [hst] at hd
      have hLl : L.length ≤ 21 := by
        have := congrArg List.length hd
        simp only [List.length_append, List.length_cons, List.length_nil] at this
        have := HL.out
        omega
      have HD2 := Lib.hid hd
      have HQ := Lib.hid (Nat.div_lt_self (show 0 < y by omega) (show 1 < 16 by decide))
      have HM := Lib.hid (Nat.mod_lt y (show 0 < 16 by decide))
      clear hst hd HD
      go_wp2_with fail
      go_quiet (fail)
      rename_i nq
      have HG2 := Lib.hid (gr_drewN HG.out nq)
      generalize wr.drewN nq = W2 at HG2 ⊢
      rw [HSC.out (y % 16) (by have := HM.out; omega)]
      go_wp2
      go_roundg (y)
      case measure => omega
      case rel =>
        refine ⟨y / 16, chD false (y % 16) :: L, ?_, ?_, HQ.out, by have := HQ.out; omega, HG2, Lib.hid (by rw [← HD2.out]; simp)⟩
        · exact congrArg Value.string (str_app [_] L)
        · refine congrArg (Value.int .u64) ?_; omega

set_option maxHeartbeats 4000000 in
set_option maxRecDepth 1000000 in
theorem hex_walk_false_true (n : Nat) (w : World) (h1 : n ≤ 18446744073709551615) (hF : HasPF w) :
    Calls Tryz.prog 3 #[.int .u64 (n : Nat), .bool false, .bool true] w fun e w' => e = .returned (.bool true) ∧ w.grownBy w' none := by
  have HN := Lib.hid (fun (w1 : World) (A : Option Addr) (c : Nat) (hg : w.grownBy w1 none) (h : IsB w1 A c (hexT false true n)) => scalar_hexT n false true h1 h (hF.kept hg))
  have hlen : (digsL 16 true n).length ≤ 22 := digsL_len true (by decide) 22 n (by omega)
  have HL := Lib.hid hlen
  clear hlen hF
  go_enter Tryz.func3, Tryz.ntmps3
  go_upto_block 0 with fail
  have hSz : (⟨#[48, 49, 50, 51, 52, 53, 54, 55, 56, 57, 65, 66, 67, 68, 69, 70]⟩ : ByteArray).size = 16 := rfl
  have hSc := setCut_true
  generalize (⟨#[48, 49, 50, 51, 52, 53, 54, 55, 56, 57, 65, 66, 67, 68, 69, 70]⟩ : ByteArray) = S at hSz hSc ⊢
  have HSC := Lib.hid hSc
  clear hSc
  go_cut [9, 10] from 17 to 32 (fun s y w2 => s = .string ⟨(digsL 16 true n).toArray⟩ ∧ Hid (w.grownBy w2 none))
  case rest =>
    obtain ⟨rfl, HG⟩ := hcut
    have hLl := HL.out
    have hN := HN.out
    have hTl := hexT_len false true n h1
    have hor : ((digsL 16 true n).isEmpty = true ∧ (⟨#[48, 120, 48]⟩ : ByteArray) = ⟨(hexT false true n).toArray⟩) ∨ ((digsL 16 true n).isEmpty = false ∧ (⟨#[48, 120]⟩ : ByteArray) ++ ⟨(digsL 16 true n).toArray⟩ = ⟨(hexT false true n).toArray⟩) := by
      by_cases hn0 : n = 0
      · exact .inl ⟨by rw [hn0, digsL_zero]; rfl, by rw [hn0]; rfl⟩
      · refine .inr ⟨?_, ?_⟩
        · obtain ⟨x, r, hxr, -⟩ := digsL_head true (b := 16) (by decide) (by decide) n hn0
          rw [hxr]; rfl
        · unfold hexT
          rw [if_neg hn0]
          exact str_app [48, 120] _
    generalize digsL 16 true n = L at hLl hor ⊢
    generalize hexT false true n = T at hN hTl hor
    have HN2 := Lib.hid hN
    have HOR := Lib.hid hor
    clear hN HN HL HSC hor
    go_upto_if 33 with fail
    go_cut [9] from 34 to 39 (fun a w2 => a = .string ⟨T.toArray⟩ ∧ Hid (w.grownBy w2 none))
    case first =>
      rcases HOR.out with ⟨hem, hcat⟩ | ⟨hem, hcat⟩
      · clear HOR
        go_wp2
        all_goals (go_meet; exact ⟨by first | rfl | rw [hcat], HG⟩)
      · clear HOR
        go_wp2
        all_goals (go_meet; exact ⟨by first | rfl | rw [hcat], HG⟩)
    case rest =>
      clear HG
      obtain ⟨rfl, HG⟩ := hcut
      clear HOR hLl
      have hc := conv_bytes T
      have hB := Lib.hid (fun w1 => bytesWorld_isB w1 T (by omega))
      go_wp2_with fail
      have hg2 := gr_trans HG.out (bytesWorld_gr wc ⟨T.toArray⟩)
      have HJ := Lib.hid (HN2.out _ _ _ hg2 (hB.out wc))
      have HG2 := Lib.hid hg2
      clear hg2 HG HN2 hB hc
      (with_reducible refine HJ.out.mono ?_)
      rintro e W ⟨⟨vs, rfl, hv⟩, hg⟩
      obtain ⟨x49, y49, x50, y50, x51, y51, x52, y52, x53, y53, x54, y54, x56, y56, x57, y57, x58, y58, rfl, o50, o51, o52, o53⟩ := hv
      have HG := Lib.hid (gr_trans HG2.out hg)
      have O50 := Lib.hid o50
      have O52 := Lib.hid o52
      clear hg o50 o51 o52 o53 HJ HG2
      generalize Lib.bytesWorld wc 5 ⟨T.toArray⟩ = W0 at *
      go_upto_region 17 with fail
      have hb := blk_new W (.cells #[.bool x49, .bool y49, .int .i64 x50, .bool y50, .int .i32 x51, .bool y51, .int .u64 x52, .bool y52, .int .u32 x53, .bool y53, .int .u64 x54, .bool y54, .int .u64 x56, .bool y56, .string x57, .bool y57, .string x58, .bool y58] 25)
      have HG2 := Lib.hid (gr_alloc HG.out (.cells #[.bool x49, .bool y49, .int .i64 x50, .bool y50, .int .i32 x51, .bool y51, .int .u64 x52, .bool y52, .int .u32 x53, .bool y53, .int .u64 x54, .bool y54, .int .u64 x56, .bool y56, .string x57, .bool y57, .string x58, .bool y58] 25))
      have c3 := blk_cell hb 3
      have c6 := blk_cell hb 6
      have c7 := blk_cell hb 7
      clear HG hb
      generalize W.alloc (.cells #[.bool x49, .bool y49, .int .i64 x50, .bool y50, .int .i32 x51, .bool y51, .int .u64 x52, .bool y52, .int .u32 x53, .bool y53, .int .u64 x54, .bool y54, .int .u64 x56, .bool y56, .string x57, .bool y57, .string x58, .bool y58] 25) = W2 at c3 c6 c7 HG2 ⊢
      generalize W.heap.size = N at c3 c6 c7 ⊢
      obtain ⟨rfl, rfl⟩ := O52.out.1 ⟨by omega, by omega⟩
      clear O52
      by_cases h63 : n ≤ 9223372036854775807
      · obtain ⟨rfl, rfl⟩ := O50.out.1 ⟨by omega, by omega⟩
        have q63 : decide ((n : Int) ≤ 9223372036854775807) = true := decide_eq_true (by omega)
        clear O50
        go_wp2
        go_ret
        exact ⟨rfl, HG2.out⟩
      · have := O50.out.2 (by omega)
        subst this
        have q63 : decide ((n : Int) ≤ 9223372036854775807) = false := decide_eq_false (by omega)
        clear O50
        go_wp2
        go_ret
        exact ⟨rfl, HG2.out⟩

  case first =>
  go_wp2_with fail
  go_loopg [9, 10] (n + 1) (fun gk s yv wr => ∃ (y : Nat) (L : List UInt8), s = .string ⟨L.toArray⟩ ∧ yv = .int .u64 (y : Nat) ∧ y < gk ∧ y ≤ n ∧ Hid (w.grownBy wr none) ∧ Hid (digsL 16 true y ++ L = digsL 16 true n))
  case atStart => exact ⟨n, [], rfl, rfl, by omega, by omega, Lib.hid (gr_refl _ _), Lib.hid (by simp)⟩
  case round =>
    obtain ⟨y, L, rfl, rfl, hyg, hyn, HG, HD⟩ := hrel
    by_cases hy : y = 0
    · subst hy
      have hd := HD.out
      rw [digsL_zero, List.nil_append] at hd
      have hd := HD.out
      rw [digsL_zero, List.nil_append] at hd
      have HD2 := Lib.hid hd
      clear HN HL hyg hyn HD HSC hd
      go_wp2
      go_meet
      exact ⟨by rw [HD2.out], HG⟩
    · have hy0 : 0 < (y : Int) := by omega
      have hst := digsL_step (b := 16) true (by decide) hy
      have hd := HD.out
      rw [hst] at hd
      have hLl : L.length ≤ 21 := by
        have := congrArg List.length hd
        simp only [List.length_append, List.length_cons, List.length_nil] at this
        have := HL.out
        omega
      have HD2 := Lib.hid hd
      have HQ := Lib.hid (Nat.div_lt_self (show 0 < y by omega) (show 1 < 16 by decide))
      have HM := Lib.hid (Nat.mod_lt y (show 0 < 16 by decide))
      clear hst hd HD
      go_wp2_with fail
      go_quiet (fail)
      rename_i nq
      have HG2 := Lib.hid (gr_drewN HG.out nq)
      generalize wr.drewN nq = W2 at HG2 ⊢
      rw [HSC.out (y % 16) (by have := HM.out; omega)]
      go_wp2
      go_roundg (y)
      case measure => omega
      case rel =>
        refine ⟨y / 16, chD true (y % 16) :: L, ?_, ?_, HQ.out, by have := HQ.out; omega, HG2, Lib.hid (by rw [← HD2.out]; simp)⟩
        · exact congrArg Value.string (str_app [_] L)
        · refine congrArg (Value.int .u64) ?_; omega

set_option maxHeartbeats 4000000 in
set_option maxRecDepth 1000000 in
theorem hex_walk_true_false (n : Nat) (w : World) (h1 : n ≤ 18446744073709551615) (hF : HasPF w) :
    Calls Tryz.prog 3 #[.int .u64 (n : Nat), .bool true, .bool false] w fun e w' => e = .returned (.bool true) ∧ w.grownBy w' none := by
  have HN := Lib.hid (fun (w1 : World) (A : Option Addr) (c : Nat) (hg : w.grownBy w1 none) (h : IsB w1 A c (hexT true false n)) => scalar_hexT n true false h1 h (hF.kept hg))
  have hlen : (digsL 8 false n).length ≤ 22 := digsL_len false (by decide) 22 n (by omega)
  have HL := Lib.hid hlen
  clear hlen hF
  go_enter Tryz.func3, Tryz.ntmps3
  go_upto_block 0 with fail
  have hSz : (⟨#[48, 49, 50, 51, 52, 53, 54, 55, 56, 57, 97, 98, 99, 100, 101, 102]⟩ : ByteArray).size = 16 := rfl
  have hSc := setCut_false
  generalize (⟨#[48, 49, 50, 51, 52, 53, 54, 55, 56, 57, 97, 98, 99, 100, 101, 102]⟩ : ByteArray) = S at hSz hSc ⊢
  have HSC := Lib.hid hSc
  clear hSc
  go_cut [9, 10] from 17 to 32 (fun s y w2 => s = .string ⟨(digsL 8 false n).toArray⟩ ∧ Hid (w.grownBy w2 none))
  case rest =>
    obtain ⟨rfl, HG⟩ := hcut
    have hLl := HL.out
    have hN := HN.out
    have hTl := hexT_len true false n h1
    have hcat : (⟨#[48]⟩ : ByteArray) ++ ⟨(digsL 8 false n).toArray⟩ = ⟨(hexT true false n).toArray⟩ := str_app [48] _
    generalize digsL 8 false n = L at hLl hcat ⊢
    generalize hexT true false n = T at hN hTl hcat
    have HN2 := Lib.hid hN
    clear hN HN HL HSC
    go_upto_if 33 with fail
    go_cut [9] from 34 to 39 (fun a w2 => a = .string ⟨T.toArray⟩ ∧ Hid (w.grownBy w2 none))
    case first =>
      go_wp2
      all_goals (go_meet; exact ⟨rfl, HG⟩)
    case rest =>
      clear HG
      obtain ⟨rfl, HG⟩ := hcut
      clear hcat hLl
      have hc := conv_bytes T
      have hB := Lib.hid (fun w1 => bytesWorld_isB w1 T (by omega))
      go_wp2_with fail
      have hg2 := gr_trans HG.out (bytesWorld_gr wc ⟨T.toArray⟩)
      have HJ := Lib.hid (HN2.out _ _ _ hg2 (hB.out wc))
      have HG2 := Lib.hid hg2
      clear hg2 HG HN2 hB hc
      (with_reducible refine HJ.out.mono ?_)
      rintro e W ⟨⟨vs, rfl, hv⟩, hg⟩
      obtain ⟨x49, y49, x50, y50, x51, y51, x52, y52, x53, y53, x54, y54, x56, y56, x57, y57, x58, y58, rfl, o50, o51, o52, o53⟩ := hv
      have HG := Lib.hid (gr_trans HG2.out hg)
      have O50 := Lib.hid o50
      have O52 := Lib.hid o52
      clear hg o50 o51 o52 o53 HJ HG2
      generalize Lib.bytesWorld wc 5 ⟨T.toArray⟩ = W0 at *
      go_upto_region 17 with fail
      have hb := blk_new W (.cells #[.bool x49, .bool y49, .int .i64 x50, .bool y50, .int .i32 x51, .bool y51, .int .u64 x52, .bool y52, .int .u32 x53, .bool y53, .int .u64 x54, .bool y54, .int .u64 x56, .bool y56, .string x57, .bool y57, .string x58, .bool y58] 25)
      have HG2 := Lib.hid (gr_alloc HG.out (.cells #[.bool x49, .bool y49, .int .i64 x50, .bool y50, .int .i32 x51, .bool y51, .int .u64 x52, .bool y52, .int .u32 x53, .bool y53, .int .u64 x54, .bool y54, .int .u64 x56, .bool y56, .string x57, .bool y57, .string x58, .bool y58] 25))
      have c3 := blk_cell hb 3
      have c6 := blk_cell hb 6
      have c7 := blk_cell hb 7
      clear HG hb
      generalize W.alloc (.cells #[.bool x49, .bool y49, .int .i64 x50, .bool y50, .int .i32 x51, .bool y51, .int .u64 x52, .bool y52, .int .u32 x53, .bool y53, .int .u64 x54, .bool y54, .int .u64 x56, .bool y56, .string x57, .bool y57, .string x58, .bool y58] 25) = W2 at c3 c6 c7 HG2 ⊢
      generalize W.heap.size = N at c3 c6 c7 ⊢
      obtain ⟨rfl, rfl⟩ := O52.out.1 ⟨by omega, by omega⟩
      clear O52
      by_cases h63 : n ≤ 9223372036854775807
      · obtain ⟨rfl, rfl⟩ := O50.out.1 ⟨by omega, by omega⟩
        have q63 : decide ((n : Int) ≤ 9223372036854775807) = true := decide_eq_true (by omega)
        clear O50
        go_wp2
        go_ret
        exact ⟨rfl, HG2.out⟩
      · have := O50.out.2 (by omega)
        subst this
        have q63 : decide ((n : Int) ≤ 9223372036854775807) = false := decide_eq_false (by omega)
        clear O50
        go_wp2
        go_ret
        exact ⟨rfl, HG2.out⟩

  case first =>
  go_wp2_with fail
  go_loopg [9, 10] (n + 1) (fun gk s yv wr => ∃ (y : Nat) (L : List UInt8), s = .string ⟨L.toArray⟩ ∧ yv = .int .u64 (y : Nat) ∧ y < gk ∧ y ≤ n ∧ Hid (w.grownBy wr none) ∧ Hid (digsL 8 false y ++ L = digsL 8 false n))
  case atStart => exact ⟨n, [], rfl, rfl, by omega, by omega, Lib.hid (gr_refl _ _), Lib.hid (by simp)⟩
  case round =>
    obtain ⟨y, L, rfl, rfl, hyg, hyn, HG, HD⟩ := hrel
    by_cases hy : y = 0
    · subst hy
      have hd := HD.out
      rw [digsL_zero, List.nil_append] at hd
      have hd := HD.out
      rw [digsL_zero, List.nil_append] at hd
      have HD2 := Lib.hid hd
      clear HN HL hyg hyn HD HSC hd
      go_wp2
      go_meet
      exact ⟨by rw [HD2.out], HG⟩
    · have hy0 : 0 < (y : Int) := by omega
      have hst := digsL_step (b := 8) false (by decide) hy
      have hd := HD.out
      rw [hst] at hd
      have hLl : L.length ≤ 21 := by
        have := congrArg List.length hd
        simp only [List.length_append, List.length_cons, List.length_nil] at this
        have := HL.out
        omega
      have HD2 := Lib.hid hd
      have HQ := Lib.hid (Nat.div_lt_self (show 0 < y by omega) (show 1 < 8 by decide))
      have HM := Lib.hid (Nat.mod_lt y (show 0 < 8 by decide))
      clear hst hd HD
      go_wp2_with fail
      go_quiet (fail)
      rename_i nq
      have HG2 := Lib.hid (gr_drewN HG.out nq)
      generalize wr.drewN nq = W2 at HG2 ⊢
      rw [HSC.out (y % 8) (by have := HM.out; omega)]
      go_wp2
      go_roundg (y)
      case measure => omega
      case rel =>
        refine ⟨y / 8, chD false (y % 8) :: L, ?_, ?_, HQ.out, by have := HQ.out; omega, HG2, Lib.hid (by rw [← HD2.out]; simp)⟩
        · exact congrArg Value.string (str_app [_] L)
        · refine congrArg (Value.int .u64) ?_; omega

set_option maxHeartbeats 4000000 in
set_option maxRecDepth 1000000 in
theorem hex_walk_true_true (n : Nat) (w : World) (h1 : n ≤ 18446744073709551615) (hF : HasPF w) :
    Calls Tryz.prog 3 #[.int .u64 (n : Nat), .bool true, .bool true] w fun e w' => e = .returned (.bool true) ∧ w.grownBy w' none := by
  have HN := Lib.hid (fun (w1 : World) (A : Option Addr) (c : Nat) (hg : w.grownBy w1 none) (h : IsB w1 A c (hexT true true n)) => scalar_hexT n true true h1 h (hF.kept hg))
  have hlen : (digsL 8 true n).length ≤ 22 := digsL_len true (by decide) 22 n (by omega)
  have HL := Lib.hid hlen
  clear hlen hF
  go_enter Tryz.func3, Tryz.ntmps3
  go_upto_block 0 with fail
  have hSz : (⟨#[48, 49, 50, 51, 52, 53, 54, 55, 56, 57, 65, 66, 67, 68, 69, 70]⟩ : ByteArray).size = 16 := rfl
  have hSc := setCut_true
  generalize (⟨#[48, 49, 50, 51, 52, 53, 54, 55, 56, 57, 65, 66, 67, 68, 69, 70]⟩ : ByteArray) = S at hSz hSc ⊢
  have HSC := Lib.hid hSc
  clear hSc
  go_cut [9, 10] from 17 to 32 (fun s y w2 => s = .string ⟨(digsL 8 true n).toArray⟩ ∧ Hid (w.grownBy w2 none))
  case rest =>
    obtain ⟨rfl, HG⟩ := hcut
    have hLl := HL.out
    have hN := HN.out
    have hTl := hexT_len true true n h1
    have hcat : (⟨#[48]⟩ : ByteArray) ++ ⟨(digsL 8 true n).toArray⟩ = ⟨(hexT true true n).toArray⟩ := str_app [48] _
    generalize digsL 8 true n = L at hLl hcat ⊢
    generalize hexT true true n = T at hN hTl hcat
    have HN2 := Lib.hid hN
    clear hN HN HL HSC
    go_upto_if 33 with fail
    go_cut [9] from 34 to 39 (fun a w2 => a = .string ⟨T.toArray⟩ ∧ Hid (w.grownBy w2 none))
    case first =>
      go_wp2
      all_goals (go_meet; exact ⟨rfl, HG⟩)
    case rest =>
      clear HG
      obtain ⟨rfl, HG⟩ := hcut
      clear hcat hLl
      have hc := conv_bytes T
      have hB := Lib.hid (fun w1 => bytesWorld_isB w1 T (by omega))
      go_wp2_with fail
      have hg2 := gr_trans HG.out (bytesWorld_gr wc ⟨T.toArray⟩)
      have HJ := Lib.hid (HN2.out _ _ _ hg2 (hB.out wc))
      have HG2 := Lib.hid hg2
      clear hg2 HG HN2 hB hc
      (with_reducible refine HJ.out.mono ?_)
      rintro e W ⟨⟨vs, rfl, hv⟩, hg⟩
      obtain ⟨x49, y49, x50, y50, x51, y51, x52, y52, x53, y53, x54, y54, x56, y56, x57, y57, x58, y58, rfl, o50, o51, o52, o53⟩ := hv
      have HG := Lib.hid (gr_trans HG2.out hg)
      have O50 := Lib.hid o50
      have O52 := Lib.hid o52
      clear hg o50 o51 o52 o53 HJ HG2
      generalize Lib.bytesWorld wc 5 ⟨T.toArray⟩ = W0 at *
      go_upto_region 17 with fail
      have hb := blk_new W (.cells #[.bool x49, .bool y49, .int .i64 x50, .bool y50, .int .i32 x51, .bool y51, .int .u64 x52, .bool y52, .int .u32 x53, .bool y53, .int .u64 x54, .bool y54, .int .u64 x56, .bool y56, .string x57, .bool y57, .string x58, .bool y58] 25)
      have HG2 := Lib.hid (gr_alloc HG.out (.cells #[.bool x49, .bool y49, .int .i64 x50, .bool y50, .int .i32 x51, .bool y51, .int .u64 x52, .bool y52, .int .u32 x53, .bool y53, .int .u64 x54, .bool y54, .int .u64 x56, .bool y56, .string x57, .bool y57, .string x58, .bool y58] 25))
      have c3 := blk_cell hb 3
      have c6 := blk_cell hb 6
      have c7 := blk_cell hb 7
      clear HG hb
      generalize W.alloc (.cells #[.bool x49, .bool y49, .int .i64 x50, .bool y50, .int .i32 x51, .bool y51, .int .u64 x52, .bool y52, .int .u32 x53, .bool y53, .int .u64 x54, .bool y54, .int .u64 x56, .bool y56, .string x57, .bool y57, .string x58, .bool y58] 25) = W2 at c3 c6 c7 HG2 ⊢
      generalize W.heap.size = N at c3 c6 c7 ⊢
      obtain ⟨rfl, rfl⟩ := O52.out.1 ⟨by omega, by omega⟩
      clear O52
      by_cases h63 : n ≤ 9223372036854775807
      · obtain ⟨rfl, rfl⟩ := O50.out.1 ⟨by omega, by omega⟩
        have q63 : decide ((n : Int) ≤ 9223372036854775807) = true := decide_eq_true (by omega)
        clear O50
        go_wp2
        go_ret
        exact ⟨rfl, HG2.out⟩
      · have := O50.out.2 (by omega)
        subst this
        have q63 : decide ((n : Int) ≤ 9223372036854775807) = false := decide_eq_false (by omega)
        clear O50
        go_wp2
        go_ret
        exact ⟨rfl, HG2.out⟩

  case first =>
  go_wp2_with fail
  go_loopg [9, 10] (n + 1) (fun gk s yv wr => ∃ (y : Nat) (L : List UInt8), s = .string ⟨L.toArray⟩ ∧ yv = .int .u64 (y : Nat) ∧ y < gk ∧ y ≤ n ∧ Hid (w.grownBy wr none) ∧ Hid (digsL 8 true y ++ L = digsL 8 true n))
  case atStart => exact ⟨n, [], rfl, rfl, by omega, by omega, Lib.hid (gr_refl _ _), Lib.hid (by simp)⟩
  case round =>
    obtain ⟨y, L, rfl, rfl, hyg, hyn, HG, HD⟩ := hrel
    by_cases hy : y = 0
    · subst hy
      have hd := HD.out
      rw [digsL_zero, List.nil_append] at hd
      have hd := HD.out
      rw [digsL_zero, List.nil_append] at hd
      have HD2 := Lib.hid hd
      clear HN HL hyg hyn HD HSC hd
      go_wp2
      go_meet
      exact ⟨by rw [HD2.out], HG⟩
    · have hy0 : 0 < (y : Int) := by omega
      have hst := digsL_step (b := 8) true (by decide) hy
      have hd := HD.out
      rw [hst] at hd
      have hLl : L.length ≤ 21 := by
        have := congrArg List.length hd
        simp only [List.length_append, List.length_cons, List.length_nil] at this
        have := HL.out
        omega
      have HD2 := Lib.hid hd
      have HQ := Lib.hid (Nat.div_lt_self (show 0 < y by omega) (show 1 < 8 by decide))
      have HM := Lib.hid (Nat.mod_lt y (show 0 < 8 by decide))
      clear hst hd HD
      go_wp2_with fail
      go_quiet (fail)
      rename_i nq
      have HG2 := Lib.hid (gr_drewN HG.out nq)
      generalize wr.drewN nq = W2 at HG2 ⊢
      rw [HSC.out (y % 8) (by have := HM.out; omega)]
      go_wp2
      go_roundg (y)
      case measure => omega
      case rel =>
        refine ⟨y / 8, chD true (y % 8) :: L, ?_, ?_, HQ.out, by have := HQ.out; omega, HG2, Lib.hid (by rw [← HD2.out]; simp)⟩
        · exact congrArg Value.string (str_app [_] L)
        · refine congrArg (Value.int .u64) ?_; omega

theorem fnTextHex_walk (n : Nat) (oc up : Bool) (w : World) (h1 : n ≤ 18446744073709551615) (hF : HasPF w) :
    Calls Tryz.prog 3 #[.int .u64 (n : Nat), .bool oc, .bool up] w fun e w' => e = .returned (.bool true) ∧ w.grownBy w' none := by
  cases oc
  · cases up
    · exact hex_walk_false_false n w h1 hF
    · exact hex_walk_false_true n w h1 hF
  · cases up
    · exact hex_walk_true_false n w h1 hF
    · exact hex_walk_true_true n w h1 hF
end Go.Proofs.YtlfeolfjlmelpaaGreatDoor
