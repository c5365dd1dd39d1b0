/- laws.FnTextJoined. -/
import Derived.Test.YtlfeolfjlmelpaaGreatDoorPS
import Derived.Test.YtlfeolfjlmelpaaGreatDoorMC
namespace Go.Proofs.YtlfeolfjlmelpaaGreatDoor
open Go.RowKit

theorem EncR.ne {y : List UInt8} : (34 :: y ++ [34] : List UInt8) ≠ [] := by simp
theorem scalar_str {w : World} {A : Option Addr} {c : Nat} {S : List UInt8} {xs : List (List UInt8)} (h : IsB w A c S) (hj : JR (skip S) xs) (hne : xs ≠ []) (hl : S.length ≤ 1000000) (hU : HasU w) :
    Calls Tryz.prog 9 #[.slice A S.length c] w (ScalarEnds w (skip S) (StrVals ⟨xs.flatten.toArray⟩)) := by
  cases S with
  | nil =>
    rw [skip] at hj
    rcases hj.two with ⟨-, h2⟩ | ⟨_, _, _, _, h2, -⟩
    · exact absurd h2 hne
    · cases h2
  | cons x r =>
    have hl2 := skip_len (x :: r)
    refine textScalar_gen h (by omega) rfl ?_ _ (StrVals.shape _) (fun w1 p s0 _ => strVals _ p s0)
    rcases hj.two with ⟨-, h2⟩ | ⟨a, y, t, x1, hT, -, -, -⟩
    · exact absurd h2 hne
    · exact read_str hU hT hj hne (by omega)

/-- A slice of bytes that is handed in, by its cells. -/
structure IsC (w : World) (A : Option Addr) (c : Nat) (xs : List UInt8) : Prop where
  le : xs.length ≤ c
  cap : c ≤ 9223372036854775807
  get : xs ≠ [] → ∃ b o, A = some ⟨b, o, none⟩ ∧ ∀ i (h : i < xs.length), w.cell? ⟨b, o + i, none⟩ = some (by8 xs[i])
/-- Behind the law's loop: the text that was made, and the strings one behind the other. -/
def JEnd (w : World) (xs : List (List UInt8)) (s a : Value) (w2 : World) : Prop := ∃ S, s = .string ⟨S.toArray⟩ ∧ a = .string ⟨xs.flatten.toArray⟩ ∧ PreJ S xs ∧ S.length ≤ 1000000 ∧ w.grownBy w2 none
theorem blank_cell {w : World} (y : Nat) (hy : y < 5) : (w.alloc (.cells #[.string ⟨#[]⟩, .string ⟨#[32]⟩, .string ⟨#[10]⟩, .string ⟨#[9, 32]⟩, .string ⟨#[35, 32, 97, 32, 114, 101, 109, 97, 114, 107, 10]⟩] 9)).cell? ⟨w.heap.size, y, none⟩ = some (.string ⟨(blankL y).toArray⟩) := by
  rw [blk_cell (blk_new w _)]
  have h : y = 0 ∨ y = 1 ∨ y = 2 ∨ y = 3 ∨ y = 4 := by omega
  rcases h with rfl | rfl | rfl | rfl | rfl <;> rfl
theorem blank_len (k : Nat) : (blankL k).length ≤ 11 := by
  unfold blankL; split <;> simp

set_option maxHeartbeats 4000000 in
set_option maxRecDepth 1000000 in
theorem fnTextJoined_walk {w : World} {A B : Option Addr} {c cb : Nat} (xs : List (List UInt8)) (bs : List UInt8) (hS : IsS w A c xs) (hB : IsC w B cb bs) (hU : HasU w) (hT : HasTz w) :
    Calls Tryz.prog 6 #[.slice A xs.length c, .slice B bs.length cb] w fun e w' => e = .returned (.bool true) ∧ w.grownBy w' none := by
  have HZ := Lib.hid (zzFits_of xs hS)
  have hle := hS.le
  have hcap := hS.cap
  have hleB := hB.le
  have hcapB := hB.cap
  have HS := Lib.hid hS
  have HB := Lib.hid hB
  have HU := Lib.hid hU
  have HT := Lib.hid hT
  clear hS hB hU hT
  generalize hn : xs.length = n at hle HZ ⊢
  generalize hm : bs.length = m at hleB ⊢
  have HN := Lib.hid hn
  have HM := Lib.hid hm
  clear hn hm
  by_cases hbig : (2147483647 : Int) < (m : Int)
  · go_enter Tryz.func6, Tryz.ntmps6
    go_wp2_with fail
    refine HZ.out.mono ?_
    clear HZ
    rintro e w2 ⟨⟨b, rfl⟩, rfl⟩
    cases b
    · go_wp2
      go_ret
      exact ⟨rfl, gr_refl _ _⟩
    · go_wp2
      go_ret
      exact ⟨rfl, gr_refl _ _⟩
  by_cases hn0 : n = 0
  · subst hn0
    go_enter Tryz.func6, Tryz.ntmps6
    go_wp2_with fail
    refine HZ.out.mono ?_
    clear HZ
    rintro e w2 ⟨⟨b, rfl⟩, rfl⟩
    cases b
    · go_wp2
      go_ret
      exact ⟨rfl, gr_refl _ _⟩
    · go_wp2
      go_ret
      exact ⟨rfl, gr_refl _ _⟩
  have q0 : ((n : Int) == 0) = false := beq_eq_false_iff_ne.2 (by omega)
  by_cases hn20 : (20 : Int) < (n : Int)
  · go_enter Tryz.func6, Tryz.ntmps6
    go_wp2_with fail
    refine HZ.out.mono ?_
    clear HZ
    rintro e w2 ⟨⟨b, rfl⟩, rfl⟩
    cases b
    · go_wp2
      go_ret
      exact ⟨rfl, gr_refl _ _⟩
    · go_wp2
      go_ret
      exact ⟨rfl, gr_refl _ _⟩
  have qm : decide ((2147483647 : Int) < (m : Int)) = false := decide_eq_false hbig
  have qn : decide ((20 : Int) < (n : Int)) = false := decide_eq_false hn20
  go_enter Tryz.func6, Tryz.ntmps6
  go_wp2_with fail
  refine HZ.out.mono ?_
  clear HZ
  rintro e w2 ⟨⟨b, rfl⟩, rfl⟩
  cases b
  · go_wp2
    go_ret
    exact ⟨rfl, gr_refl _ _⟩
  · go_upto_block 0 with fail
    go_cut [5, 6, 7, 8] from 30 to 60 (fun s a i x w3 => JEnd w2 xs s a w3)
    case rest =>
      obtain ⟨S, rfl, rfl, hP, hSl, hg⟩ := hcut
      have hj := hP.done
      have hne : xs ≠ [] := by rintro rfl; exact hn0 HN.out.symm
      obtain ⟨sb, hsb⟩ : ∃ s : ByteArray, s = ⟨xs.flatten.toArray⟩ := ⟨_, rfl⟩
      have hc := conv_bytes S
      have hB := bytesWorld_isB wc S (by omega)
      have hg2 := gr_trans hg (bytesWorld_gr wc ⟨S.toArray⟩)
      have hSc := scalar_str hB hj hne hSl (HU.out.kept hg2)
      rw [← hsb] at hSc ⊢
      have HJ := Lib.hid hSc
      have HG2 := Lib.hid hg2
      clear hP hj hne hsb hB hg hSc hg2 HU HT HS HB HN HM
      go_wp2_with fail
      (with_reducible refine HJ.out.mono ?_)
      rintro e W ⟨⟨vs, rfl, hv⟩, hg⟩
      obtain ⟨x49, y49, x50, y50, x51, y51, x52, y52, x53, y53, x54, y54, x56, y56, x57, y57, rfl⟩ := hv
      have HG := Lib.hid (gr_trans HG2.out hg)
      clear hg HJ HG2
      generalize Lib.bytesWorld wc 5 ⟨S.toArray⟩ = W0 at *
      go_upto_region 17 with fail
      have hb := blk_new W (.cells #[.bool x49, .bool y49, .int .i64 x50, .bool y50, .int .i32 x51, .bool y51, .int .u64 x52, .bool y52, .int .u32 x53, .bool y53, .int .u64 x54, .bool y54, .int .u64 x56, .bool y56, .string x57, .bool y57, .string sb, .bool true] 25)
      have HG2 := Lib.hid (gr_alloc HG.out (.cells #[.bool x49, .bool y49, .int .i64 x50, .bool y50, .int .i32 x51, .bool y51, .int .u64 x52, .bool y52, .int .u32 x53, .bool y53, .int .u64 x54, .bool y54, .int .u64 x56, .bool y56, .string x57, .bool y57, .string sb, .bool true] 25))
      have c16 := blk_cell hb 16
      have c17 := blk_cell hb 17
      clear HG hb
      generalize W.alloc (.cells #[.bool x49, .bool y49, .int .i64 x50, .bool y50, .int .i32 x51, .bool y51, .int .u64 x52, .bool y52, .int .u32 x53, .bool y53, .int .u64 x54, .bool y54, .int .u64 x56, .bool y56, .string x57, .bool y57, .string sb, .bool true] 25) = W2 at c16 c17 HG2 ⊢
      generalize W.heap.size = N at c16 c17 ⊢
      go_wp2
      go_ret
      exact ⟨rfl, HG2.out⟩
    case first =>
      go_wp2_with fail
      go_loopg [5, 6, 30] (n + 1) (fun gk s f i wr => ∃ (k : Nat) (S F : List UInt8), s = .string ⟨S.toArray⟩ ∧ f = .string ⟨F.toArray⟩ ∧ i = .int .i64 (k : Nat) ∧ k ≤ n ∧ n - k < gk ∧ Hid (PreJ S (xs.take k)) ∧ Hid (F = (xs.take k).flatten) ∧ S.length ≤ 6100 * k ∧ F.length ≤ 1000 * k ∧ Hid (w2.grownBy wr none))
      case atStart => exact ⟨0, [], [], rfl, rfl, rfl, Nat.zero_le _, by omega, Lib.hid (by simpa using PreJ.nil), Lib.hid (by simp), by simp, by simp, Lib.hid (gr_refl _ _)⟩
      case round =>
        obtain ⟨k, S, F, rfl, rfl, rfl, hk, hgk, HP, HF, hSl, hFl, HG⟩ := hrel
        by_cases hlt : k < n
        · have hlt2 : k < xs.length := by have := HN.out; omega
          obtain ⟨b0, o0, rfl, hc⟩ := HS.out.row (by rintro rfl; simp at hlt2)
          have hcell := gr_cell HG.out (hc k hlt2)
          have htk := List.take_succ_eq_append_getElem hlt2
          clear hc
          generalize xs[k] = x at hcell htk
          have HTK := Lib.hid htk
          clear htk
          have hsz : (⟨x.toArray⟩ : ByteArray).size = x.length := by simp [ByteArray.size]
          by_cases h1000 : (1000 : Int) < (x.length : Int)
          · go_wp2
            go_ret
            exact ⟨rfl, HG.out⟩
          · by_cases hkm : k < m
            · have hkm2 : k < bs.length := by have := HM.out; omega
              obtain ⟨bb, ob, rfl, hcb⟩ := HB.out.get (by rintro rfl; simp at hkm2)
              have hcellB := gr_cell (gr_alloc HG.out (.cells #[.string ⟨#[]⟩, .string ⟨#[32]⟩, .string ⟨#[10]⟩, .string ⟨#[9, 32]⟩, .string ⟨#[35, 32, 97, 32, 114, 101, 109, 97, 114, 107, 10]⟩] 9)) (hcb k hkm2)
              clear hcb
              generalize bs[k] = y at hcellB
              have hyw : IntKind.u8.wrap ((y.toNat : Int) % 5) = (y.toNat : Int) % 5 := IntWalk.u8_in _ ⟨by omega, by omega⟩
              have hbc := blank_cell (w := wr) (y.toNat % 5) (by omega)
              have hbl := blank_len (y.toNat % 5)
              have HGW := Lib.hid (gr_alloc HG.out (.cells #[.string ⟨#[]⟩, .string ⟨#[32]⟩, .string ⟨#[10]⟩, .string ⟨#[9, 32]⟩, .string ⟨#[35, 32, 97, 32, 114, 101, 109, 97, 114, 107, 10]⟩] 9))
              go_wp2_with fail
              refine (textQuote_of x (by omega) (HU.out.kept HGW.out) (HT.out.kept HGW.out)).mono ?_
              rintro e w4 ⟨A4, c4, y4, rfl, hq, he, hy4, hg4⟩
              have hst := hq.str
              have HG4 := Lib.hid (gr_trans HGW.out hg4)
              have HE := Lib.hid he
              generalize hQ : (34 :: y4 ++ [34] : List UInt8) = Q at hst ⊢
              have hQl : Q.length ≤ 6002 := by rw [← hQ]; simp only [List.length_cons, List.length_append, List.length_nil]; omega
              have HQ := Lib.hid hQ
              clear hQ hg4 he hy4 hq HGW HG hcell hcellB hbc hyw
              go_wp2_with fail
              go_roundg (n - k)
              case measure => exact hgk
              case rel =>
                refine ⟨k + 1, S ++ (blankL (y.toNat % 5) ++ Q), F ++ x, congrArg Value.string ?_, congrArg Value.string (str_app F x), by go_num, by omega, by omega, Lib.hid ?_, Lib.hid ?_, ?_, ?_, HG4⟩
                · rw [str_app, str_app, List.append_assoc]
                · rw [HTK.out, ← HQ.out]
                  exact HP.out.snoc HE.out (y.toNat % 5)
                · rw [HTK.out, HF.out]; simp
                · simp only [List.length_append]; omega
                · simp only [List.length_append]; omega
            · have HGW := HG
              go_wp2_with fail
              refine (textQuote_of x (by omega) (HU.out.kept HGW.out) (HT.out.kept HGW.out)).mono ?_
              rintro e w4 ⟨A4, c4, y4, rfl, hq, he, hy4, hg4⟩
              have hst := hq.str
              have HG4 := Lib.hid (gr_trans HGW.out hg4)
              have HE := Lib.hid he
              generalize hQ : (34 :: y4 ++ [34] : List UInt8) = Q at hst ⊢
              have hQl : Q.length ≤ 6002 := by rw [← hQ]; simp only [List.length_cons, List.length_append, List.length_nil]; omega
              have HQ := Lib.hid hQ
              clear hQ hg4 he hy4 hq HGW HG hcell 
              go_wp2_with fail
              go_roundg (n - k)
              case measure => exact hgk
              case rel =>
                refine ⟨k + 1, S ++ ([] ++ Q), F ++ x, congrArg Value.string ?_, congrArg Value.string (str_app F x), by go_num, by omega, by omega, Lib.hid ?_, Lib.hid ?_, ?_, ?_, HG4⟩
                · rw [str_app]; simp
                · rw [HTK.out, ← HQ.out]
                  exact HP.out.snoc HE.out 0
                · rw [HTK.out, HF.out]; simp
                · simp only [List.length_append]; simp only [List.length_nil]; omega
                · simp only [List.length_append]; omega
        · have hkn : k = n := by omega
          subst hkn
          have hFe : F = xs.flatten := by rw [HF.out, ← HN.out, List.take_length]
          have hPe : PreJ S xs := by have := HP.out; rwa [← HN.out, List.take_length] at this
          have HFE := Lib.hid hFe
          have HPE := Lib.hid hPe
          clear hFe hPe
          go_wp2
          go_meet
          exact ⟨S, rfl, by rw [HFE.out], HPE.out, by omega, HG.out⟩
end Go.Proofs.YtlfeolfjlmelpaaGreatDoor
