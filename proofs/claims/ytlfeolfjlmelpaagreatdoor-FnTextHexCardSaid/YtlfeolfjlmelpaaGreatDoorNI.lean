/- NG, NH, NI in one text. -/
import Derived.Test.YtlfeolfjlmelpaaGreatDoorNF
namespace Go.Proofs.YtlfeolfjlmelpaaGreatDoor
open Go.RowKit

set_option maxHeartbeats 2000000 in
set_option maxRecDepth 1000000 in
theorem shiftL_of {w : World} {g : Nat} {ds : Nat → Nat} {nd k : Nat} {dp : Int} {ng tr : Bool} (h : IsD w g ds (nd : Nat) dp ng tr) (hT : HasC w g) (hnd : nd ≤ 800) (h1 : 1 ≤ nd) (hdig : Digs ds nd) (h0 : 49 ≤ ds 0) (hk : 1 ≤ k) (hk2 : k ≤ 60) (hdp : -100000 ≤ dp) (hdp2 : dp ≤ 100000) :
    Calls Tryz.prog 265 #[.pointer (some ⟨g, 0, none⟩), .int .i64 (k : Nat)] w (LSEnds w g ds k dp ng) := by
  have HC := Lib.hid (lshift_of h hT hnd h1 hdig h0 hk hk2 hdp hdp2)
  have c800 := h.cnd
  have e0 : ((nd : Int) == 0) = false := beq_eq_false_iff_ne.2 (by omega)
  have hu : IntKind.u64.wrap (k : Int) = (k : Int) := u64_in _ (by omega) (by omega)
  clear h hT hdig
  go_enter Tryz.func265, Tryz.ntmps265
  go_wp2_with fail
  go_loop [1] (fun x => x = .int .i64 (k : Nat)) (fun _ => 0)
  case atStart => rfl
  case round =>
    subst hrel
    go_wp2_with fail
    (with_reducible refine HC.out.mono ?_)
    rintro e W' ⟨rfl, hr⟩
    have HR := Lib.hid hr
    clear hr
    go_wp2
    go_end0
    exact ⟨rfl, HR.out⟩

set_option maxHeartbeats 2000000 in
set_option maxRecDepth 1000000 in
theorem shiftR_of {w : World} {g : Nat} {ds : Nat → Nat} {nd k : Nat} {dp : Int} {ng tr : Bool} (h : IsD w g ds (nd : Nat) dp ng tr) (hnd : nd ≤ 800) (h1 : 1 ≤ nd) (hdig : Digs ds nd) (h0 : 49 ≤ ds 0) (hk : 1 ≤ k) (hk2 : k ≤ 60) (hdp : -100000 ≤ dp) (hdp2 : dp ≤ 100000) :
    Calls Tryz.prog 265 #[.pointer (some ⟨g, 0, none⟩), .int .i64 (-(k : Nat))] w (RSEnds w g ds k dp ng) := by
  have HC := Lib.hid (rshift_of h hnd h1 hdig h0 hk hk2 hdp hdp2)
  have c800 := h.cnd
  have e0 : ((nd : Int) == 0) = false := beq_eq_false_iff_ne.2 (by omega)
  have hu : IntKind.u64.wrap (k : Int) = (k : Int) := u64_in _ (by omega) (by omega)
  obtain ⟨K, hK⟩ : ∃ K : Int, K = -(k : Int) := ⟨_, rfl⟩
  rw [← hK]
  have k1 : K ≤ -1 := by omega
  have k2 : -60 ≤ K := by omega
  have hneg : -K = (k : Int) := by omega
  clear h hdig hK
  go_enter Tryz.func265, Tryz.ntmps265
  go_wp2_with fail
  go_loop [1] (fun x => x = .int .i64 K) (fun _ => 0)
  case atStart => rfl
  case round =>
    subst hrel
    go_wp2_with fail
    (with_reducible refine HC.out.mono ?_)
    rintro e W' ⟨rfl, hr⟩
    have HR := Lib.hid hr
    clear hr
    go_wp2
    go_end0
    exact ⟨rfl, HR.out⟩
end Go.Proofs.YtlfeolfjlmelpaaGreatDoor
namespace Go.Proofs.YtlfeolfjlmelpaaGreatDoor
open Go.RowKit

def SrEnds (w : World) (e : Ending) (w' : World) : Prop := (∃ b : Bool, e = .returned (.bool b)) ∧ w' = w

set_option maxHeartbeats 2000000 in
set_option maxRecDepth 1000000 in
theorem roundUp_of {w : World} {g : Nat} {ds : Nat → Nat} {nd : Nat} {dp : Int} {ng tr : Bool} (h : IsD w g ds (nd : Nat) dp ng tr) (hnd : nd ≤ 800) (hdig : Digs ds nd) :
    Calls Tryz.prog 291 #[.pointer (some ⟨g, 0, none⟩), .int .i64 dp] w (SrEnds w) := by
  have c800 := h.cnd
  have c803 := h.ctr
  by_cases hn : dp < 0
  · clear h hdig
    go_enter Tryz.func291, Tryz.ntmps291
    go_wp2
    go_ret
    exact ⟨⟨_, rfl⟩, rfl⟩
  · obtain ⟨p, rfl⟩ := Int.eq_ofNat_of_zero_le (show 0 ≤ dp by omega)
    by_cases hp : nd ≤ p
    · clear h hdig hn
      have hp' : (nd : Int) ≤ (p : Int) := by omega
      go_enter Tryz.func291, Tryz.ntmps291
      go_wp2
      go_ret
      exact ⟨⟨_, rfl⟩, rfl⟩
    · have cp := h.d p (by omega)
      have hdg := hdig p (by omega)
      have hp8 : (p : Int) < 800 := by omega
      have hplt : p < nd := by omega
      by_cases hp0 : p = 0
      · subst hp0
        clear h hdig hn hp
        by_cases h5 : ds 0 = 53
        · rw [h5] at cp
          by_cases h1 : 1 = nd
          · subst h1
            cases tr
            · go_enter Tryz.func291, Tryz.ntmps291
              go_wp2
              go_ret
              exact ⟨⟨_, rfl⟩, rfl⟩
            · go_enter Tryz.func291, Tryz.ntmps291
              go_wp2
              go_ret
              exact ⟨⟨_, rfl⟩, rfl⟩
          · have e1 : ((1 : Int) == (nd : Int)) = false := beq_eq_false_iff_ne.2 (by omega)
            clear h1
            go_enter Tryz.func291, Tryz.ntmps291
            go_wp2
            go_ret
            exact ⟨⟨_, rfl⟩, rfl⟩
        · have e1 : (((ds 0 : Nat) : Int) == 53) = false := beq_eq_false_iff_ne.2 (by omega)
          clear h5
          go_enter Tryz.func291, Tryz.ntmps291
          go_wp2
          go_ret
          exact ⟨⟨_, rfl⟩, rfl⟩
      · have cq := h.d (p - 1) (by omega)
        have hdq := hdig (p - 1) (by omega)
        have eq1 : (p : Int) - 1 < 800 := by omega
        have eq0 : 0 ≤ (p : Int) - 1 := by omega
        have hto : ((p : Int) - 1).toNat = p - 1 := by omega
        have hp00 : 0 < p := by omega
        clear h hdig hn hp hp0
        generalize ds (p - 1) = b at cq hdq
        obtain ⟨b0, b1⟩ := hdq
        by_cases h5 : ds p = 53
        · rw [h5] at cp
          by_cases h1 : p + 1 = nd
          · subst h1
            cases tr
            · go_enter Tryz.func291, Tryz.ntmps291
              go_wp2
              go_ret
              exact ⟨⟨_, rfl⟩, rfl⟩
            · go_enter Tryz.func291, Tryz.ntmps291
              go_wp2
              go_ret
              exact ⟨⟨_, rfl⟩, rfl⟩
          · have e1 : ((p : Int) + 1 == (nd : Int)) = false := beq_eq_false_iff_ne.2 (by omega)
            clear h1
            go_enter Tryz.func291, Tryz.ntmps291
            go_wp2
            go_ret
            exact ⟨⟨_, rfl⟩, rfl⟩
        · have e1 : (((ds p : Nat) : Int) == 53) = false := beq_eq_false_iff_ne.2 (by omega)
          clear h5
          go_enter Tryz.func291, Tryz.ntmps291
          go_wp2
          go_ret
          exact ⟨⟨_, rfl⟩, rfl⟩
end Go.Proofs.YtlfeolfjlmelpaaGreatDoor
namespace Go.Proofs.YtlfeolfjlmelpaaGreatDoor
open Go.RowKit

theorem u64_bd (a : Int) : 0 ≤ IntKind.u64.wrap a ∧ IntKind.u64.wrap a < 18446744073709551616 := by rw [wrap_u64']; omega
def RiEnds (w : World) (e : Ending) (w' : World) : Prop := (∃ x : Int, e = .returned (.int .u64 x) ∧ 0 ≤ x ∧ x < 18446744073709551616) ∧ w' = w

set_option maxHeartbeats 2000000 in
set_option maxRecDepth 1000000 in
theorem roundedInt_of {w : World} {g : Nat} {ds : Nat → Nat} {nd : Nat} {dp : Int} {ng tr : Bool} (h : IsD w g ds (nd : Nat) dp ng tr) (hnd : nd ≤ 800) (hdig : Digs ds nd) :
    Calls Tryz.prog 281 #[.pointer (some ⟨g, 0, none⟩)] w (RiEnds w) := by
  have c800 := h.cnd
  have c801 := h.cdp
  have HS := Lib.hid (roundUp_of h hnd hdig)
  have H := Lib.hid h
  have HD := Lib.hid hdig
  clear h hdig
  by_cases hbig : 20 < dp
  · go_enter Tryz.func281, Tryz.ntmps281
    go_wp2
    go_ret
    exact ⟨⟨_, rfl, by decide, by decide⟩, rfl⟩
  · go_enter Tryz.func281, Tryz.ntmps281
    go_wp2_with fail
    go_loop [3, 4] (fun i n => ∃ (k : Nat) (x : Int), i = .int .i64 (k : Nat) ∧ n = .int .u64 x ∧ 0 ≤ x ∧ x < 18446744073709551616 ∧ k ≤ 20) (fun i _ => 20 - (intOf i).toNat)
    case atStart => exact ⟨0, 0, rfl, rfl, by decide, by decide, by decide⟩
    case round =>
      obtain ⟨k, x, rfl, rfl, x0, x1, hk⟩ := hrel
      by_cases hlt : (k : Int) < dp
      · by_cases hkn : k < nd
        · have ck := H.out.d k (by omega)
          have hdg := HD.out k hkn
          generalize ds k = c at ck hdg
          obtain ⟨d0, d1⟩ := hdg
          have hk8 : (k : Int) < 800 := by omega
          go_wp2_with fail
          exact ⟨⟨k + 1, _, rfl, rfl, (u64_bd _).1, (u64_bd _).2, by omega⟩, by simp [intOf]; omega⟩
        · go_wp2_with fail
          go_loop [3, 4] (fun i n => ∃ (k : Nat) (x : Int), i = .int .i64 (k : Nat) ∧ n = .int .u64 x ∧ 0 ≤ x ∧ x < 18446744073709551616 ∧ k ≤ 20) (fun i _ => 20 - (intOf i).toNat)
          case atStart => exact ⟨k, x, rfl, rfl, x0, x1, hk⟩
          case round =>
            obtain ⟨k2, y, rfl, rfl, y0, y1, hk2⟩ := hrel
            by_cases hlt2 : (k2 : Int) < dp
            · go_wp2_with fail
              exact ⟨⟨k2 + 1, _, rfl, rfl, (u64_bd _).1, (u64_bd _).2, by omega⟩, by simp [intOf]; omega⟩
            · go_wp2_with fail
              (with_reducible refine HS.out.mono ?_)
              rintro e W' ⟨⟨b, rfl⟩, rfl⟩
              cases b
              · go_wp2
                go_ret
                exact ⟨⟨_, rfl, y0, y1⟩, rfl⟩
              · have HB := Lib.hid (u64_bd (y + 1))
                go_wp2
                go_ret
                exact ⟨⟨_, rfl, HB.out.1, HB.out.2⟩, rfl⟩
      · go_wp2_with fail
        go_loop [3, 4] (fun i n => ∃ (k : Nat) (x : Int), i = .int .i64 (k : Nat) ∧ n = .int .u64 x ∧ 0 ≤ x ∧ x < 18446744073709551616 ∧ k ≤ 20) (fun i _ => 20 - (intOf i).toNat)
        case atStart => exact ⟨k, x, rfl, rfl, x0, x1, hk⟩
        case round =>
          obtain ⟨k2, y, rfl, rfl, y0, y1, hk2⟩ := hrel
          by_cases hlt2 : (k2 : Int) < dp
          · go_wp2_with fail
            exact ⟨⟨k2 + 1, _, rfl, rfl, (u64_bd _).1, (u64_bd _).2, by omega⟩, by simp [intOf]; omega⟩
          · go_wp2_with fail
            (with_reducible refine HS.out.mono ?_)
            rintro e W' ⟨⟨b, rfl⟩, rfl⟩
            cases b
            · go_wp2
              go_ret
              exact ⟨⟨_, rfl, y0, y1⟩, rfl⟩
            · have HB := Lib.hid (u64_bd (y + 1))
              go_wp2
              go_ret
              exact ⟨⟨_, rfl, HB.out.1, HB.out.2⟩, rfl⟩
end Go.Proofs.YtlfeolfjlmelpaaGreatDoor
