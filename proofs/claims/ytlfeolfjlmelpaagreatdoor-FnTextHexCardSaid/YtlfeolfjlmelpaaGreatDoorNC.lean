/- internal/strconv.rightShift. -/
import Derived.Test.YtlfeolfjlmelpaaGreatDoorNB
import Derived.Deep.CutRange
import Derived.Deep.CutBlock
import Derived.WalkMore
namespace Go.Proofs.YtlfeolfjlmelpaaGreatDoor
open Go.RowKit

/-- Behind the first loop. -/
def RS1 (ds : Nat → Nat) (k : Nat) (rr nn : Nat) : Prop :=
  1 ≤ rr ∧ rr ≤ 20 ∧ 2 ^ k ≤ nn ∧ nn < 10 * 2 ^ k ∧ (ds 0 - 48 < 2 ^ k → 2 ≤ rr) ∧ (2 ^ k ≤ ds 0 - 48 → rr = 1 ∧ nn = ds 0 - 48)

theorem idiv_pow (n k : Nat) : (n : Int) / 2 ^ k = ((n / 2 ^ k : Nat) : Int) := by
  rw [Int.natCast_ediv, Int.natCast_pow]; rfl
theorem div_zero_iff {n k : Nat} (h : n < 2 ^ k) : ((n : Int) / 2 ^ k == 0) = true := by
  rw [idiv_pow, Nat.div_eq_of_lt h]; rfl
theorem div_pos_iff {n k : Nat} (h : 2 ^ k ≤ n) : ((n : Int) / 2 ^ k == 0) = false := by
  rw [idiv_pow]
  have : 0 < n / 2 ^ k := Nat.div_pos h (Nat.two_pow_pos k)
  exact beq_eq_false_iff_ne.2 (by omega)
theorem pow60 {k : Nat} (h : k ≤ 60) : 2 ^ k ≤ 1152921504606846976 := Nat.le_trans (Nat.pow_le_pow_right (by decide) h) (by decide)
theorem pow_lim {rr nn : Nat} (h : 10 ^ rr ≤ nn) (hn : nn < 1152921504606846976) : rr ≤ 18 := by
  rcases Nat.lt_or_ge 18 rr with h2 | h2
  · have := Nat.pow_le_pow_right (n := 10) (by decide) h2
    have h3 : 10 ^ 19 = 10000000000000000000 := by decide
    omega
  · exact h2

/-- The first loop's head. -/
def RSH (ds : Nat → Nat) (k : Nat) (rr nn : Nat) : Prop := nn = dnum ds rr ∧ (2 ≤ rr → dnum ds (rr - 1) < 2 ^ k) ∧ nn < 10 * 2 ^ k
theorem RSH.next {ds : Nat → Nat} {k rr nn : Nat} (h : RSH ds k rr nn) (hlt : nn < 2 ^ k) (hd : 48 ≤ ds rr ∧ ds rr ≤ 57) : RSH ds k (rr + 1) (nn * 10 + ds rr - 48) := by
  obtain ⟨rfl, h2, h3⟩ := h
  refine ⟨by rw [dnum]; omega, fun _ => by simpa using hlt, by omega⟩
theorem RSH.out {ds : Nat → Nat} {k rr nn : Nat} (h : RSH ds k rr nn) (h0 : 49 ≤ ds 0) (hk : k ≤ 60) (hge : 2 ^ k ≤ nn) : RS1 ds k rr nn := by
  obtain ⟨rfl, h2, h3⟩ := h
  have hp := pow60 hk
  have hpos := Nat.two_pow_pos k
  have hr1 : 1 ≤ rr := by
    rcases rr with _ | rr
    · simp [dnum] at hge
    · omega
  have hmono : ∀ m, dnum ds 1 ≤ dnum ds (m + 1) := fun m => by
    induction m with
    | zero => exact Nat.le_refl _
    | succ m ih => show dnum ds 1 ≤ dnum ds (m + 1) * 10 + (ds (m + 1) - 48); omega
  have e1 : dnum ds 1 = ds 0 - 48 := by simp [dnum]
  refine ⟨hr1, ?_, hge, h3, fun hd => ?_, fun hd => ?_⟩
  · by_cases h22 : rr ≤ 1
    · omega
    · have h5 := h2 (by omega)
      obtain ⟨m, rfl⟩ : ∃ m, rr = m + 2 := ⟨rr - 2, by omega⟩
      have h6 := dnum_ge h0 m
      have h7 : dnum ds (m + 2 - 1) = dnum ds (m + 1) := rfl
      rw [h7] at h5
      have := pow_lim h6 (by omega)
      omega
  · rcases Nat.lt_or_ge rr 2 with h5 | h5
    · have : rr = 1 := by omega
      subst this
      omega
    · exact h5
  · rcases Nat.lt_or_ge rr 2 with h5 | h5
    · have : rr = 1 := by omega
      subst this
      exact ⟨rfl, e1⟩
    · have h6 := h2 h5
      obtain ⟨m, rfl⟩ : ∃ m, rr = m + 2 := ⟨rr - 2, by omega⟩
      have := hmono m
      have h7 : dnum ds (m + 2 - 1) = dnum ds (m + 1) := rfl
      omega
/-- The inner loop's head. -/
def RSI (ds : Nat → Nat) (k : Nat) (rr nn : Nat) : Prop := 1 ≤ rr ∧ 10 ^ (rr - 1) ≤ nn ∧ nn < 10 * 2 ^ k ∧ (nn < 2 ^ k ∨ 2 ≤ rr) ∧ ds 0 - 48 < 2 ^ k ∧ rr ≤ 20
theorem RSI.of {ds : Nat → Nat} {k rr nn : Nat} (h : RSH ds k rr nn) (h0 : 49 ≤ ds 0) (hk : k ≤ 60) (hlt : nn < 2 ^ k) (hr : 1 ≤ rr) : RSI ds k rr nn := by
  obtain ⟨rfl, h2, h3⟩ := h
  have hp := pow60 hk
  obtain ⟨m, rfl⟩ : ∃ m, rr = m + 1 := ⟨rr - 1, by omega⟩
  have h6 := dnum_ge h0 m
  have hmono : ∀ m, dnum ds 1 ≤ dnum ds (m + 1) := fun m => by
    induction m with
    | zero => exact Nat.le_refl _
    | succ m ih => show dnum ds 1 ≤ dnum ds (m + 1) * 10 + (ds (m + 1) - 48); omega
  have e1 : dnum ds 1 = ds 0 - 48 := by simp [dnum]
  have := hmono m
  have h8 := pow_lim h6 (by omega)
  exact ⟨by omega, by simpa using h6, h3, .inl hlt, by omega, by omega⟩
theorem RSI.next {ds : Nat → Nat} {k rr nn : Nat} (h : RSI ds k rr nn) (hk : k ≤ 60) (hlt : nn < 2 ^ k) : RSI ds k (rr + 1) (nn * 10) := by
  obtain ⟨h1, h2, h3, h4, h5, h6⟩ := h
  have hp := pow60 hk
  have h8 := pow_lim h2 (by omega)
  refine ⟨by omega, ?_, by omega, .inr (by omega), h5, by omega⟩
  obtain ⟨m, rfl⟩ : ∃ m, rr = m + 1 := ⟨rr - 1, by omega⟩
  simp only [Nat.add_sub_cancel] at h2 ⊢
  rw [Nat.pow_succ]; omega
theorem RSI.out {ds : Nat → Nat} {k rr nn : Nat} (h : RSI ds k rr nn) (hge : 2 ^ k ≤ nn) : RS1 ds k rr nn := by
  obtain ⟨h1, h2, h3, h4, h5, h6⟩ := h
  exact ⟨h1, h6, hge, h3, fun _ => by omega, fun _ => by omega⟩

theorem mask_of {k : Nat} (hk : k ≤ 60) : IntKind.u64.wrap (IntKind.u64.wrap (2 ^ k) - 1) = ((2 ^ k - 1 : Nat) : Int) := by
  have h1 := pow60 hk
  have h2 := Nat.two_pow_pos k
  have h3 : (2 : Int) ^ k = ((2 ^ k : Nat) : Int) := by rw [Int.natCast_pow]; rfl
  have h4 : IntKind.u64.wrap ((2 ^ k : Nat) : Int) = ((2 ^ k : Nat) : Int) := u64_in _ (by omega) (by omega)
  rw [h3, h4, u64_in _ (by omega) (by omega)]
  omega
theorem and_mask {k n : Nat} (hk : k ≤ 60) (hn : n < 18446744073709551616) : bits .and .u64 (n : Int) ((2 ^ k - 1 : Nat) : Int) = ((n % 2 ^ k : Nat) : Int) := by
  have h1 := pow60 hk
  rw [u64_and_nat n (2 ^ k - 1) hn (by omega), Nat.and_two_pow_sub_one_eq_mod]

/-- The third loop's head. -/
def RL3 (w0 : World) (g : Nat) (ds : Nat → Nat) (nd k : Nat) (dp : Int) (ng tr : Bool) (rr0 nn0 gk rr ww nn : Nat) (wr : World) : Prop :=
  gk = nd - rr ∧ (rr ≤ nd ∨ ww = 0) ∧ rr = rr0 + ww ∧ nn < 10 * 2 ^ k ∧ (∃ es, IsD wr g es (nd : Nat) dp ng tr ∧ (∀ i, ww ≤ i → es i = ds i) ∧ Digs es ww ∧ (0 < ww → es 0 = 48 + nn0 / 2 ^ k)) ∧ (ww = 0 → nn = nn0) ∧ w0.grownBy wr (some g)
/-- The fourth loop's head. -/
def RL4 (w0 : World) (g nd k : Nat) (dp : Int) (ng : Bool) (nn0 gk ww nn : Nat) (wr : World) : Prop :=
  (∃ v, gk = k + 1 - v ∧ v ≤ k + 1 ∧ (v ≤ k ∨ nn = 0) ∧ 2 ^ v ∣ nn) ∧ nn < 10 * 2 ^ k ∧ ww ≤ 800 ∧ (∃ es tr, IsD wr g es (nd : Nat) dp ng tr ∧ Digs es ww ∧ (0 < ww → es 0 = 48 + nn0 / 2 ^ k)) ∧ (ww = 0 → nn = nn0) ∧ w0.grownBy wr (some g)
theorem digs_upd {es : Nat → Nat} {n b : Nat} (h : Digs es n) (hb : 48 ≤ b ∧ b ≤ 57) : Digs (upd es n b) (n + 1) := fun i hi => by
  by_cases hin : i = n
  · subst hin; rw [upd_same]; exact hb
  · rw [upd_other _ _ hin]; exact h i (by omega)
theorem RL3.next {w0 wr w1 : World} {g : Nat} {ds : Nat → Nat} {nd k : Nat} {dp : Int} {ng tr : Bool} {rr0 nn0 gk rr ww nn : Nat} (h : RL3 w0 g ds nd k dp ng tr rr0 nn0 gk rr ww nn wr) (hrr : 1 ≤ rr0) (hlt : rr < nd) (hnd : nd ≤ 800)
    (hd : 48 ≤ ds rr ∧ ds rr ≤ 57) (hw : w1 = wr.setCell ⟨g, ww, none⟩ (.int .u8 ((48 + nn / 2 ^ k : Nat) : Nat))) :
    RL3 w0 g ds nd k dp ng tr rr0 nn0 (nd - (rr + 1)) (rr + 1) (ww + 1) (nn % 2 ^ k * 10 + ds rr - 48) w1 := by
  obtain ⟨-, h2, h3, h4, ⟨es, h5, h6, h7, h8⟩, h9, h10⟩ := h
  subst hw
  have hpos := Nat.two_pow_pos k
  have hq : nn / 2 ^ k < 10 := Nat.div_lt_of_lt_mul (by rw [Nat.mul_comm]; exact h4)
  have hm := Nat.mod_lt nn hpos
  have hb : 48 ≤ 48 + nn / 2 ^ k ∧ 48 + nn / 2 ^ k ≤ 57 := by generalize nn / 2 ^ k = Q at hq; omega
  refine ⟨rfl, .inl hlt, by omega, by omega, ⟨_, h5.setD ww _ (by omega), fun i hi => ?_, digs_upd h7 hb, fun _ => ?_⟩, fun h => by omega, gr_set h10 (.inr rfl) _⟩
  · rw [upd_other _ _ (by omega)]; exact h6 i (by omega)
  · by_cases hw0 : ww = 0
    · subst hw0; rw [upd_same, h9 rfl]
    · rw [upd_other _ _ (by omega)]; exact h8 (by omega)
theorem RL3.exit {w0 wr : World} {g : Nat} {ds : Nat → Nat} {nd k : Nat} {dp : Int} {ng tr : Bool} {rr0 nn0 gk rr ww nn : Nat} (h : RL3 w0 g ds nd k dp ng tr rr0 nn0 gk rr ww nn wr) (hnd : nd ≤ 800) : RL4 w0 g nd k dp ng nn0 (k + 1) ww nn wr := by
  obtain ⟨-, h2, h3, h4, ⟨es, h5, h6, h7, h8⟩, h9, h10⟩ := h
  exact ⟨⟨0, rfl, by omega, .inl (by omega), by simp⟩, h4, by omega, ⟨es, tr, h5, h7, h8⟩, h9, h10⟩
theorem RL4.step {k v nn : Nat} (hn : nn ≠ 0) (h1 : v ≤ k + 1) (h2 : v ≤ k ∨ nn = 0) (h3 : 2 ^ v ∣ nn) : ∃ v', k + 1 - v' < k + 1 - v ∧ v' ≤ k + 1 ∧ (v' ≤ k ∨ nn % 2 ^ k * 10 = 0) ∧ 2 ^ v' ∣ nn % 2 ^ k * 10 := by
  have hvk : v ≤ k := by omega
  refine ⟨v + 1, by omega, by omega, ?_, ?_⟩
  · by_cases h : v + 1 ≤ k
    · exact .inl h
    · have : v = k := by omega
      subst this
      right
      rw [Nat.mod_eq_zero_of_dvd h3]
  · have h5 : 2 ^ v ∣ nn % 2 ^ k := (Nat.dvd_mod_iff (Nat.pow_dvd_pow 2 hvk)).2 h3
    obtain ⟨c, hc⟩ := h5
    exact ⟨c * 5, by rw [hc, Nat.pow_succ, Nat.mul_assoc, Nat.mul_assoc]; congr 1; omega⟩

/-- What rightShift leaves: the point has gone down by one less than the digits that were taken first. -/
def RSEnds (w : World) (g : Nat) (ds : Nat → Nat) (k : Nat) (dp : Int) (ng : Bool) (e : Ending) (w' : World) : Prop :=
  e = .returned (.tuple #[]) ∧ ∃ (es : Nat → Nat) (m r : Nat) (tr : Bool), IsD w' g es (m : Nat) (dp - ((r : Int) - 1)) ng tr ∧ 1 ≤ m ∧ m ≤ 800 ∧ Digs es m ∧ 49 ≤ es 0 ∧ 1 ≤ r ∧ r ≤ 20 ∧ (ds 0 - 48 < 2 ^ k → 2 ≤ r) ∧ (2 ^ k ≤ ds 0 - 48 → r = 1 ∧ es 0 = 48 + (ds 0 - 48) / 2 ^ k) ∧ w.grownBy w' (some g)

set_option maxHeartbeats 4000000 in
set_option maxRecDepth 1000000 in
theorem rshift_of {w : World} {g : Nat} {ds : Nat → Nat} {nd k : Nat} {dp : Int} {ng tr : Bool} (h : IsD w g ds (nd : Nat) dp ng tr) (hnd : nd ≤ 800) (h1 : 1 ≤ nd) (hdig : Digs ds nd) (h0 : 49 ≤ ds 0) (hk : 1 ≤ k) (hk2 : k ≤ 60) (hdp : -100000 ≤ dp) (hdp2 : dp ≤ 100000) :
    Calls Tryz.prog 290 #[.pointer (some ⟨g, 0, none⟩), .int .u64 (k : Nat)] w (RSEnds w g ds k dp ng) := by
  have H := Lib.hid h
  have HD := Lib.hid hdig
  have c800 := h.cnd
  clear h hdig
  go_enter Tryz.func290, Tryz.ntmps290
  go_upto_block 0 with fail
  go_cut [4, 6] from 12 to 48 (fun r n w2 => ∃ rr nn : Nat, r = .int .i64 (rr : Nat) ∧ n = .int .u64 (nn : Nat) ∧ w2 = w ∧ Hid (RS1 ds k rr nn))
  case first =>
    go_wp2_with fail
    go_loop [4, 6] (fun r n => ∃ rr nn : Nat, r = .int .i64 (rr : Nat) ∧ n = .int .u64 (nn : Nat) ∧ rr ≤ nd ∧ Hid (RSH ds k rr nn)) (fun r _ => nd - (intOf r).toNat)
    case atStart => exact ⟨0, 0, rfl, rfl, by omega, rfl, fun h => by omega, by have := Nat.two_pow_pos k; omega⟩
    case round =>
      obtain ⟨rr, nn, rfl, rfl, hr, hR⟩ := hrel
      by_cases hlt : nn < 2 ^ k
      · have hq := div_zero_iff hlt
        have hp := pow60 hk2
        have hn60 : nn < 1152921504606846976 := by omega
        have HL := Lib.hid hlt
        clear hlt hp
        by_cases hrn : rr < nd
        · have hc := H.out.d rr (by omega)
          have hdg := HD.out rr hrn
          have hN := hR.out.next HL.out hdg
          generalize ds rr = c at hc hdg hN
          obtain ⟨d0, d1⟩ := hdg
          have HN := Lib.hid hN
          clear hN
          go_wp2_with fail
          exact ⟨⟨rr + 1, nn * 10 + c - 48, rfl, by congr 1; omega, by omega, HN⟩, by simp [intOf]; omega⟩
        · have hre : rr = nd := by omega
          subst hre
          have hI := RSI.of hR.out h0 hk2 HL.out h1
          have hn1 : ((nn : Int) == 0) = false := beq_eq_false_iff_ne.2 (by have := hI.2.1; have := Nat.pow_pos (n := rr - 1) (show 0 < 10 by decide); omega)
          have HI := Lib.hid hI
          clear hI
          go_wp2_with fail
          clear hR hq hn60 HL hn1 hr hrn
          go_loop [4, 6] (fun r n => ∃ rr nn : Nat, r = .int .i64 (rr : Nat) ∧ n = .int .u64 (nn : Nat) ∧ Hid (RSI ds k rr nn)) (fun r _ => 20 - (intOf r).toNat)
          case atStart => exact ⟨rr, nn, rfl, rfl, HI⟩
          case round =>
            obtain ⟨r2, n2, rfl, rfl, hR⟩ := hrel
            by_cases hlt : n2 < 2 ^ k
            · have hq := div_zero_iff hlt
              have hp := pow60 hk2
              have hn60 : n2 < 1152921504606846976 := by omega
              have hN := hR.out.next hk2 hlt
              have hr20 : r2 + 1 ≤ 20 := hN.2.2.2.2.2
              have HN := Lib.hid hN
              clear hN hlt hp
              go_wp2_with fail
              exact ⟨⟨r2 + 1, n2 * 10, rfl, rfl, HN⟩, by simp [intOf]; omega⟩
            · have hq := div_pos_iff (by omega : 2 ^ k ≤ n2)
              have HO := Lib.hid (hR.out.out (by omega))
              clear hlt
              go_wp2_with fail
              go_meet
              case rel => exact ⟨r2, n2, rfl, rfl, rfl, HO⟩
      · have hq := div_pos_iff (by omega : 2 ^ k ≤ nn)
        have hO := hR.out.out h0 hk2 (by omega)
        have HO := Lib.hid hO
        clear hO hlt
        go_wp2_with fail
        go_meet
        case rel => exact ⟨rr, nn, rfl, rfl, rfl, HO⟩
  case rest =>
    obtain ⟨rr, nn, rfl, rfl, rfl, hR⟩ := hcut
    obtain ⟨r1, r2, n1, n2, r5, r6⟩ := hR.out
    have HR5 := Lib.hid (And.intro r5 r6)
    clear r5 r6
    have c801 := H.out.cdp
    have f801 := H.out.free 801
    clear c800
    go_upto_block 4 with fail
    have hmk := mask_of hk2
    obtain ⟨M, hM⟩ : ∃ M : Int, M = IntKind.u64.wrap (IntKind.u64.wrap (2 ^ k) - 1) := ⟨_, rfl⟩
    rw [← hM] at hmk ⊢
    have HM := Lib.hid hmk
    clear hmk hM c801 f801
    have hst : RL3 wc g ds nd k (dp - ((rr : Int) - 1)) ng tr rr nn (nd - rr) rr 0 nn (wc.setCell ⟨g, 801, none⟩ (.int .i64 (dp - ((rr : Int) - 1)))) :=
      ⟨rfl, .inr rfl, rfl, n2, ⟨ds, H.out.setDp _, fun _ _ => rfl, fun i hi => absurd hi (Nat.not_lt_zero i), fun h => absurd h (Nat.lt_irrefl 0)⟩, fun _ => rfl, gr_set (gr_refl _ _) (.inr rfl) _⟩
    have HST := Lib.hid hst
    clear hst
    go_wp2_with fail
    go_loopg [4, 5, 6] (nd - rr) (fun gk r x n wr => ∃ r3 w3 n3 : Nat, r = .int .i64 (r3 : Nat) ∧ x = .int .i64 (w3 : Nat) ∧ n = .int .u64 (n3 : Nat) ∧ RL3 wc g ds nd k (dp - ((rr : Int) - 1)) ng tr rr nn gk r3 w3 n3 wr)
    case atStart => exact ⟨rr, 0, nn, rfl, rfl, rfl, HST.out⟩
    case round =>
      obtain ⟨r3, w3, n3, rfl, rfl, rfl, hR3⟩ := hrel
      obtain ⟨rfl, e2, e3, e4, ⟨es, e5, e6, e7, e8⟩, e9, e10⟩ := id hR3
      have c800 := e5.cnd
      have f800 := e5.free 800
      have hp := pow60 hk2
      have hr3 : r3 ≤ 820 := by omega
      have H3 := Lib.hid hR3
      by_cases hlt : r3 < nd
      · have cr := e5.d r3 (by omega)
        rw [e6 r3 (by omega)] at cr
        have cw := e5.d w3 (by omega)
        have fw := e5.free w3
        have hdg := HD.out r3 hlt
        have hq := idiv_pow n3 k
        have hq9 : n3 / 2 ^ k < 10 := Nat.div_lt_of_lt_mul (by rw [Nat.mul_comm]; exact e4)
        have hm := Nat.mod_lt n3 (Nat.two_pow_pos k)
        have hand := and_mask (k := k) (n := n3) hk2 (by omega)
        rw [← HM.out] at hand
        have hw3 : w3 < 800 := by omega
        have hN := fun w1 => RL3.next (w1 := w1) hR3 r1 hlt hnd hdg
        have HN := Lib.hid hN
        generalize n3 / 2 ^ k = Q at hq hq9 HN
        generalize hMM : n3 % 2 ^ k = MM at hand hm HN
        generalize ds r3 = c at cr hdg HN
        obtain ⟨d0, d1⟩ := hdg
        have hm60 : MM < 1152921504606846976 := by omega
        have hn60 : n3 < 11529215046068469760 := by omega
        clear hN hR3 e2 e3 e4 e5 e6 e7 e8 e9 e10 hp hm hMM
        go_wp2_with fail
        go_roundg (nd - (r3 + 1))
        case measure => omega
        case rel => 
          exact ⟨r3 + 1, w3 + 1, MM * 10 + c - 48, rfl, rfl, by congr 1; omega, HN.out _ (by rw [show ((48 + Q : Nat) : Int) = (Q : Int) + 48 by omega])⟩
      · have H4 := Lib.hid (H3.out.exit hnd)
        clear e2 e3 e4 e5 e6 e7 e8 e9 e10 hR3 f800 H3 hp hr3
        go_wp2_with fail
        go_loopg [5, 6] (k + 1) (fun gk x n wr => ∃ w3 n3 : Nat, x = .int .i64 (w3 : Nat) ∧ n = .int .u64 (n3 : Nat) ∧ RL4 wc g nd k (dp - ((rr : Int) - 1)) ng nn gk w3 n3 wr)
        case atStart => exact ⟨w3, n3, rfl, rfl, H4.out⟩
        case round =>
          obtain ⟨w4, n4, rfl, rfl, hR4⟩ := hrel
          obtain ⟨⟨v, rfl, v1, v2, v3⟩, a4, a5, ⟨es, tr2, a6, a7, a8⟩, a9, a10⟩ := id hR4
          have c800 := a6.cnd
          have f800 := a6.free 800
          have hp := pow60 hk2
          by_cases hz : n4 = 0
          · subst hz
            have hw1 : 1 ≤ w4 := by
              rcases Nat.eq_zero_or_pos w4 with h | h
              · have := a9 h; have := Nat.two_pow_pos k; omega
              · exact h
            have HI := Lib.hid ((a6.setNd (w4 : Nat)))
            have HG := Lib.hid (gr_set (p := ⟨g, 800, none⟩) a10 (.inr rfl) (.int .i64 (w4 : Nat)))
            have H7 := Lib.hid a7
            have H8 := Lib.hid a8
            clear a4 a6 a7 a8 a9 a10 v1 v2 v3 hR4 H4
            go_wp2_with fail
            (with_reducible refine (trim_of HI.out a5).mono ?_)
            rintro e W' ⟨rfl, m, m1, m2, m3, m4, m5⟩
            have hm0 : 1 ≤ m := by
              rcases Nat.eq_zero_or_pos m with h | h
              · have h48 := m4 0 (by omega) hw1
                have := H8.out hw1
                have := Nat.div_pos n1 (Nat.two_pow_pos k)
                omega
              · exact h
            rw [if_neg (by omega)] at m2
            have hfin : RSEnds wc g ds k dp ng (.returned (.tuple #[])) W' := by
              have h8 := H8.out hw1
              have hdp0 := Nat.div_pos n1 (Nat.two_pow_pos k)
              refine ⟨rfl, es, m, rr, tr2, m2, hm0, by omega, H7.out.mono m1, by omega, r1, r2, HR5.out.1, fun h => ?_, gr_trans HG.out m5⟩
              obtain ⟨q1, q2⟩ := HR5.out.2 h
              exact ⟨q1, by rw [h8, q2]⟩
            have HFin := Lib.hid hfin
            clear m1 m2 m3 m4 m5 hm0 hfin
            go_wp2
            go_end0
            exact HFin.out
          · have hq := idiv_pow n4 k
            have hq9 : n4 / 2 ^ k < 10 := Nat.div_lt_of_lt_mul (by rw [Nat.mul_comm]; exact a4)
            have hm := Nat.mod_lt n4 (Nat.two_pow_pos k)
            have hand := and_mask (k := k) (n := n4) hk2 (by omega)
            rw [← HM.out] at hand
            obtain ⟨v', s1, s2, s3, s4⟩ := RL4.step hz v1 v2 v3
            have hz1 : 0 < n4 := by omega
            have HS := Lib.hid (show 2 ^ v' ∣ n4 % 2 ^ k * 10 ∧ (v' ≤ k ∨ n4 % 2 ^ k * 10 = 0) ∧ n4 % 2 ^ k * 10 < 10 * 2 ^ k ∧ (w4 = 0 → n4 = nn) from ⟨s4, s3, by omega, a9⟩)
            have hm60 : n4 % 2 ^ k < 1152921504606846976 := by omega
            have hn60 : n4 < 11529215046068469760 := by omega
            have H6 := Lib.hid a6
            have H7 := Lib.hid a7
            have H8 := Lib.hid a8
            have HG := Lib.hid a10
            have HQ0 := Lib.hid (show w4 = 0 → n4 / 2 ^ k = nn / 2 ^ k from fun h => by rw [a9 h])
            generalize n4 / 2 ^ k = Q at hq hq9 HQ0
            generalize n4 % 2 ^ k = MM at hand hm HS hm60
            clear a4 a7 a8 a9 a10 v2 v3 s3 s4 hR4 H4 hp hm
            by_cases hw8 : w4 < 800
            · have cw := a6.d w4 hw8
              have fw := a6.free w4
              clear a6
              go_wp2_with fail
              go_roundg (k + 1 - v')
              case measure => omega
              case rel =>
                refine ⟨w4 + 1, MM * 10, rfl, rfl, ⟨v', rfl, s2, HS.out.2.1, HS.out.1⟩, HS.out.2.2.1, by omega, ⟨upd es w4 (48 + Q), tr2, ?_, digs_upd H7.out (by omega), fun _ => ?_⟩, fun h => by omega, gr_set HG.out (.inr rfl) _⟩
                · have := H6.out.setD w4 (48 + Q) hw8
                  rw [show ((48 + Q : Nat) : Int) = (Q : Int) + 48 by omega] at this
                  exact this
                · by_cases hw0 : w4 = 0
                  · subst hw0; rw [upd_same, HQ0.out rfl]
                  · rw [upd_other _ _ (by omega)]; exact H8.out (by omega)
            · have c803 := a6.ctr
              have f803 := a6.free 803
              clear a6
              by_cases hQ : 0 < Q
              · go_wp2_with fail
                go_roundg (k + 1 - v')
                case measure => omega
                case rel =>
                  exact ⟨w4, MM * 10, rfl, rfl, ⟨v', rfl, s2, HS.out.2.1, HS.out.1⟩, HS.out.2.2.1, a5, ⟨es, true, H6.out.setTr true, H7.out, H8.out⟩, fun h => by omega, gr_set HG.out (.inr rfl) _⟩
              · have hQ0 : Q = 0 := by omega
                subst hQ0
                go_wp2_with fail
                go_roundg (k + 1 - v')
                case measure => omega
                case rel =>
                  exact ⟨w4, MM * 10, rfl, rfl, ⟨v', rfl, s2, HS.out.2.1, HS.out.1⟩, HS.out.2.2.1, a5, ⟨es, tr2, H6.out, H7.out, H8.out⟩, fun h => by omega, HG.out⟩
end Go.Proofs.YtlfeolfjlmelpaaGreatDoor
