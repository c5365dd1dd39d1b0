/- (*internal/strconv.decimal).floatBits. -/
import Derived.Test.YtlfeolfjlmelpaaGreatDoorNJ
import Derived.Test.YtlfeolfjlmelpaaGreatDoorNL
namespace Go.Proofs.YtlfeolfjlmelpaaGreatDoor
open Go.RowKit

/-- The shifts that bring the point down by so many places. -/
def pw (j : Nat) : Nat := [1, 3, 6, 9, 13, 16, 19, 23, 26].getD j 0
theorem pw_facts : ∀ j, j < 9 → 1 ≤ j → 1 ≤ pw j ∧ pw j ≤ 26 ∧ 2 ^ pw j < 10 ^ j ∧ 10 ^ (j - 1) ≤ 2 ^ pw j ∧ (2 ≤ j → pw j ≤ 3 * (10 * (j - 1) - 8) ∧ 6 ≤ pw j) ∧ (j = 1 → pw j = 3) := by decide

/-- What floatBits reads beside the decimal. -/
def HasT (w : World) (g : Nat) : Prop := HasC w g ∧ 13 ≠ g ∧ w.cell? ⟨13, 0, none⟩ = some (.int .u64 52) ∧ w.cell? ⟨13, 1, none⟩ = some (.int .u64 11) ∧ w.cell? ⟨13, 2, none⟩ = some (.int .i64 (-1023)) ∧
  ∃ b o c, b ≠ g ∧ 15 ≠ g ∧ w.cell? ⟨15, 0, none⟩ = some (.slice (some ⟨b, o, none⟩) 9 c) ∧ ∀ i, i < 9 → w.cell? ⟨b, o + i, none⟩ = some (.int .i64 (pw i : Nat))
theorem HasT.kept {w w' : World} {g : Nat} (h : HasT w g) (hg : w.grownBy w' (some g)) : HasT w' g := by
  obtain ⟨h1, h2, h3, h4, h5, b, o, c, h6, h7, h8, h9⟩ := h
  exact ⟨h1.kept hg, h2, hg.cell h3 (by simp; omega), hg.cell h4 (by simp; omega), hg.cell h5 (by simp; omega), b, o, c, h6, h7, hg.cell h8 (by simp; omega), fun i hi => hg.cell (h9 i hi) (by simp; omega)⟩

def FbEnds (w : World) (g : Nat) (e : Ending) (w' : World) : Prop := (∃ (b : Int) (ovf : Bool), e = .returned (.tuple #[.int .u64 b, .bool ovf])) ∧ w.grownBy w' (some g)

/-- The measure of the first loop. -/
def me1 (dp : Int) (d0 : Nat) : Nat := if 0 < dp then 2 * dp.toNat + (if 56 ≤ d0 then 1 else 0) else 0
/-- The measure of the second loop. -/
def me2 (dp : Int) (d0 : Nat) : Nat := 10 * (-dp).toNat + (57 - d0)
def FL1 (w : World) (g : Nat) (ng : Bool) (gk : Nat) (E : Int) (wr : World) : Prop :=
  ∃ (es : Nat → Nat) (m : Nat) (dp : Int) (tr : Bool), IsD wr g es (m : Nat) dp ng tr ∧ 1 ≤ m ∧ m ≤ 800 ∧ Digs es m ∧ 49 ≤ es 0 ∧ -350 ≤ dp ∧ dp ≤ 310 ∧ gk = me1 dp (es 0) ∧ 0 ≤ E ∧ E + 27 * gk ≤ 27 * 700 ∧ w.grownBy wr (some g)
def FL2 (w : World) (g : Nat) (ng : Bool) (gk : Nat) (E : Int) (wr : World) : Prop :=
  ∃ (es : Nat → Nat) (m : Nat) (dp : Int) (tr : Bool), IsD wr g es (m : Nat) dp ng tr ∧ 1 ≤ m ∧ m ≤ 800 ∧ Digs es m ∧ 49 ≤ es 0 ∧ -350 ≤ dp ∧ dp ≤ 0 ∧ gk = me2 dp (es 0) ∧ E ≤ 27 * 700 ∧ 3 * (gk : Int) ≤ E + 3 * 3600 ∧ w.grownBy wr (some g)

theorem FL1.step {w wr W' : World} {g : Nat} {ng : Bool} {p k E : Nat} {es : Nat → Nat} (hE : (E : Int) + 27 * (me1 p (es 0) : Nat) ≤ 27 * 700) (hp : 1 ≤ p) (hp2 : p ≤ 310) (h57 : es 0 ≤ 57) (h49 : 49 ≤ es 0) (hk : k ≤ 27) (hk6 : 2 ≤ p → 6 ≤ k) (hk3 : p = 1 → k = 3)
    (hg : w.grownBy wr (some g)) {e : Ending} (h : RSEnds wr g es k (p : Nat) ng e W') : e = .returned (.tuple #[]) ∧ ∃ gk' : Nat, gk' < me1 p (es 0) ∧ FL1 w g ng gk' ((E : Int) + (k : Nat)) W' := by
  obtain ⟨rfl, fs, m, r, tr, f1, f2, f3, f4, f5, f6, f7, f8, f9, f10⟩ := h
  have hf0 := (f4 0 f2).2
  refine ⟨rfl, me1 ((p : Int) - ((r : Int) - 1)) (fs 0), ?_, fs, m, _, tr, f1, f2, f3, f4, f5, by omega, by omega, rfl, by omega, ?_, gr_trans hg f10⟩
  all_goals
    have hlt : me1 ((p : Int) - ((r : Int) - 1)) (fs 0) < me1 p (es 0) := by
      by_cases h1 : p = 1
      · subst h1
        obtain rfl := hk3 rfl
        by_cases h8 : 56 ≤ es 0
        · obtain ⟨rfl, h9⟩ := f9 (by omega)
          have : fs 0 = 49 := by rw [h9]; have : es 0 = 56 ∨ es 0 = 57 := by omega
                                 rcases this with h | h <;> rw [h]
          unfold me1
          rw [this]; simp [h8]
        · have := f8 (by omega)
          unfold me1
          rw [if_neg (by omega), if_pos (by omega)]
          omega
      · have h6 : 6 ≤ k := hk6 (by omega)
        have h64 : 2 ^ 6 ≤ 2 ^ k := Nat.pow_le_pow_right (by decide) h6
        have := f8 (by omega)
        unfold me1
        split <;> split <;> (try split) <;> omega
  · exact hlt
  · omega

theorem pow_ub {d k j : Nat} (h : 10 ^ (d - 1) ≤ 2 ^ k) (h2 : 2 ^ k < 10 ^ j) : d ≤ j := by
  rcases Nat.lt_or_ge j d with h3 | h3
  · have := Nat.pow_le_pow_right (n := 10) (by decide) (show j ≤ d - 1 by omega)
    omega
  · exact h3
theorem pow_lb {d k i : Nat} (h : 2 ^ k < 10 ^ (d + 1)) (h2 : 10 ^ i ≤ 2 ^ k) : i ≤ d := by
  rcases Nat.lt_or_ge d i with h3 | h3
  · have := Nat.pow_le_pow_right (n := 10) (by decide) (show d + 1 ≤ i by omega)
    omega
  · exact h3
theorem le_two_pow (k : Nat) : k + 1 ≤ 2 ^ k := by
  induction k with
  | zero => decide
  | succ k ih => rw [Nat.pow_succ]; omega
theorem FL2.step {w wr W' : World} {g : Nat} {ng : Bool} {k : Nat} {E dp : Int} {es : Nat → Nat} (hE : E ≤ 27 * 700) (hE3 : 3 * ((me2 dp (es 0) : Nat) : Int) ≤ E + 3 * 3600) (hdp : -350 ≤ dp) (hdp0 : dp ≤ 0) (h57 : es 0 ≤ 57) (h49 : 49 ≤ es 0) (hk1 : 1 ≤ k)
    (hd : ∀ d', (10 ^ (d' - 1) ≤ 2 ^ k ∧ 2 ^ k < 10 ^ (d' + 1)) → ((es 0 - 48 + 1) * 2 ^ k ≤ 10 → d' = 0) → dp + (d' : Nat) ≤ 0 ∧ (1 ≤ d' → k ≤ 3 * (10 * d' - 8)))
    (hg : w.grownBy wr (some g)) {e : Ending} (h : LSEnds wr g es k dp ng e W') : e = .returned (.tuple #[]) ∧ ∃ gk' : Nat, gk' < me2 dp (es 0) ∧ FL2 w g ng gk' (E - (k : Nat)) W' := by
  obtain ⟨rfl, fs, m, d', tr, f1, f2, f3, f4, f5, f6, f7, f8, f9⟩ := h
  have hf0 := (f4 0 f2).2
  obtain ⟨q1, q2⟩ := hd d' f6 f8
  have hkey : me2 (dp + (d' : Nat)) (fs 0) + 1 ≤ me2 dp (es 0) ∧ 3 * me2 (dp + (d' : Nat)) (fs 0) + k ≤ 3 * me2 dp (es 0) := by
    by_cases h0 : d' = 0
    · have h1 := f7 h0
      subst h0
      have h2 := le_two_pow k
      have h3 : 2 ^ k ≤ (es 0 - 48) * 2 ^ k := Nat.le_mul_of_pos_left _ (by omega)
      have h4 : (es 0 - 48) * 2 ≤ (es 0 - 48) * 2 ^ k := Nat.mul_le_mul_left _ (by omega)
      have h5 : (es 0 - 48) * (k + 1) ≤ (es 0 - 48) * 2 ^ k := Nat.mul_le_mul_left _ h2
      have h6 : (es 0 - 48) + k ≤ (es 0 - 48) * (k + 1) := by
        rw [Nat.mul_add, Nat.mul_one]
        have : k ≤ (es 0 - 48) * k := Nat.le_mul_of_pos_left _ (by omega)
        omega
      unfold me2
      simp only [Int.natCast_zero, Int.add_zero]
      omega
    · have h1 := q2 (by omega)
      unfold me2
      omega
  refine ⟨rfl, me2 (dp + (d' : Nat)) (fs 0), by omega, fs, m, _, tr, f1, f2, f3, f4, f5, by omega, q1, rfl, by omega, by omega, gr_trans hg f9⟩

set_option maxHeartbeats 8000000 in
set_option maxRecDepth 1000000 in
theorem floatBits_of {w : World} {g : Nat} {ds : Nat → Nat} {nd : Nat} {dp : Int} {ng tr : Bool} (h : IsD w g ds (nd : Nat) dp ng tr) (hT : HasT w g) (hnd : nd ≤ 800) (h1 : 1 ≤ nd) (hdig : Digs ds nd) (h0 : 49 ≤ ds 0) (hdp : -330 ≤ dp) (hdp2 : dp ≤ 310) :
    Calls Tryz.prog 249 #[.pointer (some ⟨g, 0, none⟩), .pointer (some ⟨13, 0, none⟩)] w (FbEnds w g) := by
  have H := Lib.hid h
  have HT := Lib.hid hT
  have HD := Lib.hid hdig
  have c800 := h.cnd
  have c801 := h.cdp
  have e0 : ((nd : Int) == 0) = false := beq_eq_false_iff_ne.2 (by omega)
  have H57 := Lib.hid (hdig 0 h1)
  clear h hT hdig
  go_enter Tryz.func249, Tryz.ntmps249
  go_wp2_with fail
  refine wp_scope_goes 2 (fun F hF => ?_)
  have F0 := Lib.hid ((hF 0).trans rfl : F 0 = some _)
  have F1 := Lib.hid ((hF 1).trans rfl : F 1 = some _)
  clear hF
  go_wp2_with fail
  go_loopg [6] (me1 dp (ds 0)) (fun gk x wr => ∃ E : Int, x = .int .i64 E ∧ FL1 w g ng gk E wr)
  case atStart => exact ⟨0, rfl, ds, nd, dp, tr, H.out, h1, hnd, HD.out, h0, by omega, hdp2, rfl, Int.le_refl _, by unfold me1; split <;> (try split) <;> omega, gr_refl _ _⟩
  case round =>
    obtain ⟨E, rfl, es, m, dp, tr, b1, b2, b3, b4, b5, b6, b7, b8, b9, b10, b11⟩ := hrel
    have c801 := b1.cdp
    have HW := Lib.hid (HT.out.kept b11)
    have HG := Lib.hid b11
    have HB := Lib.hid b1
    have HDg := Lib.hid b4
    by_cases hpos : 0 < dp
    · obtain ⟨p, rfl⟩ := Int.eq_ofNat_of_zero_le (show 0 ≤ dp by omega)
      obtain ⟨E, rfl⟩ := Int.eq_ofNat_of_zero_le b9
      have hp1 : 1 ≤ p := by omega
      obtain ⟨-, -, -, -, -, B, o, cc, t1, t2, t3, t4⟩ := HW.out
      have h57 := (b4 0 b2).2
      have hE2 : (E : Int) ≤ 27 * 700 := by omega
      have hpp : p ≤ 310 := by omega
      have HST := Lib.hid (fun (k n : Nat) (W' : World) (e : Ending) (hk : k ≤ 27) (hk6 : 2 ≤ p → 6 ≤ k) (hk3 : p = 1 → k = 3) (h : RSEnds (wr.drewN n) g es k (p : Nat) ng e W') => FL1.step (w := w) (wr := wr.drewN n) (E := E) (by rw [← b8]; exact b10) hp1 hpp h57 b5 hk hk6 hk3 (gr_drewN b11 n) h)
      have HSH := Lib.hid (fun (k n : Nat) (hk1 : 1 ≤ k) (hk : k ≤ 60) => shiftR_of (k := k) (b1.kept (gr_drewN (gr_refl wr none) n)) b3 b2 b4 b5 hk1 hk (by omega) (by omega))
      have HGK := Lib.hid b8
      clear b1 b4 b8 b10 b11 b9
      by_cases h9 : 9 ≤ p
      · have hb9 : decide (9 ≤ p) = true := decide_eq_true h9
        clear t4
        go_wp2_with fail
        go_quiet (fail)
        go_wp2_with fail
        have hC : Calls Tryz.prog 265 #[.pointer (some ⟨g, 0, none⟩), .int .i64 (-27)] (wr.drewN nq) (RSEnds (wr.drewN nq) g es 27 (p : Nat) ng) := HSH.out 27 nq (by decide) (by decide)
        (with_reducible refine hC.mono ?_)
        clear hC
        rintro e W' hr
        obtain ⟨rfl, gk', g1, g2⟩ := HST.out 27 nq W' e (by omega) (by omega) (by omega) hr
        rw [← HGK.out] at g1
        have HR := Lib.hid g2
        clear hr g2
        go_wp2_with fail
        go_roundg gk'
        case measure => exact g1
        case rel => exact ⟨_, rfl, HR.out⟩
      · have hb9 : decide (9 ≤ p) = false := decide_eq_false h9
        have hp8 : (p : Int) < 9 := by omega
        have tp := t4 p (by omega)
        obtain ⟨q1, q2, -, -, q5, q6⟩ := pw_facts p (by omega) hp1
        have HQ := Lib.hid (And.intro q5 q6)
        clear t4 q5 q6
        generalize pw p = k at tp q1 q2 HQ
        go_wp2_with fail
        go_quiet (fail)
        go_wp2_with fail
        go_quiet (fail)
        rename_i nq1 nq2
        go_wp2_with fail
        (with_reducible refine (HSH.out k _ q1 (by omega)).mono ?_)
        rintro e W' hr
        obtain ⟨rfl, gk', g1, g2⟩ := HST.out k _ W' e (by omega) (fun h => (HQ.out.1 h).2) HQ.out.2 hr
        rw [← HGK.out] at g1
        have HR := Lib.hid g2
        clear hr g2
        go_wp2_with fail
        go_roundg gk'
        case measure => exact g1
        case rel => exact ⟨_, rfl, HR.out⟩
    · have hdp0 : dp ≤ 0 := by omega
      have hst : FL2 w g ng (me2 dp (es 0)) E wr := ⟨es, m, dp, tr, b1, b2, b3, b4, b5, b6, hdp0, rfl, by omega, by unfold me2; omega, b11⟩
      have HST := Lib.hid hst
      clear b1 b4 b8 b11 hst
      go_wp2_with fail
      clear c801 hpos HW HG HB HDg b2 b3 b5 b6 b7 b9 b10 hdp0
      go_loopg [6] (me2 dp (es 0)) (fun gk x wr => ∃ E : Int, x = .int .i64 E ∧ FL2 w g ng gk E wr)
      case atStart => exact ⟨E, rfl, HST.out⟩
      case round =>
        obtain ⟨E, rfl, es, m, dp, tr, b1, b2, b3, b4, b5, b6, b7, b8, b9, b10, b11⟩ := hrel
        have c801 := b1.cdp
        have c0 := b1.d 0 (by decide)
        have HW := Lib.hid (HT.out.kept b11)
        have HG := Lib.hid b11
        have h57 := (b4 0 b2).2
        have HSH := Lib.hid (fun (k n : Nat) (hk1 : 1 ≤ k) (hk : k ≤ 60) => shiftL_of (k := k) (b1.kept (gr_drewN (gr_refl wr none) n)) ((HT.out.kept b11).1.kept (gr_drewN (gr_refl wr (some g)) n)) b3 b2 b4 b5 hk1 hk (by omega) (by omega))
        have HSTP := Lib.hid (fun (k n : Nat) (W' : World) (e : Ending) (hk1 : 1 ≤ k) hd (h : LSEnds (wr.drewN n) g es k dp ng e W') => FL2.step (w := w) (wr := wr.drewN n) (E := E) b9 (by rw [← b8]; exact b10) b6 b7 h57 b5 hk1 hd (gr_drewN b11 n) h)
        have HGK := Lib.hid b8
        obtain ⟨-, -, -, -, -, B, o, cc, t1, t2, t3, t4⟩ := HW.out
        have hE1 : -10800 ≤ E := by omega
        by_cases hneg : dp < 0
        · obtain ⟨j, hj⟩ : ∃ j : Nat, dp = -(j : Int) := ⟨(-dp).toNat, by omega⟩
          have HJ := Lib.hid hj
          have hdn : decide (dp < 0) = true := decide_eq_true hneg
          have hj1 : 1 ≤ j := by omega
          have hnd : -dp = (j : Int) := by omega
          clear b1 b4 b8 b10 b11 hj
          by_cases h9 : 9 ≤ j
          · have hb9 : decide (9 ≤ j) = true := decide_eq_true h9
            clear t4
            go_wp2_with fail
            go_quiet (fail)
            go_wp2_with fail
            have hC : Calls Tryz.prog 265 #[.pointer (some ⟨g, 0, none⟩), .int .i64 27] (wr.drewN nq) (LSEnds (wr.drewN nq) g es 27 dp ng) := HSH.out 27 nq (by decide) (by decide)
            (with_reducible refine hC.mono ?_)
            clear hC
            rintro e W' hr
            obtain ⟨rfl, gk', g1, g2⟩ := HSTP.out 27 nq W' e (by decide) (fun d' hd' _ => by
              have u1 := pow_ub (j := 9) hd'.1 (by decide)
              have u2 := pow_lb (i := 8) hd'.2 (by decide)
              have := HJ.out
              exact ⟨by omega, fun _ => by omega⟩) hr
            rw [← HGK.out] at g1
            have HR := Lib.hid g2
            clear hr g2
            go_wp2_with fail
            go_roundg gk'
            case measure => exact g1
            case rel => exact ⟨_, rfl, HR.out⟩
          · have hb9 : decide (9 ≤ j) = false := decide_eq_false h9
            have hp8 : (j : Int) < 9 := by omega
            have tp := t4 j (by omega)
            obtain ⟨q1, q2, q3, q4, q5, q6⟩ := pw_facts j (by omega) hj1
            have HQ := Lib.hid (And.intro (And.intro q3 q4) (And.intro q5 q6))
            clear t4 q5 q6 q3 q4
            generalize pw j = k at tp q1 q2 HQ
            go_wp2_with fail
            go_quiet (fail)
            go_wp2_with fail
            go_quiet (fail)
            go_wp2_with fail
            (with_reducible refine (HSH.out k _ q1 (by omega)).mono ?_)
            rintro e W' hr
            obtain ⟨rfl, gk', g1, g2⟩ := HSTP.out k _ W' e q1 (fun d' hd' _ => by
              have u1 := pow_ub (j := j) hd'.1 HQ.out.1.1
              have u2 := pow_lb (i := j - 1) hd'.2 HQ.out.1.2
              have u3 := HQ.out.2.1
              have u4 := HQ.out.2.2
              have := HJ.out
              refine ⟨by omega, fun h => ?_⟩
              by_cases hj2 : 2 ≤ j
              · have := (u3 hj2).1; omega
              · have := u4 (by omega); omega) hr
            rw [← HGK.out] at g1
            have HR := Lib.hid g2
            clear hr g2
            go_wp2_with fail
            go_roundg gk'
            case measure => exact g1
            case rel => exact ⟨_, rfl, HR.out⟩
        · obtain rfl : dp = 0 := by omega
          by_cases h5 : es 0 < 53
          · have hb5 : decide (es 0 < 53) = true := decide_eq_true h5
            have tp : wr.cell? ⟨B, o, none⟩ = some (.int .i64 1) := t4 0 (by decide)
            have hd0 : es 0 - 48 + 1 ≤ 5 := by omega
            clear b1 b4 b8 b10 b11 t4
            go_wp2_with fail
            go_quiet (fail)
            go_wp2_with fail
            go_quiet (fail)
            go_wp2_with fail
            have hC : ∀ n, Calls Tryz.prog 265 #[.pointer (some ⟨g, 0, none⟩), .int .i64 1] (wr.drewN n) (LSEnds (wr.drewN n) g es 1 0 ng) := fun n => HSH.out 1 n (by decide) (by decide)
            (with_reducible refine (hC _).mono ?_)
            clear hC
            rintro e W' hr
            obtain ⟨rfl, gk', g1, g2⟩ := HSTP.out 1 _ W' e (by decide) (fun d' _ h => by
              have := h (by omega)
              subst this
              exact ⟨by decide, fun h => absurd h (by decide)⟩) hr
            rw [← HGK.out] at g1
            have HR := Lib.hid g2
            clear hr g2
            go_wp2_with fail
            go_roundg gk'
            case measure => exact g1
            case rel => exact ⟨_, rfl, HR.out⟩
          · have hb5 : decide (es 0 < 53) = false := decide_eq_false h5
            have HST := Lib.hid (show DSt w g ng 0 0 wr from ⟨es, m, 0, tr, b1, b2, b3, b4, b5, by omega, by omega, b11⟩)
            have hE2 : E ≤ 27 * 700 := b9
            obtain ⟨-, -, x0, x1, x2, -⟩ := HW.out
            clear b1 b4 b8 b10 b11 t4
            go_upto_if 111 with fail
            obtain ⟨bb, hbb⟩ : ∃ bb : Bool, bb = decide (E - 1 < -1022) := ⟨_, rfl⟩
            rw [← hbb]
            have HBB := Lib.hid hbb
            clear hbb
            go_cut [6] from 112 to 125 (fun x w2 => ∃ E2 : Int, x = .int .i64 E2 ∧ -1022 ≤ E2 ∧ E2 ≤ 20000 ∧ DSt w g ng (-50000) 0 w2)
            case first =>
              cases bb with
              | true =>
                have hden : E - 1 < -1022 := of_decide_eq_true HBB.out.symm
                have hC : Calls Tryz.prog 265 #[.pointer (some ⟨g, 0, none⟩), .int .i64 (-(-1022 - (E - 1)))] wr (SEnds wr g ng (0 - (((-1022 - (E - 1)).toNat : Nat) : Int) - 20) 0) := by
                  obtain ⟨es2, m2, dp2, tr2, y1, y2, y3, y4, y5, y6, y7, y8⟩ := HST.out
                  have := shiftR_any (w := wr) (g := g) (ng := ng) (lo := 0) (hi := 0) (-1022 - (E - 1)).toNat ⟨es2, m2, dp2, tr2, y1, y2, y3, y4, y5, y6, y7, gr_refl _ _⟩ (by omega) (by omega) (by decide) (by decide)
                  rw [show -(((-1022 - (E - 1)).toNat : Nat) : Int) = -(-1022 - (E - 1)) by omega] at this
                  exact this
                have HC := Lib.hid hC
                clear hC
                go_wp2_with fail
                (with_reducible refine HC.out.mono ?_)
                rintro e W' ⟨rfl, es2, m2, dp2, tr2, y1, y2, y3, y4, y5, y6, y7, y8⟩
                have HN := Lib.hid (show DSt w g ng (-50000) 0 W' from ⟨es2, m2, dp2, tr2, y1, y2, y3, y4, y5, by omega, y7, gr_trans HG.out y8⟩)
                clear y1 y4 y8
                go_wp2_with fail
                go_meet
                case rel => exact ⟨_, rfl, by omega, by omega, HN.out⟩
              | false =>
                have hden : ¬ E - 1 < -1022 := of_decide_eq_false HBB.out.symm
                go_wp2_with fail
                go_meet
                case rel =>
                  obtain ⟨es2, m2, dp2, tr2, y1, y2, y3, y4, y5, y6, y7, y8⟩ := HST.out
                  exact ⟨E - 1, rfl, by omega, by omega, es2, m2, dp2, tr2, y1, y2, y3, y4, y5, by omega, y7, y8⟩
            case rest =>
              obtain ⟨E2, rfl, z1, z2, es2, m2, dp2, tr2, y1, y2, y3, y4, y5, y6, y7, y8⟩ := hcut
              have HW2 := Lib.hid (HT.out.kept y8)
              obtain ⟨-, -, u0, u1, u2, -⟩ := HW2.out
              have HSF := Lib.hid (fun n => shiftL_of (k := 53) (y1.kept (gr_drewN (gr_refl wc none) n)) ((HT.out.kept y8).1.kept (gr_drewN (gr_refl wc (some g)) n)) y3 y2 y4 y5 (by decide) (by decide) (by omega) (by omega))
              have HG2 := Lib.hid y8
              have cng := y1.cng
              clear y1 y4 y8 x0 x1 x2 HSH HSTP HST c801 c0 HG HGK
              go_wp2_with fail
              by_cases hov : 2047 ≤ E2 + 1023
              · go_quiet (fail)
                go_wp2_with fail
                apply wp_goto
                refine goes_goto F1.out ?_
                go_wp2_with fail
                go_quiet (fail)
                go_wp2_with fail
                go_step3
                go_wp2_with fail
                go_quiet (fail)
                cases ng
                · go_wp2_with fail
                  apply goes_ret
                  go_ret2
                  first | exact ⟨⟨_, _, rfl⟩, gr_drewN HG2.out _⟩ | exact ⟨⟨_, _, rfl⟩, gr_drewN (gr_drewN HG2.out _) _⟩
                · go_wp2_with fail
                  go_quiet (fail)
                  go_wp2_with fail
                  apply goes_ret
                  go_ret2
                  first | exact ⟨⟨_, _, rfl⟩, gr_drewN HG2.out _⟩ | exact ⟨⟨_, _, rfl⟩, gr_drewN (gr_drewN HG2.out _) _⟩
              · go_quiet (fail)
                go_wp2_with fail
                have hC : ∀ n, Calls Tryz.prog 265 #[.pointer (some ⟨g, 0, none⟩), .int .i64 53] (wc.drewN n) (LSEnds (wc.drewN n) g es2 53 dp2 ng) := fun n => HSF.out n
                (with_reducible refine (hC _).mono ?_)
                clear hC
                rintro e W' ⟨rfl, es3, m3, d3, tr3, f1, f2, f3, f4, -, -, -, -, f9⟩
                have HG3 := Lib.hid (gr_trans (gr_drewN HG2.out _) f9)
                obtain ⟨-, -, v0, v1, v2, -⟩ := (HT.out.kept HG3.out)
                have cng3 := f1.cng
                have HRI := Lib.hid (roundedInt_of f1 f3 f4)
                clear f1 f4 f9 u0 u1 u2 cng HSF HW2 HG2
                go_wp2_with fail
                (with_reducible refine HRI.out.mono ?_)
                rintro e W'' ⟨⟨x, rfl, hx0, hx1⟩, rfl⟩
                clear HRI
                by_cases hm : x = 9007199254740992
                · subst hm
                  go_wp2_with fail
                  by_cases hov2 : 2047 ≤ E2 + 1 + 1023
                  · go_quiet (fail)
                    go_wp2_with fail
                    apply wp_goto
                    refine goes_goto F1.out ?_
                    go_wp2_with fail
                    go_quiet (fail)
                    go_wp2_with fail
                    go_step3
                    go_wp2_with fail
                    go_quiet (fail)
                    cases ng
                    · go_wp2_with fail
                      apply goes_ret
                      go_ret2
                      first | exact ⟨⟨_, _, rfl⟩, gr_drewN HG3.out _⟩ | exact ⟨⟨_, _, rfl⟩, gr_drewN (gr_drewN HG3.out _) _⟩
                    · go_wp2_with fail
                      go_quiet (fail)
                      go_wp2_with fail
                      apply goes_ret
                      go_ret2
                      first | exact ⟨⟨_, _, rfl⟩, gr_drewN HG3.out _⟩ | exact ⟨⟨_, _, rfl⟩, gr_drewN (gr_drewN HG3.out _) _⟩
                  · go_quiet (fail)
                    go_wp2_with fail
                    all_goals
                      apply wp_goto
                      refine goes_goto F0.out ?_
                      go_wp2_with fail
                      go_quiet (fail)
                      cases ng
                      · go_wp2_with fail
                        apply goes_ret
                        go_ret2
                        first | exact ⟨⟨_, _, rfl⟩, gr_drewN HG3.out _⟩ | exact ⟨⟨_, _, rfl⟩, gr_drewN (gr_drewN HG3.out _) _⟩
                      · go_wp2_with fail
                        go_quiet (fail)
                        go_wp2_with fail
                        apply goes_ret
                        go_ret2
                        first | exact ⟨⟨_, _, rfl⟩, gr_drewN HG3.out _⟩ | exact ⟨⟨_, _, rfl⟩, gr_drewN (gr_drewN HG3.out _) _⟩
                · have hm1 : (x == 9007199254740992) = false := beq_eq_false_iff_ne.2 hm
                  clear hm
                  go_wp2_with fail
                  all_goals
                    apply wp_goto
                    refine goes_goto F0.out ?_
                    go_wp2_with fail
                    go_quiet (fail)
                    cases ng
                    · go_wp2_with fail
                      apply goes_ret
                      go_ret2
                      first | exact ⟨⟨_, _, rfl⟩, gr_drewN HG3.out _⟩ | exact ⟨⟨_, _, rfl⟩, gr_drewN (gr_drewN HG3.out _) _⟩
                    · go_wp2_with fail
                      go_quiet (fail)
                      go_wp2_with fail
                      apply goes_ret
                      go_ret2
                      first | exact ⟨⟨_, _, rfl⟩, gr_drewN HG3.out _⟩ | exact ⟨⟨_, _, rfl⟩, gr_drewN (gr_drewN HG3.out _) _⟩
end Go.Proofs.YtlfeolfjlmelpaaGreatDoor
