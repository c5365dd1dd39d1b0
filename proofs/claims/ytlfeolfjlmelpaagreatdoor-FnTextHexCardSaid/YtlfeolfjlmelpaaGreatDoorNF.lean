/- internal/strconv.leftShift. -/
import Derived.Test.YtlfeolfjlmelpaaGreatDoorNE
namespace Go.Proofs.YtlfeolfjlmelpaaGreatDoor
open Go.RowKit

/-- The table of left shifts lies there, apart from block g. -/
def HasC (w : World) (g : Nat) : Prop := ∃ (b o c : Nat), b ≠ g ∧ 20 ≠ g ∧ w.cell? ⟨20, 0, none⟩ = some (.slice (some ⟨b, o, none⟩) 61 c) ∧
  ∀ k, k < 61 → ∃ (dl : Nat) (L : List UInt8), Pinned.cheatRows[k]? = some (dl, L) ∧ w.cell? ⟨b, o + k * 2, none⟩ = some (.int .i64 (dl : Nat)) ∧ w.cell? ⟨b, o + k * 2 + 1, none⟩ = some (.string ⟨L.toArray⟩)
theorem HasC.kept {w w' : World} {g : Nat} (h : HasC w g) (hg : w.grownBy w' (some g)) : HasC w' g := by
  obtain ⟨b, o, c, h1, h2, h3, h4⟩ := h
  refine ⟨b, o, c, h1, h2, hg.cell h3 (by simp; omega), fun k hk => ?_⟩
  obtain ⟨dl, L, h5, h6, h7⟩ := h4 k hk
  exact ⟨dl, L, h5, hg.cell h6 (by simp; omega), hg.cell h7 (by simp; omega)⟩

/-- What leftShift leaves. -/
def LSEnds (w : World) (g : Nat) (ds : Nat → Nat) (k : Nat) (dp : Int) (ng : Bool) (e : Ending) (w' : World) : Prop :=
  e = .returned (.tuple #[]) ∧ ∃ (es : Nat → Nat) (m d' : Nat) (tr : Bool), IsD w' g es (m : Nat) (dp + (d' : Nat)) ng tr ∧ 1 ≤ m ∧ m ≤ 800 ∧ Digs es m ∧ 49 ≤ es 0 ∧ (10 ^ (d' - 1) ≤ 2 ^ k ∧ 2 ^ k < 10 ^ (d' + 1)) ∧ (d' = 0 → (ds 0 - 48) * 2 ^ k ≤ es 0 - 48) ∧ ((ds 0 - 48 + 1) * 2 ^ k ≤ 10 → d' = 0) ∧ w.grownBy w' (some g)

def RLa (w : World) (g : Nat) (ds : Nat → Nat) (k nd d' : Nat) (dp : Int) (ng : Bool) (rr nn : Nat) (wr : World) : Prop := ∃ es tr, IsD wr g es (nd : Nat) dp ng tr ∧ LS1 ds k nd d' rr nn es ∧ w.grownBy wr (some g)
def RLb (w : World) (g : Nat) (ds : Nat → Nat) (k nd d' : Nat) (dp : Int) (ng : Bool) (ww nn : Nat) (wr : World) : Prop := ∃ es tr, IsD wr g es (nd : Nat) dp ng tr ∧ LS2 ds k nd d' ww nn es ∧ w.grownBy wr (some g)
theorem upd_if (es : Nat → Nat) (i b : Nat) : ∀ p, p < 800 → upd es i b p = if p = i then b else es p := fun _ _ => rfl
theorem keep_if (es : Nat → Nat) (i b : Nat) (h : 800 ≤ i) : ∀ p, p < 800 → es p = if p = i then b else es p := fun p hp => by rw [if_neg (by omega)]

theorem no_more {ds : Nat → Nat} {nd k d' : Nat} (hd : Digs ds nd) (h1 : 1 ≤ nd) (hge : 10 ^ (nd + d' - 1) ≤ dnum ds nd * 2 ^ k) (hs : (ds 0 - 48 + 1) * 2 ^ k ≤ 10) : d' = 0 := by
  rcases Nat.eq_zero_or_pos d' with h | h
  · exact h
  · obtain ⟨j, rfl⟩ : ∃ j, nd = 1 + j := ⟨nd - 1, by omega⟩
    have h2 := dnum_hi (ds := ds) 1 j hd
    have e1 : dnum ds 1 = ds 0 - 48 := by simp [dnum]
    rw [e1] at h2
    have h3 := Nat.mul_lt_mul_of_pos_right h2 (Nat.two_pow_pos k)
    rw [Nat.mul_right_comm] at h3
    have h4 := Nat.mul_le_mul_right (10 ^ j) hs
    have h5 : 10 ^ (j + 1) ≤ 10 ^ (1 + j + d' - 1) := Nat.pow_le_pow_right (by decide) (by omega)
    rw [Nat.pow_succ] at h5
    omega
theorem LS2.small {ds : Nat → Nat} {k nd d' ww n : Nat} {es : Nat → Nat} (h : LS2 ds k nd d' ww n es) (hd : Digs ds nd) : n < 2 ^ k := by
  obtain ⟨h1, h2, -⟩ := h
  have hlt := dnum_lt nd hd
  have h3 : dnum ds nd * 2 ^ k / 10 ^ nd < 2 ^ k := Nat.div_lt_of_lt_mul (Nat.mul_lt_mul_of_pos_right hlt (Nat.two_pow_pos k))
  have h4 : dnum ds nd * 2 ^ k / 10 ^ (nd + d' - ww) ≤ dnum ds nd * 2 ^ k / 10 ^ nd := Nat.div_le_div_left (Nat.pow_le_pow_right (by decide) (by omega)) (Nat.pow_pos (by decide))
  omega

set_option maxHeartbeats 4000000 in
set_option maxRecDepth 1000000 in
theorem lshift_of {w : World} {g : Nat} {ds : Nat → Nat} {nd k : Nat} {dp : Int} {ng tr : Bool} (h : IsD w g ds (nd : Nat) dp ng tr) (hT : HasC w g) (hnd : nd ≤ 800) (h1 : 1 ≤ nd) (hdig : Digs ds nd) (h0 : 49 ≤ ds 0) (hk : 1 ≤ k) (hk2 : k ≤ 60) (hdp : -100000 ≤ dp) (hdp2 : dp ≤ 100000) :
    Calls Tryz.prog 289 #[.pointer (some ⟨g, 0, none⟩), .int .u64 (k : Nat)] w (LSEnds w g ds k dp ng) := by
  obtain ⟨B, o, cc, hb1, hb2, t0, hrow⟩ := hT
  obtain ⟨dl, L, hq, t1, t2⟩ := hrow k (by omega)
  obtain ⟨dl', L', hq', hok⟩ := cheat_ok k hk hk2
  obtain ⟨rfl, rfl⟩ : dl = dl' ∧ L = L' := by rw [hq] at hq'; cases hq'; exact ⟨rfl, rfl⟩
  obtain ⟨b, hb⟩ : ∃ b : Bool, dplus ds nd L b := by
    by_cases h : Less ds nd (bs L) L.length
    · exact ⟨true, fun _ => h, fun _ => rfl⟩
    · exact ⟨false, (fun h => by cases h), fun k => absurd k h⟩
  obtain ⟨hs1, hs2⟩ := scaled hb hok hdig h0 h1
  have HPL := Lib.hid (fun (n : Nat) => prefixLess_of (w := w.drewN n) (g := g) (fun i hi => gr_cell (gr_drewN (gr_refl _ _) n) (h.d i (by omega))) hnd hdig L (bs L) (fun i hi => by simp [bs, hi]) hok.2.2.2.2.2.2.2.2.1 hok.2.2.2.2.2.2.2.2.2 (fun _ => hok.2.2.2.2.2.2.1) b hb)
  have H := Lib.hid h
  have HD := Lib.hid hdig
  have HS := Lib.hid (And.intro hs1 hs2)
  have HK := Lib.hid hok
  have hdl1 : 1 ≤ dl := hok.1
  have hdl2 : dl ≤ 19 := hok.2.1
  have c800 := h.cnd
  have c801 := h.cdp
  have i0 : (0 : Int) ≤ (k : Int) := by omega
  have i1 : (k : Int) < 61 := by omega
  have hal : Tryz.prog.arrayLen 308 = 800 := by kernel_rfl
  have j0 : (0 : Int) ≤ (nd : Int) := by omega
  have j1 : (nd : Int) ≤ 800 := by omega
  clear h hdig hs1 hs2 hok hrow hb hq hq'
  go_enter Tryz.func289, Tryz.ntmps289
  go_upto_region 1 with fail
  go_quiet ((go_at_call 297; exact Calls.quiet_of ((HPL.out _).mono fun _ _ h => ⟨h.1, h.2.2⟩)))
  go_upto_if 30 with fail
  go_cut [4] from 31 to 32 (fun d w2 => d = .int .i64 ((if b then dl - 1 else dl : Nat) : Nat) ∧ ∃ n, w2 = w.drewN n)
  case first =>
    cases b with
    | true =>
      go_wp2_with fail
      go_meet
      case rel => exact ⟨by simp only [if_true]; congr 1; omega, _, rfl⟩
    | false =>
      go_wp2_with fail
      go_meet
      case rel => exact ⟨rfl, _, rfl⟩
  case rest =>
    obtain ⟨rfl, n, rfl⟩ := hcut
    have hd19 : (if b then dl - 1 else dl : Nat) ≤ 19 := by split <;> omega
    have HP := Lib.hid (show 10 ^ ((if b then dl - 1 else dl) - 1) ≤ 2 ^ k ∧ 2 ^ k < 10 ^ ((if b then dl - 1 else dl) + 1) by
      obtain ⟨k1, k2, k3, k4, -⟩ := HK.out
      cases b
      · exact ⟨k4, Nat.lt_of_lt_of_le k3 (Nat.pow_le_pow_right (by decide) (by simp))⟩
      · exact ⟨Nat.le_trans (Nat.pow_le_pow_right (by decide) (by simp)) k4, by simpa [Nat.sub_add_cancel k1] using k3⟩)
    generalize hdd : (if b then dl - 1 else dl : Nat) = d' at HS hd19 HP
    clear HPL HK hdl1 hdl2 t0 t1 t2 i0 i1 hal hdd
    have HW := Lib.hid (H.out.kept (gr_drewN (gr_refl _ _) n))
    have HG := Lib.hid (gr_drewN (gr_refl w (some g)) n)
    have b800 := HW.out.cnd
    clear c800 c801 j0 j1
    generalize w.drewN n = W0 at HW HG b800
    have hd2 := HD.out
    go_wp2_with fail
    go_loopg [5, 6, 7] nd (fun gk r x n wr => ∃ nn : Nat, r = .int .i64 ((gk : Int) - 1) ∧ x = .int .i64 ((gk : Int) + (d' : Nat)) ∧ n = .int .u64 (nn : Nat) ∧ RLa w g ds k nd d' dp ng gk nn wr)
    case atStart => exact ⟨0, rfl, rfl, rfl, ds, tr, HW.out, LS1.start ds k nd d', HG.out⟩
    case round =>
      obtain ⟨nn, rfl, rfl, rfl, es, tr2, e1, e2, e3⟩ := hrel
      have hp := pow60 hk2
      have E1 := Lib.hid e1
      have E2 := Lib.hid e2
      have E3 := Lib.hid e3
      by_cases hz : gk = 0
      · subst hz
        clear e1 e2 e3 hd2
        go_wp2_with fail
        clear b800 hp
        go_loopg [6, 7] d' (fun gk x n wr => ∃ nn : Nat, x = .int .i64 (gk : Nat) ∧ n = .int .u64 (nn : Nat) ∧ RLb w g ds k nd d' dp ng gk nn wr)
        case atStart => exact ⟨nn, by simp, rfl, es, tr2, E1.out, E2.out.turn, E3.out⟩
        case round =>
          obtain ⟨n4, rfl, rfl, fs, tr3, e1, e2, e3⟩ := hrel
          have hp := pow60 hk2
          have hsm := e2.small HD.out
          have hg19 : gk ≤ 19 := Nat.le_trans e2.2.1 hd19
          have F1 := Lib.hid e1
          have F2 := Lib.hid e2
          have F3 := Lib.hid e3
          by_cases hz : n4 = 0
          · subst hz
            obtain rfl := e2.done HS.out.2 h1
            have c800 := e1.cnd
            have c801 := e1.cdp
            have f800 := e1.free 800
            have f801 := e1.free 801
            have HFin := Lib.hid (e2.fin HS.out.1 HS.out.2 h1)
            clear e1 e2 e3 hp hsm hg19 F2 E1 E2 E3
            by_cases h8 : 800 ≤ nd + d'
            · have h8i : 800 ≤ (nd : Int) + (d' : Int) := by omega
              have HI := Lib.hid (show IsD _ g fs ((800 : Nat) : Int) (dp + (d' : Nat)) ng tr3 from ((F1.out.setNd ((nd : Int) + (d' : Int))).setNd 800).setDp (dp + (d' : Nat)))
              have HGF := Lib.hid (gr_set (p := ⟨g, 801, none⟩) (gr_set (p := ⟨g, 800, none⟩) (gr_set (p := ⟨g, 800, none⟩) F3.out (.inr rfl) (.int .i64 ((nd : Int) + (d' : Int)))) (.inr rfl) (.int .i64 800)) (.inr rfl) (.int .i64 (dp + (d' : Nat))))
              go_wp2_with fail
              (with_reducible refine (trim_of HI.out (by omega)).mono ?_)
              rintro e W' ⟨rfl, m, m1, m2, -, m4, m5⟩
              have hfin : LSEnds w g ds k dp ng (.returned (.tuple #[])) W' := by
                obtain ⟨f1, f2, f3⟩ := HFin.out
                have hm0 : 1 ≤ m := by
                  rcases Nat.eq_zero_or_pos m with h | h
                  · have := m4 0 (by omega) (by omega); omega
                  · exact h
                rw [if_neg (by omega)] at m2
                exact ⟨rfl, fs, m, d', tr3, m2, hm0, by omega, f1.mono (by omega), f2, HP.out, f3, no_more HD.out h1 HS.out.2, gr_trans HGF.out m5⟩
              have HF2 := Lib.hid hfin
              clear m1 m2 m4 m5 hfin
              go_wp2
              go_end0
              exact HF2.out
            · have h8i : (nd : Int) + (d' : Int) < 800 := by omega
              have HI := Lib.hid (show IsD _ g fs ((nd + d' : Nat) : Int) (dp + (d' : Nat)) ng tr3 from (F1.out.setNd ((nd : Int) + (d' : Int))).setDp (dp + (d' : Nat)))
              have HGF := Lib.hid (gr_set (p := ⟨g, 801, none⟩) (gr_set (p := ⟨g, 800, none⟩) F3.out (.inr rfl) (.int .i64 ((nd : Int) + (d' : Int)))) (.inr rfl) (.int .i64 (dp + (d' : Nat))))
              go_wp2_with fail
              (with_reducible refine (trim_of HI.out (by omega)).mono ?_)
              rintro e W' ⟨rfl, m, m1, m2, -, m4, m5⟩
              have hfin : LSEnds w g ds k dp ng (.returned (.tuple #[])) W' := by
                obtain ⟨f1, f2, f3⟩ := HFin.out
                have hm0 : 1 ≤ m := by
                  rcases Nat.eq_zero_or_pos m with h | h
                  · have := m4 0 (by omega) (by omega); omega
                  · exact h
                rw [if_neg (by omega)] at m2
                exact ⟨rfl, fs, m, d', tr3, m2, hm0, by omega, f1.mono (by omega), f2, HP.out, f3, no_more HD.out h1 HS.out.2, gr_trans HGF.out m5⟩
              have HF2 := Lib.hid hfin
              clear m1 m2 m4 m5 hfin
              go_wp2
              go_end0
              exact HF2.out
          · obtain ⟨q, rfl⟩ : ∃ q, gk = q + 1 := ⟨gk - 1, by have := e2.pos HS.out.1 hz; omega⟩
            have hz1 : 0 < n4 := by omega
            have hn60 : n4 < 1152921504606846976 := by omega
            obtain ⟨Q, hQ⟩ : ∃ Q, Q = n4 / 10 := ⟨_, rfl⟩
            obtain ⟨R, hRR⟩ : ∃ R, R = n4 % 10 := ⟨_, rfl⟩
            have hq10 : (n4 : Int) / 10 = (Q : Int) := by omega
            have hr10 : (n4 : Int) - 10 * (Q : Int) = (R : Int) := by omega
            have hR9 : R ≤ 9 := by omega
            have hQ60 : Q ≤ 1152921504606846976 := by omega
            have hq1 : ((q + 1 : Nat) : Int) = (q : Int) + 1 := by omega
            rw [hq1]
            have HST := Lib.hid (fun fs h1 => e2.step (fs := fs) h1)
            rw [← hQ, ← hRR] at HST
            have cw := e1.d q (by omega)
            have fw := e1.free q
            have hq8 : (q : Int) < 800 := by omega
            have hq80 : q < 800 := by omega
            clear e1 e2 e3 hp hsm hQ hRR hz hq1 E1 E2 E3
            go_wp2_with fail
            go_roundg q
            case measure => omega
            case rel =>
              refine ⟨Q, rfl, by first | rfl | rw [hq10], upd fs q (48 + R), tr3, ?_, HST.out _ (upd_if fs _ _), gr_set F3.out (.inr rfl) _⟩
              have := F1.out.setD q (48 + R) hq80
              rw [show ((48 + R : Nat) : Int) = (R : Int) + 48 by omega] at this
              exact this
      · obtain ⟨q, rfl⟩ : ∃ q, gk = q + 1 := ⟨gk - 1, by omega⟩
        have hq1 : ((q + 1 : Nat) : Int) - 1 = (q : Int) := by omega
        have hq2 : ((q + 1 : Nat) : Int) + (d' : Int) = (q : Int) + (d' : Int) + 1 := by omega
        rw [hq1, hq2]
        have hqn : q < nd := e2.2.2.1
        have cq := e1.d q (by omega)
        rw [e2.2.2.2.1 q (by omega)] at cq
        have hdg := HD.out q hqn
        have hn60 : nn < 1152921504606846976 := Nat.lt_of_lt_of_le e2.2.1 hp
        have hS9 : (ds q - 48) * 2 ^ k ≤ 9 * 1152921504606846976 := Nat.mul_le_mul (by omega) hp
        have hsh : IntKind.u64.wrap ((((ds q : Nat) : Int) - 48) * 2 ^ k) = (((ds q - 48) * 2 ^ k : Nat) : Int) := by
          have e5 : (((ds q : Nat) : Int) - 48) * 2 ^ k = (((ds q - 48) * 2 ^ k : Nat) : Int) := by
            rw [Int.natCast_mul, Int.natCast_pow, Int.natCast_sub (by omega)]; rfl
          rw [e5]; exact u64_in _ (by omega) (by omega)
        have HST := Lib.hid (fun fs h1 h2 => e2.step (fs := fs) hdg h1 h2)
        have hdd9 : ds q ≤ 57 := hdg.2
        have hdd4 : 48 ≤ ds q := hdg.1
        generalize (ds q - 48) * 2 ^ k = S at hsh hS9 HST
        generalize ds q = c at cq hsh hdd9 hdd4
        obtain ⟨Q, hQ⟩ : ∃ Q, Q = (S + nn) / 10 := ⟨_, rfl⟩
        obtain ⟨R, hRR⟩ : ∃ R, R = (S + nn) % 10 := ⟨_, rfl⟩
        have hq10 : ((nn : Int) + (S : Int)) / 10 = (Q : Int) := by omega
        have hr10 : (nn : Int) + (S : Int) - 10 * (Q : Int) = (R : Int) := by omega
        have hR9 : R ≤ 9 := by omega
        have hQ60 : Q ≤ 1152921504606846976 := by omega
        rw [← hQ, ← hRR] at HST
        clear hq1 hq2 e1 e2 e3 hd2 hQ hRR hdg hp hz
        by_cases hw8 : q + d' < 800
        · have cw := E1.out.d (q + d') hw8
          have fw := E1.out.free (q + d')
          have hw8i : (q : Int) + (d' : Int) < 800 := by omega
          go_wp2_with fail
          go_roundg q
          case measure => omega
          case rel =>
            refine ⟨Q, rfl, rfl, by rw [hq10], upd es (q + d') (48 + R), tr2, ?_, HST.out _ (upd_if es _ _) (fun p hp => upd_other _ _ (by omega)), gr_set E3.out (.inr rfl) _⟩
            have := E1.out.setD (q + d') (48 + R) hw8
            rw [show ((48 + R : Nat) : Int) = (R : Int) + 48 by omega] at this
            exact this
        · have hw8i : 800 ≤ (q : Int) + (d' : Int) := by omega
          by_cases hr0 : R = 0
          · subst hr0
            go_wp2_with fail
            go_roundg q
            case measure => omega
            case rel => exact ⟨Q, rfl, rfl, by rw [hq10], es, tr2, E1.out, HST.out es (keep_if es _ _ (by omega)) (fun _ _ => rfl), E3.out⟩
          · have hr1 : ((R : Int) == 0) = false := beq_eq_false_iff_ne.2 (by omega)
            have hr2 : ((R : Int) != 0) = true := by rw [bne, hr1]; rfl
            have c803 := E1.out.ctr
            have f803 := E1.out.free 803
            go_wp2_with fail
            go_roundg q
            case measure => omega
            case rel => exact ⟨Q, rfl, rfl, by rw [hq10], es, true, E1.out.setTr true, HST.out es (keep_if es _ _ (by omega)) (fun _ _ => rfl), gr_set E3.out (.inr rfl) _⟩
end Go.Proofs.YtlfeolfjlmelpaaGreatDoor
