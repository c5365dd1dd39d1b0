/- (*internal/strconv.decimal).set at digits. -/
import Derived.Test.YtlfeolfjlmelpaaGreatDoorNK
namespace Go.Proofs.YtlfeolfjlmelpaaGreatDoor
open Go.RowKit

def RSet (w : World) (g : Nat) (cs : Nat → Nat) (zc k : Nat) (wr : World) : Prop :=
  ∃ (es : Nat → Nat) (nd : Nat) (tr : Bool), IsD wr g es (nd : Nat) (-(min k zc : Nat)) false tr ∧ nd = min (k - zc) 800 ∧ (∀ i, i < nd → es i = cs (zc + i)) ∧ w.grownBy wr (some g)
theorem RSet.zero {w wr w1 : World} {g : Nat} {cs : Nat → Nat} {zc k : Nat} (h : RSet w g cs zc k wr) (hk : k < zc) (hw : w1 = wr.setCell ⟨g, 801, none⟩ (.int .i64 (-(k : Int) - 1))) : RSet w g cs zc (k + 1) w1 := by
  obtain ⟨es, nd, tr, h1, h2, h3, h4⟩ := h
  subst hw
  refine ⟨es, nd, tr, ?_, by omega, h3, gr_set h4 (.inr rfl) _⟩
  have := h1.setDp (-(k : Int) - 1)
  rwa [show (-(k : Int) - 1) = (-(min (k + 1) zc : Nat) : Int) by omega] at this ⊢
theorem RSet.put {w wr w1 : World} {g : Nat} {cs : Nat → Nat} {zc k : Nat} (h : RSet w g cs zc k wr) (hk : zc ≤ k) (hnd : k - zc < 800) (n : Nat) (hw : w1 = ((wr.drewN n).setCell ⟨g, k - zc, none⟩ (.int .u8 (cs k : Nat))).setCell ⟨g, 800, none⟩ (.int .i64 ((k - zc : Nat) + 1 : Int))) : RSet w g cs zc (k + 1) w1 := by
  obtain ⟨es, nd, tr, h1, h2, h3, h4⟩ := h
  subst hw
  have hn : nd = k - zc := by omega
  subst hn
  have h5 := ((h1.kept (gr_drewN (gr_refl _ _) n)).setD (k - zc) (cs k) hnd).setNd (((k - zc : Nat) : Int) + 1)
  refine ⟨upd es (k - zc) (cs k), k - zc + 1, tr, ?_, by omega, fun i hi => ?_, gr_set (gr_set (gr_drewN h4 n) (.inr rfl) _) (.inr rfl) _⟩
  · rw [show (min (k + 1) zc) = min k zc by omega]; exact h5
  · by_cases hik : i = k - zc
    · subst hik; rw [upd_same, show zc + (k - zc) = k by omega]
    · rw [upd_other _ _ hik]; exact h3 i (by omega)
theorem RSet.cut {w wr w1 : World} {g : Nat} {cs : Nat → Nat} {zc k : Nat} (h : RSet w g cs zc k wr) (hk : zc ≤ k) (hnd : ¬ k - zc < 800) (hw : w1 = wr ∨ w1 = wr.setCell ⟨g, 803, none⟩ (.bool true)) : RSet w g cs zc (k + 1) w1 := by
  obtain ⟨es, nd, tr, h1, h2, h3, h4⟩ := h
  rcases hw with rfl | rfl
  · exact ⟨es, nd, tr, by rw [show (min (k + 1) zc) = min k zc by omega]; exact h1, by omega, h3, h4⟩
  · exact ⟨es, nd, true, by rw [show (min (k + 1) zc) = min k zc by omega]; exact h1.setTr true, by omega, h3, gr_set h4 (.inr rfl) _⟩
def SetEnds (w : World) (g L : Nat) (e : Ending) (w' : World) : Prop :=
  e = .returned (.bool true) ∧ ∃ (es : Nat → Nat) (nd : Nat) (tr : Bool), IsD w' g es (nd : Nat) (nd : Nat) false tr ∧ 1 ≤ nd ∧ nd ≤ 800 ∧ nd ≤ L ∧ Digs es nd ∧ 49 ≤ es 0 ∧ w.grownBy w' (some g)

set_option maxHeartbeats 4000000 in
set_option maxRecDepth 1000000 in
theorem set_of {w : World} {g : Nat} {ds : Nat → Nat} {ng tr : Bool} (h : IsD w g ds 0 0 ng tr) (l : List UInt8) (cs : Nat → Nat) (hcs : ∀ i (h : i < l.length), l[i].toNat = cs i) (hdig : Digs cs l.length) (hl : l.length ≤ 1000000) (zc : Nat) (hz : zc < l.length) (hzz : ∀ i, i < zc → cs i = 48) (hnz : 49 ≤ cs zc) :
    Calls Tryz.prog 248 #[.pointer (some ⟨g, 0, none⟩), .string ⟨l.toArray⟩] w (SetEnds w g l.length) := by
  have hcell : ∀ k (hk : k < l.length) h, (((⟨l.toArray⟩ : ByteArray)[k]'h).toNat : Int) = (cs k : Int) := fun k hk h => by rw [← hcs k hk]; rfl
  have hsz : (⟨l.toArray⟩ : ByteArray).size = l.length := rfl
  generalize (⟨l.toArray⟩ : ByteArray) = S at hcell hsz ⊢
  clear hcs
  generalize l.length = L at hcell hsz hdig hl hz
  have hd0 := hdig 0 (by omega)
  have f0 := hcell 0 (by omega)
  have f1 : ∀ h, (((S[0]'h).toNat : Int) == 43) = false := fun h => by rw [f0]; exact beq_eq_false_iff_ne.2 (by omega)
  have f2 : ∀ h, (((S[0]'h).toNat : Int) == 45) = false := fun h => by rw [f0]; exact beq_eq_false_iff_ne.2 (by omega)
  have f3 : S.size < 1000001 := by omega
  have f4 : 0 < S.size := by omega
  have t1 : decide ((S.size : Int) ≤ 0) = false := decide_eq_false (by omega)
  have t2 : decide (S.size ≤ 0) = false := decide_eq_false (by omega)
  have t3 : decide (S.size = 0) = false := decide_eq_false (by omega)
  have t4 : S.size ≠ 0 := by omega
  have c802 := h.cng
  have c803 := h.ctr
  have fr := h.free 802
  have fr3 := h.free 803
  have hst : RSet w g cs zc 0 ((w.setCell ⟨g, 802, none⟩ (.bool false)).setCell ⟨g, 803, none⟩ (.bool false)) :=
    ⟨ds, 0, false, by have := ((h.setNg false).setTr false); simpa using this, by omega, fun i hi => absurd hi (Nat.not_lt_zero i), gr_set (gr_set (gr_refl w (some g)) (.inr rfl) (.bool false)) (.inr rfl) (.bool false)⟩
  have HST := Lib.hid hst
  have HC := Lib.hid hcell
  have HD := Lib.hid hdig
  have HZ := Lib.hid hzz
  have HN := Lib.hid hnz
  have HS := Lib.hid hsz
  clear h hcell hdig hzz f0 hd0 hnz hsz hst
  go_enter Tryz.func248, Tryz.ntmps248
  go_wp2_with fail
  go_loopg [5, 6, 7] L (fun gk i a b wr => ∃ k : Nat, i = .int .i64 (k : Nat) ∧ a = .bool false ∧ b = .bool (decide (0 < k)) ∧ gk = L - k ∧ k ≤ L ∧ Hid (RSet w g cs zc k wr))
  case atStart => exact ⟨0, rfl, rfl, rfl, rfl, by omega, HST.out⟩
  case round =>
    obtain ⟨k, rfl, rfl, rfl, rfl, hk, hR⟩ := hrel
    obtain ⟨es, nd, tr, e1, e2, e3, e4⟩ := hR.out
    by_cases hlt : k < L
    · have hkS : k < S.size := by have := HS.out; omega
      have hkn : k < 1000000 := by omega
      have hdg := HD.out k hlt
      have hc : ∀ h, ((S[k]'h).toNat : Int) = (cs k : Int) := fun h => HC.out k hlt h
      have hk1 : decide (0 < k + 1) = true := decide_eq_true (by omega)
      by_cases hkz : k < zc
      · have h48 := HZ.out k hkz
        rw [h48] at hc
        have hn0 : nd = 0 := by omega
        subst hn0
        have c800 : wr.cell? ⟨g, 800, none⟩ = some (.int .i64 0) := e1.cnd
        have c801 : wr.cell? ⟨g, 801, none⟩ = some (.int .i64 (-(k : Int))) := by have := e1.cdp; rwa [show min k zc = k by omega] at this
        have f801 := e1.free 801
        have hN := fun w1 => RSet.zero (w1 := w1) hR.out hkz
        have HN2 := Lib.hid hN
        clear e1 e2 e3 e4 hN h48 hdg f1 f2
        go_wp2_with fail
        go_roundg (L - (k + 1))
        case measure => omega
        case rel => exact ⟨k + 1, by simp, rfl, by rw [hk1], rfl, by omega, HN2.out _ rfl⟩
      · have f800 := e1.free 800
        have c800 := e1.cnd
        have hkz' : zc ≤ k := by omega
        by_cases hm8 : k - zc < 800
        · have hn : nd = k - zc := by omega
          have hN := fun w1 n => RSet.put (w1 := w1) hR.out hkz' hm8 n
          have cw := e1.d (k - zc) hm8
          have fw := e1.free (k - zc)
          have hz48 : cs k = 48 → 1 ≤ k - zc := fun h => by
            rcases Nat.eq_zero_or_pos (k - zc) with h2 | h2
            · have : k = zc := by omega
              subst this
              have := HN.out; omega
            · exact h2
          subst hn
          generalize k - zc = m at c800 cw fw hm8 hN hz48
          have HN2 := Lib.hid hN
          generalize cs k = c at hc hdg hz48 HN2
          obtain ⟨d0, d1⟩ := hdg
          have q95 : ((c : Int) == 95) = false := beq_eq_false_iff_ne.2 (by omega)
          have q46 : ((c : Int) == 46) = false := beq_eq_false_iff_ne.2 (by omega)
          clear e1 e2 e3 e4 hN f1 f2
          by_cases h48 : c = 48
          · have hm1 : 1 ≤ m := hz48 h48
            have q48 : ((c : Int) == 48) = true := by rw [h48]; rfl
            have qm : ((m : Int) == 0) = false := beq_eq_false_iff_ne.2 (by omega)
            clear hz48 h48
            go_wp2_with fail
            go_region
            go_wp2_with fail
            go_roundg (L - (k + 1))
            case measure => omega
            case rel => exact ⟨k + 1, by simp, rfl, by rw [hk1], rfl, by omega, HN2.out _ _ rfl⟩
          · have q48 : ((c : Int) == 48) = false := beq_eq_false_iff_ne.2 (by omega)
            clear hz48 h48
            go_wp2_with fail
            go_region
            go_wp2_with fail
            go_roundg (L - (k + 1))
            case measure => omega
            case rel => exact ⟨k + 1, by simp, rfl, by rw [hk1], rfl, by omega, HN2.out _ _ rfl⟩
        · have hn : nd = 800 := by omega
          subst hn
          have f803 := e1.free 803
          have c803 := e1.ctr
          have hN := fun w1 => RSet.cut (w1 := w1) hR.out hkz' hm8
          have HN2 := Lib.hid hN
          generalize cs k = c at hc hdg 
          obtain ⟨d0, d1⟩ := hdg
          have q95 : ((c : Int) == 95) = false := beq_eq_false_iff_ne.2 (by omega)
          have q46 : ((c : Int) == 46) = false := beq_eq_false_iff_ne.2 (by omega)
          clear e1 e2 e3 e4 hN f1 f2
          by_cases h48 : c = 48
          · have q48 : ((c : Int) == 48) = true := by rw [h48]; rfl
            clear h48
            go_wp2_with fail
            go_roundg (L - (k + 1))
            case measure => omega
            case rel => exact ⟨k + 1, by simp, rfl, by rw [hk1], rfl, by omega, HN2.out _ (.inl rfl)⟩
          · have q48 : ((c : Int) == 48) = false := beq_eq_false_iff_ne.2 (by omega)
            clear h48
            go_wp2_with fail
            go_roundg (L - (k + 1))
            case measure => omega
            case rel => exact ⟨k + 1, by simp, rfl, by rw [hk1], rfl, by omega, HN2.out _ (.inr rfl)⟩
    · have hkL : k = L := by omega
      subst hkL
      have hkS : S.size = k := HS.out
      have hk0 : decide (0 < k) = true := decide_eq_true (by omega)
      have c800 := e1.cnd
      have c801 := e1.cdp
      have f801 := e1.free 801
      have hfin : ∀ w1, w1 = wr.setCell ⟨g, 801, none⟩ (.int .i64 (nd : Nat)) → SetEnds w g k (.returned (.bool true)) w1 := fun w1 hw => by
        subst hw
        refine ⟨rfl, es, nd, tr, e1.setDp _, by omega, by omega, by omega, fun i hi => ?_, ?_, gr_set e4 (.inr rfl) _⟩
        · rw [e3 i hi]; exact HD.out _ (by omega)
        · rw [e3 0 (by omega)]; exact HN.out
      have HF := Lib.hid hfin
      have hnd8 : nd ≤ 800 := by omega
      clear e1 e2 e3 e4 hfin f1 f2
      go_wp2_with fail
      go_ret
      exact HF.out _ rfl
end Go.Proofs.YtlfeolfjlmelpaaGreatDoor
