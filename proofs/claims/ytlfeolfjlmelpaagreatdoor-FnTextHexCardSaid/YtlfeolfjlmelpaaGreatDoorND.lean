/- internal/strconv.prefixIsLessThan: it compares fractions. -/
import Derived.Test.YtlfeolfjlmelpaaGreatDoorNC
namespace Go.Proofs.YtlfeolfjlmelpaaGreatDoor
open Go.RowKit

theorem dnum_lo {ds : Nat → Nat} (n : Nat) : ∀ j, dnum ds n * 10 ^ j ≤ dnum ds (n + j)
  | 0 => by simp
  | j + 1 => by
    have h1 := dnum_lo (ds := ds) n j
    rw [Nat.pow_succ, ← Nat.mul_assoc]
    show _ ≤ dnum ds (n + j) * 10 + (ds (n + j) - 48)
    omega
theorem dnum_hi {ds : Nat → Nat} (n : Nat) : ∀ j, Digs ds (n + j) → dnum ds (n + j) < (dnum ds n + 1) * 10 ^ j
  | 0, _ => by simp
  | j + 1, h => by
    have h1 := dnum_hi (ds := ds) n j (h.mono (by omega))
    have h2 := h (n + j) (by omega)
    rw [Nat.pow_succ, ← Nat.mul_assoc]
    show dnum ds (n + j) * 10 + (ds (n + j) - 48) < _
    omega

/-- As fractions, the first is below the second. -/
def Less (ds : Nat → Nat) (nd : Nat) (cs : Nat → Nat) (l : Nat) : Prop := dnum ds nd * 10 ^ l < dnum cs l * 10 ^ nd
theorem pow_split (i j : Nat) : 10 ^ (i + j) = 10 ^ i * 10 ^ j := Nat.pow_add 10 i j
theorem less_short {ds cs : Nat → Nat} {nd l : Nat} (he : ∀ j, j < nd → ds j = cs j) (hl : nd < l) (hc : Digs cs l) (hlast : cs (l - 1) ≠ 48) : Less ds nd cs l := by
  unfold Less
  rw [dnum_congr nd he]
  obtain ⟨j, rfl⟩ : ∃ j, l = nd + j + 1 := ⟨l - nd - 1, by omega⟩
  have h1 := dnum_lo (ds := cs) nd j
  have h2 := hc (nd + j) (by omega)
  have h3 : nd + j + 1 - 1 = nd + j := rfl
  rw [h3] at hlast
  have h4 : dnum cs nd * 10 ^ (j + 1) < dnum cs (nd + j + 1) := by
    show _ < dnum cs (nd + j) * 10 + (cs (nd + j) - 48)
    rw [Nat.pow_succ, ← Nat.mul_assoc]
    omega
  rw [Nat.add_assoc, pow_split nd (j + 1), Nat.mul_comm (10 ^ nd), ← Nat.mul_assoc]
  exact Nat.mul_lt_mul_of_pos_right h4 (Nat.pow_pos (by decide))
theorem less_at {ds cs : Nat → Nat} {nd l i : Nat} (he : ∀ j, j < i → ds j = cs j) (hi : i < nd) (hl : i < l) (hd : Digs ds nd) (hlt : ds i < cs i) : Less ds nd cs l := by
  unfold Less
  obtain ⟨a, rfl⟩ : ∃ a, nd = i + 1 + a := ⟨nd - i - 1, by omega⟩
  obtain ⟨b, rfl⟩ : ∃ b, l = i + 1 + b := ⟨l - i - 1, by omega⟩
  have h1 := dnum_hi (i + 1) a hd
  have h2 := dnum_lo (ds := cs) (i + 1) b
  have h0 := hd i (by omega)
  have h3 : dnum ds (i + 1) + 1 ≤ dnum cs (i + 1) := by
    show dnum ds i * 10 + (ds i - 48) + 1 ≤ dnum cs i * 10 + (cs i - 48)
    rw [dnum_congr i he]; omega
  calc dnum ds (i + 1 + a) * 10 ^ (i + 1 + b) < (dnum ds (i + 1) + 1) * 10 ^ a * 10 ^ (i + 1 + b) := Nat.mul_lt_mul_of_pos_right h1 (Nat.pow_pos (by decide))
    _ ≤ dnum cs (i + 1) * 10 ^ a * 10 ^ (i + 1 + b) := Nat.mul_le_mul_right _ (Nat.mul_le_mul_right _ h3)
    _ = dnum cs (i + 1) * 10 ^ b * 10 ^ (i + 1 + a) := by
      rw [pow_split (i + 1) b, pow_split (i + 1) a]
      simp only [Nat.mul_assoc]
      congr 1
      rw [Nat.mul_left_comm, Nat.mul_comm (10 ^ a), Nat.mul_left_comm (10 ^ b)]
    _ ≤ dnum cs (i + 1 + b) * 10 ^ (i + 1 + a) := Nat.mul_le_mul_right _ h2
theorem not_less_of {ds cs : Nat → Nat} {nd l : Nat} (h : Less cs l ds nd) : ¬ Less ds nd cs l := by
  unfold Less at *
  omega
theorem not_less_eq {ds cs : Nat → Nat} {nd l : Nat} (he : ∀ j, j < l → ds j = cs j) (hl : l ≤ nd) : ¬ Less ds nd cs l := by
  unfold Less
  obtain ⟨a, rfl⟩ : ∃ a, nd = l + a := ⟨nd - l, by omega⟩
  have h1 := dnum_lo (ds := ds) l a
  rw [dnum_congr l he] at h1
  have h2 := Nat.mul_le_mul_right (10 ^ l) h1
  rw [pow_split l a, Nat.mul_comm (10 ^ l), ← Nat.mul_assoc]
  omega

theorem drewN_gr {w w' : World} (h : ∃ n, w' = w.drewN n) : w.grownBy w' none := by
  obtain ⟨n, rfl⟩ := h
  exact gr_drewN (gr_refl _ _) _
theorem drewN_more {w w' : World} (h : ∃ n, w' = w.drewN n) (m : Nat) : ∃ n, w'.drewN m = w.drewN n := by
  obtain ⟨n, rfl⟩ := h
  exact ⟨n + m, by simp [World.drewN, Nat.add_assoc]⟩
/-- What prefixIsLessThan tells. -/
def PlEnds (w : World) (p : Prop) (b : Bool) (e : Ending) (w' : World) : Prop := e = .returned (.bool b) ∧ (b = true ↔ p) ∧ ∃ n, w' = w.drewN n
theorem PlEnds.yes {w w' : World} {p : Prop} {b : Bool} (hb : b = true ↔ p) (h : p) (hg : ∃ n, w' = w.drewN n) : PlEnds w p b (.returned (.bool true)) w' := by
  obtain rfl := hb.2 h
  exact ⟨rfl, hb, hg⟩
theorem PlEnds.no {w w' : World} {p : Prop} {b : Bool} (hb : b = true ↔ p) (h : ¬ p) (hg : ∃ n, w' = w.drewN n) : PlEnds w p b (.returned (.bool false)) w' := by
  have : b = false := by
    cases b
    · rfl
    · exact absurd (hb.1 rfl) h
  subst this
  exact ⟨rfl, hb, hg⟩

set_option maxHeartbeats 4000000 in
set_option maxRecDepth 1000000 in
theorem prefixLess_of {w : World} {g : Nat} {ds : Nat → Nat} {nd : Nat} (hc : ∀ i, i < nd → w.cell? ⟨g, i, none⟩ = some (.int .u8 (ds i : Nat))) (hnd : nd ≤ 800) (hd : Digs ds nd)
    (L : List UInt8) (cs : Nat → Nat) (hL : ∀ i (h : i < L.length), L[i].toNat = cs i) (hl : L.length ≤ 64) (hcs : Digs cs L.length) (hlast : 0 < L.length → cs (L.length - 1) ≠ 48) (b : Bool) (hb : b = true ↔ Less ds nd cs L.length) :
    Calls Tryz.prog 297 #[.slice (some ⟨g, 0, none⟩) nd 800, .string ⟨L.toArray⟩] w (PlEnds w (Less ds nd cs L.length) b) := by
  have HB := Lib.hid hb
  clear hb
  have HC := Lib.hid hc
  have HD := Lib.hid hd
  have HL := Lib.hid hL
  have HS := Lib.hid hcs
  have HA := Lib.hid hlast
  clear hc hd hL hcs hlast
  go_enter Tryz.func297, Tryz.ntmps297
  go_wp2_with fail
  go_loopg [5] (L.length) (fun gk i wr => ∃ k : Nat, i = .int .i64 (k : Nat) ∧ gk = L.length - k ∧ k ≤ L.length ∧ k ≤ nd ∧ Hid ((∀ j, j < k → ds j = cs j) ∧ ∃ n, wr = w.drewN n))
  case atStart => exact ⟨0, rfl, by omega, by omega, by omega, fun j hj => absurd hj (Nat.not_lt_zero j), 0, rfl⟩
  case round =>
    obtain ⟨k, rfl, rfl, hk, hkn, hR⟩ := hrel
    by_cases h1 : k < L.length
    · by_cases h2 : nd ≤ k
      · have HF := Lib.hid (less_short (l := L.length) (fun j hj => hR.out.1 j (by omega)) (by omega) HS.out (HA.out (by omega)) : Less ds nd cs L.length)
        go_wp2_with fail
        go_ret
        exact PlEnds.yes HB.out HF.out hR.out.2
      · have c0 := gr_cell (drewN_gr hR.out.2) (HC.out k (by omega))
        have hcell : ∀ h, (((⟨L.toArray⟩ : ByteArray)[k]'h).toNat : Int) = (cs k : Int) := fun h => by
          rw [← HL.out k h1]; rfl
        have i0 : (0 : Int) ≤ (k : Int) := by omega
        have i1 : (k : Int) < (nd : Int) := by omega
        have i2 : (k : Int) < (L.length : Int) := by omega
        have HR := Lib.hid hR.out
        clear hR
        by_cases h3 : ds k = cs k
        · have hb : (((ds k : Nat) : Int) != ((cs k : Nat) : Int)) = false := by rw [h3]; simp
          have HN := Lib.hid (show (∀ j, j < k + 1 → ds j = cs j) from fun j hj => by
            by_cases hjk : j = k
            · rw [hjk]; exact h3
            · exact HR.out.1 j (by omega))
          clear h3
          go_wp2_with fail
          go_quiet (fail)
          go_wp2_with fail
          go_roundg (L.length - (k + 1))
          case measure => omega
          case rel => exact ⟨k + 1, rfl, rfl, by omega, by omega, HN.out, drewN_more HR.out.2 _⟩
        · have hb : (((ds k : Nat) : Int) != ((cs k : Nat) : Int)) = true := by
            rw [bne_iff_ne]; omega
          by_cases h4 : ds k < cs k
          · have hb2 : decide (ds k < cs k) = true := decide_eq_true h4
            have HF := Lib.hid (less_at HR.out.1 (by omega) h1 HD.out h4 : Less ds nd cs L.length)
            clear h3 h4
            go_wp2_with fail
            go_quiet (fail)
            go_wp2_with fail
            go_quiet (fail)
            go_wp2
            go_ret
            exact PlEnds.yes HB.out HF.out (drewN_more (drewN_more HR.out.2 _) _)
          · have hb2 : decide (ds k < cs k) = false := decide_eq_false h4
            have HF := Lib.hid (not_less_of (less_at (fun j hj => (HR.out.1 j hj).symm) h1 (by omega) HS.out (by omega)) : ¬ Less ds nd cs L.length)
            clear h3 h4
            go_wp2_with fail
            go_quiet (fail)
            go_wp2_with fail
            go_quiet (fail)
            go_wp2
            go_ret
            exact PlEnds.no HB.out HF.out (drewN_more (drewN_more HR.out.2 _) _)
    · have hkl : k = L.length := by omega
      subst hkl
      have HF := Lib.hid (not_less_eq hR.out.1 hkn : ¬ Less ds nd cs L.length)
      go_wp2_with fail
      go_ret
      exact PlEnds.no HB.out HF.out hR.out.2
end Go.Proofs.YtlfeolfjlmelpaaGreatDoor
