/- The table of left shifts; plain facts of leftShift. -/
import Derived.Test.YtlfeolfjlmelpaaGreatDoorND
import GoSem.PinnedTables
namespace Go.Proofs.YtlfeolfjlmelpaaGreatDoor
open Go.RowKit

/-- The bytes of a list, by place. -/
def bs (L : List UInt8) (i : Nat) : Nat := (L.getD i 0).toNat
/-- A row of the table: how many digits 2^k has, and the digits of 5^k. -/
def CheatOk (k dl : Nat) (L : List UInt8) : Prop :=
  1 ≤ dl ∧ dl ≤ 19 ∧ 2 ^ k < 10 ^ dl ∧ 10 ^ (dl - 1) ≤ 2 ^ k ∧ dl + L.length = k + 1 ∧ dnum (bs L) L.length = 5 ^ k ∧ bs L (L.length - 1) ≠ 48 ∧ 1 ≤ L.length ∧ L.length ≤ 64 ∧ ∀ i, i < L.length → 48 ≤ bs L i ∧ bs L i ≤ 57
instance (k dl : Nat) (L : List UInt8) : Decidable (CheatOk k dl L) := by unfold CheatOk; exact inferInstance
theorem cheat_all : (List.range 61).all (fun k => k == 0 || match Pinned.cheatRows[k]? with | some (dl, L) => decide (CheatOk k dl L) | none => false) = true := by kernel_rfl
theorem cheat_ok (k : Nat) (h1 : 1 ≤ k) (h2 : k ≤ 60) : ∃ dl L, Pinned.cheatRows[k]? = some (dl, L) ∧ CheatOk k dl L := by
  have h := List.all_eq_true.1 cheat_all k (List.mem_range.2 (by omega))
  have h3 : (k == 0) = false := beq_eq_false_iff_ne.2 (by omega)
  rw [h3, Bool.false_or] at h
  cases hq : Pinned.cheatRows[k]? with
  | none => rw [hq] at h; cases h
  | some x => obtain ⟨dl, L⟩ := x; rw [hq] at h; exact ⟨dl, L, rfl, of_decide_eq_true h⟩

/-- How many digits come to it. -/
def dplus (ds : Nat → Nat) (nd : Nat) (L : List UInt8) (b : Bool) : Prop := b = true ↔ Less ds nd (bs L) L.length
theorem scaled {ds : Nat → Nat} {nd k dl : Nat} {L : List UInt8} {b : Bool} (hb : dplus ds nd L b) (hc : CheatOk k dl L) (hd : Digs ds nd) (h0 : 49 ≤ ds 0) (h1 : 1 ≤ nd) :
    dnum ds nd * 2 ^ k < 10 ^ (nd + (if b then dl - 1 else dl)) ∧ 10 ^ (nd + (if b then dl - 1 else dl) - 1) ≤ dnum ds nd * 2 ^ k := by
  obtain ⟨c1, c2, c3, c4, c5, c6, c7, c8, c9, c10⟩ := hc
  have hlt := dnum_lt nd hd
  obtain ⟨m, rfl⟩ : ∃ m, nd = m + 1 := ⟨nd - 1, by omega⟩
  have hge := dnum_ge h0 m
  unfold dplus Less at hb
  rw [c6] at hb
  have hpos : 0 < 10 ^ L.length := Nat.pow_pos (by decide)
  have h10 : (5 ^ k * 10 ^ (m + 1)) * 2 ^ k = 10 ^ (m + 1 + (dl - 1)) * 10 ^ L.length := by
    have e1 : (10 : Nat) ^ k = 5 ^ k * 2 ^ k := by rw [← Nat.mul_pow]
    rw [Nat.mul_right_comm, ← e1, ← Nat.pow_add, ← Nat.pow_add]
    congr 1; omega
  cases b with
  | true =>
    simp only [if_true]
    have hl := hb.1 rfl
    refine ⟨?_, ?_⟩
    · have h5 : dnum ds (m + 1) * 2 ^ k * 10 ^ L.length < 10 ^ (m + 1 + (dl - 1)) * 10 ^ L.length := by
        rw [← h10, Nat.mul_right_comm]
        exact Nat.mul_lt_mul_of_pos_right hl (Nat.two_pow_pos k)
      exact Nat.lt_of_mul_lt_mul_right h5
    · rw [show m + 1 + (dl - 1) - 1 = m + (dl - 1) by omega, Nat.pow_add]
      exact Nat.mul_le_mul hge c4
  | false =>
    simp only [Bool.false_eq_true, if_false]
    have hl : 5 ^ k * 10 ^ (m + 1) ≤ dnum ds (m + 1) * 10 ^ L.length := by
      rcases Nat.lt_or_ge (dnum ds (m + 1) * 10 ^ L.length) (5 ^ k * 10 ^ (m + 1)) with h | h
      · exact absurd (hb.2 h) (by decide)
      · exact h
    refine ⟨?_, ?_⟩
    · rw [Nat.pow_add]
      exact Nat.mul_lt_mul'' hlt c3
    · have h5 := Nat.mul_le_mul_right (2 ^ k) hl
      rw [h10, Nat.mul_right_comm] at h5
      have := Nat.le_of_mul_le_mul_right h5 hpos
      rw [show m + 1 + dl - 1 = m + 1 + (dl - 1) by omega]
      exact this

/-- The first loop: the digits from place rr on are done; n is to be carried on. -/
def LS1 (ds : Nat → Nat) (k nd d' rr n : Nat) (es : Nat → Nat) : Prop :=
  dnum ds nd * 2 ^ k / 10 ^ (nd - rr) = dnum ds rr * 2 ^ k + n ∧ n < 2 ^ k ∧ rr ≤ nd ∧ (∀ p, p < rr → es p = ds p) ∧
    ∀ p, rr + d' ≤ p → p < nd + d' → p < 800 → es p = 48 + dnum ds nd * 2 ^ k / 10 ^ (nd + d' - 1 - p) % 10
theorem LS1.start (ds : Nat → Nat) (k nd d' : Nat) : LS1 ds k nd d' nd 0 ds :=
  ⟨by simp, Nat.two_pow_pos k, Nat.le_refl _, fun _ _ => rfl, fun p h1 h2 => by omega⟩
theorem LS1.step {ds : Nat → Nat} {k nd d' rr n : Nat} {es fs : Nat → Nat} (h : LS1 ds k nd d' (rr + 1) n es) (hd : 48 ≤ ds rr ∧ ds rr ≤ 57)
    (hf : ∀ p, p < 800 → fs p = if p = rr + d' then 48 + ((ds rr - 48) * 2 ^ k + n) % 10 else es p) (hn8 : ∀ p, 800 ≤ p → fs p = es p) : LS1 ds k nd d' rr (((ds rr - 48) * 2 ^ k + n) / 10) fs := by
  obtain ⟨h1, h2, h3, h4, h5⟩ := h
  have e1 : dnum ds (rr + 1) * 2 ^ k + n = (dnum ds rr * 2 ^ k) * 10 + ((ds rr - 48) * 2 ^ k + n) := by
    show (dnum ds rr * 10 + (ds rr - 48)) * 2 ^ k + n = _
    rw [Nat.add_mul, Nat.mul_right_comm]; omega
  have hp := Nat.two_pow_pos k
  refine ⟨?_, ?_, by omega, fun p hp => ?_, fun p p1 p2 p3 => ?_⟩
  · rw [show nd - rr = (nd - (rr + 1)) + 1 by omega, Nat.pow_succ, ← Nat.div_div_eq_div_mul, h1, e1]
    omega
  · have : (ds rr - 48) * 2 ^ k ≤ 9 * 2 ^ k := Nat.mul_le_mul_right _ (by omega)
    omega
  · have hpf : fs p = es p := by
      by_cases h8 : p < 800
      · rw [hf p h8, if_neg (by omega)]
      · exact hn8 p (by omega)
    rw [hpf]; exact h4 p (by omega)
  · rw [hf p p3]
    by_cases hpe : p = rr + d'
    · rw [if_pos hpe, hpe, show nd + d' - 1 - (rr + d') = nd - (rr + 1) by omega, h1, e1]
      omega
    · rw [if_neg hpe]; exact h5 p (by omega) p2 p3
/-- The second loop: the places from ww on are done. -/
def LS2 (ds : Nat → Nat) (k nd d' ww n : Nat) (es : Nat → Nat) : Prop :=
  n = dnum ds nd * 2 ^ k / 10 ^ (nd + d' - ww) ∧ ww ≤ d' ∧ ∀ p, ww ≤ p → p < nd + d' → p < 800 → es p = 48 + dnum ds nd * 2 ^ k / 10 ^ (nd + d' - 1 - p) % 10
theorem LS1.turn {ds : Nat → Nat} {k nd d' n : Nat} {es : Nat → Nat} (h : LS1 ds k nd d' 0 n es) : LS2 ds k nd d' d' n es := by
  obtain ⟨h1, h2, h3, h4, h5⟩ := h
  refine ⟨?_, Nat.le_refl _, fun p p1 p2 p3 => h5 p (by omega) p2 p3⟩
  rw [show nd + d' - d' = nd - 0 by omega, h1]; simp [dnum]
theorem LS2.step {ds : Nat → Nat} {k nd d' ww n : Nat} {es fs : Nat → Nat} (h : LS2 ds k nd d' (ww + 1) n es) (hf : ∀ p, p < 800 → fs p = if p = ww then 48 + n % 10 else es p) : LS2 ds k nd d' ww (n / 10) fs := by
  obtain ⟨h1, h2, h5⟩ := h
  refine ⟨?_, by omega, fun p p1 p2 p3 => ?_⟩
  · rw [h1, show nd + d' - ww = (nd + d' - (ww + 1)) + 1 by omega, Nat.pow_succ, Nat.div_div_eq_div_mul]
  · rw [hf p p3]
    by_cases hpe : p = ww
    · rw [if_pos hpe, hpe, h1, show nd + d' - 1 - ww = nd + d' - (ww + 1) by omega]
    · rw [if_neg hpe]; exact h5 p (by omega) p2 p3
theorem LS2.pos {ds : Nat → Nat} {k nd d' ww n : Nat} {es : Nat → Nat} (h : LS2 ds k nd d' ww n es) (hlt : dnum ds nd * 2 ^ k < 10 ^ (nd + d')) (hn : n ≠ 0) : 1 ≤ ww := by
  rcases Nat.eq_zero_or_pos ww with h0 | h0
  · subst h0
    exact absurd (h.1.trans (Nat.div_eq_of_lt (by simpa using hlt))) hn
  · exact h0
theorem LS2.done {ds : Nat → Nat} {k nd d' ww : Nat} {es : Nat → Nat} (h : LS2 ds k nd d' ww 0 es) (hge : 10 ^ (nd + d' - 1) ≤ dnum ds nd * 2 ^ k) (h1 : 1 ≤ nd) : ww = 0 := by
  rcases Nat.eq_zero_or_pos ww with h0 | h0
  · exact h0
  · have h2 : dnum ds nd * 2 ^ k < 10 ^ (nd + d' - ww) := by
      rcases Nat.lt_or_ge (dnum ds nd * 2 ^ k) (10 ^ (nd + d' - ww)) with h3 | h3
      · exact h3
      · have := Nat.div_pos h3 (Nat.pow_pos (show 0 < 10 by decide))
        have := h.1
        omega
    have h3 : 10 ^ (nd + d' - ww) ≤ 10 ^ (nd + d' - 1) := Nat.pow_le_pow_right (by decide) (by omega)
    omega
theorem LS2.fin {ds : Nat → Nat} {k nd d' : Nat} {es : Nat → Nat} (h : LS2 ds k nd d' 0 0 es) (hlt : dnum ds nd * 2 ^ k < 10 ^ (nd + d')) (hge : 10 ^ (nd + d' - 1) ≤ dnum ds nd * 2 ^ k) (h1 : 1 ≤ nd) :
    Digs es (min (nd + d') 800) ∧ 49 ≤ es 0 ∧ (d' = 0 → (ds 0 - 48) * 2 ^ k ≤ es 0 - 48) := by
  obtain ⟨-, -, h5⟩ := h
  have e0 := h5 0 (Nat.le_refl _) (by omega) (by omega)
  have hq : dnum ds nd * 2 ^ k / 10 ^ (nd + d' - 1) < 10 := by
    refine Nat.div_lt_of_lt_mul ?_
    rw [← Nat.pow_succ, show (nd + d' - 1).succ = nd + d' by omega]; exact hlt
  have hq1 := Nat.div_pos hge (Nat.pow_pos (show 0 < 10 by decide))
  rw [Nat.sub_zero, Nat.mod_eq_of_lt hq] at e0
  refine ⟨fun i hi => ?_, by omega, fun hd => ?_⟩
  · rw [h5 i (Nat.zero_le _) (by omega) (by omega)]
    have := Nat.mod_lt (dnum ds nd * 2 ^ k / 10 ^ (nd + d' - 1 - i)) (show 0 < 10 by decide)
    omega
  · subst hd
    rw [e0, Nat.add_sub_cancel_left, Nat.add_zero]
    rw [Nat.le_div_iff_mul_le (Nat.pow_pos (by decide))]
    obtain ⟨m, rfl⟩ : ∃ m, nd = m + 1 := ⟨nd - 1, by omega⟩
    have h6 := dnum_lo (ds := ds) 1 m
    have e1 : dnum ds 1 = ds 0 - 48 := by simp [dnum]
    rw [e1, Nat.add_comm 1 m] at h6
    rw [Nat.mul_right_comm]
    exact Nat.mul_le_mul_right _ h6
end Go.Proofs.YtlfeolfjlmelpaaGreatDoor
