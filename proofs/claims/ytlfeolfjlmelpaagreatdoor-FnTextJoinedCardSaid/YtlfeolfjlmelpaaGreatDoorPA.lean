/- Strings of the text form: how a string is written, piece by piece. Plain facts. -/
import Derived.Lib.MapLaws
namespace Go.Proofs.YtlfeolfjlmelpaaGreatDoor
open Go.RowKit Go.Lib

/-- A byte that stands for itself wherever it is. -/
def isPl (c : UInt8) : Prop := 32 ≤ c.toNat ∧ c.toNat < 127 ∧ c.toNat ≠ 34 ∧ c.toNat ≠ 39 ∧ c.toNat ≠ 92
instance (c : UInt8) : Decidable (isPl c) := by unfold isPl; infer_instance
/-- How many bytes stand for themselves. -/
def run : List UInt8 → Nat
  | [] => 0
  | c :: l => if isPl c then run l + 1 else 0
theorem run_le : ∀ l : List UInt8, run l ≤ l.length
  | [] => Nat.le_refl _
  | c :: l => by
    have := run_le l
    unfold run
    rw [List.length_cons]
    split <;> omega
theorem run_plain : ∀ (l : List UInt8), ∀ c ∈ l.take (run l), isPl c
  | [] => fun c h => by simp at h
  | x :: l => fun c h => by
    unfold run at h
    split at h
    · rw [List.take_succ_cons] at h
      rcases List.mem_cons.1 h with rfl | h
      · assumption
      · exact run_plain l c h
    · rw [List.take_zero] at h; cases h
/-- A small hexadecimal digit. -/
def hx (d : Nat) : UInt8 := UInt8.ofNat (if d < 10 then 48 + d else 87 + d)
theorem hx_toNat {d : Nat} (h : d < 16) : (hx d).toNat = if d < 10 then 48 + d else 87 + d := by
  unfold hx
  rw [UInt8.toNat_ofNat', Nat.mod_eq_of_lt]
  split <;> omega

/-- A written string (without its quotes) of a string. -/
inductive EncR : List UInt8 → List UInt8 → Prop
  | nil : EncR [] []
  | plain (c : UInt8) {x y : List UInt8} (hc : isPl c) (h : EncR x y) : EncR (c :: x) (c :: y)
  | rune (c : UInt8) (t : List UInt8) (R : Nat) {x y : List UInt8} (hc : ¬ isPl c) (hd : ∀ s, decodeL ((c :: t) ++ s) = (R, (c :: t).length)) (hR : ¬ (R = 65533 ∧ (c :: t).length = 1)) (h0 : R ≠ 0) (h1 : R ≠ 10) (h2 : R ≠ 34) (h3 : R ≠ 92) (h : EncR x y) : EncR ((c :: t) ++ x) ((c :: t) ++ y)
  | esc (q c : UInt8) {x y : List UInt8} (hq : (q.toNat = 34 ∧ c.toNat = 34) ∨ (q.toNat = 92 ∧ c.toNat = 92) ∨ (q.toNat = 110 ∧ c.toNat = 10) ∨ (q.toNat = 114 ∧ c.toNat = 13) ∨ (q.toNat = 116 ∧ c.toNat = 9)) (h : EncR x y) : EncR (c :: x) (92 :: q :: y)
  | hex (c : UInt8) {x y : List UInt8} (h : EncR x y) : EncR (c :: x) (92 :: 120 :: hx (c.toNat / 16) :: hx (c.toNat % 16) :: y)
  | uni (c : UInt8) {x y : List UInt8} (hc : 128 ≤ c.toNat ∧ c.toNat ≤ 159) (h : EncR x y) : EncR (194 :: c :: x) (92 :: 117 :: 48 :: 48 :: hx (c.toNat / 16) :: hx (c.toNat % 16) :: y)

/-- A beginning of a written string. -/
def Pre (x y : List UInt8) : Prop := ∀ x' y', EncR x' y' → EncR (x ++ x') (y ++ y')
theorem Pre.nil : Pre [] [] := fun _ _ h => h
theorem Pre.append {x y u v : List UInt8} (h : Pre x y) (g : Pre u v) : Pre (x ++ u) (y ++ v) := fun x' y' k => by
  rw [List.append_assoc, List.append_assoc]
  exact h _ _ (g _ _ k)
theorem Pre.done {x y : List UInt8} (h : Pre x y) : EncR x y := by simpa using h [] [] .nil
theorem Pre.plains : ∀ {u : List UInt8}, (∀ c ∈ u, isPl c) → Pre u u
  | [], _ => .nil
  | c :: u, h => fun _ _ k => .plain c (h c (by simp)) (Pre.plains (fun d hd => h d (by simp [hd])) _ _ k)

/-- Behind a written string the bytes that stand for themselves are its own. -/
theorem EncR.run {x y : List UInt8} (h : EncR x y) (rest : List UInt8) : ∃ u x2 y2, x = u ++ x2 ∧ y = u ++ y2 ∧ EncR x2 y2 ∧ YtlfeolfjlmelpaaGreatDoor.run (y ++ 34 :: rest) = u.length := by
  induction h with
  | nil => exact ⟨[], [], [], rfl, rfl, .nil, by simp [YtlfeolfjlmelpaaGreatDoor.run, isPl]⟩
  | plain c hc h ih =>
    obtain ⟨u, x2, y2, rfl, rfl, e3, e4⟩ := ih
    refine ⟨c :: u, x2, y2, rfl, rfl, e3, ?_⟩
    rw [List.cons_append, YtlfeolfjlmelpaaGreatDoor.run, if_pos hc, e4, List.length_cons]
  | rune c t R hc hd hR h0 h1 h2 h3 h _ => exact ⟨[], _, _, rfl, rfl, .rune c t R hc hd hR h0 h1 h2 h3 h, by rw [List.cons_append, List.cons_append, YtlfeolfjlmelpaaGreatDoor.run, if_neg hc]; rfl⟩
  | esc q c hq h _ => exact ⟨[], _, _, rfl, rfl, .esc q c hq h, by rw [List.cons_append, YtlfeolfjlmelpaaGreatDoor.run, if_neg (by unfold isPl; decide)]; rfl⟩
  | hex c h _ => exact ⟨[], _, _, rfl, rfl, .hex c h, by rw [List.cons_append, YtlfeolfjlmelpaaGreatDoor.run, if_neg (by unfold isPl; decide)]; rfl⟩
  | uni c hc h _ => exact ⟨[], _, _, rfl, rfl, .uni c hc h, by rw [List.cons_append, YtlfeolfjlmelpaaGreatDoor.run, if_neg (by unfold isPl; decide)]; rfl⟩

theorem dec_ascii (c : UInt8) (t : List UInt8) (h : c.toNat < 128) : decodeL (c :: t) = (c.toNat, 1) := by
  rw [decodeL_N]
  exact decodeN_ascii _ _ _ _ _ h
/-- A rune that is whole decodes alike whatever is behind it. -/
theorem decodeL_whole (l : List UInt8) (hne : l ≠ []) (hv : ¬ ((decodeL l).1 = 65533 ∧ (decodeL l).2 = 1)) (s : List UInt8) : decodeL (l.take (decodeL l).2 ++ s) = decodeL l := by
  have hle := decodeL_le l hne
  have hw := decodeL_width l
  by_cases h1 : (decodeL l).2 = 1
  · obtain ⟨c, t, rfl⟩ : ∃ c t, l = c :: t := by
      cases l with
      | nil => exact absurd rfl hne
      | cons c t => exact ⟨c, t, rfl⟩
    rw [h1]
    have hc : c.toNat < 128 := by
      rcases Nat.lt_or_ge c.toNat 128 with h | h
      · exact h
      · exfalso
        rw [decodeL_N] at h1 hv
        rcases decodeN_shape (c :: t).length ((c :: t).getD 0 0).toNat ((c :: t).getD 1 0).toNat ((c :: t).getD 2 0).toNat ((c :: t).getD 3 0).toNat with ⟨k, e⟩ | ⟨c1, c2, c3, cv, e⟩ | ⟨c1, c2, c3, c4, cv, cs, e⟩ | ⟨c1, c2, c3, c4, c5, cv, cw, e⟩ | e
        · simp at k; omega
        · rw [e] at h1; simp at h1
        · rw [e] at h1; simp at h1
        · rw [e] at h1; simp at h1
        · rw [e] at hv; exact hv ⟨rfl, rfl⟩
    rw [List.take_succ_cons, List.take_zero, dec_ascii _ _ hc]
    exact dec_ascii _ _ hc
  · have hn2 : 2 ≤ (decodeL l).2 := by omega
    generalize hn : (decodeL l).2 = n at *
    have hlen : (l.take n).length = n := by rw [List.length_take]; omega
    have hg : ∀ k, k < n → (l.take n ++ s).getD k 0 = l.getD k 0 := fun k hk => by
      rw [List.getD_eq_getElem?_getD, List.getD_eq_getElem?_getD, List.getElem?_append_left (by omega), List.getElem?_take_of_lt hk]
    have key : decodeN l.length (l.getD 0 0).toNat (l.getD 1 0).toNat (l.getD 2 0).toNat (l.getD 3 0).toNat = decodeL l := (decodeL_N l).symm
    rw [decodeL_N, ← key]
    rw [← key] at hn
    have k0 := hg 0 (by omega)
    have k1 := hg 1 (by omega)
    rw [k0, k1]
    have e2 : 2 < n → (l.take n ++ s).getD 2 0 = l.getD 2 0 := fun h => hg 2 h
    have e3 : 3 < n → (l.take n ++ s).getD 3 0 = l.getD 3 0 := fun h => hg 3 h
    have hL : n ≤ (l.take n ++ s).length := by rw [List.length_append]; omega
    generalize (l.take n ++ s).length = N at hL
    generalize (l.take n ++ s).getD 2 0 = a2 at e2
    generalize (l.take n ++ s).getD 3 0 = a3 at e3
    have q0 := (l.getD 0 0).toNat_lt
    rcases decodeN_shape l.length (l.getD 0 0).toNat (l.getD 1 0).toNat (l.getD 2 0).toNat (l.getD 3 0).toNat with ⟨k, e⟩ | ⟨c1, c2, c3, cv, e⟩ | ⟨c1, c2, c3, c4, cv, cs, e⟩ | ⟨c1, c2, c3, c4, c5, cv, cw, e⟩ | e
    · rw [e] at hn; simp at hn; omega
    · rw [e] at hn ⊢
      simp only at hn
      subst hn
      unfold decodeN
      rw [if_neg (by omega), if_pos ⟨c1, by omega, c3⟩, if_pos (by omega)]
    · rw [e] at hn ⊢
      simp only at hn
      subst hn
      rw [e2 (by omega)]
      unfold decodeN
      rw [if_neg (by omega), if_neg (by omega), if_pos ⟨c1, ⟨by omega, c3⟩, by omega, c4⟩, if_pos ⟨by omega, by omega⟩]
    · rw [e] at hn ⊢
      simp only at hn
      subst hn
      rw [e2 (by omega), e3 (by omega)]
      unfold decodeN
      rw [if_neg (by omega), if_neg (by omega), if_neg (by omega), if_pos ⟨c1, ⟨by omega, c3⟩, ⟨by omega, c4⟩, by omega, c5⟩, if_pos ⟨by omega, by omega⟩]
    · rw [e] at hn; simp at hn; omega

/-- What a decoder says of a byte from 128 on. -/
theorem decodeL_high (c : UInt8) (t : List UInt8) (hc : 128 ≤ c.toNat) (hv : ¬ ((decodeL (c :: t)).1 = 65533 ∧ (decodeL (c :: t)).2 = 1)) :
    2 ≤ (decodeL (c :: t)).2 ∧ 128 ≤ (decodeL (c :: t)).1 ∧ ((decodeL (c :: t)).1 ≤ 159 → (decodeL (c :: t)).2 = 2 ∧ ∃ d r, c = 194 ∧ t = d :: r ∧ d.toNat = (decodeL (c :: t)).1) := by
  rw [decodeL_N] at hv ⊢
  have q1 := ((c :: t).getD 1 0).toNat_lt
  have e0 : (c :: t).getD 0 0 = c := rfl
  rw [e0] at hv ⊢
  rcases decodeN_shape (c :: t).length c.toNat ((c :: t).getD 1 0).toNat ((c :: t).getD 2 0).toNat ((c :: t).getD 3 0).toNat with ⟨k, e⟩ | ⟨c1, c2, c3, cv, e⟩ | ⟨c1, c2, c3, c4, cv, cs, e⟩ | ⟨c1, c2, c3, c4, c5, cv, cw, e⟩ | e
  · omega
  · rw [e]
    refine ⟨Nat.le_refl _, cv, fun h => ⟨rfl, ?_⟩⟩
    cases t with
    | nil => simp at c2
    | cons d r =>
      have e1 : (c :: d :: r).getD 1 0 = d := rfl
      rw [e1] at h c3 ⊢
      refine ⟨d, r, ?_, rfl, ?_⟩
      · apply UInt8.toNat_inj.1
        show c.toNat = 194
        simp only at h
        omega
      · simp only at h ⊢
        omega
  · rw [e]
    refine ⟨by simp, ?_, fun h => ?_⟩
    · simp only; omega
    · simp only at h; omega
  · rw [e]
    refine ⟨by simp, ?_, fun h => ?_⟩
    · simp only; omega
    · simp only at h; omega
  · rw [e] at hv; exact absurd ⟨rfl, rfl⟩ hv
/-- A rune that stands as it is, and the bytes behind it that stand for themselves. -/
theorem Pre.chunk (l : List UInt8) (hne : l ≠ []) (hv : ¬ ((decodeL l).1 = 65533 ∧ (decodeL l).2 = 1)) (h1 : 32 ≤ (decodeL l).1) (h2 : (decodeL l).1 ≠ 34) (h3 : (decodeL l).1 ≠ 92) :
    Pre (l.take ((decodeL l).2 + run (l.drop (decodeL l).2))) (l.take ((decodeL l).2 + run (l.drop (decodeL l).2))) := by
  have hw := decodeL_width l
  have hle := decodeL_le l hne
  rw [List.take_add]
  refine Pre.append ?_ (Pre.plains (run_plain _))
  have hW := decodeL_whole l hne hv
  obtain ⟨c, t, rfl⟩ : ∃ c t, l = c :: t := by
    cases l with
    | nil => exact absurd rfl hne
    | cons c t => exact ⟨c, t, rfl⟩
  generalize hD : decodeL (c :: t) = D at *
  obtain ⟨R, n⟩ := D
  simp only at *
  obtain ⟨m, rfl⟩ : ∃ m, n = m + 1 := ⟨n - 1, by omega⟩
  rw [List.take_succ_cons] at hW ⊢
  have hlen : (c :: t.take m).length = m + 1 := by
    rw [List.length_cons, List.length_take]
    rw [List.length_cons] at hle
    omega
  by_cases hc : isPl c
  · have hm : m = 0 := by
      have := dec_ascii c t (by unfold isPl at hc; omega)
      rw [hD] at this
      simpa using (Prod.mk.inj this).2
    subst hm
    rw [List.take_zero]
    exact Pre.plains (fun d hd => by rw [List.mem_singleton.1 hd]; exact hc)
  · refine fun x' y' k => .rune c (t.take m) R hc (fun s => ?_) ?_ (by omega) (by omega) h2 h3 k
    · rw [hW s, hlen]
    · rw [hlen]; exact hv
end Go.Proofs.YtlfeolfjlmelpaaGreatDoor
