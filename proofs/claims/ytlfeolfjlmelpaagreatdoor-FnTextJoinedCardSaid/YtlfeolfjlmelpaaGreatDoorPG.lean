/- text.appendString: a string written with its quotes. -/
import Derived.Test.YtlfeolfjlmelpaaGreatDoorPF
import Derived.Test.YtlfeolfjlmelpaaGreatDoorKK
import Derived.Deep.RegionHeld3
namespace Go.Proofs.YtlfeolfjlmelpaaGreatDoor
open Go.RowKit

theorem str_take (l : List UInt8) (k : Nat) : (⟨l.toArray⟩ : ByteArray).extract 0 k = ⟨(l.take k).toArray⟩ := by
  apply ByteArray.ext
  simp

open Lib in
theorem enc_cases (c : UInt8) (t : List UInt8) :
    (128 ≤ c.toNat ∧ decodeL (c :: t) = (65533, 1)) ∨ (c.toNat < 128 ∧ decodeL (c :: t) = (c.toNat, 1)) ∨
    (∃ d r, c = 194 ∧ t = d :: r ∧ 128 ≤ d.toNat ∧ d.toNat ≤ 159 ∧ decodeL (c :: t) = (d.toNat, 2)) ∨
    (∃ R n, decodeL (c :: t) = (R, n) ∧ 160 ≤ R ∧ R ≤ 1114111 ∧ 2 ≤ n ∧ n ≤ t.length + 1 ∧ ¬ (R = 65533 ∧ n = 1)) := by
  by_cases h : c.toNat < 128
  · exact .inr (.inl ⟨h, dec_ascii c t h⟩)
  · by_cases hv : (decodeL (c :: t)).1 = 65533 ∧ (decodeL (c :: t)).2 = 1
    · exact .inl ⟨by omega, Prod.ext hv.1 hv.2⟩
    · obtain ⟨h1, h2, h3⟩ := decodeL_high c t (by omega) hv
      by_cases h4 : (decodeL (c :: t)).1 ≤ 159
      · obtain ⟨h5, d, r, rfl, rfl, h6⟩ := h3 h4
        exact .inr (.inr (.inl ⟨d, r, rfl, rfl, by omega, by omega, Prod.ext h6.symm h5⟩))
      · have h5 := decodeL_le (c :: t) (by simp)
        have h6 := decodeL_rune (c :: t)
        generalize decodeL (c :: t) = D at *
        obtain ⟨R, n⟩ := D
        exact .inr (.inr (.inr ⟨R, n, rfl, by simp only at h4; omega, h6, h1, by simpa using h5, hv⟩))
theorem pre_hex1 (c : UInt8) (h : c.toNat < 16) : Pre [c] (92 :: 120 :: 48 :: hexD c.toNat) := fun x' y' k => by
  have h1 : c.toNat / 16 = 0 := by omega
  have h2 : c.toNat % 16 = c.toNat := by omega
  have := EncR.hex c k
  rw [h1, h2] at this
  unfold hexD
  rw [if_pos h]
  exact this
theorem pre_hex2 (c : UInt8) (h : 16 ≤ c.toNat) : Pre [c] (92 :: 120 :: hexD c.toNat) := fun x' y' k => by
  unfold hexD
  rw [if_neg (by omega)]
  exact EncR.hex c k
theorem pre_uni (d : UInt8) (h : 128 ≤ d.toNat) (h2 : d.toNat ≤ 159) : Pre [194, d] (92 :: 117 :: 48 :: 48 :: hexD d.toNat) := fun x' y' k => by
  unfold hexD
  rw [if_neg (by omega)]
  exact EncR.uni d ⟨h, h2⟩ k
theorem pre_esc (q c : UInt8) (hq : (q.toNat = 34 ∧ c.toNat = 34) ∨ (q.toNat = 92 ∧ c.toNat = 92) ∨ (q.toNat = 110 ∧ c.toNat = 10) ∨ (q.toNat = 114 ∧ c.toNat = 13) ∨ (q.toNat = 116 ∧ c.toNat = 9)) : Pre [c] [92, q] := fun _ _ k => .esc q c hq k

set_option maxHeartbeats 40000000 in
set_option maxRecDepth 1000000 in
theorem appendString_of {w : World} (l : List UInt8) (hl : l.length ≤ 1000) (hU : HasU w) (hT : HasTz w) :
    Calls Tryz.prog 59 #[.slice none 0 0, .string ⟨l.toArray⟩, .bool false] w fun e w' => ∃ v' y, e = .returned v' ∧ Buf w.heap.size v' (34 :: y ++ [34]) w w' ∧ EncR l y ∧ y.length ≤ 6 * l.length := by
  have HU := Lib.hid hU
  have HT := Lib.hid hT
  have HL := Lib.hid hl
  have HI := Lib.hid (fun (w1 : World) (m : List UInt8) (hm : m.length ≤ 1000) => index_of (w := w1) m (by omega))
  have HB0 := Lib.hid (Buf.nil w)
  clear hU hT
  go_enter Tryz.func59, Tryz.ntmps59
  go_wp2_with (first
    | (at_builtin; refine wl_byte rfl _ _ rfl (Buf.out HB0.out) (by rfl) 34 _ rfl (by rfl) (by simp) ?next0)
    | fail)
  case next0 =>
    intro v1 w1 hb
    have HB := Lib.hid hb
    clear hb HB0
    go_wp2_with fail
    refine (HI.out w1 l HL.out).mono ?_
    rintro e w2 ⟨rfl, rfl⟩
    have hk := run_le l
    have hpl := run_plain l
    generalize run l = k at hk hpl ⊢
    have HPL := Lib.hid (Pre.plains hpl)
    clear hpl
    have hs1 : (⟨l.toArray⟩ : ByteArray).extract k l.length = ⟨(l.drop k).toArray⟩ := str_cut l k
    have hs2 : (⟨l.toArray⟩ : ByteArray).extract 0 k = ⟨(l.take k).toArray⟩ := str_take l k
    have HBD := Lib.hid HB.out.drew
    clear HB
    go_upto_region 3 with fail
    have hk0 : (0 : Int) ≤ (k : Int) := by omega
    have hk1 : (k : Int) ≤ (l.length : Int) := by omega
    go_region_held3 (fun _ => True) (trivial) ((refine step_text (by rfl) _ _ (by rfl) HBD.out (by rfl) (l.take k) (by rfl) (by have := HL.out; simp only [List.length_take, List.length_cons, List.length_nil]; omega) ?_; intro v3 w3 hb))
    have HB := Lib.hid hb
    clear hb hs1 hs2 HBD
    go_wp2_with fail
    go_loopg [0, 1] (l.length + 1) (fun gk o i wr => ∃ (v : Value) (x0 y0 l0 : List UInt8), o = v ∧ i = .string ⟨l0.toArray⟩ ∧ l0.length < gk ∧ Hid (Buf w.heap.size v (34 :: y0) w wr) ∧ Hid (l = x0 ++ l0) ∧ Hid (Pre x0 y0) ∧ Hid (y0.length ≤ 6 * x0.length ∧ x0.length + l0.length ≤ 1000))
    case atStart =>
      refine ⟨_, l.take k, l.take k, l.drop k, rfl, rfl, by simp; omega, Lib.hid (by have := HB.out; simpa using this), Lib.hid (by simp), HPL, Lib.hid ⟨by omega, ?_⟩⟩
      have := HL.out; simp; omega
    case round =>
      obtain ⟨v, x0, y0, l0, rfl, rfl, hgk, HB2, HX, HP, HY⟩ := hrel
      clear HB HPL
      have HB := HB2
      clear HB2
      cases l0 with
      | nil =>
        go_wp2_with (first
          | (at_builtin; refine wl_byte rfl _ _ rfl (Buf.out HB.out) (by rfl) 34 _ rfl (by rfl) (by have := HY.out; simp only [List.length_cons, List.length_nil] at this ⊢; omega) ?nextE)
          | fail)
        case nextE =>
          intro v' w' hb
          have HB := Lib.hid hb
          clear hb
          go_wp2
          go_ret
          refine ⟨_, y0, rfl, HB.out, ?_, ?_⟩
          · have := HP.out.done
            rw [HX.out, List.append_nil]; exact this
          · have := HY.out; rw [HX.out, List.append_nil]; exact this.1
      | cons c t =>
        have hc256 := c.toNat_lt
        have hlt : t.length + 1 ≤ 1000 := by have := HY.out; simp only [List.length_cons] at this; omega
        have HD := Lib.hid (decS_of (w := wr) (c :: t) (by simp) (HU.out.kept HB.out.gr))
        rcases enc_cases c t with ⟨h128, hdec⟩ | ⟨h128, hdec⟩ | ⟨d, r, rfl, rfl, hd1, hd2, hdec⟩ | ⟨R, n, hdec, hR1, hR2, hn1, hn2, hv⟩
        · rw [hdec] at HD
          have hw0 : ∀ h, (((⟨(c :: t).toArray⟩ : ByteArray)[0]'h).toNat : Int) = (c.toNat : Int) := fun h => rfl
          have hx1 : (⟨(c :: t).toArray⟩ : ByteArray).extract 1 (t.length + 1) = ⟨t.toArray⟩ := str_cut (c :: t) 1
          have q34 : ((c.toNat : Int) == 34) = false := beq_eq_false_iff_ne.2 (by omega)
          have q92 : ((c.toNat : Int) == 92) = false := beq_eq_false_iff_ne.2 (by omega)
          have q10 : ((c.toNat : Int) == 10) = false := beq_eq_false_iff_ne.2 (by omega)
          have q13 : ((c.toNat : Int) == 13) = false := beq_eq_false_iff_ne.2 (by omega)
          have q9 : ((c.toNat : Int) == 9) = false := beq_eq_false_iff_ne.2 (by omega)
          have hz : (⟨#[48, 48]⟩ : ByteArray).extract 2 2 = ⟨([] : List UInt8).toArray⟩ := rfl
          go_wp2_with fail
          refine HD.out.mono ?_
          clear HD
          rintro e w2 ⟨rfl, hg⟩
          have HB3 := Lib.hid (HB.out.kept hg)
          clear HB hg
          have HB := HB3
          clear HB3
          go_wp2_with (first
            | (at_builtin; refine wl_byte rfl _ _ rfl (Buf.out HB.out) (by rfl) 92 _ rfl (by rfl) (by have := HY.out; simp only [List.length_cons] at this ⊢; omega) ?next3)
            | fail)
          case next3 =>
            clear HB
            intro v' w' hb
            have HB := Lib.hid hb
            clear hb
            go_wp2_with (first
              | (at_builtin; refine wl_byte rfl _ _ rfl (Buf.out HB.out) (by rfl) 120 _ rfl (by rfl) (by have := HY.out; simp only [List.length_append, List.length_cons, List.length_nil] at this ⊢; omega) ?next2)
              | fail)
            case next2 =>
              clear HB
              intro v' w' hb
              have HB := Lib.hid hb
              clear hb
              go_wp2_with fail
              refine (len32_of c.toNat (by omega)).mono ?_
              rintro e w' ⟨⟨K, rfl, hK0, hK8, hK⟩, rfl⟩
              rw [if_neg (by omega)] at hK
              go_wp2_with (first
                | (at_builtin; refine wl_text rfl _ _ rfl HB.out (by rfl) [] (by rfl) (by have := HY.out; simp only [List.length_append, List.length_cons, List.length_nil] at this ⊢; omega) ?next1)
                | fail)
              case next1 =>
                clear HB
                intro v' w' hb
                have HB := Lib.hid hb
                clear hb
                go_wp2_with fail
                refine (appendUint_of c.toNat (by omega) HB.out (HT.out.kept HB.out.gr) (by have := HY.out; simp only [List.length_append, List.length_cons, List.length_nil] at this ⊢; omega)).mono ?_
                clear HB
                rintro e w' ⟨v', rfl, hb⟩
                have HB := Lib.hid hb
                clear hb
                go_wp2
                go_roundg (t.length + 1)
                case measure => simp only [List.length_cons] at hgk; omega
                case rel =>
                  refine ⟨_, x0 ++ [c], y0 ++ (92 :: 120 :: hexD c.toNat), t, rfl, rfl, by omega, Lib.hid (by have := HB.out; simpa using this), Lib.hid (by rw [HX.out]; simp), Lib.hid (HP.out.append (pre_hex2 c (by omega))), ?_⟩
                  have := HY.out
                  have := hexD_len c.toNat
                  exact Lib.hid (by simp only [List.length_append, List.length_cons, List.length_nil] at *; omega)

        · have hsplit : c.toNat = 34 ∨ c.toNat = 92 ∨ c.toNat = 10 ∨ c.toNat = 13 ∨ c.toNat = 9 ∨ (c.toNat < 16 ∧ c.toNat ≠ 9 ∧ c.toNat ≠ 10 ∧ c.toNat ≠ 13) ∨ (16 ≤ c.toNat ∧ c.toNat < 32) ∨ c.toNat = 127 ∨ (32 ≤ c.toNat ∧ c.toNat < 127 ∧ c.toNat ≠ 34 ∧ c.toNat ≠ 92) := by omega
          rcases hsplit with he | he | he | he | he | ⟨he, hf, hg1, hg2⟩ | ⟨he, hf⟩ | he | ⟨he, hf, hg1, hg2⟩
          · obtain rfl : c = 34 := u8_of_nat he
            rw [hdec] at HD
            have hw0 : ∀ h, (((⟨(34 :: t).toArray⟩ : ByteArray)[0]'h).toNat : Int) = 34 := fun h => rfl
            have hx1 : (⟨(34 :: t).toArray⟩ : ByteArray).extract 1 (t.length + 1) = ⟨t.toArray⟩ := str_cut (34 :: t) 1
            go_wp2_with fail
            refine HD.out.mono ?_
            clear HD
            rintro e w2 ⟨rfl, hg⟩
            have HB3 := Lib.hid (HB.out.kept hg)
            clear HB hg
            have HB := HB3
            clear HB3
            go_wp2_with (first
              | (at_builtin; refine wl_byte rfl _ _ rfl (Buf.out HB.out) (by rfl) 92 _ rfl (by rfl) (by have := HY.out; simp only [List.length_cons] at this ⊢; omega) ?next14)
              | fail)
            case next14 =>
              clear HB
              intro v' w' hb
              have HB := Lib.hid hb
              clear hb
              go_wp2_with (first
                | (at_builtin; refine wl_byte rfl _ _ rfl (Buf.out HB.out) (by rfl) 34 _ (by rfl) (by rfl) (by have := HY.out; simp only [List.length_append, List.length_cons, List.length_nil] at this ⊢; omega) ?next13)
                | fail)
              case next13 =>
                clear HB
                intro v' w' hb
                have HB := Lib.hid hb
                clear hb
                go_wp2
                go_roundg (t.length + 1)
                case measure => simp only [List.length_cons] at hgk; omega
                case rel =>
                  refine ⟨_, x0 ++ [34], y0 ++ [92, 34], t, rfl, rfl, by omega, Lib.hid (by have := HB.out; simpa using this), Lib.hid (by rw [HX.out]; simp), Lib.hid (HP.out.append (pre_esc 34 34 (.inl ⟨rfl, rfl⟩))), ?_⟩
                  have := HY.out
                  have := hexD_len (34 : UInt8).toNat
                  exact Lib.hid (by simp only [List.length_append, List.length_cons, List.length_nil] at *; omega)

          · obtain rfl : c = 92 := u8_of_nat he
            rw [hdec] at HD
            have hw0 : ∀ h, (((⟨(92 :: t).toArray⟩ : ByteArray)[0]'h).toNat : Int) = 92 := fun h => rfl
            have hx1 : (⟨(92 :: t).toArray⟩ : ByteArray).extract 1 (t.length + 1) = ⟨t.toArray⟩ := str_cut (92 :: t) 1
            go_wp2_with fail
            refine HD.out.mono ?_
            clear HD
            rintro e w2 ⟨rfl, hg⟩
            have HB3 := Lib.hid (HB.out.kept hg)
            clear HB hg
            have HB := HB3
            clear HB3
            go_wp2_with (first
              | (at_builtin; refine wl_byte rfl _ _ rfl (Buf.out HB.out) (by rfl) 92 _ rfl (by rfl) (by have := HY.out; simp only [List.length_cons] at this ⊢; omega) ?next16)
              | fail)
            case next16 =>
              clear HB
              intro v' w' hb
              have HB := Lib.hid hb
              clear hb
              go_wp2_with (first
                | (at_builtin; refine wl_byte rfl _ _ rfl (Buf.out HB.out) (by rfl) 92 _ (by rfl) (by rfl) (by have := HY.out; simp only [List.length_append, List.length_cons, List.length_nil] at this ⊢; omega) ?next15)
                | fail)
              case next15 =>
                clear HB
                intro v' w' hb
                have HB := Lib.hid hb
                clear hb
                go_wp2
                go_roundg (t.length + 1)
                case measure => simp only [List.length_cons] at hgk; omega
                case rel =>
                  refine ⟨_, x0 ++ [92], y0 ++ [92, 92], t, rfl, rfl, by omega, Lib.hid (by have := HB.out; simpa using this), Lib.hid (by rw [HX.out]; simp), Lib.hid (HP.out.append (pre_esc 92 92 (.inr (.inl ⟨rfl, rfl⟩)))), ?_⟩
                  have := HY.out
                  have := hexD_len (92 : UInt8).toNat
                  exact Lib.hid (by simp only [List.length_append, List.length_cons, List.length_nil] at *; omega)

          · rw [hdec] at HD
            have hlo : (c.toNat : Int) < 32 := by omega
            have hw0 : ∀ h, (((⟨(c :: t).toArray⟩ : ByteArray)[0]'h).toNat : Int) = (c.toNat : Int) := fun h => rfl
            have hx1 : (⟨(c :: t).toArray⟩ : ByteArray).extract 1 (t.length + 1) = ⟨t.toArray⟩ := str_cut (c :: t) 1
            have q10 : ((c.toNat : Int) == 10) = true := beq_iff_eq.2 (by omega)
            have q34 : ((c.toNat : Int) == 34) = false := beq_eq_false_iff_ne.2 (by omega)
            have q92 : ((c.toNat : Int) == 92) = false := beq_eq_false_iff_ne.2 (by omega)
            have q65533 : ((c.toNat : Int) == 65533) = false := beq_eq_false_iff_ne.2 (by omega)
            go_wp2_with fail
            refine HD.out.mono ?_
            clear HD
            rintro e w2 ⟨rfl, hg⟩
            have HB3 := Lib.hid (HB.out.kept hg)
            clear HB hg
            have HB := HB3
            clear HB3
            go_wp2_with (first
              | (at_builtin; refine wl_byte rfl _ _ rfl (Buf.out HB.out) (by rfl) 92 _ rfl (by rfl) (by have := HY.out; simp only [List.length_cons] at this ⊢; omega) ?next18)
              | fail)
            case next18 =>
              clear HB
              intro v' w' hb
              have HB := Lib.hid hb
              clear hb
              go_wp2_with (first
                | (at_builtin; refine wl_byte rfl _ _ rfl (Buf.out HB.out) (by rfl) 110 _ (by rfl) (by rfl) (by have := HY.out; simp only [List.length_append, List.length_cons, List.length_nil] at this ⊢; omega) ?next17)
                | fail)
              case next17 =>
                clear HB
                intro v' w' hb
                have HB := Lib.hid hb
                clear hb
                go_wp2
                go_roundg (t.length + 1)
                case measure => simp only [List.length_cons] at hgk; omega
                case rel =>
                  refine ⟨_, x0 ++ [c], y0 ++ [92, 110], t, rfl, rfl, by omega, Lib.hid (by have := HB.out; simpa using this), Lib.hid (by rw [HX.out]; simp), Lib.hid (HP.out.append (pre_esc 110 c (.inr (.inr (.inl ⟨rfl, he⟩))))), ?_⟩
                  have := HY.out
                  have := hexD_len c.toNat
                  exact Lib.hid (by simp only [List.length_append, List.length_cons, List.length_nil] at *; omega)

          · rw [hdec] at HD
            have hlo : (c.toNat : Int) < 32 := by omega
            have hw0 : ∀ h, (((⟨(c :: t).toArray⟩ : ByteArray)[0]'h).toNat : Int) = (c.toNat : Int) := fun h => rfl
            have hx1 : (⟨(c :: t).toArray⟩ : ByteArray).extract 1 (t.length + 1) = ⟨t.toArray⟩ := str_cut (c :: t) 1
            have q13 : ((c.toNat : Int) == 13) = true := beq_iff_eq.2 (by omega)
            have q34 : ((c.toNat : Int) == 34) = false := beq_eq_false_iff_ne.2 (by omega)
            have q92 : ((c.toNat : Int) == 92) = false := beq_eq_false_iff_ne.2 (by omega)
            have q10 : ((c.toNat : Int) == 10) = false := beq_eq_false_iff_ne.2 (by omega)
            have q65533 : ((c.toNat : Int) == 65533) = false := beq_eq_false_iff_ne.2 (by omega)
            go_wp2_with fail
            refine HD.out.mono ?_
            clear HD
            rintro e w2 ⟨rfl, hg⟩
            have HB3 := Lib.hid (HB.out.kept hg)
            clear HB hg
            have HB := HB3
            clear HB3
            go_wp2_with (first
              | (at_builtin; refine wl_byte rfl _ _ rfl (Buf.out HB.out) (by rfl) 92 _ rfl (by rfl) (by have := HY.out; simp only [List.length_cons] at this ⊢; omega) ?next20)
              | fail)
            case next20 =>
              clear HB
              intro v' w' hb
              have HB := Lib.hid hb
              clear hb
              go_wp2_with (first
                | (at_builtin; refine wl_byte rfl _ _ rfl (Buf.out HB.out) (by rfl) 114 _ (by rfl) (by rfl) (by have := HY.out; simp only [List.length_append, List.length_cons, List.length_nil] at this ⊢; omega) ?next19)
                | fail)
              case next19 =>
                clear HB
                intro v' w' hb
                have HB := Lib.hid hb
                clear hb
                go_wp2
                go_roundg (t.length + 1)
                case measure => simp only [List.length_cons] at hgk; omega
                case rel =>
                  refine ⟨_, x0 ++ [c], y0 ++ [92, 114], t, rfl, rfl, by omega, Lib.hid (by have := HB.out; simpa using this), Lib.hid (by rw [HX.out]; simp), Lib.hid (HP.out.append (pre_esc 114 c (.inr (.inr (.inr (.inl ⟨rfl, he⟩)))))), ?_⟩
                  have := HY.out
                  have := hexD_len c.toNat
                  exact Lib.hid (by simp only [List.length_append, List.length_cons, List.length_nil] at *; omega)

          · rw [hdec] at HD
            have hlo : (c.toNat : Int) < 32 := by omega
            have hw0 : ∀ h, (((⟨(c :: t).toArray⟩ : ByteArray)[0]'h).toNat : Int) = (c.toNat : Int) := fun h => rfl
            have hx1 : (⟨(c :: t).toArray⟩ : ByteArray).extract 1 (t.length + 1) = ⟨t.toArray⟩ := str_cut (c :: t) 1
            have q9 : ((c.toNat : Int) == 9) = true := beq_iff_eq.2 (by omega)
            have q34 : ((c.toNat : Int) == 34) = false := beq_eq_false_iff_ne.2 (by omega)
            have q92 : ((c.toNat : Int) == 92) = false := beq_eq_false_iff_ne.2 (by omega)
            have q10 : ((c.toNat : Int) == 10) = false := beq_eq_false_iff_ne.2 (by omega)
            have q13 : ((c.toNat : Int) == 13) = false := beq_eq_false_iff_ne.2 (by omega)
            have q65533 : ((c.toNat : Int) == 65533) = false := beq_eq_false_iff_ne.2 (by omega)
            go_wp2_with fail
            refine HD.out.mono ?_
            clear HD
            rintro e w2 ⟨rfl, hg⟩
            have HB3 := Lib.hid (HB.out.kept hg)
            clear HB hg
            have HB := HB3
            clear HB3
            go_wp2_with (first
              | (at_builtin; refine wl_byte rfl _ _ rfl (Buf.out HB.out) (by rfl) 92 _ rfl (by rfl) (by have := HY.out; simp only [List.length_cons] at this ⊢; omega) ?next22)
              | fail)
            case next22 =>
              clear HB
              intro v' w' hb
              have HB := Lib.hid hb
              clear hb
              go_wp2_with (first
                | (at_builtin; refine wl_byte rfl _ _ rfl (Buf.out HB.out) (by rfl) 116 _ (by rfl) (by rfl) (by have := HY.out; simp only [List.length_append, List.length_cons, List.length_nil] at this ⊢; omega) ?next21)
                | fail)
              case next21 =>
                clear HB
                intro v' w' hb
                have HB := Lib.hid hb
                clear hb
                go_wp2
                go_roundg (t.length + 1)
                case measure => simp only [List.length_cons] at hgk; omega
                case rel =>
                  refine ⟨_, x0 ++ [c], y0 ++ [92, 116], t, rfl, rfl, by omega, Lib.hid (by have := HB.out; simpa using this), Lib.hid (by rw [HX.out]; simp), Lib.hid (HP.out.append (pre_esc 116 c (.inr (.inr (.inr (.inr ⟨rfl, he⟩)))))), ?_⟩
                  have := HY.out
                  have := hexD_len c.toNat
                  exact Lib.hid (by simp only [List.length_append, List.length_cons, List.length_nil] at *; omega)

          · rw [hdec] at HD
            have hlo : (c.toNat : Int) < 32 := by omega
            have hw0 : ∀ h, (((⟨(c :: t).toArray⟩ : ByteArray)[0]'h).toNat : Int) = (c.toNat : Int) := fun h => rfl
            have hx1 : (⟨(c :: t).toArray⟩ : ByteArray).extract 1 (t.length + 1) = ⟨t.toArray⟩ := str_cut (c :: t) 1
            have q34 : ((c.toNat : Int) == 34) = false := beq_eq_false_iff_ne.2 (by omega)
            have q92 : ((c.toNat : Int) == 92) = false := beq_eq_false_iff_ne.2 (by omega)
            have q10 : ((c.toNat : Int) == 10) = false := beq_eq_false_iff_ne.2 (by omega)
            have q13 : ((c.toNat : Int) == 13) = false := beq_eq_false_iff_ne.2 (by omega)
            have q9 : ((c.toNat : Int) == 9) = false := beq_eq_false_iff_ne.2 (by omega)
            have q65533 : ((c.toNat : Int) == 65533) = false := beq_eq_false_iff_ne.2 (by omega)
            have hz : (⟨#[48, 48]⟩ : ByteArray).extract 1 2 = ⟨([48] : List UInt8).toArray⟩ := rfl
            go_wp2_with fail
            refine HD.out.mono ?_
            clear HD
            rintro e w2 ⟨rfl, hg⟩
            have HB3 := Lib.hid (HB.out.kept hg)
            clear HB hg
            have HB := HB3
            clear HB3
            go_wp2_with (first
              | (at_builtin; refine wl_byte rfl _ _ rfl (Buf.out HB.out) (by rfl) 92 _ rfl (by rfl) (by have := HY.out; simp only [List.length_cons] at this ⊢; omega) ?next6)
              | fail)
            case next6 =>
              clear HB
              intro v' w' hb
              have HB := Lib.hid hb
              clear hb
              go_wp2_with (first
                | (at_builtin; refine wl_byte rfl _ _ rfl (Buf.out HB.out) (by rfl) 120 _ rfl (by rfl) (by have := HY.out; simp only [List.length_append, List.length_cons, List.length_nil] at this ⊢; omega) ?next5)
                | fail)
              case next5 =>
                clear HB
                intro v' w' hb
                have HB := Lib.hid hb
                clear hb
                go_wp2_with fail
                refine (len32_of c.toNat (by omega)).mono ?_
                rintro e w' ⟨⟨K, rfl, hK0, hK8, hK⟩, rfl⟩
                rw [if_pos (by omega)] at hK
                go_wp2_with (first
                  | (at_builtin; refine wl_text rfl _ _ rfl HB.out (by rfl) [48] (by rfl) (by have := HY.out; simp only [List.length_append, List.length_cons, List.length_nil] at this ⊢; omega) ?next4)
                  | fail)
                case next4 =>
                  clear HB
                  intro v' w' hb
                  have HB := Lib.hid hb
                  clear hb
                  go_wp2_with fail
                  refine (appendUint_of c.toNat (by omega) HB.out (HT.out.kept HB.out.gr) (by have := HY.out; simp only [List.length_append, List.length_cons, List.length_nil] at this ⊢; omega)).mono ?_
                  clear HB
                  rintro e w' ⟨v', rfl, hb⟩
                  have HB := Lib.hid hb
                  clear hb
                  go_wp2
                  go_roundg (t.length + 1)
                  case measure => simp only [List.length_cons] at hgk; omega
                  case rel =>
                    refine ⟨_, x0 ++ [c], y0 ++ (92 :: 120 :: 48 :: hexD c.toNat), t, rfl, rfl, by omega, Lib.hid (by have := HB.out; simpa using this), Lib.hid (by rw [HX.out]; simp), Lib.hid (HP.out.append (pre_hex1 c (by omega))), ?_⟩
                    have := HY.out
                    have := hexD_len c.toNat
                    exact Lib.hid (by simp only [List.length_append, List.length_cons, List.length_nil] at *; omega)

          · rw [hdec] at HD
            have hlo : (c.toNat : Int) < 32 := by omega
            have hw0 : ∀ h, (((⟨(c :: t).toArray⟩ : ByteArray)[0]'h).toNat : Int) = (c.toNat : Int) := fun h => rfl
            have hx1 : (⟨(c :: t).toArray⟩ : ByteArray).extract 1 (t.length + 1) = ⟨t.toArray⟩ := str_cut (c :: t) 1
            have q34 : ((c.toNat : Int) == 34) = false := beq_eq_false_iff_ne.2 (by omega)
            have q92 : ((c.toNat : Int) == 92) = false := beq_eq_false_iff_ne.2 (by omega)
            have q10 : ((c.toNat : Int) == 10) = false := beq_eq_false_iff_ne.2 (by omega)
            have q13 : ((c.toNat : Int) == 13) = false := beq_eq_false_iff_ne.2 (by omega)
            have q9 : ((c.toNat : Int) == 9) = false := beq_eq_false_iff_ne.2 (by omega)
            have q65533 : ((c.toNat : Int) == 65533) = false := beq_eq_false_iff_ne.2 (by omega)
            have hz : (⟨#[48, 48]⟩ : ByteArray).extract 2 2 = ⟨([] : List UInt8).toArray⟩ := rfl
            go_wp2_with fail
            refine HD.out.mono ?_
            clear HD
            rintro e w2 ⟨rfl, hg⟩
            have HB3 := Lib.hid (HB.out.kept hg)
            clear HB hg
            have HB := HB3
            clear HB3
            go_wp2_with (first
              | (at_builtin; refine wl_byte rfl _ _ rfl (Buf.out HB.out) (by rfl) 92 _ rfl (by rfl) (by have := HY.out; simp only [List.length_cons] at this ⊢; omega) ?next9)
              | fail)
            case next9 =>
              clear HB
              intro v' w' hb
              have HB := Lib.hid hb
              clear hb
              go_wp2_with (first
                | (at_builtin; refine wl_byte rfl _ _ rfl (Buf.out HB.out) (by rfl) 120 _ rfl (by rfl) (by have := HY.out; simp only [List.length_append, List.length_cons, List.length_nil] at this ⊢; omega) ?next8)
                | fail)
              case next8 =>
                clear HB
                intro v' w' hb
                have HB := Lib.hid hb
                clear hb
                go_wp2_with fail
                refine (len32_of c.toNat (by omega)).mono ?_
                rintro e w' ⟨⟨K, rfl, hK0, hK8, hK⟩, rfl⟩
                rw [if_neg (by omega)] at hK
                go_wp2_with (first
                  | (at_builtin; refine wl_text rfl _ _ rfl HB.out (by rfl) [] (by rfl) (by have := HY.out; simp only [List.length_append, List.length_cons, List.length_nil] at this ⊢; omega) ?next7)
                  | fail)
                case next7 =>
                  clear HB
                  intro v' w' hb
                  have HB := Lib.hid hb
                  clear hb
                  go_wp2_with fail
                  refine (appendUint_of c.toNat (by omega) HB.out (HT.out.kept HB.out.gr) (by have := HY.out; simp only [List.length_append, List.length_cons, List.length_nil] at this ⊢; omega)).mono ?_
                  clear HB
                  rintro e w' ⟨v', rfl, hb⟩
                  have HB := Lib.hid hb
                  clear hb
                  go_wp2
                  go_roundg (t.length + 1)
                  case measure => simp only [List.length_cons] at hgk; omega
                  case rel =>
                    refine ⟨_, x0 ++ [c], y0 ++ (92 :: 120 :: hexD c.toNat), t, rfl, rfl, by omega, Lib.hid (by have := HB.out; simpa using this), Lib.hid (by rw [HX.out]; simp), Lib.hid (HP.out.append (pre_hex2 c (by omega))), ?_⟩
                    have := HY.out
                    have := hexD_len c.toNat
                    exact Lib.hid (by simp only [List.length_append, List.length_cons, List.length_nil] at *; omega)

          · rw [hdec] at HD
            have hlo : ¬ (c.toNat : Int) < 32 := by omega
            have q127 : ((c.toNat : Int) == 127) = true := beq_iff_eq.2 (by omega)
            have hd1 : 126 < c.toNat := by omega
            clear he
            have hw0 : ∀ h, (((⟨(c :: t).toArray⟩ : ByteArray)[0]'h).toNat : Int) = (c.toNat : Int) := fun h => rfl
            have hx1 : (⟨(c :: t).toArray⟩ : ByteArray).extract 1 (t.length + 1) = ⟨t.toArray⟩ := str_cut (c :: t) 1
            have q34 : ((c.toNat : Int) == 34) = false := beq_eq_false_iff_ne.2 (by omega)
            have q92 : ((c.toNat : Int) == 92) = false := beq_eq_false_iff_ne.2 (by omega)
            have q10 : ((c.toNat : Int) == 10) = false := beq_eq_false_iff_ne.2 (by omega)
            have q13 : ((c.toNat : Int) == 13) = false := beq_eq_false_iff_ne.2 (by omega)
            have q9 : ((c.toNat : Int) == 9) = false := beq_eq_false_iff_ne.2 (by omega)
            have q65533 : ((c.toNat : Int) == 65533) = false := beq_eq_false_iff_ne.2 (by omega)
            have hz : (⟨#[48, 48]⟩ : ByteArray).extract 2 2 = ⟨([] : List UInt8).toArray⟩ := rfl
            go_wp2_with fail
            refine HD.out.mono ?_
            clear HD
            rintro e w2 ⟨rfl, hg⟩
            have HB3 := Lib.hid (HB.out.kept hg)
            clear HB hg
            have HB := HB3
            clear HB3
            go_wp2_with (first
              | (at_builtin; refine wl_byte rfl _ _ rfl (Buf.out HB.out) (by rfl) 92 _ rfl (by rfl) (by have := HY.out; simp only [List.length_cons] at this ⊢; omega) ?next12)
              | fail)
            case next12 =>
              clear HB
              intro v' w' hb
              have HB := Lib.hid hb
              clear hb
              go_wp2_with (first
                | (at_builtin; refine wl_byte rfl _ _ rfl (Buf.out HB.out) (by rfl) 120 _ rfl (by rfl) (by have := HY.out; simp only [List.length_append, List.length_cons, List.length_nil] at this ⊢; omega) ?next11)
                | fail)
              case next11 =>
                clear HB
                intro v' w' hb
                have HB := Lib.hid hb
                clear hb
                go_wp2_with fail
                refine (len32_of c.toNat (by omega)).mono ?_
                rintro e w' ⟨⟨K, rfl, hK0, hK8, hK⟩, rfl⟩
                rw [if_neg (by omega)] at hK
                go_wp2_with (first
                  | (at_builtin; refine wl_text rfl _ _ rfl HB.out (by rfl) [] (by rfl) (by have := HY.out; simp only [List.length_append, List.length_cons, List.length_nil] at this ⊢; omega) ?next10)
                  | fail)
                case next10 =>
                  clear HB
                  intro v' w' hb
                  have HB := Lib.hid hb
                  clear hb
                  go_wp2_with fail
                  refine (appendUint_of c.toNat (by omega) HB.out (HT.out.kept HB.out.gr) (by have := HY.out; simp only [List.length_append, List.length_cons, List.length_nil] at this ⊢; omega)).mono ?_
                  clear HB
                  rintro e w' ⟨v', rfl, hb⟩
                  have HB := Lib.hid hb
                  clear hb
                  go_wp2
                  go_roundg (t.length + 1)
                  case measure => simp only [List.length_cons] at hgk; omega
                  case rel =>
                    refine ⟨_, x0 ++ [c], y0 ++ (92 :: 120 :: hexD c.toNat), t, rfl, rfl, by omega, Lib.hid (by have := HB.out; simpa using this), Lib.hid (by rw [HX.out]; simp), Lib.hid (HP.out.append (pre_hex2 c (by omega))), ?_⟩
                    have := HY.out
                    have := hexD_len c.toNat
                    exact Lib.hid (by simp only [List.length_append, List.length_cons, List.length_nil] at *; omega)

          · have hpc := Pre.chunk (c :: t) (by simp) (by rw [hdec]; exact (fun h => by have := h.1; simp only at this; omega)) (by rw [hdec]; simp only; omega) (by rw [hdec]; simp only; omega) (by rw [hdec]; simp only; omega)
            rw [hdec] at hpc HD
            simp only at hpc
            have HPC := Lib.hid hpc
            clear hpc
            have hlo : ¬ (c.toNat : Int) < 32 := by omega
            have q34 : ((c.toNat : Int) == 34) = false := beq_eq_false_iff_ne.2 (by omega)
            have q92 : ((c.toNat : Int) == 92) = false := beq_eq_false_iff_ne.2 (by omega)
            have q127 : ((c.toNat : Int) == 127) = false := beq_eq_false_iff_ne.2 (by omega)
            have q65533 : ((c.toNat : Int) == 65533) = false := beq_eq_false_iff_ne.2 (by omega)
            have hno : ¬ 128 ≤ (c.toNat : Int) := by omega
            have hn0 : (0 : Int) ≤ (1 : Int) := by omega
            have hnl : (1 : Int) ≤ (t.length : Int) + 1 := by omega
            have hsn : (⟨(c :: t).toArray⟩ : ByteArray).extract 1 (t.length + 1) = ⟨((c :: t).drop 1).toArray⟩ := str_cut (c :: t) 1
            go_wp2_with fail
            refine HD.out.mono ?_
            clear HD
            rintro e w2 ⟨rfl, hg⟩
            have HB3 := Lib.hid (HB.out.kept hg)
            clear HB hg
            have HB := HB3
            clear HB3
            go_wp2_with fail
            refine (HI.out _ ((c :: t).drop 1) (by simp only [List.length_drop, List.length_cons]; omega)).mono ?_
            rintro e w3 ⟨rfl, rfl⟩
            have hk2 := run_le ((c :: t).drop 1)
            rw [List.length_drop, List.length_cons] at hk2
            generalize run ((c :: t).drop 1) = k2 at hk2 HPC ⊢
            have hs1 : (⟨(c :: t).toArray⟩ : ByteArray).extract (1 + k2) (t.length + 1) = ⟨((c :: t).drop (1 + k2)).toArray⟩ := str_cut (c :: t) _
            have hs2 : (⟨(c :: t).toArray⟩ : ByteArray).extract 0 (1 + k2) = ⟨((c :: t).take (1 + k2)).toArray⟩ := str_take (c :: t) _
            have hwk : IntKind.i64.wrap ((1 : Int) + (k2 : Int)) = (1 : Int) + (k2 : Int) := IntWalk.i64_in _ (by omega)
            have hs3 : (⟨(c :: t).toArray⟩ : ByteArray).extract ((1 : Int) + (k2 : Int)).toNat (t.length + 1) = ⟨((c :: t).drop (1 + k2)).toArray⟩ := by rw [show ((1 : Int) + (k2 : Int)).toNat = 1 + k2 by omega]; exact hs1
            have hs4 : (⟨(c :: t).toArray⟩ : ByteArray).extract 0 ((1 : Int) + (k2 : Int)).toNat = ⟨((c :: t).take (1 + k2)).toArray⟩ := by rw [show ((1 : Int) + (k2 : Int)).toNat = 1 + k2 by omega]; exact hs2
            have hm0 : (0 : Int) ≤ (1 : Int) + (k2 : Int) := by omega
            have hm1 : (1 : Int) + (k2 : Int) ≤ (t.length : Int) + 1 := by omega
            have HBD := Lib.hid HB.out.drew
            clear HB hsn
            go_upto_region 35 with fail
            go_region_held3 (fun _ => True) (trivial) ((refine step_text (by rfl) _ _ (by rfl) HBD.out (by rfl) ((c :: t).take (1 + k2)) (by rfl) (by have := HY.out; simp only [List.length_cons, List.length_take] at this ⊢; omega) ?_; intro v4 w4 hb))
            have HB := Lib.hid hb
            clear hb HBD hs1 hs2 hs3 hs4
            go_wp2
            go_roundg (t.length + 1)
            case measure => simp only [List.length_cons] at hgk; omega
            case rel =>
              refine ⟨_, x0 ++ (c :: t).take (1 + k2), y0 ++ (c :: t).take (1 + k2), (c :: t).drop (1 + k2), rfl, rfl, by simp only [List.length_drop, List.length_cons]; omega, Lib.hid (by have := HB.out; simpa using this), Lib.hid (by rw [HX.out, List.append_assoc, List.take_append_drop]), Lib.hid (HP.out.append HPC.out), ?_⟩
              have := HY.out
              exact Lib.hid (by simp only [List.length_append, List.length_take, List.length_drop, List.length_cons] at *; omega)

        · rw [hdec] at HD
          have hx2 : (⟨(194 :: d :: r).toArray⟩ : ByteArray).extract 2 (r.length + 1 + 1) = ⟨r.toArray⟩ := str_cut (194 :: d :: r) 2
          have hz : (⟨#[48, 48, 48, 48]⟩ : ByteArray).extract 2 4 = ⟨([48, 48] : List UInt8).toArray⟩ := rfl
          have hlo : ¬ (d.toNat : Int) < 32 := by omega
          have hge : 128 ≤ (d.toNat : Int) := by omega
          have hle : (d.toNat : Int) ≤ 159 := by omega
          have hd256 := d.toNat_lt
          have q34 : (((d.toNat : Int) : Int) == 34) = false := beq_eq_false_iff_ne.2 (by omega)
          have q92 : (((d.toNat : Int) : Int) == 92) = false := beq_eq_false_iff_ne.2 (by omega)
          have q127 : (((d.toNat : Int) : Int) == 127) = false := beq_eq_false_iff_ne.2 (by omega)
          have q65533 : (((d.toNat : Int) : Int) == 65533) = false := beq_eq_false_iff_ne.2 (by omega)
          go_wp2_with fail
          refine HD.out.mono ?_
          clear HD
          rintro e w2 ⟨rfl, hg⟩
          have HB3 := Lib.hid (HB.out.kept hg)
          clear HB hg
          have HB := HB3
          clear HB3
          go_wp2_with (first
            | (at_builtin; refine wl_byte rfl _ _ rfl (Buf.out HB.out) (by rfl) 92 _ rfl (by rfl) (by have := HY.out; simp only [List.length_cons] at this ⊢; omega) ?next25)
            | fail)
          case next25 =>
            clear HB
            intro v' w' hb
            have HB := Lib.hid hb
            clear hb
            go_wp2_with (first
              | (at_builtin; refine wl_byte rfl _ _ rfl (Buf.out HB.out) (by rfl) 117 _ rfl (by rfl) (by have := HY.out; simp only [List.length_append, List.length_cons, List.length_nil] at this ⊢; omega) ?next24)
              | fail)
            case next24 =>
              clear HB
              intro v' w' hb
              have HB := Lib.hid hb
              clear hb
              go_wp2_with fail
              refine (len32_of d.toNat (by omega)).mono ?_
              rintro e w' ⟨⟨K, rfl, hK0, hK8, hK⟩, rfl⟩
              rw [if_neg (by omega)] at hK
              go_wp2_with (first
                | (at_builtin; refine wl_text rfl _ _ rfl HB.out (by rfl) [48, 48] (by rfl) (by have := HY.out; simp only [List.length_append, List.length_cons, List.length_nil] at this ⊢; omega) ?next23)
                | fail)
              case next23 =>
                clear HB
                intro v' w' hb
                have HB := Lib.hid hb
                clear hb
                go_wp2_with fail
                refine (appendUint_of d.toNat (by omega) HB.out (HT.out.kept HB.out.gr) (by have := HY.out; simp only [List.length_append, List.length_cons, List.length_nil] at this ⊢; omega)).mono ?_
                clear HB
                rintro e w' ⟨v', rfl, hb⟩
                have HB := Lib.hid hb
                clear hb
                go_wp2
                go_roundg (r.length + 1 + 1)
                case measure => simp only [List.length_cons] at hgk; omega
                case rel =>
                  refine ⟨_, x0 ++ [194, d], y0 ++ (92 :: 117 :: 48 :: 48 :: hexD d.toNat), r, rfl, rfl, by omega, Lib.hid (by have := HB.out; simpa using this), Lib.hid (by rw [HX.out]; simp), Lib.hid (HP.out.append (pre_uni d (by omega) (by omega))), ?_⟩
                  have := HY.out
                  have := hexD_len d.toNat
                  exact Lib.hid (by simp only [List.length_append, List.length_cons, List.length_nil] at *; omega)

        · by_cases hR : R = 65533
          · have hq1 : ((R : Int) == 65533) = true := beq_iff_eq.2 (by omega)
            have hq2 : ((n : Int) == 1) = false := beq_eq_false_iff_ne.2 (by omega)
            have hpc := Pre.chunk (c :: t) (by simp) (by rw [hdec]; exact hv) (by rw [hdec]; simp only; omega) (by rw [hdec]; simp only; omega) (by rw [hdec]; simp only; omega)
            rw [hdec] at hpc HD
            simp only at hpc
            have HPC := Lib.hid hpc
            clear hpc
            have hlo : ¬ (R : Int) < 32 := by omega
            have hge : 128 ≤ (R : Int) := by omega
            have hgt : ¬ (R : Int) ≤ 159 := by omega
            have q34 : (((R : Int) : Int) == 34) = false := beq_eq_false_iff_ne.2 (by omega)
            have q92 : (((R : Int) : Int) == 92) = false := beq_eq_false_iff_ne.2 (by omega)
            have q127 : (((R : Int) : Int) == 127) = false := beq_eq_false_iff_ne.2 (by omega)
            have hn0 : (0 : Int) ≤ (n : Int) := by omega
            have hnl : (n : Int) ≤ (t.length : Int) + 1 := by omega
            have hsn : (⟨(c :: t).toArray⟩ : ByteArray).extract n (t.length + 1) = ⟨((c :: t).drop n).toArray⟩ := str_cut (c :: t) n
            go_wp2_with fail
            refine HD.out.mono ?_
            clear HD
            rintro e w2 ⟨rfl, hg⟩
            have HB3 := Lib.hid (HB.out.kept hg)
            clear HB hg
            have HB := HB3
            clear HB3
            go_wp2_with fail
            refine (HI.out _ ((c :: t).drop n) (by simp only [List.length_drop, List.length_cons]; omega)).mono ?_
            rintro e w3 ⟨rfl, rfl⟩
            have hk2 := run_le ((c :: t).drop n)
            rw [List.length_drop, List.length_cons] at hk2
            generalize run ((c :: t).drop n) = k2 at hk2 HPC ⊢
            have hs1 : (⟨(c :: t).toArray⟩ : ByteArray).extract (n + k2) (t.length + 1) = ⟨((c :: t).drop (n + k2)).toArray⟩ := str_cut (c :: t) _
            have hs2 : (⟨(c :: t).toArray⟩ : ByteArray).extract 0 (n + k2) = ⟨((c :: t).take (n + k2)).toArray⟩ := str_take (c :: t) _
            have hwk : IntKind.i64.wrap ((n : Int) + (k2 : Int)) = (n : Int) + (k2 : Int) := IntWalk.i64_in _ (by omega)
            have hs3 : (⟨(c :: t).toArray⟩ : ByteArray).extract ((n : Int) + (k2 : Int)).toNat (t.length + 1) = ⟨((c :: t).drop (n + k2)).toArray⟩ := by rw [show ((n : Int) + (k2 : Int)).toNat = n + k2 by omega]; exact hs1
            have hs4 : (⟨(c :: t).toArray⟩ : ByteArray).extract 0 ((n : Int) + (k2 : Int)).toNat = ⟨((c :: t).take (n + k2)).toArray⟩ := by rw [show ((n : Int) + (k2 : Int)).toNat = n + k2 by omega]; exact hs2
            have hm0 : (0 : Int) ≤ (n : Int) + (k2 : Int) := by omega
            have hm1 : (n : Int) + (k2 : Int) ≤ (t.length : Int) + 1 := by omega
            have HBD := Lib.hid HB.out.drew
            clear HB hsn
            go_upto_region 35 with fail
            go_region_held3 (fun _ => True) (trivial) ((refine step_text (by rfl) _ _ (by rfl) HBD.out (by rfl) ((c :: t).take (n + k2)) (by rfl) (by have := HY.out; simp only [List.length_cons, List.length_take] at this ⊢; omega) ?_; intro v4 w4 hb))
            have HB := Lib.hid hb
            clear hb HBD hs1 hs2 hs3 hs4
            go_wp2
            go_roundg (t.length + 1)
            case measure => simp only [List.length_cons] at hgk; omega
            case rel =>
              refine ⟨_, x0 ++ (c :: t).take (n + k2), y0 ++ (c :: t).take (n + k2), (c :: t).drop (n + k2), rfl, rfl, by simp only [List.length_drop, List.length_cons]; omega, Lib.hid (by have := HB.out; simpa using this), Lib.hid (by rw [HX.out, List.append_assoc, List.take_append_drop]), Lib.hid (HP.out.append HPC.out), ?_⟩
              have := HY.out
              exact Lib.hid (by simp only [List.length_append, List.length_take, List.length_drop, List.length_cons] at *; omega)
          · have hq1 : ((R : Int) == 65533) = false := beq_eq_false_iff_ne.2 (by omega)
            have hpc := Pre.chunk (c :: t) (by simp) (by rw [hdec]; exact hv) (by rw [hdec]; simp only; omega) (by rw [hdec]; simp only; omega) (by rw [hdec]; simp only; omega)
            rw [hdec] at hpc HD
            simp only at hpc
            have HPC := Lib.hid hpc
            clear hpc
            have hlo : ¬ (R : Int) < 32 := by omega
            have hge : 128 ≤ (R : Int) := by omega
            have hgt : ¬ (R : Int) ≤ 159 := by omega
            have q34 : (((R : Int) : Int) == 34) = false := beq_eq_false_iff_ne.2 (by omega)
            have q92 : (((R : Int) : Int) == 92) = false := beq_eq_false_iff_ne.2 (by omega)
            have q127 : (((R : Int) : Int) == 127) = false := beq_eq_false_iff_ne.2 (by omega)
            have hn0 : (0 : Int) ≤ (n : Int) := by omega
            have hnl : (n : Int) ≤ (t.length : Int) + 1 := by omega
            have hsn : (⟨(c :: t).toArray⟩ : ByteArray).extract n (t.length + 1) = ⟨((c :: t).drop n).toArray⟩ := str_cut (c :: t) n
            go_wp2_with fail
            refine HD.out.mono ?_
            clear HD
            rintro e w2 ⟨rfl, hg⟩
            have HB3 := Lib.hid (HB.out.kept hg)
            clear HB hg
            have HB := HB3
            clear HB3
            go_wp2_with fail
            refine (HI.out _ ((c :: t).drop n) (by simp only [List.length_drop, List.length_cons]; omega)).mono ?_
            rintro e w3 ⟨rfl, rfl⟩
            have hk2 := run_le ((c :: t).drop n)
            rw [List.length_drop, List.length_cons] at hk2
            generalize run ((c :: t).drop n) = k2 at hk2 HPC ⊢
            have hs1 : (⟨(c :: t).toArray⟩ : ByteArray).extract (n + k2) (t.length + 1) = ⟨((c :: t).drop (n + k2)).toArray⟩ := str_cut (c :: t) _
            have hs2 : (⟨(c :: t).toArray⟩ : ByteArray).extract 0 (n + k2) = ⟨((c :: t).take (n + k2)).toArray⟩ := str_take (c :: t) _
            have hwk : IntKind.i64.wrap ((n : Int) + (k2 : Int)) = (n : Int) + (k2 : Int) := IntWalk.i64_in _ (by omega)
            have hs3 : (⟨(c :: t).toArray⟩ : ByteArray).extract ((n : Int) + (k2 : Int)).toNat (t.length + 1) = ⟨((c :: t).drop (n + k2)).toArray⟩ := by rw [show ((n : Int) + (k2 : Int)).toNat = n + k2 by omega]; exact hs1
            have hs4 : (⟨(c :: t).toArray⟩ : ByteArray).extract 0 ((n : Int) + (k2 : Int)).toNat = ⟨((c :: t).take (n + k2)).toArray⟩ := by rw [show ((n : Int) + (k2 : Int)).toNat = n + k2 by omega]; exact hs2
            have hm0 : (0 : Int) ≤ (n : Int) + (k2 : Int) := by omega
            have hm1 : (n : Int) + (k2 : Int) ≤ (t.length : Int) + 1 := by omega
            have HBD := Lib.hid HB.out.drew
            clear HB hsn
            go_upto_region 35 with fail
            go_region_held3 (fun _ => True) (trivial) ((refine step_text (by rfl) _ _ (by rfl) HBD.out (by rfl) ((c :: t).take (n + k2)) (by rfl) (by have := HY.out; simp only [List.length_cons, List.length_take] at this ⊢; omega) ?_; intro v4 w4 hb))
            have HB := Lib.hid hb
            clear hb HBD hs1 hs2 hs3 hs4
            go_wp2
            go_roundg (t.length + 1)
            case measure => simp only [List.length_cons] at hgk; omega
            case rel =>
              refine ⟨_, x0 ++ (c :: t).take (n + k2), y0 ++ (c :: t).take (n + k2), (c :: t).drop (n + k2), rfl, rfl, by simp only [List.length_drop, List.length_cons]; omega, Lib.hid (by have := HB.out; simpa using this), Lib.hid (by rw [HX.out, List.append_assoc, List.take_append_drop]), Lib.hid (HP.out.append HPC.out), ?_⟩
              have := HY.out
              exact Lib.hid (by simp only [List.length_append, List.length_take, List.length_drop, List.length_cons] at *; omega)

end Go.Proofs.YtlfeolfjlmelpaaGreatDoor
