/- PK, PL, PM in one text. -/
import Derived.Test.YtlfeolfjlmelpaaGreatDoorPG
namespace Go.Proofs.YtlfeolfjlmelpaaGreatDoor
open Go.RowKit

set_option maxHeartbeats 1000000 in
set_option maxRecDepth 1000000 in
theorem textQuote_of {w : World} (l : List UInt8) (hl : l.length ≤ 1000) (hU : HasU w) (hT : HasTz w) :
    Calls Tryz.prog 13 #[.string ⟨l.toArray⟩] w fun e w' => ∃ A c y, e = .returned (.slice A (34 :: y ++ [34]).length c) ∧ IsB w' A c (34 :: y ++ [34]) ∧ EncR l y ∧ y.length ≤ 6 * l.length ∧ w.grownBy w' none := by
  have h32 : Calls Tryz.prog 32 #[.slice none 0 0, .string ⟨l.toArray⟩] w fun e w' => ∃ v' y, e = .returned v' ∧ Buf w.heap.size v' (34 :: y ++ [34]) w w' ∧ EncR l y ∧ y.length ≤ 6 * l.length := by
    have H := Lib.hid (appendString_of (w := w) l hl hU hT)
    clear hU hT
    go_enter Tryz.func32, Tryz.ntmps32
    go_wp2_with fail
    refine H.out.mono ?_
    rintro e w' ⟨v', y, rfl, h1, h2, h3⟩
    have H1 := Lib.hid h1
    have H2 := Lib.hid h2
    clear h1 h2 H
    go_wp2
    go_ret
    exact ⟨_, y, rfl, H1.out, H2.out, h3⟩
  have H := Lib.hid h32
  clear hU hT h32
  go_enter Tryz.func13, Tryz.ntmps13
  go_wp2_with fail
  refine H.out.mono ?_
  rintro e w' ⟨v', y, rfl, h1, h2, h3⟩
  obtain ⟨A, c, rfl, hB⟩ := h1.isB (by simp)
  have H1 := Lib.hid h1.gr
  have H2 := Lib.hid h2
  have H3 := Lib.hid hB
  clear h1 h2 H hB
  go_wp2
  go_ret
  exact ⟨A, c, y, by simp, H3.out, H2.out, h3, H1.out⟩
end Go.Proofs.YtlfeolfjlmelpaaGreatDoor
namespace Go.Proofs.YtlfeolfjlmelpaaGreatDoor
open Go.RowKit

/-- The slice reads as these strings. -/
structure IsS (w : World) (A : Option Addr) (c : Nat) (xs : List (List UInt8)) : Prop where
  le : xs.length ≤ c
  cap : c ≤ 9223372036854775807
  row : xs ≠ [] → ∃ b o, A = some ⟨b, o, none⟩ ∧ ∀ i (h : i < xs.length), w.cell? ⟨b, o + i, none⟩ = some (.string ⟨xs[i].toArray⟩)
theorem IsS.kept {w w' : World} {A : Option Addr} {c : Nat} {xs : List (List UInt8)} (h : IsS w A c xs) (hg : w.grownBy w' none) : IsS w' A c xs :=
  ⟨h.le, h.cap, fun hne => by
    obtain ⟨b, o, e, k⟩ := h.row hne
    exact ⟨b, o, e, fun i hi => gr_cell hg (k i hi)⟩⟩

set_option maxHeartbeats 2000000 in
set_option maxRecDepth 1000000 in
theorem zzFits_of {w : World} {A : Option Addr} {c : Nat} (xs : List (List UInt8)) (h : IsS w A c xs) :
    Calls Tryz.prog 12 #[.slice A xs.length c] w fun e w' => (∃ b : Bool, e = .returned (.bool b)) ∧ w' = w := by
  have H := Lib.hid h
  have hle := h.le
  have hcap := h.cap
  clear h
  by_cases hbig : (2147483647 : Int) < (xs.length : Int)
  · go_enter Tryz.func12, Tryz.ntmps12
    go_wp2
    go_ret
    first | exact ⟨⟨_, rfl⟩, rfl⟩ | exact ⟨.inl rfl, rfl⟩ | exact ⟨.inr rfl, rfl⟩ | exact .inl rfl | exact .inr rfl
  · generalize hn : xs.length = n at hle hbig ⊢
    have HN := Lib.hid hn
    clear hn
    go_enter Tryz.func12, Tryz.ntmps12
    go_wp2
    go_loop [10] (fun i => ∃ k : Nat, k ≤ n ∧ i = .int .i64 (k : Nat)) (fun i => n + 1 - (intOf i).toNat)
    case atStart => exact ⟨0, Nat.zero_le _, rfl⟩
    case round =>
      obtain ⟨k, hk, rfl⟩ := hrel
      by_cases hlt : k < n
      · have hlt2 : k < xs.length := by have := HN.out; omega
        obtain ⟨b, o, e0, hc⟩ := H.out.row (by rintro rfl; simp at hlt2)
        have hcell := hc k hlt2
        subst e0
        clear hc
        generalize (⟨xs[k].toArray⟩ : ByteArray) = s at hcell
        by_cases hs : (2147483647 : Int) < (s.size : Int)
        · go_wp2
          go_ret
          first | exact ⟨⟨_, rfl⟩, rfl⟩ | exact ⟨.inl rfl, rfl⟩ | exact ⟨.inr rfl, rfl⟩ | exact .inl rfl | exact .inr rfl
        · go_wp2
          exact ⟨⟨k + 1, by omega, rfl⟩, by simp [intOf]; omega⟩
      · go_wp2
        go_ret
        first | exact ⟨⟨_, rfl⟩, rfl⟩ | exact ⟨.inl rfl, rfl⟩ | exact ⟨.inr rfl, rfl⟩ | exact .inl rfl | exact .inr rfl
end Go.Proofs.YtlfeolfjlmelpaaGreatDoor
namespace Go.Proofs.YtlfeolfjlmelpaaGreatDoor
open Go.RowKit

/-- What may stand ahead of a string. -/
def blankL : Nat → List UInt8
  | 0 => []
  | 1 => [32]
  | 2 => [10]
  | 3 => [9, 32]
  | _ => [35, 32, 97, 32, 114, 101, 109, 97, 114, 107, 10]
theorem skip_blank (k : Nat) (t : List UInt8) : skip (blankL k ++ 34 :: t) = 34 :: t := by
  match k with
  | 0 => simp [blankL, skip]
  | 1 => simp [blankL, skip]
  | 2 => simp [blankL, skip]
  | 3 => simp [blankL, skip]
  | k + 4 => simp [blankL, skip, skipC]
/-- Strings one behind the other, up to the end. -/
inductive JR : List UInt8 → List (List UInt8) → Prop
  | nil : JR [] []
  | cons {x y t : List UInt8} {xs : List (List UInt8)} (he : EncR x y) (h : JR (skip t) xs) : JR (34 :: (y ++ 34 :: t)) (x :: xs)
/-- A beginning of such a text. -/
def PreJ (T : List UInt8) (xs : List (List UInt8)) : Prop := ∀ t ys, JR (skip t) ys → JR (skip (T ++ t)) (xs ++ ys)
theorem PreJ.nil : PreJ [] [] := fun _ _ h => h
theorem PreJ.snoc {T x y : List UInt8} {xs : List (List UInt8)} (h : PreJ T xs) (he : EncR x y) (k : Nat) : PreJ (T ++ (blankL k ++ (34 :: y ++ [34]))) (xs ++ [x]) := fun t ys hj => by
  have h1 : JR (skip (blankL k ++ 34 :: (y ++ 34 :: t))) (x :: ys) := by
    rw [skip_blank]
    exact .cons he hj
  have := h _ _ h1
  simpa using this
theorem PreJ.done {T : List UInt8} {xs : List (List UInt8)} (h : PreJ T xs) : JR (skip T) xs := by
  have := h [] [] (by rw [skip]; exact .nil)
  simpa using this
end Go.Proofs.YtlfeolfjlmelpaaGreatDoor
