/- text.Decoder.parseString at a written string: whole. -/
import Derived.Test.YtlfeolfjlmelpaaGreatDoorPJnil
import Derived.Test.YtlfeolfjlmelpaaGreatDoorPJchunk
import Derived.Test.YtlfeolfjlmelpaaGreatDoorPJesc
import Derived.Test.YtlfeolfjlmelpaaGreatDoorPJhex
import Derived.Test.YtlfeolfjlmelpaaGreatDoorPJuni
namespace Go.Proofs.YtlfeolfjlmelpaaGreatDoor
open Go.RowKit

set_option maxHeartbeats 40000000 in
set_option maxRecDepth 1000000 in
theorem parseString_of {w : World} {g : Nat} {lc tk ta tn tp tr ts le os og : Value} {A : Option Addr} {c : Nat} {x y rest : List UInt8} (hd : HasDec w g lc tk ta tn tp tr ts le os og (.slice A (34 :: (y ++ 34 :: rest)).length c)) (h : IsB w A c (34 :: (y ++ 34 :: rest)))
    (he : EncR x y) (hl : (34 :: (y ++ 34 :: rest)).length ≤ 1000000) (hU : HasU w) :
    Calls Tryz.prog 180 #[.pointer (some ⟨g, 0, none⟩)] w fun e w' => e = .returned (.tuple #[.string ⟨x.toArray⟩, .nilIface]) ∧ ∃ A' c', IsB w' A' c' (skip rest) ∧
      HasDec w' g lc tk ta tn tp tr ts le os og (.slice A' (skip rest).length c') ∧ w.grownBy w' (some g) := by
  obtain ⟨d0, d1, d2, d3, d4, d5, d6, d7, d8, d9, d10, df⟩ := hd.cells
  obtain ⟨b0, o0, rfl, hk0⟩ := h.get (by simp)
  have hcell0 : w.cell? ⟨b0, o0, none⟩ = some (.int .u8 34) := hk0 0 (by simp)
  clear hk0 d0 d1 d2 d3 d4 d5 d6 d7 d8 d9 df
  have hB1 := h.drop 1 (by simp; omega)
  rw [List.drop_succ_cons, List.drop_zero] at hB1
  obtain ⟨u, x2, y2, rfl, rfl, he2, hrun⟩ := he.run rest
  have hB2 := hB1.drop u.length (by simp; omega)
  rw [show ((u ++ y2) ++ 34 :: rest).drop u.length = y2 ++ 34 :: rest by simp] at hB2
  obtain ⟨hBf, -⟩ := hB1.full u.length (by simp)
  rw [show ((u ++ y2) ++ 34 :: rest).take u.length = u by simp] at hBf
  have hle0 := h.le
  have hcap0 := h.cap
  have HXL := Lib.hid (show (u ++ x2).length ≤ 1000000 by have := he.len; simp only [List.length_cons, List.length_append] at hl this ⊢; omega)
  have HO := Lib.hid (show Out w.heap.size (.slice (some ⟨b0, o0 + 1, none⟩) u.length u.length) u w w from .inr ⟨_, rfl, hBf, Below.refl _ _, Nat.le_refl _⟩)
  have hN1 : ((u ++ y2) ++ 34 :: rest).length = u.length + (y2 ++ 34 :: rest).length := by simp
  have hN0 : (34 :: ((u ++ y2) ++ 34 :: rest)).length = u.length + (y2 ++ 34 :: rest).length + 1 := by simp
  have hI := indexB_of (w := w) _ hB1 (by simp at hl ⊢; omega)
  rw [hrun, hN1] at hI
  have HI := Lib.hid (Calls.mono hI (R' := fun e w' => e = .returned (.int .i64 (u.length : Nat)) ∧ w = w') fun e w' h => ⟨h.1, h.2.symm⟩)
  have hNp : 0 < (y2 ++ 34 :: rest).length := by simp; omega
  have HNr := Lib.hid (show (y2 ++ 34 :: rest).length = y2.length + rest.length + 1 by simp [Nat.add_assoc])
  rw [hN0] at d10 hle0 hl
  have H := Lib.hid h
  have HD := Lib.hid hd
  have HU := Lib.hid hU
  have HB := Lib.hid hB2
  have HE := Lib.hid he2
  clear h hd hU hB2 he2 hB1 hBf hrun hI hN1 hN0
  generalize hNN2 : (y2 ++ 34 :: rest).length = N2 at d10 hle0 hl hNp HNr HI ⊢
  generalize hUL : u.length = K at d10 hle0 hl HI HO HB ⊢
  have HNN2 := Lib.hid hNN2
  have HUL := Lib.hid hUL
  clear hNN2 hUL
  have HL0 := Lib.hid (show (34 :: ((u ++ y2) ++ 34 :: rest)).length ≤ 1000001 by rw [show (34 :: ((u ++ y2) ++ 34 :: rest)).length = u.length + (y2 ++ 34 :: rest).length + 1 by simp, HUL.out, HNN2.out]; omega)
  have hKi : (0 : Int) ≤ (K : Int) := by omega
  have hKj : (K : Int) ≤ (K : Int) + (N2 : Int) := by omega
  exact (pjA (w2 := w) (lc := lc)).2.2.2.2.2 (Lib.hid pj_nil) (Lib.hid pj_chunk) (Lib.hid pj_esc) (Lib.hid pj_hex) (Lib.hid pj_uni) hcell0 d10 hle0 hl hcap0 HXL HO HI hNp HNr H HD HU HB HE HNN2 HUL HL0 hKi hKj
end Go.Proofs.YtlfeolfjlmelpaaGreatDoor
