/- strconv.ParseUint and strconv.ParseInt. -/
import Derived.Test.YtlfeolfjlmelpaaGreatDoorKN
namespace Go.Proofs.YtlfeolfjlmelpaaGreatDoor
open Go.RowKit

/-- The variable g of an interface type holds something. -/
def ErrVar (g : Nat) (w : World) : Prop := ∃ ev, w.cell? ⟨g, 0, none⟩ = some ev ∧ (ev = .nilIface ∨ ∃ te pe, ev = .iface te pe)
theorem ErrVar.kept {g : Nat} {w w' : World} (h : ErrVar g w) (hg : w.grownBy w' none) : ErrVar g w' := by
  obtain ⟨ev, h1, h2⟩ := h
  exact ⟨ev, gr_cell hg h1, h2⟩

set_option maxHeartbeats 2000000 in
set_option maxRecDepth 1000000 in
theorem parseUint_of {w : World} (s : ByteArray) (bits : Int) (v mx : Nat) (hs : s.size ≤ 281474976710656) (hE : ErrVar 1 w)
    (hC : Calls Tryz.prog 137 #[.string s, .int .i64 0, .int .i64 bits] w (PuEnds w v mx)) :
    Calls Tryz.prog 96 #[.string s, .int .i64 0, .int .i64 bits] w fun e w' => ((v ≤ mx → e = .returned (.tuple #[.int .u64 (v : Nat), .nilIface])) ∧ (¬ v ≤ mx → ∃ a p, e = .returned (.tuple #[a, .iface 176 (.pointer p)]))) ∧ w.grownBy w' none := by
  have HC := Lib.hid hC
  have HS := Lib.hid hs
  clear hC hs
  go_enter Tryz.func96, Tryz.ntmps96
  go_wp2_with fail
  refine HC.out.mono ?_
  rintro e w' ⟨he, hg⟩
  have HG := Lib.hid hg
  obtain ⟨ev, h1, h2⟩ := hE.kept hg
  have HT := Lib.hid (Tryz.strconv_toError_range ⟨#[80, 97, 114, 115, 101, 85, 105, 110, 116]⟩ s 0 bits ev w' HS.out h1 h2)
  clear HC hg hE h1 h2
  by_cases hv : v ≤ mx
  · rw [if_pos hv] at he
    subst he
    have HV := Lib.hid hv
    clear hv
    go_wp2
    go_ret2
    exact ⟨⟨fun _ => rfl, fun h => absurd HV.out h⟩, HG.out⟩
  · rw [if_neg hv] at he
    subst he
    have HV := Lib.hid hv
    clear hv
    go_wp2_with fail
    refine HT.out.mono ?_
    rintro e w2 ⟨N, rfl, -, -, hb⟩
    have HB := Lib.hid hb
    clear HT hb
    go_wp2
    go_ret2
    exact ⟨⟨fun h => absurd h HV.out, fun _ => ⟨_, _, rfl⟩⟩, gr_trans HG.out (below_gr HB.out)⟩

set_option maxHeartbeats 2000000 in
set_option maxRecDepth 1000000 in
theorem parseInt_of {w : World} (s : ByteArray) (bits : Int) (m lim : Int) (hs : s.size ≤ 281474976710656) (hE : ErrVar 1 w)
    (hC : Calls Tryz.prog 139 #[.string s, .int .i64 0, .int .i64 bits] w (PiEnds w m lim)) :
    Calls Tryz.prog 97 #[.string s, .int .i64 0, .int .i64 bits] w fun e w' => ((-lim ≤ m ∧ m ≤ lim - 1 → e = .returned (.tuple #[.int .i64 m, .nilIface])) ∧ (¬ (-lim ≤ m ∧ m ≤ lim - 1) → ∃ a p, e = .returned (.tuple #[a, .iface 176 (.pointer p)]))) ∧ w.grownBy w' none := by
  have HC := Lib.hid hC
  have HS := Lib.hid hs
  clear hC hs
  go_enter Tryz.func97, Tryz.ntmps97
  go_wp2_with fail
  refine HC.out.mono ?_
  rintro e w' ⟨⟨a, er, rfl, hin, hout⟩, hg⟩
  have HG := Lib.hid hg
  obtain ⟨ev, h1, h2⟩ := hE.kept hg
  have HT := Lib.hid (Tryz.strconv_toError_range ⟨#[80, 97, 114, 115, 101, 73, 110, 116]⟩ s 0 bits ev w' HS.out h1 h2)
  clear HC hg hE h1 h2
  by_cases hv : -lim ≤ m ∧ m ≤ lim - 1
  · obtain ⟨rfl, rfl⟩ := hin hv
    have HV := Lib.hid hv
    clear hv hin hout
    go_wp2
    go_ret2
    exact ⟨⟨fun _ => rfl, fun h => absurd HV.out h⟩, HG.out⟩
  · have := hout hv
    subst this
    have HV := Lib.hid hv
    clear hv hin hout
    go_wp2_with fail
    refine HT.out.mono ?_
    rintro e w2 ⟨N, rfl, -, -, hb⟩
    have HB := Lib.hid hb
    clear HT hb
    go_wp2
    go_ret2
    exact ⟨⟨fun h => absurd h HV.out, fun _ => ⟨_, _, rfl⟩⟩, gr_trans HG.out (below_gr HB.out)⟩
end Go.Proofs.YtlfeolfjlmelpaaGreatDoor
