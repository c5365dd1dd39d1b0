/- laws.FnTextHex: the tied card: for every whole number of 64 bits without a sign, either base and either case of the letters the call returns true and the arguments read as they did. Conditions: those of the row alone (the listed package-level variables start as the program's text lays them). -/
import Derived.Test.YtlfeolfjlmelpaaGreatDoorOB
import Derived.Test.YtlfeolfjlmelpaaGreatDoorNU
import Derived.Test.YtlfeolfjlmelpaaGreatDoorRows
import Derived.Test.YtlfeolfjlmelpaaGreatDoorCards
import Derived.Test.YtlfeolfjlmelpaaGreatDoorTie
import Derived.Lay
import Derived.LaidOnce
import Derived.SevenTiedAt
namespace Go.Proofs.YtlfeolfjlmelpaaGreatDoor.Hex
open Go Go.ChangeShapes Go.WideShapes Go.ChangeAt Go.RowKit Go.Lib

theorem own : ownKnob Tryz.prog.godebug = none := by kernel_rfl
abbrev L : List (String × DataW Unit) := Rows.fnTextHexRow.laid

set_option maxRecDepth 100000 in
theorem lifted (os : Os) (started : os.Started) (H : Type) (enc : TypeId × Value → H) :
    ReturnsInHanded {} Tryz.checked os 3 .any (fun w args => (Rows.fnTextHexSpec.pre enc Tryz.prog Tryz.f3 [] false w args ∧ laidMetH Tryz.prog L w) ∧ sizedMet enc Tryz.prog Tryz.f3 (OpenSpec.ofChange Rows.fnTextHexSpec) false w args)
      (Rows.fnTextHexSpec.post enc Tryz.prog Tryz.f3 false true false false) := by
  refine returnsInHanded_of_change_and (C := Tryz.checked) (X := fun w _ => laidMetH Tryz.prog L w) (fun _ _ _ hh h => h.of_heap hh) own started (by kernel_rfl) Tryz.func3
    (ChangeSpec.witness_shaped (enc := enc) (C := Tryz.checked) (os := os) (X := fun w _ => laidMetH Tryz.prog L w) false (World.laidAll Tryz.prog os L) #[.int .u64 0, .bool false, .bool false] 8 (World.laidAll_os _ _ _)
      (World.shaped_of_ZipB (by kernel_rfl) (by kernel_rfl)) (by kernel_rfl) (by kernel_rfl) (by kernel_rfl)
      (by rw [MakeChecks.laidMetH_plain _ _ _ (by kernel_rfl)]; exact laidMet_laidAll _ (by kernel_rfl) (by kernel_rfl))) ?_
  intro W base args ds gs before hval0 hW _ _ hL _
  have hval : ∀ (j : Nat) t v, Tryz.f3.params[j]? = some t → args[j]? = some v → Value.okWide Tryz.prog W .any base t v := hval0
  have hW' := hW
  obtain ⟨p, q, hA0, hV, rfl, _, _⟩ := hW
  have hA : DataW.TrodAll enc Tryz.prog W 0 (fun _ => true) true Tryz.f3.params.toList args.toList ds p := hA0
  rw [Tryz.params3] at hA hval
  obtain ⟨v0, v1, v2, d0, d1, d2, p0, p1, p2, rfl, rfl, rfl, h0, h1, h2⟩ := trodAll_three hA
  obtain ⟨rfl, rfl⟩ := trodVars_none hV
  obtain ⟨x, rfl, rfl, rfl, wx⟩ := open_int Tryz.underlying22 (hval 0 22 v0 rfl rfl) h0
  obtain ⟨b1, rfl, rfl, rfl⟩ := open_bool Tryz.underlying4 (hval 1 4 v1 rfl rfl) h1
  obtain ⟨b2, rfl, rfl, rfl⟩ := open_bool Tryz.underlying4 (hval 2 4 v2 rfl rfl) h2
  simp only [List.append_nil] at hW'
  have hx : 0 ≤ x ∧ x ≤ 18446744073709551615 := by simpa [Lit.wf, IntKind.min, IntKind.max, IntKind.signed, IntKind.bits] using wx
  obtain ⟨n, rfl⟩ := Int.eq_ofNat_of_zero_le hx.1
  rw [MakeChecks.laidMetH_plain _ _ _ (by kernel_rfl)] at hL
  have hE1 : Sent 1 W := sent_of 1 hL.tail.tail.tail.tail.tail.tail.tail.tail.tail.tail (by kernel_rfl) (by kernel_rfl)
  have hE7 : Sent 7 W := sent_of 7 hL.tail.tail.tail.tail.tail.tail.tail.tail.tail.tail.tail (by kernel_rfl) (by kernel_rfl)
  have hF : HasF W := hasF_of (laidMet.reads hL (n := "internal/strconv.pow10Tab") (d := Rows.laid_internal_strconv_pow10Tab) (by simp [L, Rows.fnTextHexRow]))
    (laidMet.reads hL (n := "internal/strconv.float64info") (d := Rows.laid_internal_strconv_float64info) (by simp [L, Rows.fnTextHexRow]))
    (laidMet.reads hL (n := "internal/strconv.optimize") (d := Rows.laid_internal_strconv_optimize) (by simp [L, Rows.fnTextHexRow]))
  have hT : HasTs W := hasTs_of (laidMet.reads hL (n := "internal/strconv.leftcheats") (d := Rows.laid_internal_strconv_leftcheats) (by simp [L, Rows.fnTextHexRow]))
    (laidMet.reads hL (n := "internal/strconv.float64info") (d := Rows.laid_internal_strconv_float64info) (by simp [L, Rows.fnTextHexRow]))
    (laidMet.reads hL (n := "internal/strconv.powtab") (d := Rows.laid_internal_strconv_powtab) (by simp [L, Rows.fnTextHexRow]))
  refine (fnTextHex_walk n b1 b2 W (by omega) ⟨hF, hT, hE1, hE7⟩).mono fun e W' ⟨he, hb⟩ => ?_
  subst he
  exact ⟨_, rfl, _, _, _, [], [], [], hW', trodAll_mk1 (shut_bool Tryz.underlying4 _), trodAll_mk3 (shut_int Tryz.underlying22 wx) (shut_bool Tryz.underlying4 _) (shut_bool Tryz.underlying4 _), rfl, (gr_below hb).frame _, fun h => by cases h⟩

end Go.Proofs.YtlfeolfjlmelpaaGreatDoor.Hex
