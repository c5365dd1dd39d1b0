/- laws.FnTextInts: the tied card: for every whole number of 64 bits the call returns true and the argument reads as it did. Conditions: those of the row alone (the listed package-level variables start as the program's text lays them). -/
import Derived.Test.YtlfeolfjlmelpaaGreatDoorMF
import Derived.Test.YtlfeolfjlmelpaaGreatDoorMG
import Derived.Test.YtlfeolfjlmelpaaGreatDoorRows
import Derived.Test.YtlfeolfjlmelpaaGreatDoorCards
import Derived.Test.YtlfeolfjlmelpaaGreatDoorTie
import Derived.Lay
import Derived.LaidOnce
import Derived.SevenTiedAt
namespace Go.Proofs.YtlfeolfjlmelpaaGreatDoor.Ints
open Go Go.ChangeShapes Go.WideShapes Go.ChangeAt Go.RowKit Go.Lib

theorem own : ownKnob Tryz.prog.godebug = none := by kernel_rfl
abbrev L : List (String × DataW Unit) := Rows.fnTextIntsRow.laid

set_option maxRecDepth 100000 in
theorem lifted (os : Os) (started : os.Started) (H : Type) (enc : TypeId × Value → H) :
    ReturnsInHanded {} Tryz.checked os 4 .any (fun w args => (Rows.fnTextIntsSpec.pre enc Tryz.prog Tryz.f4 [] false w args ∧ laidMetH Tryz.prog L w) ∧ sizedMet enc Tryz.prog Tryz.f4 (OpenSpec.ofChange Rows.fnTextIntsSpec) false w args)
      (Rows.fnTextIntsSpec.post enc Tryz.prog Tryz.f4 false true false false) := by
  refine returnsInHanded_of_change_and (C := Tryz.checked) (X := fun w _ => laidMetH Tryz.prog L w) (fun _ _ _ hh h => h.of_heap hh) own started (by kernel_rfl) Tryz.func4
    (ChangeSpec.witness_shaped (enc := enc) (C := Tryz.checked) (os := os) (X := fun w _ => laidMetH Tryz.prog L w) false (World.laidAll Tryz.prog os L) #[.int .i64 0] 8 (World.laidAll_os _ _ _)
      (World.shaped_of_ZipB (by kernel_rfl) (by kernel_rfl)) (by kernel_rfl) (by kernel_rfl) (by kernel_rfl)
      (by rw [MakeChecks.laidMetH_plain _ _ _ (by kernel_rfl)]; exact laidMet_laidAll _ (by kernel_rfl) (by kernel_rfl))) ?_
  intro W base args ds gs before hval0 hW _ _ hL _
  have hval : ∀ (j : Nat) t v, Tryz.f4.params[j]? = some t → args[j]? = some v → Value.okWide Tryz.prog W .any base t v := hval0
  have hW' := hW
  obtain ⟨p, q, hA0, hV, rfl, _, _⟩ := hW
  have hA : DataW.TrodAll enc Tryz.prog W 0 (fun _ => true) true Tryz.f4.params.toList args.toList ds p := hA0
  rw [Tryz.params4] at hA hval
  obtain ⟨v0, d0, rfl, rfl, h0⟩ := trodAll_one hA
  obtain ⟨rfl, rfl⟩ := trodVars_none hV
  obtain ⟨x, rfl, rfl, rfl, wx⟩ := open_int Tryz.underlying2 (hval 0 2 v0 rfl rfl) h0
  simp only [List.append_nil] at hW'
  have hx : -9223372036854775808 ≤ x ∧ x ≤ 9223372036854775807 := by simpa [Lit.wf, IntKind.min, IntKind.max, IntKind.signed, IntKind.bits] using wx
  rw [MakeChecks.laidMetH_plain _ _ _ (by kernel_rfl)] at hL
  have hE1 : ErrVar 1 W := errVar_of 1 (by kernel_rfl) (by kernel_rfl) (laidMet.reads hL (n := "strconv.ErrRange") (d := Rows.laid_strconv_ErrRange) (by simp [L, Rows.fnTextIntsRow]))
  have hE7 : ErrVar 7 W := errVar_of 7 (by kernel_rfl) (by kernel_rfl) (laidMet.reads hL (n := "strconv.ErrSyntax") (d := Rows.laid_strconv_ErrSyntax) (by simp [L, Rows.fnTextIntsRow]))
  have hF : HasF W := hasF_of (laidMet.reads hL (n := "internal/strconv.pow10Tab") (d := Rows.laid_internal_strconv_pow10Tab) (by simp [L, Rows.fnTextIntsRow]))
    (laidMet.reads hL (n := "internal/strconv.float64info") (d := Rows.laid_internal_strconv_float64info) (by simp [L, Rows.fnTextIntsRow]))
    (laidMet.reads hL (n := "internal/strconv.optimize") (d := Rows.laid_internal_strconv_optimize) (by simp [L, Rows.fnTextIntsRow]))
  refine (fnTextInts_walk x W hx.1 hx.2 hE1 hE7 hF).mono fun e W' ⟨he, hb⟩ => ?_
  subst he
  exact ⟨_, rfl, _, _, _, [], [], [], hW', trodAll_mk1 (shut_bool Tryz.underlying4 _), trodAll_mk1 (shut_int Tryz.underlying2 wx), rfl, (gr_below hb).frame _, fun h => by cases h⟩

end Go.Proofs.YtlfeolfjlmelpaaGreatDoor.Ints
