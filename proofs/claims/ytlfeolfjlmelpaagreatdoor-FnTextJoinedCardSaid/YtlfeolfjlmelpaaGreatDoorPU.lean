/- laws.FnTextJoined: the tied card: for every list of strings and every list of bytes the call returns true and the arguments read as they did. Conditions: those of the row alone (the listed package-level variables start as the program's text lays them). -/
import Derived.Test.YtlfeolfjlmelpaaGreatDoorPT
import Derived.Test.YtlfeolfjlmelpaaGreatDoorRows
import Derived.Test.YtlfeolfjlmelpaaGreatDoorCards
import Derived.Test.YtlfeolfjlmelpaaGreatDoorTie
import Derived.Lay
import Derived.LaidOnce
import Derived.SevenTiedAt
import Derived.Lib.LaidU8T
import Derived.Carry
import Derived.Deep.Strs
namespace Go.Proofs.YtlfeolfjlmelpaaGreatDoor.Joined
open Go Go.ChangeShapes Go.WideShapes Go.ChangeAt Go.RowKit Go.Lib

theorem own : ownKnob Tryz.prog.godebug = none := by kernel_rfl
theorem laidOut : laidOutB Tryz.prog = true := by kernel_rfl
theorem read34 : Tryz.prog.readableRec 34 = true := by kernel_rfl
theorem read28 : Tryz.prog.readableRec 28 = true := by kernel_rfl
theorem rows : 40 < Tryz.prog.types.size := of_decide_eq_true (by kernel_rfl)
abbrev L : List (String × DataW Unit) := Rows.fnTextJoinedRow.laid

theorem hasU_of {w : World} (h3 : VarReads Tryz.prog w "unicode/utf8.first" Rows.laid_unicode_utf8_first) (h4 : VarReads Tryz.prog w "unicode/utf8.acceptRanges" Rows.laid_unicode_utf8_acceptRanges) : HasU w := by
  have e3 : Rows.laid_unicode_utf8_first = firstData := by kernel_rfl
  have e4 : (Rows.laid_unicode_utf8_acceptRanges : DataW Unit) = acceptData := by kernel_rfl
  rw [e3] at h3
  rw [e4] at h4
  exact utf8Tabs_of_readsT (P := Tryz.prog) (ρ := Tryz.lays197_ren) { Tryz.lays197 with } { n3 := by kernel_rfl, n4 := by kernel_rfl, y3 := by kernel_rfl, y4 := by kernel_rfl, c5 := by kernel_rfl, c119 := by kernel_rfl, c138 := by kernel_rfl } h3 h4
set_option maxRecDepth 100000 in
theorem hasTz_of {w : World} (h : VarReads Tryz.prog w "math/bits.deBruijn64tab" Rows.laid_math_bits_deBruijn64tab) : HasTz w := by
  obtain ⟨g', t, cs, fuel, p, h1, h2, h3, h4⟩ := h
  obtain rfl := Option.some.inj ((show Tryz.prog.globalNamed "math/bits.deBruijn64tab" = some 18 by kernel_rfl).symm.trans h1)
  obtain rfl := Option.some.inj ((show (Tryz.prog.globals[18]?).map (·.type) = some 346 by kernel_rfl).symm.trans h2)
  have hc5 : Tryz.prog.cellsOf 5 = 1 := by kernel_rfl
  unfold Rows.laid_math_bits_deBruijn64tab at h4
  obtain ⟨fuel', d, q, hd, ht⟩ := array_elem Tryz.underlying346 h4 15 (by omega)
  simp at hd
  subst hd
  rw [hc5] at ht
  obtain ⟨c, hv, hc, -⟩ := DataW.trod_int Tryz.underlying5 ht
  cases hc
  unfold HasTz
  rw [World.var?_cell h1 h3 15]
  have := congrArg (·[0]?) hv
  simpa [List.getElem?_take, List.getElem?_drop] using this
theorem strs_of {H : Type} {enc : TypeId × Value → H} {w : World} {v : Value} {d : DataW H} {p : List MemPlace} (hv : ∃ A len cap, v = .slice A len cap) (h : DataW.Trod enc Tryz.prog w 0 (fun _ => true) true 34 v d p) :
    ∃ A c xs, v = .slice A (List.length xs) c ∧ IsS w A c xs := by
  obtain ⟨A, len, cap, rfl⟩ := hv
  obtain ⟨fuel, hf⟩ := h
  rcases Deep.open_strs Tryz.underlying34 Tryz.underlying9 (by kernel_rfl) hf with ⟨hcs, -⟩ | ⟨a, len', cap', m, Sx, hcs, -, hl, hm, hmm, -, hc⟩
  · simp [Value.cells] at hcs
    obtain ⟨rfl, rfl, rfl⟩ := hcs
    exact ⟨none, 0, [], rfl, by simp, by omega, fun h => absurd rfl h⟩
  · simp [Value.cells] at hcs
    obtain ⟨rfl, rfl, rfl⟩ := hcs
    simp only [if_true] at hmm
    refine ⟨some a, cap, (List.range len).map fun i => (Sx i).data.toList, by simp, by simpa using hl, by unfold maxLen at hm; omega, fun hne => ?_⟩
    have hpos : 0 < len := by
      rcases Nat.eq_zero_or_pos len with h | h
      · subst h; simp at hne
      · exact h
    obtain ⟨b, o, s⟩ := a
    have hs : s = none := by
      cases s with
      | none => rfl
      | some q =>
        have := (hc 0 (by omega)).1
        unfold Addr.add World.cell? at this
        split at this <;> simp at this
    subst hs
    refine ⟨b, o, rfl, fun i hi => ?_⟩
    have hi2 : i < len := by simpa using hi
    have := (hc i (by omega)).1
    rw [addr_addn] at this
    rw [this]
    simp
theorem bytes_of {H : Type} {enc : TypeId × Value → H} {w : World} {v : Value} {d : DataW H} {p : List MemPlace} (hv : ∃ A len cap, v = .slice A len cap) (h : DataW.Trod enc Tryz.prog w 0 (fun _ => true) true 28 v d p) :
    ∃ A c xs, v = .slice A (List.length xs) c ∧ IsC w A c xs := by
  obtain ⟨A, len, cap, rfl⟩ := hv
  obtain ⟨fuel, hf⟩ := h
  rcases open_ints Tryz.underlying28 Tryz.underlying5 (by kernel_rfl) hf with ⟨hcs, -⟩ | ⟨a, len', cap', zs, hcs, -, hl, hm, hz, -, hc, hw⟩
  · simp [Value.cells] at hcs
    obtain ⟨rfl, rfl, rfl⟩ := hcs
    exact ⟨none, 0, [], rfl, by simp, by omega, fun h => absurd rfl h⟩
  · simp [Value.cells] at hcs
    obtain ⟨rfl, rfl, rfl⟩ := hcs
    simp only [if_true] at hz
    refine ⟨some a, cap, (zs.take len).map fun z => UInt8.ofNat z.toNat, by simp; omega, by simp; omega, by unfold maxLen at hm; omega, fun hne => ?_⟩
    have hpos : 0 < len := by
      rcases Nat.eq_zero_or_pos len with h | h
      · subst h; simp at hne
      · exact h
    obtain ⟨b, o, s⟩ := a
    have hs : s = none := by
      cases s with
      | none => rfl
      | some q =>
        have := hc 0 (by omega)
        unfold Addr.add World.cell? at this
        split at this <;> simp at this
    subst hs
    refine ⟨b, o, rfl, fun i hi => ?_⟩
    have hi2 : i < len := by simp at hi; omega
    have h1 := hc i (by omega)
    rw [addr_addn] at h1
    rw [h1]
    have hi3 : i < zs.length := by omega
    have h2 := hw (zs[i]) (List.getElem_mem hi3)
    have h3 : 0 ≤ zs[i] ∧ zs[i] ≤ 255 := by simpa [Lit.wf, IntKind.min, IntKind.max, IntKind.signed, IntKind.bits] using h2
    simp only [List.getElem_map, List.getElem_take, List.getD, List.getElem?_eq_getElem hi3, Option.getD_some, by8]
    refine congrArg some (congrArg (Value.int .u8) ?_)
    simp
    omega

set_option maxRecDepth 100000 in
theorem lifted (os : Os) (started : os.Started) (H : Type) (enc : TypeId × Value → H) :
    ReturnsInHanded {} Tryz.checked os 6 .any (fun w args => (Rows.fnTextJoinedSpec.pre enc Tryz.prog Tryz.f6 [] false w args ∧ laidMetH Tryz.prog L w) ∧ sizedMet enc Tryz.prog Tryz.f6 (OpenSpec.ofChange Rows.fnTextJoinedSpec) false w args)
      (Rows.fnTextJoinedSpec.post enc Tryz.prog Tryz.f6 false true false false) := by
  refine returnsInHanded_of_change_and (C := Tryz.checked) (X := fun w _ => laidMetH Tryz.prog L w) (fun _ _ _ hh h => h.of_heap hh) own started (by kernel_rfl) Tryz.func6
    (ChangeSpec.witness_shaped (enc := enc) (C := Tryz.checked) (os := os) (X := fun w _ => laidMetH Tryz.prog L w) false (World.laidAll Tryz.prog os L) #[.slice none 0 0, .slice none 0 0] 8 (World.laidAll_os _ _ _)
      (World.shaped_of_ZipB (by kernel_rfl) (by kernel_rfl)) (by kernel_rfl) (by kernel_rfl) (by kernel_rfl)
      (by rw [MakeChecks.laidMetH_plain _ _ _ (by kernel_rfl)]; exact laidMet_laidAll _ (by kernel_rfl) (by kernel_rfl))) ?_
  intro W base args ds gs before hval0 hW _ _ hL _
  have hval : ∀ (j : Nat) t v, Tryz.f6.params[j]? = some t → args[j]? = some v → Value.okWide Tryz.prog W .any base t v := hval0
  have hW' := hW
  obtain ⟨p, q, hA0, hV, rfl, _, _⟩ := hW
  have hA : DataW.TrodAll enc Tryz.prog W 0 (fun _ => true) true Tryz.f6.params.toList args.toList ds p := hA0
  rw [Tryz.params6] at hA hval
  obtain ⟨v0, v1, d0, d1, p0, p1, rfl, rfl, rfl, h0, h1⟩ := trodAll_two hA
  obtain ⟨rfl, rfl⟩ := trodVars_none hV
  obtain ⟨A, c, xs, hv0, hS⟩ := strs_of (by obtain ⟨a, l, k, e⟩ := okWide_slice Tryz.underlying34 (hval 0 34 v0 rfl rfl); exact ⟨a, l, k, e⟩) h0
  obtain ⟨B, cb, bs, hv1, hB⟩ := bytes_of (by obtain ⟨a, l, k, e⟩ := okWide_slice Tryz.underlying28 (hval 1 28 v1 rfl rfl); exact ⟨a, l, k, e⟩) h1
  simp only [List.append_nil] at hW'
  rw [MakeChecks.laidMetH_plain _ _ _ (by kernel_rfl)] at hL
  have hU : HasU W := hasU_of (laidMet.reads hL (n := "unicode/utf8.first") (d := Rows.laid_unicode_utf8_first) (by simp [L, Rows.fnTextJoinedRow])) (laidMet.reads hL (n := "unicode/utf8.acceptRanges") (d := Rows.laid_unicode_utf8_acceptRanges) (by simp [L, Rows.fnTextJoinedRow]))
  have hT : HasTz W := hasTz_of (laidMet.reads hL (n := "math/bits.deBruijn64tab") (d := Rows.laid_math_bits_deBruijn64tab) (by simp [L, Rows.fnTextJoinedRow]))
  have hlt : ∀ x ∈ p0 ++ p1, x.block < W.heap.size := fun x hx => hW'.lt x hx
  subst hv0 hv1
  refine (fnTextJoined_walk xs bs hS hB hU hT).mono fun e W' ⟨he, hb⟩ => ?_
  subst he
  have k0 := Below.trod laidOut read34 (Nat.lt_trans (by decide) rows) h0 (gr_below hb) (fun x hx => hlt x (List.mem_append_left _ hx))
  have k1 := Below.trod laidOut read28 (Nat.lt_trans (by decide) rows) h1 (gr_below hb) (fun x hx => hlt x (List.mem_append_right _ hx))
  exact ⟨_, rfl, _, _, _, [], _, [], hW', trodAll_mk1 (shut_bool Tryz.underlying4 _), trodAll_mk2 k0 k1, rfl, (gr_below hb).frame _, fun h => by cases h⟩
end Go.Proofs.YtlfeolfjlmelpaaGreatDoor.Joined
