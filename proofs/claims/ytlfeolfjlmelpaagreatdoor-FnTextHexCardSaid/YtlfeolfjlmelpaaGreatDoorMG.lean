/- What the listed package-level variables hold, out of what the row says of them. -/
import Derived.Test.YtlfeolfjlmelpaaGreatDoorKX
import Derived.Test.YtlfeolfjlmelpaaGreatDoorKO
import Derived.Lib.LaidU8
import GoSem.PinnedTables
namespace Go.Proofs.YtlfeolfjlmelpaaGreatDoor
open Go.RowKit Go.Lib

theorem iface_of_trod {H : Type} {enc : TypeId × Value → H} {P : Program} {w : World} {base : Nat} {sp : Nat → Bool} {held : Bool} {fuel : Nat} {t : TypeId} {ms : Array (String × TypeId)} {cs : List Value} {x : DataW H × List MemPlace}
    (ht : P.underlying t = some (.interface ms)) (h : DataW.trod enc P w base sp held fuel t cs = some x) : ∃ v, cs = [v] ∧ (v = .nilIface ∨ ∃ te pe, v = .iface te pe) := by
  cases fuel with
  | zero => simp [DataW.trod] at h
  | succ n =>
    unfold DataW.trod at h
    rw [ht] at h
    split at h <;> simp_all

theorem errVar_of {w : World} {n : String} {d : DataW Unit} (g : Nat) (hg : Tryz.prog.globalNamed n = some g) (hty : (Tryz.prog.globals[g]?).map (·.type) = some 74) (h : VarReads Tryz.prog w n d) : ErrVar g w := by
  obtain ⟨g', t, cs, fuel, p, h1, h2, h3, h4⟩ := h
  obtain rfl := Option.some.inj (hg.symm.trans h1)
  obtain rfl := Option.some.inj (hty.symm.trans h2)
  obtain ⟨v, hv, hc⟩ := iface_of_trod Tryz.underlying74 h4
  refine ⟨v, ?_, hc⟩
  rw [World.var?_cell h1 h3 0]
  have := congrArg (·[0]?) hv
  simpa using this

theorem bool_of {w : World} {n : String} {b : Bool} (g : Nat) (hg : Tryz.prog.globalNamed n = some g) (hty : (Tryz.prog.globals[g]?).map (·.type) = some 4) (h : VarReads Tryz.prog w n (.lit (.bool b))) : w.cell? ⟨g, 0, none⟩ = some (.bool b) := by
  obtain ⟨g', t, cs, fuel, p, h1, h2, h3, h4⟩ := h
  obtain rfl := Option.some.inj (hg.symm.trans h1)
  obtain rfl := Option.some.inj (hty.symm.trans h2)
  obtain ⟨c, hv, hc⟩ := DataW.trod_bool Tryz.underlying4 h4
  cases hc
  rw [World.var?_cell h1 h3 0]
  have := congrArg (·[0]?) hv
  simpa using this

/-- A struct's field that is an integer, read. -/
theorem int_field {H : Type} {enc : TypeId × Value → H} {P : Program} {w : World} {base : Nat} {sp : Nat → Bool} {held : Bool} {fuel : Nat} {t : TypeId} {fs : Array Field} {cs : List Value} {ds : List (DataW H)} {p : List MemPlace}
    (ht : P.underlying t = some (.struct fs)) (h : DataW.trod enc P w base sp held fuel t cs = some (.agg ds, p)) (i : Nat) (f : Field) (hf : fs[i]? = some f) (k : IntKind) (hu : P.underlying f.type = some (.int k)) (hc : P.cellsOf f.type = 1) :
    ∃ z, cs[f.offset]? = some (.int k z) ∧ ds[i]? = some (.lit (.int k z)) ∧ (Lit.int k z).wf = true := by
  obtain ⟨xs, n, rfl, hx, hl, hxl, hall⟩ := DataW.trod_struct ht h
  have h1 := hall i f hf
  have hi : i < xs.length := by rw [hxl]; exact (Array.getElem?_eq_some_iff.1 hf).1
  rw [List.getElem?_eq_getElem hi, hc] at h1
  obtain ⟨z, hcz, hd, hwf⟩ := DataW.trod_int hu h1
  refine ⟨z, ?_, ?_, hwf⟩
  · have := congrArg (·[0]?) hcz
    simpa [List.getElem?_take, List.getElem?_drop] using this
  · have h5 : ds = xs.map (·.1) := by
      have := congrArg Prod.fst hx
      simpa using this
    rw [h5, List.getElem?_map, List.getElem?_eq_getElem hi, Option.map_some, hd]

theorem f64info_of {w : World} (h : VarReads Tryz.prog w "internal/strconv.float64info" (.agg [.lit (.int .u64 52), .lit (.int .u64 11), .lit (.int .i64 (-1023))])) : w.cell? ⟨13, 0, none⟩ = some (.int .u64 52) ∧ w.cell? ⟨13, 1, none⟩ = some (.int .u64 11) ∧ w.cell? ⟨13, 2, none⟩ = some (.int .i64 (-1023)) := by
  obtain ⟨g', t, cs, fuel, p, h1, h2, h3, h4⟩ := h
  obtain rfl := Option.some.inj ((show Tryz.prog.globalNamed "internal/strconv.float64info" = some 13 by kernel_rfl).symm.trans h1)
  obtain rfl := Option.some.inj ((show (Tryz.prog.globals[13]?).map (·.type) = some 302 by kernel_rfl).symm.trans h2)
  obtain ⟨z0, a0, b0, -⟩ := int_field Tryz.underlying302 h4 0 _ rfl .u64 Tryz.underlying126 (by kernel_rfl)
  obtain ⟨z1, a1, b1, -⟩ := int_field Tryz.underlying302 h4 1 _ rfl .u64 Tryz.underlying126 (by kernel_rfl)
  obtain ⟨z2, a2, b2, -⟩ := int_field Tryz.underlying302 h4 2 _ rfl .i64 Tryz.underlying3 (by kernel_rfl)
  cases b0
  cases b1
  cases b2
  refine ⟨?_, ?_, ?_⟩
  · rw [World.var?_cell h1 h3 0]; simpa using a0
  · rw [World.var?_cell h1 h3 1]; simpa using a1
  · rw [World.var?_cell h1 h3 2]; simpa using a2

/-- The powers' table, row by row. -/
theorem pow10_of {w : World} (h : VarReads Tryz.prog w "internal/strconv.pow10Tab" Pinned.pow10Tab) (i : Nat) (hi : i < 696) :
    ∃ a b : Nat, Pinned.pow10Rows[i]? = some (a, b) ∧ a < 18446744073709551616 ∧ b < 18446744073709551616 ∧ w.cell? ⟨19, i * 2, none⟩ = some (.int .u64 a) ∧ w.cell? ⟨19, i * 2 + 1, none⟩ = some (.int .u64 b) := by
  obtain ⟨g', t, cs, fuel, p, h1, h2, h3, h4⟩ := h
  obtain rfl := Option.some.inj ((show Tryz.prog.globalNamed "internal/strconv.pow10Tab" = some 19 by kernel_rfl).symm.trans h1)
  obtain rfl := Option.some.inj ((show (Tryz.prog.globals[19]?).map (·.type) = some 353 by kernel_rfl).symm.trans h2)
  have hc2 : Tryz.prog.cellsOf 352 = 2 := by kernel_rfl
  have hc22 : Tryz.prog.cellsOf 22 = 1 := by kernel_rfl
  unfold Pinned.pow10Tab at h4
  obtain ⟨fuel', d, q, hd, ht⟩ := array_elem Tryz.underlying353 h4 i hi
  rw [List.getElem?_map] at hd
  obtain ⟨⟨a, b⟩, hab, rfl⟩ := Option.map_eq_some_iff.1 hd
  rw [hc2] at ht
  obtain ⟨z0, a0, b0, w0⟩ := int_field Tryz.underlying352 ht 0 _ rfl .u64 Tryz.underlying22 hc22
  obtain ⟨z1, a1, b1, w1⟩ := int_field Tryz.underlying352 ht 1 _ rfl .u64 Tryz.underlying22 hc22
  cases b0
  cases b1
  have r0 : a < 18446744073709551616 := by
    have : (0 : Int) ≤ a ∧ (a : Int) ≤ 18446744073709551615 := by simpa [Lit.wf, IntKind.min, IntKind.max, IntKind.signed, IntKind.bits] using w0
    omega
  have r1 : b < 18446744073709551616 := by
    have : (0 : Int) ≤ b ∧ (b : Int) ≤ 18446744073709551615 := by simpa [Lit.wf, IntKind.min, IntKind.max, IntKind.signed, IntKind.bits] using w1
    omega
  refine ⟨a, b, hab, r0, r1, ?_, ?_⟩
  · rw [World.var?_cell h1 h3 (i * 2)]
    simpa [List.getElem?_take, List.getElem?_drop] using a0
  · rw [World.var?_cell h1 h3 (i * 2 + 1)]
    simpa [List.getElem?_take, List.getElem?_drop] using a1

theorem hasF_of {w : World} (h1 : VarReads Tryz.prog w "internal/strconv.pow10Tab" Pinned.pow10Tab) (h2 : VarReads Tryz.prog w "internal/strconv.float64info" (.agg [.lit (.int .u64 52), .lit (.int .u64 11), .lit (.int .i64 (-1023))]))
    (h3 : VarReads Tryz.prog w "internal/strconv.optimize" (.lit (.bool true))) : HasF w := by
  refine ⟨fun i hi => ?_, (f64info_of h2).1, bool_of 12 (by kernel_rfl) (by kernel_rfl) h3⟩
  obtain ⟨a, b, -, h4, h5, h6, h7⟩ := pow10_of h1 i hi
  exact ⟨a, b, h4, h5, h6, h7⟩
end Go.Proofs.YtlfeolfjlmelpaaGreatDoor
