/- NT, NU in one text. -/
import Derived.Test.YtlfeolfjlmelpaaGreatDoorNR
import Derived.Test.YtlfeolfjlmelpaaGreatDoorMG
import Derived.Stop.LaidErr
namespace Go.Proofs.YtlfeolfjlmelpaaGreatDoor
open Go.RowKit Go.Lib

theorem cell_spot {w : World} {a : Addr} {v : Value} (h : w.cell? a = some v) : a.spot = none ∧ a.block < w.heap.size := by
  unfold World.cell? at h
  split at h
  · rename_i c _ _ hb
    split at h
    · cases h
    · rename_i hs
      exact ⟨by simpa using hs, blk_lt hb⟩
  · cases h
theorem add_spot {a : Addr} (h : a.spot = none) (k : Nat) : a.add k = ⟨a.block, a.off + k, none⟩ := by
  obtain ⟨b, o, s⟩ := a
  simp only at h
  subst h
  unfold Addr.add
  split
  · rename_i hk; subst hk; rfl
  · rfl
theorem cells_at {w : World} {base : Nat} {a : Addr} {n : Nat} {l : List Value} (h : w.cells? base a n = some l) (i : Nat) (hi : i < n) : ∃ v, l[i]? = some v ∧ w.cell? (a.add i) = some v := by
  unfold World.cells? at h
  split at h
  · exact mapM_at h i i (by simp [hi])
  · cases h

/-- A slice that is read as a list: its cells. -/
theorem slice_at {H : Type} {enc : TypeId × Value → H} {P : Program} {w : World} {base : Nat} {sp : Nat → Bool} {held : Bool} {fuel : Nat} {t e : TypeId} {cs : List Value} {d : DataW H} {ds : List (DataW H)} {p : List MemPlace} {c : Nat}
    (ht : P.underlying t = some (.slice e)) (h : DataW.trod enc P w base sp held fuel t cs = some (.slice (d :: ds) [], p)) (hc : P.cellsOf e = c) (hc1 : 1 ≤ c) :
    ∃ b o cap n, cs = [.slice (some ⟨b, o, none⟩) (d :: ds).length cap] ∧ b < w.heap.size ∧ ∀ i, i < (d :: ds).length → ∃ l x q, l.length = l.length ∧ DataW.trod enc P w base sp held n e l = some (x, q) ∧ (d :: ds)[i]? = some x ∧
      (∀ j, j < c → ∃ v, l[j]? = some v ∧ w.cell? ⟨b, o + (i * c + j), none⟩ = some v) := by
  rcases DataW.trod_slice ht h with ⟨-, h2⟩ | ⟨a, len, cap, elems, rest, n, rfl, rfl, hx, hb, hlc, hcm, hel, hat, -, -⟩
  · cases h2
  · have hds : elems.map (·.1) = d :: ds := by
      have := congrArg Prod.fst hx
      simp only [DataW.slice.injEq] at this
      exact this.1.symm
    have hlen : len = (d :: ds).length := by rw [← hds, List.length_map, hel]
    subst hlen
    rw [hc] at hat
    have hrow : ∀ i, i < (d :: ds).length → ∃ l x q, w.cells? base (a.add (i * c)) c = some l ∧ DataW.trod enc P w base sp held n e l = some (x, q) ∧ (d :: ds)[i]? = some x := fun i hi => by
      have h1 := hat i hi
      obtain ⟨⟨x, q⟩, hy⟩ : ∃ y, elems[i]? = some y := ⟨_, List.getElem?_eq_getElem (by rw [hel]; exact hi)⟩
      rw [hy] at h1
      obtain ⟨l, hl, hl2⟩ := Option.bind_eq_some_iff.1 h1
      refine ⟨l, x, q, hl, hl2, ?_⟩
      rw [← hds, List.getElem?_map, hy]
      rfl
    obtain ⟨l0, x0, q0, g0, -, -⟩ := hrow 0 (by simp)
    obtain ⟨v0, -, g2⟩ := cells_at g0 0 (by omega)
    have ha : (a.add (0 * c)).add 0 = a := by simp [Addr.add]
    rw [ha] at g2
    obtain ⟨s1, s2⟩ := cell_spot g2
    refine ⟨a.block, a.off, cap, n, ?_, s2, fun i hi => ?_⟩
    · obtain ⟨b, o, s⟩ := a
      simp only at s1
      subst s1
      rfl
    · obtain ⟨l, x, q, r1, r2, r3⟩ := hrow i hi
      refine ⟨l, x, q, rfl, r2, r3, fun j hj => ?_⟩
      obtain ⟨v, v1, v2⟩ := cells_at r1 j hj
      refine ⟨v, v1, ?_⟩
      rw [add_spot s1, add_spot rfl] at v2
      rw [← v2, Nat.add_assoc]

theorem pow_of {w : World} (h : VarReads Tryz.prog w "internal/strconv.powtab" (.slice [.lit (.int .i64 1), .lit (.int .i64 3), .lit (.int .i64 6), .lit (.int .i64 9), .lit (.int .i64 13), .lit (.int .i64 16), .lit (.int .i64 19), .lit (.int .i64 23), .lit (.int .i64 26)] [])) :
    ∃ b o c, b < w.heap.size ∧ w.cell? ⟨15, 0, none⟩ = some (.slice (some ⟨b, o, none⟩) 9 c) ∧ ∀ i, i < 9 → w.cell? ⟨b, o + i, none⟩ = some (.int .i64 (pw i : Nat)) := by
  obtain ⟨g', t, cs, fuel, p, h1, h2, h3, h4⟩ := h
  obtain rfl := Option.some.inj ((show Tryz.prog.globalNamed "internal/strconv.powtab" = some 15 by kernel_rfl).symm.trans h1)
  obtain rfl := Option.some.inj ((show (Tryz.prog.globals[15]?).map (·.type) = some 343 by kernel_rfl).symm.trans h2)
  obtain ⟨b, o, cap, n, hcs, hb, hat⟩ := slice_at (c := 1) Tryz.underlying343 h4 (by kernel_rfl) (by decide)
  refine ⟨b, o, cap, hb, ?_, fun i hi => ?_⟩
  · rw [World.var?_cell h1 h3 0]
    have := congrArg (·[0]?) hcs
    simpa using this
  · obtain ⟨l, x, q, -, r1, r2, r3⟩ := hat i (by simpa using hi)
    obtain ⟨z, rfl, hx, -⟩ := DataW.trod_int Tryz.underlying3 r1
    obtain ⟨v, v1, v2⟩ := r3 0 (by decide)
    cases v1
    rw [show o + (i * 1 + 0) = o + i by omega] at v2
    rw [v2]
    cases hx
    have hz : ∀ j, j < 9 → ∀ y : Int, ([.lit (.int .i64 1), .lit (.int .i64 3), .lit (.int .i64 6), .lit (.int .i64 9), .lit (.int .i64 13), .lit (.int .i64 16), .lit (.int .i64 19), .lit (.int .i64 23), .lit (.int .i64 26)] : List (DataW Unit))[j]? = some (.lit (.int .i64 y)) → y = (pw j : Nat) := by
      intro j hj y hy
      have : j = 0 ∨ j = 1 ∨ j = 2 ∨ j = 3 ∨ j = 4 ∨ j = 5 ∨ j = 6 ∨ j = 7 ∨ j = 8 := by omega
      rcases this with rfl | rfl | rfl | rfl | rfl | rfl | rfl | rfl | rfl <;> (cases hy; rfl)
    rw [hz i hi _ r2]

theorem cheats_of {w : World} (h : VarReads Tryz.prog w "internal/strconv.leftcheats" Pinned.leftcheats) :
    ∃ b o c, b < w.heap.size ∧ w.cell? ⟨20, 0, none⟩ = some (.slice (some ⟨b, o, none⟩) 61 c) ∧
      ∀ k, k < 61 → ∃ (dl : Nat) (L : List UInt8), Pinned.cheatRows[k]? = some (dl, L) ∧ w.cell? ⟨b, o + k * 2, none⟩ = some (.int .i64 (dl : Nat)) ∧ w.cell? ⟨b, o + k * 2 + 1, none⟩ = some (.string ⟨L.toArray⟩) := by
  obtain ⟨g', t, cs, fuel, p, h1, h2, h3, h4⟩ := h
  obtain rfl := Option.some.inj ((show Tryz.prog.globalNamed "internal/strconv.leftcheats" = some 20 by kernel_rfl).symm.trans h1)
  obtain rfl := Option.some.inj ((show (Tryz.prog.globals[20]?).map (·.type) = some 359 by kernel_rfl).symm.trans h2)
  obtain ⟨d0, ds, hd⟩ : ∃ d0 ds, (Pinned.cheatRows.map fun x => (.agg [.lit (.int .i64 x.1), .lit (.string x.2)] : DataW Unit)) = d0 :: ds := ⟨_, _, rfl⟩
  have hl61 : (d0 :: ds).length = 61 := by rw [← hd, List.length_map]; rfl
  unfold Pinned.leftcheats at h4
  rw [hd] at h4
  obtain ⟨b, o, cap, n, hcs, hb, hat⟩ := slice_at (c := 2) Tryz.underlying359 h4 (by kernel_rfl) (by decide)
  rw [hl61] at hcs hat
  refine ⟨b, o, cap, hb, ?_, fun i hi => ?_⟩
  · rw [World.var?_cell h1 h3 0]
    have := congrArg (·[0]?) hcs
    simpa using this
  · obtain ⟨l, x, q, -, r1, r2, r3⟩ := hat i hi
    rw [← hd, List.getElem?_map] at r2
    obtain ⟨⟨dl, L⟩, hrow, rfl⟩ := Option.map_eq_some_iff.1 r2
    obtain ⟨z0, a0, b0, -⟩ := int_field Tryz.underlying358 r1 0 _ rfl .i64 Tryz.underlying3 (by kernel_rfl)
    cases b0
    obtain ⟨xs, n', -, hx, hl, hxl, hall⟩ := DataW.trod_struct Tryz.underlying358 r1
    have h1' := hall 1 _ rfl
    obtain ⟨y, hy⟩ : ∃ y, xs[1]? = some y := ⟨_, List.getElem?_eq_getElem (by rw [hxl]; decide)⟩
    rw [hy] at h1'
    obtain ⟨S, hS, hS2, -⟩ := DataW.trod_string Tryz.underlying9 h1'
    have hd1 : some (DataW.lit (.string L) : DataW Unit) = some y.1 := by
      have h5 : [.lit (.int .i64 (dl : Nat)), (.lit (.string L) : DataW Unit)] = xs.map (·.1) := by
        have := congrArg Prod.fst hx
        simpa using this
      have h6 := congrArg (·[1]?) h5
      simpa [hy] using h6
    subst hS2
    have hSL : S.data.toList = L := by
      simp only [Option.some.injEq, DataW.lit.injEq, Lit.string.injEq] at hd1
      exact hd1.symm
    have hSe : S = ⟨L.toArray⟩ := by
      obtain ⟨A⟩ := S
      simp only at hSL
      rw [← hSL]
    obtain ⟨v0, p0, p1⟩ := r3 0 (by decide)
    obtain ⟨v1, p2, p3⟩ := r3 1 (by decide)
    have e0 : l[0]? = some (.int .i64 (dl : Nat)) := a0
    have e1 : l[1]? = some (.string S) := by
      have := congrArg (·[0]?) hS
      have h7 : 0 < Tryz.prog.cellsOf 9 ∧ l[1]? = some (Value.string S) := by simpa [List.getElem?_take, List.getElem?_drop] using this
      exact h7.2
    rw [e0] at p0
    cases p0
    rw [e1] at p2
    cases p2
    refine ⟨dl, L, hrow, p1, ?_⟩
    rw [← hSe, ← p3, Nat.add_assoc]

theorem hasTs_of {w : World} (h1 : VarReads Tryz.prog w "internal/strconv.leftcheats" Pinned.leftcheats) (h2 : VarReads Tryz.prog w "internal/strconv.float64info" (.agg [.lit (.int .u64 52), .lit (.int .u64 11), .lit (.int .i64 (-1023))]))
    (h3 : VarReads Tryz.prog w "internal/strconv.powtab" (.slice [.lit (.int .i64 1), .lit (.int .i64 3), .lit (.int .i64 6), .lit (.int .i64 9), .lit (.int .i64 13), .lit (.int .i64 16), .lit (.int .i64 19), .lit (.int .i64 23), .lit (.int .i64 26)] [])) : HasTs w := by
  intro g hg
  obtain ⟨f1, f2, f3⟩ := f64info_of h2
  obtain ⟨b, o, c, b1, b2, b3⟩ := pow_of h3
  obtain ⟨b', o', c', q1, q2, q3⟩ := cheats_of h1
  have s13 := (cell_spot f1).2
  have s15 := (cell_spot b2).2
  have s20 := (cell_spot q2).2
  simp only at s13 s15 s20
  exact ⟨⟨b', o', c', by omega, by omega, q2, q3⟩, by omega, f1, f2, f3, b, o, c, by omega, by omega, b2, b3⟩
end Go.Proofs.YtlfeolfjlmelpaaGreatDoor
namespace Go.Proofs.YtlfeolfjlmelpaaGreatDoor
open Go Go.RowKit Go.Lib

theorem star_es : "*" ++ "errors.errorString" = "*errors.errorString" := by decide
theorem row289 (u : TypeId) (h : Tryz.prog.typeName? 3 u = some "*errors.errorString") : u = 289 :=
  typeName_ptr_named (nm := "errors.errorString") (by rw [star_es]; kernel_rfl) (by kernel_rfl) (by decide) u (by rw [star_es]; exact h)

theorem sent_gen {P : Program} {n nm : String} {text : List UInt8} {r : List (String × DataW Unit)} {W : World} {g : Nat} {ti tp te ts : TypeId} {ms : Array (String × TypeId)} {f : Field}
    (h : laidMet P ((n, .iface nm (.ptr (.agg [.lit (.string text)]))) :: r) W)
    (hg : P.globalNamed n = some g) (ht : (P.globals[g]?).map (·.type) = some ti) (hi : P.underlying ti = some (.interface ms)) (hrow : ∀ u, P.typeName? 3 u = some nm → u = tp)
    (hp : P.underlying tp = some (.pointer te)) (he : P.underlying te = some (.struct #[f])) (hft : f.type = ts) (hfo : f.offset = 0) (hs : P.underlying ts = some .string) (hc : P.cellsOf te = 1) (hcs : P.cellsOf ts = 1) :
    ∃ (a : Addr) (c : Array Value) (t : TypeId), W.cell? ⟨g, 0, none⟩ = some (.iface tp (.pointer (some a))) ∧ W.heap[a.block]? = some (.cells c t (0, 0)) := by
  obtain ⟨ps, ⟨g0, t0, cs0, f0, p0, q0, hg0, ht0, hv0, hd0, _, e0⟩, _, hrows⟩ := h
  obtain rfl := Option.some.inj (hg.symm.trans hg0)
  obtain rfl := Option.some.inj (ht.symm.trans ht0)
  subst e0
  obtain ⟨l0⟩ := cs0
  have ok0 : ∀ u v, l0 = [.iface u v] → Value.okWide P W .any 0 u v := fun u v e => by
    subst e
    exact (hrows g 0 (by simp [MemPlace.row])).2 u v (by simpa using World.var?_cell hg0 hv0 0)
  obtain ⟨a0, s0, rfl, hc0, hs0, hz0, rfl⟩ := errorString_of_trod hi hrow hp he hft hfo hs hc hcs hd0 ok0
  obtain ⟨c0, t0, hb0⟩ := (hrows a0.block a0.off (by simp [MemPlace.row])).1
  exact ⟨a0, c0, t0, by simpa using World.var?_cell hg0 hv0 0, hb0⟩

theorem es_cells : Tryz.prog.cellsOf 291 = 1 := by kernel_rfl
theorem str_cells : Tryz.prog.cellsOf 9 = 1 := by kernel_rfl
theorem sent_of {n : String} {text : List UInt8} {r : List (String × DataW Unit)} {W : World} (g : Nat)
    (h : laidMet Tryz.prog ((n, .iface "*errors.errorString" (.ptr (.agg [.lit (.string text)]))) :: r) W)
    (hg : Tryz.prog.globalNamed n = some g) (ht : (Tryz.prog.globals[g]?).map (·.type) = some 74) : Sent g W :=
  sent_gen h hg ht Tryz.underlying74 row289 Tryz.underlying289 Tryz.underlying291 rfl rfl Tryz.underlying9 es_cells str_cells
end Go.Proofs.YtlfeolfjlmelpaaGreatDoor
