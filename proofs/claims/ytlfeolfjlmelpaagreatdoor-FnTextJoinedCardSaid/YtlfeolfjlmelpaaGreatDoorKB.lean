/- KA, KB in one text. -/
import Derived.Test.YtlfeolfjlmelpaaGreatDoorProg
import Derived.WalkKit
import Derived.ProofKit
import Derived.OpenShut
import Derived.WalkLawsBesides
import Derived.WalkSpells
import Derived.Outline
import Derived.Lib.Hide
import Derived.Deep.LoopGhost
import Derived.Deep.QuietTactic
import Derived.BigQuiet
import Derived.IntWalk
import Derived.OwnWalk
import Derived.Deep.DeepCutAuto
import Derived.Deep.CutBlock
import Derived.Lib.BytesEntry
import Derived.Shelf.Bytes.SlIndexAt
namespace Go.Proofs.YtlfeolfjlmelpaaGreatDoor
open Go.RowKit

/-- A byte as a value. -/
abbrev by8 (x : UInt8) : Value := .int .u8 (x.toNat : Int)

theorem info5 : (Tryz.prog.info? 5).map (fun i => (i.zero, i.size, i.bytes)) = some (some (.int .u8 0), 1, 1) := by kernel_rfl

theorem u8_of_nat {x : UInt8} {k : Nat} (h : x.toNat = k) : x = UInt8.ofNat k := by rw [← h]; simp

/-- Of a slice value its length. -/
def lenV : Value → Nat | .slice _ n _ => n | _ => 0

/-! ### Worlds that keep what was there -/
theorem gr_refl (w : World) (r : Option Nat) : w.grownBy w r := .refl w r
theorem gr_trans {a b c : World} {r : Option Nat} (h : a.grownBy b r) (k : b.grownBy c r) : a.grownBy c r :=
  ⟨k.os.trans h.os, k.tape.trans h.tape, k.output.trans h.output, Nat.le_trans h.size k.size,
   fun i hi hr => (k.block i (Nat.lt_of_lt_of_le hi h.size) hr).trans (h.block i hi hr)⟩
theorem gr_weak {a b : World} {r : Option Nat} (h : a.grownBy b none) : a.grownBy b r :=
  ⟨h.os, h.tape, h.output, h.size, fun i hi _ => h.block i hi (by simp)⟩
/-- What was written was new. -/
theorem gr_new {a b c : World} {r r' : Option Nat} (h : a.grownBy b r) (k : b.grownBy c r') (hr : ∀ g, r' = some g → a.heap.size ≤ g ∨ r = some g) : a.grownBy c r :=
  ⟨k.os.trans h.os, k.tape.trans h.tape, k.output.trans h.output, Nat.le_trans h.size k.size,
   fun i hi hn => (k.block i (Nat.lt_of_lt_of_le hi h.size) (fun e => by
     rcases hr i e.symm with h1 | h1
     · omega
     · exact hn h1.symm)).trans (h.block i hi hn)⟩
theorem gr_alloc {a b : World} {r : Option Nat} (h : a.grownBy b r) (o : Obj) : a.grownBy (b.alloc o) r := gr_trans h (World.grownBy_alloc _ _ _)
theorem gr_drew {a b : World} {r : Option Nat} (h : a.grownBy b r) : a.grownBy b.drew r := ⟨h.os, h.tape, h.output, h.size, h.block⟩
theorem gr_drewN {a b : World} {r : Option Nat} (h : a.grownBy b r) (n : Nat) : a.grownBy (b.drewN n) r := ⟨h.os, h.tape, h.output, h.size, h.block⟩
theorem gr_set {a b : World} {r : Option Nat} (h : a.grownBy b r) {p : Addr} (hp : a.heap.size ≤ p.block ∨ r = some p.block) (u : Value) : a.grownBy (b.setCell p u) r :=
  ⟨h.os, h.tape, h.output, by simpa [World.setCell] using h.size, fun i hi hn => by
    rw [Below.heap_setCell _ _ _ _ (by rcases hp with hp | hp
                                       · omega
                                       · rintro rfl; exact hn hp.symm)]
    exact h.block i hi hn⟩
theorem gr_below {a b : World} (h : a.grownBy b none) : Below a.heap.size a b := ⟨h.os, h.tape, h.output, h.size, fun i hi => h.block i hi (by simp)⟩
theorem below_gr {a b : World} (h : Below a.heap.size a b) : a.grownBy b none := ⟨h.os, h.tape, h.output, h.size, fun i hi _ => h.block i hi⟩
theorem gr_blk {a b : World} {r : Option Nat} (h : a.grownBy b r) {g : Nat} {o : Obj} (hg : a.heap[g]? = some o) (hr : r ≠ some g) : b.heap[g]? = some o :=
  (h.block g (Array.getElem?_eq_some_iff.1 hg).1 (fun e => hr e.symm)).trans hg
theorem gr_cell {a b : World} (h : a.grownBy b none) {p : Addr} {v : Value} (hp : a.cell? p = some v) : b.cell? p = some v := h.cell hp (by simp)

theorem blk_lt {w : World} {g : Nat} {o : Obj} (h : w.heap[g]? = some o) : g < w.heap.size := (Array.getElem?_eq_some_iff.1 h).1
theorem blk_cell {w : World} {g : Nat} {t : TypeId} {cs : Array Value} {fr : Nat × Nat} (h : w.heap[g]? = some (.cells cs t fr)) (i : Nat) : w.cell? ⟨g, i, none⟩ = cs[i]? := cell_of_row w g i cs t fr h
theorem blk_frozen {w : World} {g : Nat} {t : TypeId} {cs : Array Value} (h : w.heap[g]? = some (.cells cs t (0, 0))) (i : Nat) : w.frozen? ⟨g, i, none⟩ = false := by simp [World.frozen?, h]
theorem blk_set {w : World} {g : Nat} {t : TypeId} {cs : Array Value} {fr : Nat × Nat} (h : w.heap[g]? = some (.cells cs t fr)) (i : Nat) (u : Value) : (w.setCell ⟨g, i, none⟩ u).heap[g]? = some (.cells (cs.setIfInBounds i u) t fr) := by
  simp [World.setCell, Array.getElem?_modify, h]
theorem blk_far {w : World} {g : Nat} {o : Obj} (h : w.heap[g]? = some o) {p : Addr} (hp : g ≠ p.block) (u : Value) : (w.setCell p u).heap[g]? = some o := (Below.heap_setCell w p u g hp).trans h
theorem blk_alloc {w : World} {g : Nat} {o : Obj} (h : w.heap[g]? = some o) (o' : Obj) : (w.alloc o').heap[g]? = some o := (Below.heap_alloc w o' g (blk_lt h)).trans h
theorem blk_new (w : World) (o : Obj) : (w.alloc o).heap[w.heap.size]? = some o := heap_alloc_new w o
theorem blk_ne {w : World} {g g' : Nat} {t t' : TypeId} {cs cs' : Array Value} {fr fr' : Nat × Nat} (h : w.heap[g]? = some (.cells cs t fr)) (h' : w.heap[g']? = some (.cells cs' t' fr')) (hne : t ≠ t') : g ≠ g' := by
  rintro rfl; rw [h] at h'; cases h'; exact hne rfl

/-! ### Slices of bytes -/
/-- The slice value '.slice A xs.length c' reads as the bytes xs in the world w: it leads into a block of bytes. -/
structure IsB (w : World) (A : Option Addr) (c : Nat) (xs : List UInt8) : Prop where
  le : xs.length ≤ c
  cap : c ≤ 9223372036854775807
  row : xs ≠ [] → ∃ b o cs fr, A = some ⟨b, o, none⟩ ∧ w.heap[b]? = some (.cells cs 5 fr) ∧ ∀ i (h : i < xs.length), cs[o + i]? = some (by8 xs[i])

theorem IsB.head {w : World} {A : Option Addr} {c : Nat} {x : UInt8} {r : List UInt8} (h : IsB w A c (x :: r)) :
    ∃ b o, A = some ⟨b, o, none⟩ ∧ w.cell? ⟨b, o, none⟩ = some (by8 x) := by
  obtain ⟨b, o, cs, fr, e, hb, k⟩ := h.row (by simp)
  exact ⟨b, o, e, by rw [blk_cell hb]; exact k 0 (by simp)⟩

theorem IsB.get {w : World} {A : Option Addr} {c : Nat} {xs : List UInt8} (h : IsB w A c xs) (hne : xs ≠ []) :
    ∃ b o, A = some ⟨b, o, none⟩ ∧ ∀ i (h : i < xs.length), w.cell? ⟨b, o + i, none⟩ = some (by8 xs[i]) := by
  obtain ⟨b, o, cs, fr, e, hb, k⟩ := h.row hne
  exact ⟨b, o, e, fun i hi => by rw [blk_cell hb]; exact k i hi⟩

theorem IsB.nil (w : World) {A : Option Addr} {c : Nat} (h : c ≤ 9223372036854775807) : IsB w A c [] := ⟨Nat.zero_le _, h, fun h => absurd rfl h⟩

theorem IsB.cut {w : World} {A : Option Addr} {c : Nat} {xs : List UInt8} (h : IsB w A c xs) (m : Nat) (hm : m ≤ xs.length) :
    ∃ A' c', IsB w A' c' (xs.drop m) ∧ ∀ (W : World) (k : IntKind), (Instr.slice 28 (.slice A xs.length c) (some (.int k (m : Int))) none none).run Tryz.prog W = .ok (.slice A' (xs.drop m).length c') W := by
  refine ⟨if c = m then A else A.map (·.add m), c - m, ⟨?_, by have := h.cap; omega, ?_⟩, fun W k => ?_⟩
  · have := h.le; simp; omega
  · intro hne
    have hl : m < xs.length := by
      rcases Nat.lt_or_ge m xs.length with h | h
      · exact h
      · exact absurd (List.drop_eq_nil_of_le h) hne
    obtain ⟨b, o, cs, fr, rfl, hb, k⟩ := h.row (fun e => by subst e; simp at hl)
    rw [if_neg (by have := h.le; omega)]
    by_cases h0 : m = 0
    · subst h0
      exact ⟨b, o, cs, fr, by simp [Addr.add], hb, by simpa using k⟩
    · refine ⟨b, o + m, cs, fr, by simp [Addr.add, h0], hb, fun i hi => ?_⟩
      simp only [List.length_drop] at hi
      rw [Nat.add_assoc, k (m + i) (by omega)]; simp
  · obtain ⟨i0, hi, hz0, hz1, hz2⟩ := info_parts info5
    have hel : Tryz.prog.elem 28 = 5 := by simp [Program.elem, Tryz.underlying28]
    have hu : Tryz.prog.underlying 28 = some (.slice (Tryz.prog.elem 28)) := by rw [hel]; exact Tryz.underlying28
    rw [run_slice_l W 28 A xs.length c hu k (m : Int) (Int.natCast_nonneg _) (by omega), hel]
    simp [sizeOf, typeInfo, hi, hz1, sliced, Result.andThen]

theorem IsB.cut1 {w : World} {A : Option Addr} {c : Nat} {x : UInt8} {r : List UInt8} (h : IsB w A c (x :: r)) :
    ∃ A' c', IsB w A' c' r ∧ ∀ (W : World) (k : IntKind), (Instr.slice 28 (.slice A (r.length + 1) c) (some (.int k 1)) none none).run Tryz.prog W = .ok (.slice A' r.length c') W := h.cut 1 (by simp)

theorem IsB.take {w : World} {A : Option Addr} {c : Nat} {xs : List UInt8} (h : IsB w A c xs) (m : Nat) (hm : m ≤ xs.length) : IsB w A c (xs.take m) :=
  ⟨by have := h.le; simp; omega, h.cap, fun hne => by
    obtain ⟨b, o, cs, fr, e, hb, k⟩ := h.row (fun e => by subst e; simp at hne)
    exact ⟨b, o, cs, fr, e, hb, fun i hi => by
      simp only [List.length_take] at hi
      rw [k i (by omega)]; simp⟩⟩

/-- What is not written reads on. -/
theorem IsB.kept {w w1 : World} {A : Option Addr} {c : Nat} {xs : List UInt8} (h : IsB w A c xs) {r : Option Nat} (hg : w.grownBy w1 r)
    (hr : ∀ g cs fr, r = some g → w.heap[g]? ≠ some (.cells cs 5 fr)) : IsB w1 A c xs :=
  ⟨h.le, h.cap, fun hne => by
    obtain ⟨b, o, cs, fr, e, hb, k⟩ := h.row hne
    exact ⟨b, o, cs, fr, e, gr_blk hg hb (fun e => hr b cs fr e hb), k⟩⟩
theorem IsB.kept0 {w w1 : World} {A : Option Addr} {c : Nat} {xs : List UInt8} (h : IsB w A c xs) (hg : w.grownBy w1 none) : IsB w1 A c xs :=
  h.kept hg (fun g cs fr e => by cases e)
theorem IsB.keptD {w w1 : World} {A : Option Addr} {c : Nat} {xs : List UInt8} (h : IsB w A c xs) {g : Nat} (hg : w.grownBy w1 (some g)) {cs : Array Value} {t : TypeId} {fr : Nat × Nat}
    (hb : w.heap[g]? = some (.cells cs t fr)) (ht : t ≠ 5) : IsB w1 A c xs :=
  h.kept hg (fun g' cs' fr' e => by cases e; rw [hb]; intro e; cases e; exact ht rfl)

end Go.Proofs.YtlfeolfjlmelpaaGreatDoor
namespace Go.Proofs.YtlfeolfjlmelpaaGreatDoor
open Go.RowKit

/-! ### bytes.IndexByte -/
theorem bytesOf_map (xs : List UInt8) : Lib.bytesOf (xs.map fun x => (x.toNat : Int)) = xs := by
  unfold Lib.bytesOf
  rw [List.map_map]
  conv => rhs; rw [← List.map_id xs]
  refine List.map_congr_left fun x _ => ?_
  simp

set_option maxRecDepth 1000000 in
theorem indexByte_any (A : Option Addr) (c : Nat) (xs : List UInt8) (cv : UInt8) (w : World) (h : IsB w A c xs) (hne : xs ≠ []) :
    Calls Tryz.prog 171 #[.slice A xs.length c, .int .u8 (cv.toNat : Int)] w fun e w' => e = .returned (.int .i64 (Lib.indexByte xs cv)) ∧ w = w' := by
  obtain ⟨b, o, rfl, hk⟩ := h.get hne
  have hrun := Lib.run_indexByteSlice (P := Tryz.prog) (w := w) b o xs.length c (xs.map fun x => (x.toNat : Int)) (by simp) (fun i hi => by
    rw [hk i hi, List.getD_eq_getElem?_getD, List.getElem?_map, List.getElem?_eq_getElem hi]
    rfl) (cv.toNat : Int)
  rw [bytesOf_map, show ((cv.toNat : Int)).toNat.toUInt8 = cv by simp] at hrun
  clear hk
  go_enter Tryz.func171, Tryz.ntmps171
  go_wp2
  rw [run_callFunc_extern Tryz.func207 (by kernel_rfl) (by kernel_rfl) (by kernel_rfl) (e := Extern.BytealgIndexByte.indexByte) (by kernel_rfl)]
  rw [hrun]
  simp only [Result.andThen]
  rw [Oper.upon_value]
  go_wp2
  go_ret
  exact ⟨rfl, rfl⟩

mutual
/-- What is left when blanks and remarks are taken off the front. -/
def skip : List UInt8 → List UInt8
  | [] => []
  | x :: r => if x.toNat = 32 ∨ x.toNat = 10 ∨ x.toNat = 13 ∨ x.toNat = 9 then skip r else if x.toNat = 35 then skipC r else x :: r
/-- Within a remark. -/
def skipC : List UInt8 → List UInt8
  | [] => []
  | x :: r => if x = 10 then skip r else skipC r
end


theorem skipC_index : ∀ (r : List UInt8) (i : Nat), Lib.indexByte r 10 = i → skipC r = skip (r.drop (i + 1)) ∧ i < r.length
  | [], i, h => by simp [Lib.indexByte] at h
  | x :: r, i, h => by
    unfold Lib.indexByte at h
    rw [skipC]
    by_cases hx : x = 10
    · rw [if_pos (by simpa using hx)] at h
      rw [if_pos hx]
      have : i = 0 := by omega
      subst this; simp
    · rw [if_neg (by simpa using hx)] at h
      rw [if_neg hx]
      by_cases h1 : (Lib.indexByte r 10 == -1) = true
      · rw [if_pos h1] at h; omega
      · rw [if_neg h1] at h
        have h2 : Lib.indexByte r 10 ≠ -1 := by simpa using h1
        have h3 := Lib.indexByte_ge r 10
        obtain ⟨j, rfl⟩ : ∃ j, i = j + 1 := ⟨i - 1, by omega⟩
        have := skipC_index r j (by omega)
        rw [this.1]
        simp; omega
theorem skipC_none : ∀ (r : List UInt8), Lib.indexByte r 10 < 0 → skipC r = []
  | [], _ => by rw [skipC]
  | x :: r, h => by
    unfold Lib.indexByte at h
    rw [skipC]
    by_cases hx : x = 10
    · rw [if_pos (by simpa using hx)] at h; omega
    · rw [if_neg (by simpa using hx)] at h
      rw [if_neg hx]
      by_cases h1 : (Lib.indexByte r 10 == -1) = true
      · have : Lib.indexByte r 10 = -1 := by simpa using h1
        exact skipC_none r (by omega)
      · rw [if_neg h1] at h
        have := Lib.indexByte_ge r 10
        have : Lib.indexByte r 10 ≠ -1 := by simpa using h1
        omega


set_option maxHeartbeats 1000000 in
set_option maxRecDepth 1000000 in
theorem consume_any (A : Option Addr) (c : Nat) (xs : List UInt8) (m : Nat) (w : World) (h : IsB w A c xs) (hm : m ≤ xs.length) :
    Calls Tryz.prog 126 #[.slice A xs.length c, .int .i64 m] w fun e w' => ∃ A' c', e = .returned (.slice A' (skip (xs.drop m)).length c') ∧ IsB w A' c' (skip (xs.drop m)) ∧ w = w' := by
  obtain ⟨A1, c1, h1, hrun⟩ := h.cut m hm
  have H1 := Lib.hid h1
  clear h1
  have hcap := h.cap
  have hle := h.le
  clear h
  go_enter Tryz.func126, Tryz.ntmps126
  go_wp2
  go_loop [0] (fun v => ∃ A' c' ys, v = .slice A' ys.length c' ∧ Hid (IsB w A' c' ys) ∧ Hid (skip ys = skip (xs.drop m))) (fun v => lenV v)
  case atStart => exact ⟨A1, c1, xs.drop m, by simp, H1, rfl⟩
  case round =>
    obtain ⟨A', c', ys, rfl, hB, hS⟩ := hrel
    clear hrun
    cases ys with
    | nil =>
      go_wp2
      go_ret
      rw [← hS.out, skip]
      exact ⟨A', c', rfl, hB, rfl⟩
    | cons x r =>
      obtain ⟨b, o, rfl, hcell⟩ := hB.out.head
      obtain ⟨A2, c2, h2, hcut⟩ := hB.out.cut1
      have H2 := Lib.hid h2
      clear h2
      have hle2 := hB.out.le
      have hcap2 := hB.out.cap
      by_cases hsp : x.toNat = 32 ∨ x.toNat = 10 ∨ x.toNat = 13 ∨ x.toNat = 9
      · have HS : Hid (skip r = skip (xs.drop m)) := by rw [← hS.out, skip, if_pos hsp]; rfl
        have hx : x = 32 ∨ x = 10 ∨ x = 13 ∨ x = 9 := by
          rcases hsp with h | h | h | h
          · exact .inl (u8_of_nat h)
          · exact .inr (.inl (u8_of_nat h))
          · exact .inr (.inr (.inl (u8_of_nat h)))
          · exact .inr (.inr (.inr (u8_of_nat h)))
        clear hsp
        rcases hx with rfl | rfl | rfl | rfl
        all_goals
          go_wp2
          exact ⟨⟨A2, c2, r, rfl, H2, HS⟩, by simp [lenV]⟩
      · have f1 : ((x.toNat : Int) == 32) = false := beq_eq_false_iff_ne.2 (by omega)
        have f2 : ((x.toNat : Int) == 10) = false := beq_eq_false_iff_ne.2 (by omega)
        have f3 : ((x.toNat : Int) == 13) = false := beq_eq_false_iff_ne.2 (by omega)
        have f4 : ((x.toNat : Int) == 9) = false := beq_eq_false_iff_ne.2 (by omega)
        by_cases hc : x.toNat = 35
        · obtain rfl : x = 35 := u8_of_nat hc
          have HS : Hid (skipC r = skip (xs.drop m)) := by rw [← hS.out, skip, if_neg hsp, if_pos hc]; rfl
          clear hsp hc f1 f2 f3 f4
          have hI := indexByte_any (some ⟨b, o, none⟩) c' (35 :: r) 10 w hB.out (by simp)
          have hge := Lib.indexByte_ge (35 :: r) 10
          have hii : Lib.indexByte (35 :: r) 10 = if Lib.indexByte r 10 == -1 then -1 else Lib.indexByte r 10 + 1 := by
            conv => lhs; unfold Lib.indexByte
            rw [if_neg (by decide)]
          have hge2 := Lib.indexByte_ge r 10
          obtain ⟨i, hi⟩ : ∃ i, i = Lib.indexByte (35 :: r) 10 := ⟨_, rfl⟩
          rw [← hi] at hI hge hii
          have HI := Lib.hid hI
          clear hI hi
          by_cases hneg : i < 0
          · have HS2 : Hid (skip [] = skip (xs.drop m)) := by
              rw [← HS.out, skipC_none r, skip]; rfl
              split at hii
              · rename_i h1; have : Lib.indexByte r 10 = -1 := by simpa using h1
                omega
              · omega
            clear hii hge2
            have hn : decide (0 ≤ i) = false := by simp; omega
            go_wp2_with (go_at_call 171; refine HI.out.mono ?_; rintro e w' ⟨rfl, rfl⟩)
            exact ⟨⟨none, 0, [], rfl, IsB.nil _ (by omega), HS2⟩, by simp [lenV]⟩
          · obtain ⟨j, hj⟩ : ∃ j : Nat, Lib.indexByte r 10 = j := ⟨(Lib.indexByte r 10).toNat, by
              split at hii
              · omega
              · rename_i h1
                have h1 : Lib.indexByte r 10 ≠ -1 := by simpa using h1
                omega⟩
            have hsk := skipC_index r j hj
            obtain rfl : i = ((j : Nat) : Int) + 1 := by
              rw [if_neg (by simp; omega)] at hii; omega
            have HS2 : Hid (skip (r.drop (j + 1)) = skip (xs.drop m)) := by rw [← HS.out, hsk.1]; rfl
            obtain ⟨A3, c3, h3, hcut3⟩ := hB.out.cut (j + 1 + 1) (by simp; omega)
            have H3 := Lib.hid h3
            have hjl := hsk.2
            clear hii hge2 hj hsk h3 hcut hge
            have hlen : r.length + 1 ≤ c' := by simpa using hle2
            have hw1 : IntKind.i64.wrap ((j : Int) + 1 + 1) = (j : Int) + 1 + 1 := IntWalk.i64_in _ (by omega)
            have hn : decide (0 ≤ (j : Int) + 1) = true := by simp; omega
            simp only [List.drop_succ_cons, List.length_cons, List.length_drop] at hcut3
            rw [show (((j + 1 + 1 : Nat)) : Int) = (j : Int) + 1 + 1 by omega] at hcut3
            go_wp2_with (go_at_call 171; refine HI.out.mono ?_; rintro e w' ⟨rfl, rfl⟩)
            exact ⟨⟨A3, c3, r.drop (j + 1), by simp, by simpa using H3, HS2⟩, by simp [lenV]; omega⟩
        · have HS : Hid (x :: r = skip (xs.drop m)) := by rw [← hS.out, skip, if_neg hsp, if_neg hc]; rfl
          have f5 : ((x.toNat : Int) == 35) = false := beq_eq_false_iff_ne.2 (by omega)
          clear hsp hc
          go_wp2
          go_ret
          rw [← HS.out]
          exact ⟨_, c', rfl, hB, rfl⟩
end Go.Proofs.YtlfeolfjlmelpaaGreatDoor
