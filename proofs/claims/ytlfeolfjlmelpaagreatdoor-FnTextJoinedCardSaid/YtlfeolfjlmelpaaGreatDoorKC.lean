/- The text decoder's small methods: what they do to the decoder's block. -/
import Derived.Test.YtlfeolfjlmelpaaGreatDoorKB
import Derived.RegionTactic
import Derived.BigRegion
import Derived.ChangeAlike
import Derived.Defers
namespace Go.Proofs.YtlfeolfjlmelpaaGreatDoor
open Go.RowKit

/-- The decoder's block: lastCall, lastToken (six cells), lastErr, openStack, orig, in. -/
def HasDec (w : World) (g : Nat) (lc tk ta tn tp tr ts le os og ins : Value) : Prop :=
  w.heap[g]? = some (.cells #[lc, tk, ta, tn, tp, tr, ts, le, os, og, ins] 104 (0, 0))

theorem HasDec.cells {w : World} {g : Nat} {lc tk ta tn tp tr ts le os og ins : Value} (h : HasDec w g lc tk ta tn tp tr ts le os og ins) :
    w.cell? ⟨g, 0, none⟩ = some lc ∧ w.cell? ⟨g, 1, none⟩ = some tk ∧ w.cell? ⟨g, 2, none⟩ = some ta ∧ w.cell? ⟨g, 3, none⟩ = some tn ∧ w.cell? ⟨g, 4, none⟩ = some tp ∧
    w.cell? ⟨g, 5, none⟩ = some tr ∧ w.cell? ⟨g, 6, none⟩ = some ts ∧ w.cell? ⟨g, 7, none⟩ = some le ∧ w.cell? ⟨g, 8, none⟩ = some os ∧ w.cell? ⟨g, 9, none⟩ = some og ∧ w.cell? ⟨g, 10, none⟩ = some ins ∧
    ∀ i, w.frozen? ⟨g, i, none⟩ = false := by
  unfold HasDec at h
  refine ⟨?_, ?_, ?_, ?_, ?_, ?_, ?_, ?_, ?_, ?_, ?_, blk_frozen h⟩ <;> (rw [blk_cell h]; rfl)

set_option maxHeartbeats 1000000 in
set_option maxRecDepth 1000000 in
theorem consumeM {w : World} {g : Nat} {lc tk ta tn tp tr ts le os og : Value} {A : Option Addr} {c : Nat} {xs : List UInt8} (m : Int)
    (hd : HasDec w g lc tk ta tn tp tr ts le os og (.slice A xs.length c)) (h : IsB w A c xs) (h0 : 0 ≤ m) (hm : m ≤ xs.length) :
    Calls Tryz.prog 86 #[.pointer (some ⟨g, 0, none⟩), .int .i64 m] w fun e w' => e = .returned (.tuple #[]) ∧ ∃ A' c', IsB w' A' c' (skip (xs.drop m.toNat)) ∧
      HasDec w' g lc tk ta tn tp tr ts le os og (.slice A' (skip (xs.drop m.toNat)).length c') ∧ w.grownBy w' (some g) := by
  obtain ⟨j, rfl⟩ := Int.eq_ofNat_of_zero_le h0
  rw [Int.toNat_natCast]
  have hc := consume_any A c xs j w h (by omega)
  have HC := Lib.hid hc
  obtain ⟨d0, d1, d2, d3, d4, d5, d6, d7, d8, d9, d10, df⟩ := hd.cells
  clear d0 d1 d2 d3 d4 d5 d6 d7 d8 d9 hc
  have d11 := df 10
  clear df
  have HD := Lib.hid hd
  have H := Lib.hid h
  clear hd h
  go_enter Tryz.func86, Tryz.ntmps86
  go_wp2_with fail
  refine HC.out.mono ?_
  rintro e w' ⟨A', c', rfl, h', rfl⟩
  have H' := Lib.hid h'
  clear h'
  go_wp2
  refine bodyPost_ret (v := .tuple #[]) (by simp [results, Tryz.results86, go_sem]) rfl ?_
  have hs := blk_set HD.out 10 (.slice A' (skip (xs.drop j)).length c')
  have hgr : w.grownBy (w.setCell ⟨g, 10, none⟩ (.slice A' (skip (xs.drop j)).length c')) (some g) := gr_set (gr_refl _ _) (.inr rfl) _
  exact ⟨rfl, A', c', H'.out.keptD hgr HD.out (by decide), hs, hgr⟩
/-- A block that holds a token. -/
def HasTok (w : World) (g : Nat) (a b c d e f : Value) : Prop := w.heap[g]? = some (.cells #[a, b, c, d, e, f] 72 (0, 0))
theorem HasTok.cells {w : World} {g : Nat} {a b c d e f : Value} (h : HasTok w g a b c d e f) :
    w.cell? ⟨g, 0, none⟩ = some a ∧ w.cell? ⟨g, 1, none⟩ = some b ∧ w.cell? ⟨g, 2, none⟩ = some c ∧ w.cell? ⟨g, 3, none⟩ = some d ∧ w.cell? ⟨g, 4, none⟩ = some e ∧ w.cell? ⟨g, 5, none⟩ = some f := by
  unfold HasTok at h
  refine ⟨?_, ?_, ?_, ?_, ?_, ?_⟩ <;> (rw [blk_cell h]; rfl)

/-! A token stored cell by cell. -/
theorem tok6_gr {w : World} {g : Nat} {a b c d e f : Value} : w.grownBy ((((((w.setCell ⟨g, 0, none⟩ a).setCell ⟨g, 1, none⟩ b).setCell ⟨g, 2, none⟩ c).setCell ⟨g, 3, none⟩ d).setCell ⟨g, 4, none⟩ e).setCell ⟨g, 5, none⟩ f) (some g) := by
  iterate 6 refine gr_set ?_ (.inr rfl) _
  exact gr_refl _ _
theorem tok6_far {w : World} {g k : Nat} {o : Obj} {a b c d e f : Value} (h : w.heap[k]? = some o) (hk : k ≠ g) : ((((((w.setCell ⟨g, 0, none⟩ a).setCell ⟨g, 1, none⟩ b).setCell ⟨g, 2, none⟩ c).setCell ⟨g, 3, none⟩ d).setCell ⟨g, 4, none⟩ e).setCell ⟨g, 5, none⟩ f).heap[k]? = some o := by
  iterate 6 refine blk_far ?_ hk _
  exact h
theorem tok6_has {w : World} {g : Nat} {a b c d e f a' b' c' d' e' f' : Value} (h : HasTok w g a' b' c' d' e' f') : HasTok ((((((w.setCell ⟨g, 0, none⟩ a).setCell ⟨g, 1, none⟩ b).setCell ⟨g, 2, none⟩ c).setCell ⟨g, 3, none⟩ d).setCell ⟨g, 4, none⟩ e).setCell ⟨g, 5, none⟩ f) g a b c d e f := by
  have h0 := blk_set h 0 a; have h1 := blk_set h0 1 b; have h2 := blk_set h1 2 c; have h3 := blk_set h2 3 d; have h4 := blk_set h3 4 e; have h5 := blk_set h4 5 f
  exact h5

set_option maxHeartbeats 1000000 in
set_option maxRecDepth 1000000 in
theorem consumeToken_any {w : World} {g : Nat} {lc tk ta tn tp tr ts le os : Value} {A B : Option Addr} {c nb cb : Nat} {xs : List UInt8} (kd at_ : Int) (m : Nat)
    (hd : HasDec w g lc tk ta tn tp tr ts le os (.slice B nb cb) (.slice A xs.length c)) (h : IsB w A c xs) (hm : m ≤ xs.length) (hnb : xs.length ≤ nb) (hb : nb ≤ 9223372036854775807) :
    Calls Tryz.prog 87 #[.pointer (some ⟨g, 0, none⟩), .int .u8 kd, .int .i64 m, .int .u8 at_] w fun e w' => e = .returned (.agg #[.int .u8 kd, .int .u8 at_, .int .u8 0, .int .i64 ((nb : Int) - xs.length), .slice A m c, .string ByteArray.empty]) ∧ ∃ A' c', IsB w' A' c' (skip (xs.drop m)) ∧
      HasDec w' g lc tk ta tn tp tr ts le os (.slice B nb cb) (.slice A' (skip (xs.drop m)).length c') ∧ w.grownBy w' (some g) := by
  obtain ⟨d0, d1, d2, d3, d4, d5, d6, d7, d8, d9, d10, df⟩ := hd.cells
  clear d0 d1 d2 d3 d4 d5 d6 d7 d8 df
  have HD := Lib.hid hd
  have H := Lib.hid h
  have hlt := blk_lt hd
  have hle := h.le
  have hcap := h.cap
  clear hd h
  go_enter Tryz.func87, Tryz.ntmps87
  go_wp2

  go_region
  obtain ⟨o1, ho1⟩ : ∃ o, o = Obj.cells #[.int .u8 0, .int .u8 0, .int .u8 0, .int .i64 0, .slice none 0 0, .string { data := #[] }] 72 := ⟨_, rfl⟩
  obtain ⟨o2, ho2⟩ : ∃ o, o = Obj.cells #[.int .u8 kd, .int .u8 at_, .int .u8 0, .int .i64 ((nb : Int) - xs.length), .slice A m c, .string { data := #[] }] 72 := ⟨_, rfl⟩
  rw [← ho1, ← ho2]
  have hgr : w.grownBy ((w.alloc o1).alloc o2).drew none := gr_drew (gr_alloc (gr_alloc (gr_refl _ _) _) _)
  have hb1 : ((w.alloc o1).alloc o2).drew.heap[w.heap.size]? = some o1 := blk_alloc (blk_new w o1) o2
  have hb2 : ((w.alloc o1).alloc o2).drew.heap[w.heap.size + 1]? = some o2 := by have := blk_new (w.alloc o1) o2; simp only [World.size_alloc] at this; exact this
  generalize ((w.alloc o1).alloc o2).drew = w2 at hgr hb1 hb2 ⊢
  subst ho1 ho2
  have hd2 : HasDec w2 g lc tk ta tn tp tr ts le os (.slice B nb cb) (.slice A xs.length c) := gr_blk hgr HD.out (by simp)
  have hM := consumeM (m : Int) hd2 (H.out.kept0 hgr) (by omega) (by omega)
  rw [Int.toNat_natCast] at hM
  have HM := Lib.hid hM
  have HD2 := Lib.hid hd2
  clear hM d9 d10 hd2
  go_wp2_with fail
  refine HM.out.mono ?_
  rintro e w3 ⟨rfl, A', c', h3, hd3, hg3⟩
  have hb1' := gr_blk hg3 hb1 (by simp; omega)
  have hb2' := gr_blk hg3 hb2 (by simp; omega)
  obtain ⟨p0, p1, p2, p3, p4, p5⟩ := HasTok.cells hb1'
  obtain ⟨q0, q1, q2, q3, q4, q5⟩ := HasTok.cells hb2'
  have fz := blk_frozen hb1'
  have H3 := Lib.hid h3
  have HD3 := Lib.hid hd3
  have HG3 := Lib.hid hg3
  have HB1 := Lib.hid hb1
  clear h3 hd3 hg3 hb1 hb2 hb1' hb2'
  go_wp2
  refine bodyPost_ret (v := .agg #[.int .u8 kd, .int .u8 at_, .int .u8 0, .int .i64 ((nb : Int) - xs.length), .slice A m c, .string { data := #[] }]) (by simp [results, Tryz.results87, go_sem, p0, p1, p2, p3, p4, p5]) rfl ?_
  have hb3 := gr_blk HG3.out HB1.out (by simp; omega)
  exact ⟨rfl, A', c', H3.out.keptD tok6_gr hb3 (by decide), tok6_far HD3.out (by omega),
    gr_new (gr_new (gr_weak hgr) HG3.out (fun g' e => .inr e)) tok6_gr (fun g' e => by cases e; exact .inl (Nat.le_refl _))⟩

set_option maxHeartbeats 1000000 in
set_option maxRecDepth 1000000 in
theorem tryConsume_yes {w : World} {g : Nat} {lc tk ta tn tp tr ts le os og : Value} {A : Option Addr} {c : Nat} {x : UInt8} {r : List UInt8}
    (hd : HasDec w g lc tk ta tn tp tr ts le os og (.slice A (x :: r).length c)) (h : IsB w A c (x :: r)) :
    Calls Tryz.prog 128 #[.pointer (some ⟨g, 0, none⟩), .int .u8 (x.toNat : Int)] w fun e w' => e = .returned (.bool true) ∧ ∃ A' c', IsB w' A' c' (skip r) ∧
      HasDec w' g lc tk ta tn tp tr ts le os og (.slice A' (skip r).length c') ∧ w.grownBy w' (some g) := by
  have hM := consumeM 1 hd h (by omega) (by simp only [List.length_cons]; omega)
  rw [show ((1 : Int)).toNat = 1 from rfl, List.drop_succ_cons, List.drop_zero] at hM
  have HM := Lib.hid hM
  obtain ⟨d0, d1, d2, d3, d4, d5, d6, d7, d8, d9, d10, df⟩ := hd.cells
  obtain ⟨b, o, rfl, hcell⟩ := h.head
  have hle := h.le
  have hcap := h.cap
  clear d0 d1 d2 d3 d4 d5 d6 d7 d8 d9 df hM hd h
  go_enter Tryz.func128, Tryz.ntmps128
  go_wp2_with fail
  refine HM.out.mono ?_
  rintro e w' ⟨rfl, hp⟩
  have HP := Lib.hid hp
  clear hp
  go_wp2
  go_ret
  exact ⟨rfl, HP.out⟩

/-! ### parseIdent -/
theorem ret_i64 {a b : Int} (h : a = b) : Ending.returned (.int .i64 a) = .returned (.int .i64 b) := by rw [h]

set_option maxHeartbeats 1000000 in
set_option maxRecDepth 1000000 in
/-- 'a:' : one letter. -/
theorem parseIdent_a {w : World} {A : Option Addr} {c : Nat} {r : List UInt8} (h : IsB w A c (97 :: 58 :: r)) :
    Calls Tryz.prog 130 #[.slice A (97 :: 58 :: r).length c, .bool false] w fun e w' => e = .returned (.int .i64 1) ∧ w = w' := by
  obtain ⟨b, o, rfl, hcell⟩ := h.head
  obtain ⟨A1, c1, h1, hcut⟩ := h.cut1
  obtain ⟨b1, o1, rfl, hcell1⟩ := h1.head
  have hle := h.le
  have hcap := h.cap
  have hle1 := h1.le
  clear h h1
  simp only [List.length_cons] at hcut
  go_enter Tryz.func130, Tryz.ntmps130
  go_wp2
  go_loop [5, 6] (fun i v => i = .int .i64 1 ∧ v = .slice (some ⟨b1, o1, none⟩) (r.length + 1) c1) (fun _ _ => 0)
  case atStart => exact ⟨rfl, rfl⟩
  case round =>
    obtain ⟨rfl, rfl⟩ := hrel
    go_wp2
    go_ret
    exact ⟨rfl, rfl⟩

/-- A letter or an underscore. -/
def isAl (x : UInt8) : Prop := x.toNat = 95 ∨ (97 ≤ x.toNat ∧ x.toNat ≤ 122) ∨ (65 ≤ x.toNat ∧ x.toNat ≤ 90)

set_option maxHeartbeats 1000000 in
set_option maxRecDepth 1000000 in
theorem parseIdent_no {w : World} {A : Option Addr} {c : Nat} {x : UInt8} {r : List UInt8} (h : IsB w A c (x :: r)) (hx : ¬ isAl x) (hm : x.toNat ≠ 45) (b : Bool) :
    Calls Tryz.prog 130 #[.slice A (x :: r).length c, .bool b] w fun e w' => e = .returned (.int .i64 0) ∧ w = w' := by
  obtain ⟨b, o, rfl, hcell⟩ := h.head
  have hle := h.le
  have hcap := h.cap
  unfold isAl at hx
  have f1 : ((x.toNat : Int) == 95) = false := beq_eq_false_iff_ne.2 (by omega)
  have f2 : ((x.toNat : Int) == 45) = false := beq_eq_false_iff_ne.2 (by omega)
  clear h
  rename_i bb
  cases bb
  all_goals
    go_enter Tryz.func130, Tryz.ntmps130
    go_wp2
    all_goals first
      | (exfalso; omega)
      | (go_ret; exact ⟨rfl, rfl⟩)

set_option maxHeartbeats 1000000 in
set_option maxRecDepth 1000000 in
theorem parseIdent_neg {w : World} {A : Option Addr} {c : Nat} {x : UInt8} {r : List UInt8} (h : IsB w A c (45 :: x :: r)) (hx : ¬ isAl x) :
    Calls Tryz.prog 130 #[.slice A (45 :: x :: r).length c, .bool true] w fun e w' => e = .returned (.int .i64 0) ∧ w = w' := by
  obtain ⟨b, o, rfl, hcell⟩ := h.head
  obtain ⟨A1, c1, h1, hcut⟩ := h.cut1
  obtain ⟨b1, o1, rfl, hcell1⟩ := h1.head
  have hle := h.le
  have hcap := h.cap
  have hle1 := h1.le
  unfold isAl at hx
  have f1 : ((x.toNat : Int) == 95) = false := beq_eq_false_iff_ne.2 (by omega)
  clear h h1
  simp only [List.length_cons] at hcut
  go_enter Tryz.func130, Tryz.ntmps130
  go_wp2
  all_goals first
      | (exfalso; omega)
      | (go_ret; exact ⟨rfl, rfl⟩)
end Go.Proofs.YtlfeolfjlmelpaaGreatDoor
