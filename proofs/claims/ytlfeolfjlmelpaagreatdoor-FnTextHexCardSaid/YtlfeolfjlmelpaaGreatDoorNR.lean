/- NP, NQ, NR in one text. -/
import Derived.Test.YtlfeolfjlmelpaaGreatDoorNO
import Derived.Test.YtlfeolfjlmelpaaGreatDoorKY
import Derived.Test.YtlfeolfjlmelpaaGreatDoorKO
import Derived.LaidEql
import Derived.Test.YtlfeolfjlmelpaaGreatDoorME
namespace Go.Proofs.YtlfeolfjlmelpaaGreatDoor
open Go.RowKit

/-- Variable g holds a plain sentinel error. -/
def Sent (g : Nat) (w : World) : Prop := ∃ a c t, w.cell? ⟨g, 0, none⟩ = some (.iface 289 (.pointer (some a))) ∧ w.heap[a.block]? = some (.cells c t (0, 0))
theorem Sent.kept {g : Nat} {w w' : World} (h : Sent g w) (hg : w.grownBy w' none) : Sent g w' := by
  obtain ⟨a, c, t, h1, h2⟩ := h
  exact ⟨a, c, t, gr_cell hg h1, gr_blk hg h2 (by simp)⟩
theorem Sent.err {g : Nat} {w : World} (h : Sent g w) : ErrVar g w := by
  obtain ⟨a, c, t, h1, -⟩ := h
  exact ⟨_, h1, .inr ⟨_, _, rfl⟩⟩
theorem info289 : ∃ i, Tryz.prog.info? 289 = some i ∧ i.comparable = true :=
  Option.map_eq_some_iff.1 (show ((Tryz.prog.info? 289).map (·.comparable)) = some true by kernel_rfl)
theorem info291 : ∃ j, Tryz.prog.info? 291 = some j ∧ (j.size != 0) = true :=
  Option.map_eq_some_iff.1 (show ((Tryz.prog.info? 291).map (fun j => j.size != 0)) = some true by kernel_rfl)
theorem sent_eql {w : World} {a b : Addr} {ca cb : Array Value} {ta tb : TypeId} (ha : w.heap[a.block]? = some (.cells ca ta (0, 0))) (hb : w.heap[b.block]? = some (.cells cb tb (0, 0))) :
    ∃ r : Bool, ∀ n, (binOp .eql 74 (.iface 289 (.pointer (some a))) (.iface 289 (.pointer (some b)))).run Tryz.prog (w.drewN n) = .ok (.bool r) (w.drewN n) := by
  obtain ⟨i, hi1, hi2⟩ := info289
  obtain ⟨j, hj1, hj2⟩ := info291
  have hj3 : j.size ≠ 0 := by simpa using hj2
  by_cases hab : a = b
  · subst hab
    exact ⟨true, fun n => run_eql_iface_ptr_same (P := Tryz.prog) (ti := 74) (tp := 289) (te := 291) (i := i) (j := j) _ a Tryz.underlying74 Tryz.underlying289 hi1 hi2 hj1⟩
  · exact ⟨false, fun n => run_eql_iface_ptr_other (P := Tryz.prog) (ti := 74) (tp := 289) (te := 291) (i := i) (j := j) (w.drewN n) Tryz.underlying74 Tryz.underlying289 hi1 hi2 hj1 hj3 hab ha hb⟩
/-- A float, and no error or one of the outer package's. -/
def FlAny (w : World) (e : Ending) (w' : World) : Prop :=
  ∃ f, (e = .returned (.tuple #[.float .f64 f, .nilIface]) ∧ w.grownBy w' none) ∨
    (∃ N fn s a c t, e = .returned (.tuple #[.float .f64 f, .iface 176 (.pointer (some ⟨N, 0, none⟩))]) ∧ w'.heap[N]? = some (.cells #[.string fn, .string s, .iface 289 (.pointer (some a))] 178 (0, 0)) ∧ w'.heap[a.block]? = some (.cells c t (0, 0)) ∧ w.grownBy w' none)
theorem FlEnds.any {w w' : World} {e : Ending} (h : FlEnds w e w') : FlAny w e w' := by
  obtain ⟨f, h1, h2⟩ := h
  exact ⟨f, .inl ⟨h1, h2⟩⟩
def AgEnds (w : World) (e : Ending) (w' : World) : Prop :=
  ∃ f err, e = .returned (.tuple #[.float .f64 f, err]) ∧ (err = .nilIface ∨ err = .iface 245 (.int .i64 1) ∨ err = .iface 245 (.int .i64 2)) ∧ w.grownBy w' none

set_option maxHeartbeats 2000000 in
set_option maxRecDepth 1000000 in
theorem parseFloat_any {w : World} (s : ByteArray) (hs : s.size ≤ 281474976710656) (h1 : Sent 1 w) (h7 : Sent 7 w)
    (hA : Calls Tryz.prog 220 #[.string s] w (AfEnds w)) :
    Calls Tryz.prog 100 #[.string s, .int .i64 64] w (FlAny w) := by
  have h194 : Calls Tryz.prog 194 #[.string s, .int .i64 64] w (AfEnds w) := by
    have HA := Lib.hid hA
    clear hA h1 h7
    go_enter Tryz.func194, Tryz.ntmps194
    go_wp2_with fail
    refine HA.out.mono ?_
    rintro e w' ⟨f, n, err, rfl, he, hg⟩
    have HE := Lib.hid he
    have HG := Lib.hid hg
    clear hg HA he
    go_wp2
    go_ret3
    exact ⟨_, _, _, rfl, HE.out, HG.out⟩
  have h148 : Calls Tryz.prog 148 #[.string s, .int .i64 64] w (AgEnds w) := by
    have HA := Lib.hid h194
    clear hA h194 h1 h7
    go_enter Tryz.func148, Tryz.ntmps148
    go_wp2_with fail
    refine HA.out.mono ?_
    rintro e w' ⟨f, n, err, rfl, he, hg⟩
    have HE := Lib.hid he
    have HG := Lib.hid hg
    clear hg HA he
    by_cases hn : n = (s.size : Int)
    · subst hn
      go_wp2
      go_ret2
      exact ⟨_, _, rfl, HE.out, HG.out⟩
    · have e1 : (n == (s.size : Int)) = false := beq_eq_false_iff_ne.2 hn
      clear hn
      go_wp2
      go_ret2
      exact ⟨_, _, rfl, .inr (.inr rfl), HG.out⟩
  have HA := Lib.hid h148
  have HS := Lib.hid hs
  have H1 := Lib.hid h1
  have H7 := Lib.hid h7
  clear hA h194 h148 hs h1 h7
  go_enter Tryz.func100, Tryz.ntmps100
  go_wp2_with fail
  refine HA.out.mono ?_
  rintro e w' ⟨f, err, rfl, he, hg⟩
  obtain ⟨a1, c1, t1, p1, q1⟩ := H1.out.kept hg
  obtain ⟨a7, c7, t7, p7, q7⟩ := H7.out.kept hg
  have HT1 := Lib.hid (Tryz.strconv_toError_range ⟨#[80, 97, 114, 115, 101, 70, 108, 111, 97, 116]⟩ s 0 64 _ w' HS.out p1 (.inr ⟨_, _, rfl⟩))
  have HT7 := Lib.hid (Tryz.strconv_toError_syntax ⟨#[80, 97, 114, 115, 101, 70, 108, 111, 97, 116]⟩ s 0 64 _ w' HS.out p7 (.inr ⟨_, _, rfl⟩))
  have HQ1 := Lib.hid q1
  have HQ7 := Lib.hid q7
  have HG := Lib.hid hg
  clear hg p1 p7 q1 q7
  rcases he with rfl | rfl | rfl
  · go_wp2
    go_ret2
    exact ⟨_, .inl ⟨rfl, HG.out⟩⟩
  · go_wp2_with fail
    refine HT1.out.mono ?_
    rintro e w2 ⟨N, rfl, -, hN, hb⟩
    have HB := Lib.hid (below_gr hb)
    have HN := Lib.hid hN
    clear HT1 HT7 hb hN
    go_wp2
    go_ret2
    exact ⟨_, .inr ⟨_, _, _, _, _, _, rfl, HN.out, gr_blk HB.out HQ1.out (by simp), gr_trans HG.out HB.out⟩⟩
  · go_wp2_with fail
    refine HT7.out.mono ?_
    rintro e w2 ⟨N, rfl, -, hN, hb⟩
    have HB := Lib.hid (below_gr hb)
    have HN := Lib.hid hN
    clear HT1 HT7 hb hN
    go_wp2
    go_ret2
    exact ⟨_, .inr ⟨_, _, _, _, _, _, rfl, HN.out, gr_blk HB.out HQ7.out (by simp), gr_trans HG.out HB.out⟩⟩
end Go.Proofs.YtlfeolfjlmelpaaGreatDoor
namespace Go.Proofs.YtlfeolfjlmelpaaGreatDoor
open Go.RowKit

@[go_sem] theorem as176 (v : Value) (w : World) : (Instr.typeAssert (.iface 176 v) 74 176 false).run Tryz.prog w = .ok v w := by kernel_rfl

set_option maxHeartbeats 2000000 in
set_option maxRecDepth 1000000 in
theorem tokFloat64_any {w : World} (na : Int) (p s0 : Value) (s : ByteArray) (h1 : Sent 1 w)
    (hC : ∀ w1, w.grownBy w1 none → Calls Tryz.prog 100 #[.string s, .int .i64 64] w1 (FlAny w1)) :
    Calls Tryz.prog 54 #[(.agg #[.int .u8 3, .int .u8 1, .int .u8 na, p, s0, .string s])] w fun e w' => ∃ f ok, e = .returned (.tuple #[.float .f64 f, .bool ok]) ∧ w.grownBy w' none := by
  have hg := gr_alloc (gr_refl w none) (.cells #[.int .u8 3, .int .u8 1, .int .u8 na, p, s0, .string s] 72 (0, 0))
  have hb := blk_new w (.cells #[.int .u8 3, .int .u8 1, .int .u8 na, p, s0, .string s] 72 (0, 0))
  have hk0 := blk_cell hb 0
  have hk1 := blk_cell hb 1
  have hk5 := blk_cell hb 5
  have HC := Lib.hid hC
  have HG := Lib.hid hg
  have H1 := Lib.hid h1
  clear hC hg hb h1
  go_enter Tryz.func54, Tryz.ntmps54
  go_wp2_with fail
  refine (HC.out _ HG.out).mono ?_
  rintro e w' ⟨f, h⟩
  rcases h with ⟨rfl, hg2⟩ | ⟨N, fn, s2, a, c, t, rfl, hN, ha, hg2⟩
  · have HG2 := Lib.hid (gr_trans HG.out hg2)
    clear hg2 hk0 hk1 hk5 H1
    go_wp2
    go_ret2
    exact ⟨_, _, rfl, HG2.out⟩
  · obtain ⟨a1, c1, t1, p1, q1⟩ := H1.out.kept (gr_trans HG.out hg2)
    obtain ⟨r, hr⟩ := sent_eql ha q1
    have k2 := blk_cell hN 2
    have hr0 : (binOp .eql 74 (.iface 289 (.pointer (some a))) (.iface 289 (.pointer (some a1)))).run Tryz.prog w'.drew = .ok (.bool r) w'.drew := hr 1
    have HG2 := Lib.hid (gr_trans HG.out hg2)
    clear hg2 hk0 hk1 hk5 ha q1 hN H1
    go_wp2_with fail
    go_region
    cases r
    · go_wp2
      go_ret2
      exact ⟨_, _, rfl, gr_drew HG2.out⟩
    · go_wp2
      go_ret2
      exact ⟨_, _, rfl, gr_drew HG2.out⟩
set_option maxHeartbeats 2000000 in
set_option maxRecDepth 1000000 in
theorem tokFloat32_any {w : World} (na : Int) (p s0 : Value) (s : ByteArray) (h1 : Sent 1 w)
    (hC : ∀ w1, w.grownBy w1 none → Calls Tryz.prog 100 #[.string s, .int .i64 64] w1 (FlAny w1)) :
    Calls Tryz.prog 56 #[(.agg #[.int .u8 3, .int .u8 1, .int .u8 na, p, s0, .string s])] w fun e w' => ∃ f ok, e = .returned (.tuple #[.float .f32 f, .bool ok]) ∧ w.grownBy w' none := by
  have hg := gr_alloc (gr_refl w none) (.cells #[.int .u8 3, .int .u8 1, .int .u8 na, p, s0, .string s] 72 (0, 0))
  have hb := blk_new w (.cells #[.int .u8 3, .int .u8 1, .int .u8 na, p, s0, .string s] 72 (0, 0))
  have hk0 := blk_cell hb 0
  have hk1 := blk_cell hb 1
  have hk5 := blk_cell hb 5
  have HC := Lib.hid hC
  have HG := Lib.hid hg
  have H1 := Lib.hid h1
  clear hC hg hb h1
  go_enter Tryz.func56, Tryz.ntmps56
  go_wp2_with fail
  refine (HC.out _ HG.out).mono ?_
  rintro e w' ⟨f, h⟩
  rcases h with ⟨rfl, hg2⟩ | ⟨N, fn, s2, a, c, t, rfl, hN, ha, hg2⟩
  · obtain ⟨g, w2, hcv, hg3⟩ := conv32 f w'
    have HG2 := Lib.hid (gr_trans HG.out (gr_trans hg2 hg3))
    clear hg2 hg3 hk0 hk1 hk5 H1
    go_wp2
    go_ret2
    exact ⟨_, _, rfl, HG2.out⟩
  · obtain ⟨a1, c1, t1, p1, q1⟩ := H1.out.kept (gr_trans HG.out hg2)
    obtain ⟨r, hr⟩ := sent_eql ha q1
    have k2 := blk_cell hN 2
    have hr0 : (binOp .eql 74 (.iface 289 (.pointer (some a))) (.iface 289 (.pointer (some a1)))).run Tryz.prog w'.drew = .ok (.bool r) w'.drew := hr 1
    have HG2 := Lib.hid (gr_trans HG.out hg2)
    clear hg2 hk0 hk1 hk5 ha q1 hN H1
    go_wp2_with fail
    go_region
    cases r
    · go_wp2
      go_ret2
      exact ⟨_, _, rfl, gr_drew HG2.out⟩
    · obtain ⟨g, w2, hcv, hg3⟩ := conv32 f w'.drew
      have HG3 := Lib.hid (gr_trans (gr_drew HG2.out) hg3)
      clear hg3
      go_wp2
      go_ret2
      exact ⟨_, _, rfl, HG3.out⟩
end Go.Proofs.YtlfeolfjlmelpaaGreatDoor
namespace Go.Proofs.YtlfeolfjlmelpaaGreatDoor
open Go.RowKit

/-- What the slow path reads, whatever new block the decimal takes. -/
def HasTs (w : World) : Prop := ∀ g, w.heap.size ≤ g → HasT w g
theorem HasTs.kept {w w' : World} (h : HasTs w) (hg : w.grownBy w' none) : HasTs w' := fun g hgg => (h g (Nat.le_trans hg.size hgg)).kept (gr_weak hg)
/-- What ParseFloat reads. -/
def HasPF (w : World) : Prop := HasF w ∧ HasTs w ∧ Sent 1 w ∧ Sent 7 w
theorem HasPF.kept {w w' : World} (h : HasPF w) (hg : w.grownBy w' none) : HasPF w' := ⟨h.1.kept hg, h.2.1.kept hg, h.2.2.1.kept hg, h.2.2.2.kept hg⟩

theorem val_geq : ∀ (l : List UInt8) (n : Nat), n * 10 ^ l.length ≤ val 10 n l
  | [], n => by simp [val]
  | y :: r, n => by
    have h := val_geq r (n * 10 + dv y)
    rw [val, List.length_cons, Nat.pow_succ]
    refine Nat.le_trans ?_ h
    rw [Nat.add_mul, Nat.mul_assoc, Nat.mul_comm (10 ^ r.length) 10]
    exact Nat.le_add_right _ _
theorem mant_big (x : UInt8) (r : List UInt8) (h : 49 ≤ x.toNat ∧ x.toNat ≤ 57) (hl : 19 ≤ (x :: r).length) : 4503599627370496 ≤ mant (x :: r) := by
  unfold mant
  rw [List.take_succ_cons, val]
  have h1 := val_geq (r.take 18) (0 * 10 + dv x)
  have h2 : 1 ≤ dv x := by unfold dv; rw [if_pos h.2]; omega
  have h3 : (r.take 18).length = 18 := by rw [List.length_take]; simp at hl; omega
  rw [h3] at h1
  have h4 : 1 * 10 ^ 18 ≤ (0 * 10 + dv x) * 10 ^ 18 := Nat.mul_le_mul_right _ (by omega)
  omega
/-- The bytes as a function. -/
def bz (l : List UInt8) (i : Nat) : Nat := (l.getD i 0).toNat
theorem bz_at (l : List UInt8) (i : Nat) (h : i < l.length) : l[i].toNat = bz l i := by simp [bz, h]
theorem bz_digs {l : List UInt8} (h : ∀ y ∈ l, isDig y) : Digs (bz l) l.length := fun i hi => by
  rw [← bz_at l i hi]
  exact h _ (List.getElem_mem hi)

theorem trun_len {l : List UInt8} (h : trun l = true) : 20 ≤ l.length := by
  rcases Nat.lt_or_ge l.length 20 with h2 | h2
  · rw [trun_short (by omega)] at h; cases h
  · exact h2

theorem AfEnds.of {w w' : World} {e : Ending} {n : Int} (h : ∃ f, e = .returned (.tuple #[.float .f64 f, .int .i64 n, .nilIface]) ∧ w.grownBy w' none) : AfEnds w e w' := by
  obtain ⟨f, h1, h2⟩ := h
  exact ⟨f, n, _, h1, .inl rfl, h2⟩

theorem float_pos_any {w : World} (x : UInt8) (r : List UInt8) (hx : 49 ≤ x.toNat ∧ x.toNat ≤ 57) (hr : ∀ y ∈ x :: r, isDig y) (hl : (x :: r).length ≤ 41) (hF : HasPF w) :
    Calls Tryz.prog 100 #[.string ⟨(x :: r).toArray⟩, .int .i64 64] w (FlAny w) := by
  refine parseFloat_any _ (by rw [size_list]; omega) hF.2.2.1 hF.2.2.2 ?_
  have hp : (((x :: r).length : Int) - (min (x :: r).length 19 : Nat)) = (((x :: r).length - 19 : Nat) : Int) := by omega
  have hR := readFloat_pos (w := w) x r (by omega) hx hr
  rw [hp] at hR
  have hS := special_digit (w := w) x r ⟨by omega, hx.2⟩
  cases ht : trun (x :: r)
  · rw [ht] at hR
    refine (atof64_plain _ (mant (x :: r)) ((x :: r).length - 19) _ false (mant_le64 hr) (by omega) ?_ hF.1 hS hR).mono (fun e w' h => AfEnds.of h)
    rcases Nat.lt_or_ge (x :: r).length 20 with h2 | h2
    · exact .inl (by omega)
    · exact .inr (mant_big x r hx (by omega))
  · rw [ht] at hR
    have h20 := trun_len ht
    exact atof64_cut (x :: r) (bz (x :: r)) (bz_at _) (bz_digs hr) (by omega) 0 (by simp) (fun i hi => absurd hi (Nat.not_lt_zero i)) hx.1 (mant (x :: r)) ((x :: r).length - 19) (mant_big x r hx (by omega)) (mant_lt _ hr) (by omega) hF.1 hF.2.1 hS hR

/-- "0" and digits. -/
theorem float_lead_any {w : World} (L : List UInt8) (hx : ∀ h : 0 < L.length, 49 ≤ L[0].toNat) (hr : ∀ y ∈ L, isDig y) (hl : L.length ≤ 41) (hF : HasPF w) :
    Calls Tryz.prog 100 #[.string ⟨(48 :: L).toArray⟩, .int .i64 64] w (FlAny w) := by
  refine parseFloat_any _ (by rw [size_list]; simp; omega) hF.2.2.1 hF.2.2.2 ?_
  have hp : ((L.length : Int) - (min L.length 19 : Nat)) = ((L.length - 19 : Nat) : Int) := by omega
  have hR := readFloat_lead (w := w) L (by omega) hx hr
  rw [hp] at hR
  have hS := special_digit (w := w) 48 L (by decide)
  have hbig : 19 ≤ L.length → 4503599627370496 ≤ mant L := fun h => by
    cases L with
    | nil => cases h
    | cons x r => exact mant_big x r ⟨hx (by simp), (hr x (by simp)).2⟩ h
  cases ht : trun L
  · rw [ht] at hR
    refine (atof64_plain _ (mant L) (L.length - 19) _ false (mant_le64 hr) (by omega) ?_ hF.1 hS hR).mono (fun e w' h => AfEnds.of h)
    rcases Nat.lt_or_ge L.length 20 with h2 | h2
    · exact .inl (by omega)
    · exact .inr (hbig (by omega))
  · rw [ht] at hR
    have h20 := trun_len ht
    have hr2 : ∀ y ∈ 48 :: L, isDig y := fun y hy => by
      rcases List.mem_cons.1 hy with rfl | hy
      · exact (by decide : 48 ≤ (48 : UInt8).toNat ∧ (48 : UInt8).toNat ≤ 57)
      · exact hr y hy
    have hz0 : ∀ i, i < 1 → bz (48 :: L) i = 48 := fun i hi => by
      have h0 : i = 0 := by omega
      rw [h0]; rfl
    refine atof64_cut (48 :: L) (bz (48 :: L)) (bz_at _) (bz_digs hr2) (by rw [List.length_cons]; omega) 1 (by rw [List.length_cons]; omega) hz0 ?_ (mant L) (L.length - 19) (hbig (by omega)) (mant_lt _ hr) (by omega) hF.1 hF.2.1 hS hR
    have h5 := hx (by omega)
    rw [bz_at L 0 (by omega)] at h5
    exact h5

theorem scalar_dec_any {w : World} {A : Option Addr} {c : Nat} (x : UInt8) (r : List UInt8) (h : IsB w A c (x :: r)) (hx : 49 ≤ x.toNat ∧ x.toNat ≤ 57) (hr : ∀ y ∈ x :: r, isDig y) (hl : (x :: r).length ≤ 41) (hv : val 10 0 (x :: r) ≤ 18446744073709551615)
    (hF : HasPF w) :
    Calls Tryz.prog 9 #[.slice A (x :: r).length c] w (ScalarEnds w (x :: r) (NumVals (val 10 0 (x :: r) : Nat))) := by
  obtain ⟨d1, d2, d3, d4, d5⟩ := dig_facts (x := x) ⟨by omega, hx.2⟩
  have hE := hF.2.2.1.err
  refine textScalar_num (k := 0) (neg := false) h (by omega) (by decide) d1 d2 (fun w1 A1 c1 h1 => parseIdent_no h1 d3 d4 true)
    (fun w1 A1 c1 h1 => parseNumber_dec h1 hx (fun y hy => hr y (by simp [hy]))) _ (NumVals.shape _) (fun w1 p s0 hg => ?_)
  have hB : ∀ y ∈ x :: r, digB 10 y := fun y hy => isDig_digB (hr y hy)
  exact numVals_0 x r _ ⟨d5, d4⟩ (by omega) (hE.kept hg) hv (fun w1 => pu10_64 x r (by omega) hx hB) (fun w1 => pu10_32 x r (by omega) hx hB)
    (fun p s0 w2 hg2 => tokFloat64_any 0 p s0 _ ((hF.kept hg).kept hg2).2.2.1 (fun w3 hg3 => float_pos_any x r hx hr hl (((hF.kept hg).kept hg2).kept hg3)))
    (fun p s0 w2 hg2 => tokFloat32_any 0 p s0 _ ((hF.kept hg).kept hg2).2.2.1 (fun w3 hg3 => float_pos_any x r hx hr hl (((hF.kept hg).kept hg2).kept hg3))) p s0
end Go.Proofs.YtlfeolfjlmelpaaGreatDoor
